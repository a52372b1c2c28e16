import PyProof.Rows.All
import Wide.All
import OpenK.AllK
import Wide.FinOn
import Lean
import PySem.Challenge.RW_mq0075_02
set_option Elab.async false
set_option linter.unusedVariables false
set_option linter.unusedSimpArgs false

section
open PySem PySem.W PyProof.Rows
namespace Mine
set_option maxRecDepth 100000 in
set_option maxHeartbeats 8000000 in
open_top hd for PySem.Challenge.rw_mq0075_02
end Mine
end

open PySem PySem.W PyProof.Rows in
local macro_rules | `(tactic| walk_at $s:str) => `(tactic| k_extra $s)

section
open PySem PySem.W PyProof.Rows
namespace Mine
/-- an end that the walk leaves to the hand -/
structure Hid (P : Prop) : Prop where
  out : P

section
variable {prog : Program} {w : World} {A : Around} {E : Value → Shared → Prop} {s : Shared} {env : Env} {h₀ : Heap} {x : PySem.Str} {body : List Stmt} {Q : Flow → Shared → Prop}
/-- a loop over a text, the turn's end left to the hand -/
theorem loop_text {σ : Type} {xt : PySem.Str} {tx : Tok} {m₀ : PySem.Str → Option Value} (Led : σ → List (Addr × Obj)) (ps : σ → List (PySem.Str × Value)) (stored : List PySem.Str) (P : List Int → σ → Prop) (c₀ : σ)
    (hh : A.handled = none) (F : Fr h₀ env.locals s.heap m₀) (N : News h₀ env.locals s.heap (Led c₀)) (hk : ∀ p ∈ ps c₀, m₀ p.1 = some p.2) (hp : P [] c₀)
    (turn : ∀ (c : σ) (pre post : List Int) (n : Nat) t (u : PySem.Str → Option Value) h tk own, KStt.codes xt = pre ++ (n : Int) :: post → KstMark → OwnOff own ((Led c₀).map (·.1)) → P pre c →
      Fr h₀ env.locals h (fun y => if y = x then some (.str ⟨#[n]⟩ t) else kstB (fun z => if stored.contains z then u z else m₀ z) (ps c) y) → News h₀ env.locals h (Led c ++ own) →
      wpAny (model prog w) A (execs body env) (fun f s₂ => Hid (InvPostN h₀ env.locals (KstS Led ps (fun _ => True) x stored m₀ P (pre ++ [(n : Int)])) own ((Led c₀).map (·.1)) { s with heap := h, toks := tk } Q f s₂)) E { s with heap := h, toks := tk })
    (done : ∀ (c : σ) (u : PySem.Str → Option Value) h tk, P (KStt.codes xt) c → Fr h₀ env.locals h (fun y => if y = x then u y else kstB (fun z => if stored.contains z then u z else m₀ z) (ps c) y) → News h₀ env.locals h (Led c) → Q .next { s with heap := h, toks := tk }) :
    wpAny (model prog w) A (pyIter (.str xt tx)) (fun it s₂ => LoopAtV prog w A h₀ env x body Q E it s₂) E s := by
  refine KStt.kst_text Led ps (fun _ => True) stored P c₀ hh F N trivial hk hp ?_ ?_
  · intro c pre post n t u h tk own e hoff _ hP F₁ N₁
    exact wpAny_mono (turn c pre post n t u h tk own e kstMark hoff hP F₁ N₁) (fun f s₂ p => p.out) fun _ _ e => e
  · intro c u h tk _ hP F₁ N₁
    exact done c u h tk hP F₁ N₁
end
section
variable {prog : Program} {w : World} {A : Around} {h₀ : Heap} {L : Addr} {m : Str → Option Value} {env : Env} {elt : Expr} {x : Str} {scope : Scope} {cl : List (Str × Addr)} {s : Shared} {S : List (Addr × Obj) → Prop} {P : Nat → Value → Prop} {Fin : List Value → List (Addr × Obj) → Prop} {news : List (Addr × Obj)}
/-- a comprehension whose element is a text -/
theorem comp_rest {α : Type} {n : Nat} {ks : List α} (Val : α → Value → Prop) (g : α → Str) (hks : ks.length = n) (hP : ∀ i v, i < n → P i v → ∃ k, ks[i]? = some k ∧ Val k v)
    (turn : ∀ k v I oI C oC D m₂ ys h tk (E' : Value → Shared → Prop), k ∈ ks → Val k v → LCg.NsObj oC m₂ → m₂ x = some v → Fr h₀ L h m → News h₀ L h ((I, oI) :: (C, oC) :: (D, LCg.lst ys) :: news) → LCg.Off3 I C D news → ((@Ne Nat I C) ∧ (@Ne Nat I D) ∧ (@Ne Nat C D)) → KPfMark →
      wpAny (model prog w) A (eval elt (compEnvC scope cl C env)) (fun y s₂ => Hid (LCg.CompEnd h₀ L m { s with heap := h, toks := tk } I oI C oC D (LCg.lst ys) S (fun y news' => KCtEl news (g k) y news') y s₂)) E' { s with heap := h, toks := tk })
    (fin : ∀ ys, StrsAre ys (ks.map g) → Fin ys news) : LCg.CompRest prog w A h₀ L m env elt x scope cl s S P Fin n 0 [] news := by
  have key : ∀ (j i : Nat) (ys : List Value), i + j = n → StrsAre ys ((ks.take i).map g) → LCg.CompRest prog w A h₀ L m env elt x scope cl s S P Fin j i ys news := by
    intro j
    induction j with
    | zero =>
      intro i ys hi hy
      have e : i = ks.length := by omega
      subst e
      rw [List.take_length] at hy
      exact LCg.CompRest.zero (fin ys hy)
    | succ j ih =>
      intro i ys hi hy
      refine LCg.CompRest.succ ?_
      intro v I oI C oC D m₂ h tk E' hv hC hx F N off ne
      obtain ⟨k, hk, hv'⟩ := hP i v (by omega) hv
      refine wpAny_mono (turn k v I oI C oC D m₂ ys h tk E' (List.mem_of_getElem? hk) hv' hC hx F N off ne True.intro) (fun y s₂ hq => ?_) fun _ _ e => e
      obtain ⟨h', tk', nw, e, F', N', off', hS, hn, t', hy'⟩ := hq.out
      rw [hn] at N' off' hS
      refine ⟨h', tk', news, e, F', N', off', hS, ?_⟩
      rw [hy']
      refine ih (i + 1) _ (by omega) ?_
      rw [List.take_add_one, hk]
      simpa using kct_snoc hy
  exact key n 0 [] (by omega) (by simp only [List.take_zero, List.map_nil]; exact .nil)
theorem strs_at {vs : List Value} {ys : List Str} (h : StrsAre vs ys) : ∀ (i : Nat) (v : Value), vs[i]? = some v → ∃ y, ys[i]? = some y ∧ ∃ t : Tok, v = Value.str y t := by
  induction h with
  | nil => intro i v h; simp at h
  | cons y t r ih =>
    intro i v h
    cases i with
    | zero => simp at h; exact ⟨y, rfl, t, h.symm⟩
    | succ i => simp at h; simpa using ih i v h
/-- over a list of texts -/
theorem comp_strs {vs : List Value} {ss : List Str} (g : Str → Str) (hi : StrsAre vs ss)
    (turn : ∀ k t I oI C oC D m₂ ys h tk (E' : Value → Shared → Prop), k ∈ ss → LCg.NsObj oC m₂ → m₂ x = some (.str k t) → Fr h₀ L h m → News h₀ L h ((I, oI) :: (C, oC) :: (D, LCg.lst ys) :: news) → LCg.Off3 I C D news → ((@Ne Nat I C) ∧ (@Ne Nat I D) ∧ (@Ne Nat C D)) → KPfMark →
      wpAny (model prog w) A (eval elt (compEnvC scope cl C env)) (fun y s₂ => Hid (LCg.CompEnd h₀ L m { s with heap := h, toks := tk } I oI C oC D (LCg.lst ys) S (fun y news' => KCtEl news (g k) y news') y s₂)) E' { s with heap := h, toks := tk })
    (fin : ∀ ys, StrsAre ys (ss.map g) → Fin ys news) : LCg.CompRest prog w A h₀ L m env elt x scope cl s S (fun i v => vs.toArray[i]? = some v) Fin vs.toArray.size 0 [] news :=
  comp_rest (ks := ss) (fun k v => ∃ t : Tok, v = Value.str k t) g (by rw [List.size_toArray]; exact hi.length.symm) (fun i v _ hv => strs_at hi i v (by simpa using hv))
    (fun k v I oI C oC D m₂ ys h tk E' hk hv hC hx F N off ne mk => by
      obtain ⟨t, rfl⟩ := hv
      exact turn k t I oI C oC D m₂ ys h tk E' hk hC hx F N off ne mk) fin
/-- over a list of ints -/
theorem comp_ints {vs : List Value} {ns : List Int} (g : Int → Str) (hi : IntsAre vs ns)
    (turn : ∀ k t I oI C oC D m₂ ys h tk (E' : Value → Shared → Prop), k ∈ ns → LCg.NsObj oC m₂ → m₂ x = some (.int k t) → Fr h₀ L h m → News h₀ L h ((I, oI) :: (C, oC) :: (D, LCg.lst ys) :: news) → LCg.Off3 I C D news → ((@Ne Nat I C) ∧ (@Ne Nat I D) ∧ (@Ne Nat C D)) → KPfMark →
      wpAny (model prog w) A (eval elt (compEnvC scope cl C env)) (fun y s₂ => Hid (LCg.CompEnd h₀ L m { s with heap := h, toks := tk } I oI C oC D (LCg.lst ys) S (fun y news' => KCtEl news (g k) y news') y s₂)) E' { s with heap := h, toks := tk })
    (fin : ∀ ys, StrsAre ys (ns.map g) → Fin ys news) : LCg.CompRest prog w A h₀ L m env elt x scope cl s S (fun i v => vs.toArray[i]? = some v) Fin vs.toArray.size 0 [] news :=
  comp_rest (ks := ns) (fun k v => ∃ t : Tok, v = Value.int k t) g (by rw [List.size_toArray]; exact hi.length.symm) (fun i v _ hv => by
      obtain ⟨k, t, e, hk⟩ := IntsAre.at hi i v (by simpa using hv)
      exact ⟨k, hk, t, e⟩)
    (fun k v I oI C oC D m₂ ys h tk E' hk hv hC hx F N off ne mk => by
      obtain ⟨t, rfl⟩ := hv
      exact turn k t I oI C oC D m₂ ys h tk E' hk hC hx F N off ne mk) fin
end
section
variable {prog : Program} {w : World} {A : Around} {E : Value → Shared → Prop} {Q : Flow → Shared → Prop} {s : Shared} {env : Env} {h₀ : Heap} {L : Addr}
/-- a while by its state, the turn's end left to the hand -/
theorem loop_while {σ : Type} {test : Expr} {body : List Stmt} {pos : Pos} {m₀ : Str → Option Value} (Led : σ → List (Addr × Obj)) (ps : σ → List (Str × Value)) (stored : List Str) (P : σ → Prop) (μ : σ → Nat) (c₀ : σ)
    (F : Fr h₀ L s.heap m₀) (N : News h₀ L s.heap (Led c₀)) (hk : ∀ p ∈ ps c₀, m₀ p.1 = some p.2) (hp : P c₀)
    (turn : ∀ (c : σ) (u : Str → Option Value) h tk, KstMark → P c → Fr h₀ L h (kstB (fun z => if stored.contains z then u z else m₀ z) (ps c)) → News h₀ L h (Led c) →
      wpAny (model prog w) A (isTrue test env (eval test env)) (fun b s₂ =>
        if b = true then wpAny (model prog w) A (execs body env) (fun f s₃ => Hid (KswPost h₀ L s Led ps (fun _ => True) stored m₀ P μ Q c f s₃)) E s₂ else Q .next s₂) E { s with heap := h, toks := tk })
    (hE : PassesOwn (model prog w) A env E) :
    wpAny (model prog w) A (exec (.While test body [] pos) env) Q E s := by
  refine ksw_while Led ps (fun _ => True) stored P μ c₀ F N trivial hk hp ?_ hE
  intro c u h tk _ hP F₁ N₁
  refine wpAny_mono (turn c u h tk kstMark hP F₁ N₁) (fun b s₂ p => ?_) fun _ _ e => e
  cases b with
  | false => exact p
  | true =>
    simp only [if_true] at p ⊢
    exact wpAny_mono p (fun f s₃ q => q.out) fun _ _ e => e
end
theorem newTuple_ok (vs : List Value) (h : vs.length ≤ sizeLine) : newTuple vs = newObjAsIs (.type "tuple") (.seq vs.toArray) := by
  unfold newTuple newObj
  simp only [List.size_toArray]
  rw [if_neg (by omega)]
/-- a def of one parameter and a star: what is bound -/
theorem rest_peek {K : Frag} {S : Setting} {fd : FuncData} {x : Value} {vs : List Value} {f : Value → List (Str × Value)}
    (hv : vs.length ≤ sizeLine) (e : ∀ vs, peek1 K S (bindArgs fd ⟨x :: vs, []⟩) = peek1 K S (newTuple vs >>= fun t => pure (f t))) :
    peek1 K S (bindArgs fd ⟨x :: vs, []⟩) = some (({ cls := .type "tuple", data := .seq vs.toArray } : Obj), fun D => some (f (.ref D))) := by
  rw [e, newTuple_ok vs hv]
  rfl
theorem seqIdx_nat {k n : Nat} (h : k < n) : seqIndex? (k : Int) n = some k := by
  unfold seqIndex?
  simp
  omega
section
variable {prog : Program} {w : World} {A : Around} {E : Value → Shared → Prop} {s : Shared} {env : Env} {h₀ : Heap} {x : PySem.Str} {body : List Stmt} {Q : Flow → Shared → Prop}
/-- the state of a loop over a list of the ledger -/
def LSt {α σ : Type} (Led : σ → List (Addr × Obj)) (ps : σ → List (Str × Value)) (x : Str) (stored : List Str) (m₀ : Str → Option Value) (P : List α → σ → Prop) (pre : List α) (m : Str → Option Value) (nx : List (Addr × Obj)) : Prop :=
  ∃ c : σ, nx = Led c ∧ (∀ p ∈ ps c, m p.1 = some p.2) ∧ (∀ z, z ≠ x → (∀ p ∈ ps c, z ≠ p.1) → stored.contains z = false → m z = m₀ z) ∧ P pre c
theorem lst_end {α σ : Type} {Led : σ → List (Addr × Obj)} {ps : σ → List (Str × Value)} {stored : List Str} {m₀ : Str → Option Value} {P : List α → σ → Prop} {pre : List α} {M : (Str → Option Value) → List (Addr × Obj) → Prop} (c : σ) {L : Addr} {m' : Str → Option Value} {own news' : List (Addr × Obj)} {s₁ : Shared} {h' : Heap} {tk : Nat}
    (F : Fr h₀ L h' m') (N : News h₀ L h' news') (hn : ∀ p ∈ Led c, p ∈ news') (ho : ∀ p ∈ own, p ∈ news') (ha : OwnOff own ((Led c).map (·.1))) (hk : ∀ p ∈ ps c, m' p.1 = some p.2) (hr : ∀ z, z ≠ x → (∀ p ∈ ps c, z ≠ p.1) → stored.contains z = false → m' z = m₀ z) (hp : P pre c)
    (hM : M m' (Led c)) : InvEndG h₀ L (fun m nx => M m nx ∧ LSt Led ps x stored m₀ P pre m nx) own s₁ { s₁ with heap := h', toks := tk } :=
  ⟨h', tk, m', news', Led c, rfl, F, N, hn, ho, ha, hM, c, rfl, hk, hr, hp⟩
theorem loop_vals {α σ : Type} {l : Addr} {vs : List Value} {as : List α} {nn : Nat} {m₀ : PySem.Str → Option Value} (Val : α → Value → Prop) (Led : σ → List (Addr × Obj)) (ps : σ → List (PySem.Str × Value)) (stored : List PySem.Str) (P : List α → σ → Prop) (c₀ : σ)
    (hlen : vs.length = as.length) (hv : ∀ (i : Nat) (v : Value), vs[i]? = some v → ∃ a, as[i]? = some a ∧ Val a v)
    (hh : A.handled = none) (hl : ∀ c : σ, (l, W.listOf vs.toArray nn) ∈ Led c) (F : Fr h₀ env.locals s.heap m₀) (N : News h₀ env.locals s.heap (Led c₀)) (hk : ∀ p ∈ ps c₀, m₀ p.1 = some p.2) (hp : P [] c₀)
    (turn : ∀ (c : σ) (pre post : List α) (a : α) v (u : PySem.Str → Option Value) h tk own, as = pre ++ a :: post → Val a v → KstMark → OwnOff own ((Led c).map (·.1)) → P pre c →
      Fr h₀ env.locals h (fun y => if y = x then some v else kstB (fun z => if stored.contains z then u z else m₀ z) (ps c) y) → News h₀ env.locals h (Led c ++ own) →
      wpAny (model prog w) A (execs body env) (fun f s₂ => Hid (InvPostG h₀ env.locals (fun m nx => (l, W.listOf vs.toArray nn) ∈ nx ∧ LSt Led ps x stored m₀ P (pre ++ [a]) m nx) own { s with heap := h, toks := tk } Q f s₂)) E { s with heap := h, toks := tk })
    (fin : ∀ (c : σ) (u : PySem.Str → Option Value) h tk, KstMark → P as c → Fr h₀ env.locals h (fun y => if y = x then u y else kstB (fun z => if stored.contains z then u z else m₀ z) (ps c) y) → News h₀ env.locals h (Led c) → Q .next { s with heap := h, toks := tk }) :
    wpAny (model prog w) A (pyIter (.ref l)) (fun it s₂ => LoopAtV prog w A h₀ env x body Q E it s₂) E s := by
  refine kdl_iter (news := Led c₀) (fun i m nx => LSt Led ps x stored m₀ P (as.take i) m nx) hh (hl c₀) F N ⟨c₀, rfl, hk, fun _ _ _ _ => rfl, by simpa using hp⟩ ?_ ?_
  · rintro i v m₁ nx h tk own hvi hoff _ ⟨c, rfl, h1, h2, hp'⟩ F₁ N₁
    obtain ⟨a, ha, hV⟩ := hv i v hvi
    have hs : as.take (i + 1) = as.take i ++ [a] := by simp [List.take_add_one, ha]
    have e : as = as.take i ++ a :: as.drop (i + 1) := by
      have ht := List.take_append_drop (i + 1) as
      rw [hs, List.append_assoc] at ht
      exact ht.symm
    rw [hs]
    exact wpAny_mono (turn c _ _ a v m₁ h tk own e hV kstMark hoff hp' (kst_fr h1 h2 F₁) N₁) (fun f s₂ p => p.out) fun _ _ e => e
  · rintro m₁ nx h tk ⟨c, rfl, h1, h2, hp'⟩ F₁ N₁
    rw [hlen, List.take_length] at hp'
    exact fin c m₁ h tk kstMark hp' (kst_frOut h1 h2 F₁) N₁
/-- a loop over a list of texts -/
theorem loop_strs {σ : Type} {l : Addr} {vs : List Value} {ss : List Str} {nn : Nat} {m₀ : PySem.Str → Option Value} (Led : σ → List (Addr × Obj)) (ps : σ → List (PySem.Str × Value)) (stored : List PySem.Str) (P : List Str → σ → Prop) (c₀ : σ)
    (hi : StrsAre vs ss) (hh : A.handled = none) (hl : ∀ c : σ, (l, W.listOf vs.toArray nn) ∈ Led c) (F : Fr h₀ env.locals s.heap m₀) (N : News h₀ env.locals s.heap (Led c₀)) (hk : ∀ p ∈ ps c₀, m₀ p.1 = some p.2) (hp : P [] c₀)
    (turn : ∀ (c : σ) (pre post : List Str) (a : Str) (t : Tok) (u : PySem.Str → Option Value) h tk own, ss = pre ++ a :: post → KstMark → OwnOff own ((Led c).map (·.1)) → P pre c →
      Fr h₀ env.locals h (fun y => if y = x then some (.str a t) else kstB (fun z => if stored.contains z then u z else m₀ z) (ps c) y) → News h₀ env.locals h (Led c ++ own) →
      wpAny (model prog w) A (execs body env) (fun f s₂ => Hid (InvPostG h₀ env.locals (fun m nx => (l, W.listOf vs.toArray nn) ∈ nx ∧ LSt Led ps x stored m₀ P (pre ++ [a]) m nx) own { s with heap := h, toks := tk } Q f s₂)) E { s with heap := h, toks := tk })
    (fin : ∀ (c : σ) (u : PySem.Str → Option Value) h tk, KstMark → P ss c → Fr h₀ env.locals h (fun y => if y = x then u y else kstB (fun z => if stored.contains z then u z else m₀ z) (ps c) y) → News h₀ env.locals h (Led c) → Q .next { s with heap := h, toks := tk }) :
    wpAny (model prog w) A (pyIter (.ref l)) (fun it s₂ => LoopAtV prog w A h₀ env x body Q E it s₂) E s := by
  refine loop_vals (as := ss) (fun a v => ∃ t : Tok, v = Value.str a t) Led ps stored P c₀ hi.length (fun i v h => strs_at hi i v h) hh hl F N hk hp ?_ fin
  rintro c pre post a v u h tk own e ⟨t, rfl⟩ mk hoff hP F₁ N₁
  exact turn c pre post a t u h tk own e mk hoff hP F₁ N₁
/-- a loop over a list of ints -/
theorem loop_ints {σ : Type} {l : Addr} {vs : List Value} {ns : List Int} {nn : Nat} {m₀ : PySem.Str → Option Value} (Led : σ → List (Addr × Obj)) (ps : σ → List (PySem.Str × Value)) (stored : List PySem.Str) (P : List Int → σ → Prop) (c₀ : σ)
    (hi : IntsAre vs ns) (hh : A.handled = none) (hl : ∀ c : σ, (l, W.listOf vs.toArray nn) ∈ Led c) (F : Fr h₀ env.locals s.heap m₀) (N : News h₀ env.locals s.heap (Led c₀)) (hk : ∀ p ∈ ps c₀, m₀ p.1 = some p.2) (hp : P [] c₀)
    (turn : ∀ (c : σ) (pre post : List Int) (a : Int) (t : Tok) (u : PySem.Str → Option Value) h tk own, ns = pre ++ a :: post → KstMark → OwnOff own ((Led c).map (·.1)) → P pre c →
      Fr h₀ env.locals h (fun y => if y = x then some (.int a t) else kstB (fun z => if stored.contains z then u z else m₀ z) (ps c) y) → News h₀ env.locals h (Led c ++ own) →
      wpAny (model prog w) A (execs body env) (fun f s₂ => Hid (InvPostG h₀ env.locals (fun m nx => (l, W.listOf vs.toArray nn) ∈ nx ∧ LSt Led ps x stored m₀ P (pre ++ [a]) m nx) own { s with heap := h, toks := tk } Q f s₂)) E { s with heap := h, toks := tk })
    (fin : ∀ (c : σ) (u : PySem.Str → Option Value) h tk, KstMark → P ns c → Fr h₀ env.locals h (fun y => if y = x then u y else kstB (fun z => if stored.contains z then u z else m₀ z) (ps c) y) → News h₀ env.locals h (Led c) → Q .next { s with heap := h, toks := tk }) :
    wpAny (model prog w) A (pyIter (.ref l)) (fun it s₂ => LoopAtV prog w A h₀ env x body Q E it s₂) E s := by
  refine loop_vals (as := ns) (fun a v => ∃ t : Tok, v = Value.int a t) Led ps stored P c₀ hi.length (fun i v h => by
    obtain ⟨k, t, e, hk⟩ := IntsAre.at hi i v h
    exact ⟨k, hk, t, e⟩) hh hl F N hk hp ?_ fin
  rintro c pre post a v u h tk own e ⟨t, rfl⟩ mk hoff hP F₁ N₁
  exact turn c pre post a t u h tk own e mk hoff hP F₁ N₁
end
section
variable {prog : Program} {w : World} {A : Around} {E : Value → Shared → Prop} {s : Shared} {h₀ : Heap} {L D : Addr} {m : Str → Option Value} {news news' : List (Addr × Obj)} {vs : List Value} {v v' : Value} {n : Nat}
theorem seqIdx_last {k : Nat} : seqIndex? (-1) (k + 1) = some k := by
  unfold seqIndex?
  simp
  omega
theorem setL_last : ∀ (vs : List Value) (v v' : Value), ki_setL (vs ++ [v]) vs.length v' = some (vs ++ [v'])
  | [], _, _ => rfl
  | x :: r, v, v' => by
    show (match ki_setL (r ++ [v]) r.length v' with | some q => some (x :: q) | none => none) = _
    rw [setL_last r v v']
    rfl
/-- xs[-1] -/
theorem last_get {u : Tok} {Q : Value → Shared → Prop} (N : News h₀ L s.heap news) (hm : (D, W.listOf (vs ++ [v]).toArray n) ∈ news) (h : Q v s) : wpAny (model prog w) A (getItem (.ref D) (.int (-1) u)) Q E s := by
  refine wpAny_getItem_list_neg (N.isList hm) (by decide) (by simp only [List.size_toArray, List.length_append, List.length_cons, List.length_nil]; omega) (by decide) ?_ h
  have e : ((-1 : Int) + ((vs ++ [v]).toArray.size : Nat)).toNat = vs.length := by
    simp only [List.size_toArray, List.length_append, List.length_cons, List.length_nil]
    omega
  rw [e]
  simp
/-- xs[-1] = v -/
theorem last_set {u : Tok} {Q : Unit → Shared → Prop} (F : Fr h₀ L s.heap m) (N : News h₀ L s.heap news) (U : Upd D (W.listOf (vs ++ [v]).toArray n) (W.listOf (vs ++ [v']).toArray n) news news')
    (h : ∀ h', Fr h₀ L h' m → News h₀ L h' news' → Q () { s with heap := h' }) : wpAny (model prog w) A (setItem (.ref D) (.int (-1) u) v') Q E s := by
  refine ki_setNeg F N (by decide) (by decide) (j := vs.length) ?_ (setL_last vs v v') U h
  have e : (vs ++ [v]).toArray.size = vs.length + 1 := by simp
  rw [e]
  exact seqIdx_last
/-- list(text) -/
theorem list_strL {x : Str} {t : Tok} {Q : Value → Shared → Prop} (hh : A.handled = none) (F : Fr h₀ L s.heap m) (N : News h₀ L s.heap news) (hx : x.length ≤ sizeLine)
    (h : ∀ D ys n h' tk, Fr h₀ L h' m → News h₀ L h' ((D, W.listOf (List.toArray ys) n) :: news) → (∀ p ∈ news, p.1 < D) → StrsAre ys (signs x) → Q (.ref D) { s with heap := h', toks := tk }) :
    wpAny (model prog w) A (call (.type "list") [.str x t]) Q E s := by
  refine list_strD hh F N (fun h' tk ys F' N' hk hn _ hp hc => ?_) hx
  obtain ⟨⟨n, e⟩, hne⟩ := hp
  refine h _ ys n h' tk F' ?_ (fun p hp => Heap.lt_size (N p hp).1) (StrsAre.of_carried hc)
  intro p hp
  rcases List.mem_cons.mp hp with rfl | hp
  · exact ⟨e, (fun e' => absurd F.ns.lt (by dsimp only at e'; rw [← e']; exact Nat.lt_irrefl _)), hn⟩
  · exact N' p hp
end
end Mine
end

section
open PySem PySem.W PyProof.Rows
namespace Mine
theorem pick_upto (vs : List Value) {y : Int} (h : 0 ≤ y) : (slicePick vs.toArray none (some y) none).toList = vs.take y.toNat := by
  have e : sliceBounds none (some y) none vs.toArray.size = (((0 : Nat) : Int), ((min y.toNat vs.toArray.size : Nat) : Int), 1) := by
    simp only [sliceBounds, Option.getD_none, show (1 : Int) > 0 by decide, if_true, if_neg (show ¬ (y < 0) by omega)]
    congr 1
    congr 1
    omega
  rw [kmk_pick_nat _ e]
  show ((vs.drop 0).take (min y.toNat vs.toArray.size - 0)) = _
  rw [List.drop_zero, Nat.sub_zero, List.size_toArray, kmk_take_min]
theorem pick_from (vs : List Value) {x : Int} (h : 0 ≤ x) : (slicePick vs.toArray (some x) none none).toList = vs.drop x.toNat := by
  have e : sliceBounds (some x) none none vs.toArray.size = (((min x.toNat vs.toArray.size : Nat) : Int), ((vs.toArray.size : Nat) : Int), 1) := by
    simp only [sliceBounds, Option.getD_none, show (1 : Int) > 0 by decide, if_true, if_neg (show ¬ (x < 0) by omega)]
    congr 1
    omega
  rw [kmk_pick_nat _ e]
  show ((vs.drop (min x.toNat vs.toArray.size)).take (vs.toArray.size - min x.toNat vs.toArray.size)) = _
  rw [List.size_toArray, kmk_drop_min, List.take_of_length_le (by rw [List.length_drop]; omega)]
theorem strs_take {vs : List Value} {ss : List Str} (h : StrsAre vs ss) : ∀ n, StrsAre (vs.take n) (ss.take n) := by
  induction h with
  | nil => intro n; simp only [List.take_nil]; exact .nil
  | cons y t r ih =>
    intro n
    cases n with
    | zero => exact .nil
    | succ n => exact .cons y t (ih n)
theorem strs_drop {vs : List Value} {ss : List Str} (h : StrsAre vs ss) : ∀ n, StrsAre (vs.drop n) (ss.drop n) := by
  induction h with
  | nil => intro n; simp only [List.drop_nil]; exact .nil
  | cons y t r ih =>
    intro n
    cases n with
    | zero => exact .cons y t r
    | succ n => exact ih n
/-- a value of a row: a list of texts of the ledger -/
def RowAt (nw : List (Addr × Obj)) (r : List Str) (v : Value) : Prop := ∃ (a : Addr) (vs : List Value) (n : Nat), v = .ref a ∧ (a, W.listOf vs.toArray n) ∈ nw ∧ StrsAre vs r
theorem RowAt.mono {nw nw' : List (Addr × Obj)} {r : List Str} {v : Value} (h : RowAt nw r v) (hs : ∀ p ∈ nw, p ∈ nw') : RowAt nw' r v :=
  let ⟨a, vs, n, e, hm, hS⟩ := h
  ⟨a, vs, n, e, hs _ hm, hS⟩
def RowsAt (nw : List (Addr × Obj)) (ys : List Value) (rs : List (List Str)) : Prop := ys.length = rs.length ∧ ∀ (i : Nat) (v : Value), ys[i]? = some v → ∃ r, rs[i]? = some r ∧ RowAt nw r v
theorem RowsAt.mono {nw nw' : List (Addr × Obj)} {ys : List Value} {rs : List (List Str)} (h : RowsAt nw ys rs) (hs : ∀ p ∈ nw, p ∈ nw') : RowsAt nw' ys rs :=
  ⟨h.1, fun i v e => let ⟨r, e', hr⟩ := h.2 i v e; ⟨r, e', hr.mono hs⟩⟩
theorem RowsAt.append {nw : List (Addr × Obj)} {ys zs : List Value} {rs ts : List (List Str)} (h : RowsAt nw ys rs) (h' : RowsAt nw zs ts) : RowsAt nw (ys ++ zs) (rs ++ ts) := by
  refine ⟨by rw [List.length_append, List.length_append, h.1, h'.1], fun i v e => ?_⟩
  by_cases hi : i < ys.length
  · rw [List.getElem?_append_left hi] at e
    obtain ⟨r, e', hr⟩ := h.2 i v e
    exact ⟨r, by rw [List.getElem?_append_left (by rw [← h.1]; exact hi)]; exact e', hr⟩
  · rw [List.getElem?_append_right (by omega)] at e
    obtain ⟨r, e', hr⟩ := h'.2 _ v e
    exact ⟨r, by rw [List.getElem?_append_right (by rw [← h.1]; omega), ← h.1]; exact e', hr⟩
theorem RowsAt.one {nw : List (Addr × Obj)} {v : Value} {r : List Str} (h : RowAt nw r v) : RowsAt nw [v] [r] := by
  refine ⟨rfl, fun i w e => ?_⟩
  cases i with
  | zero => simp at e; subst e; exact ⟨r, rfl, h⟩
  | succ i => simp at e
theorem RowsAt.nil {nw : List (Addr × Obj)} : RowsAt nw [] [] := ⟨rfl, fun i v e => by simp at e⟩
section
variable {prog : Program} {w : World} {A : Around} {h₀ : Heap} {L : Addr} {m : Str → Option Value} {env : Env} {elt : Expr} {x : Str} {scope : Scope} {cl : List (Str × Addr)} {s : Shared} {Fin : List Value → List (Addr × Obj) → Prop} {news : List (Addr × Obj)}
/-- a comprehension over range(n) whose element is a new list of texts -/
theorem comp_rows {n : Nat} (g : Nat → List Str)
    (turn : ∀ (k : Nat) t I oI C oC D m₂ ys h tk (E' : Value → Shared → Prop) tl, k < n → LCg.NsObj oC m₂ → m₂ x = some (.int (0 + (k : Int)) t) → Fr h₀ L h m → News h₀ L h ((I, oI) :: (C, oC) :: (D, LCg.lst ys) :: (tl ++ news)) → LCg.Off3 I C D (tl ++ news) → ((@Ne Nat I C) ∧ (@Ne Nat I D) ∧ (@Ne Nat C D)) → KPfMark →
      wpAny (model prog w) A (eval elt (compEnvC scope cl C env)) (fun y s₂ => Hid (LCg.CompEnd h₀ L m { s with heap := h, toks := tk } I oI C oC D (LCg.lst ys) (fun _ => True) (fun y news' => ∃ q vs c, y = .ref q ∧ StrsAre vs (g k) ∧ news' = (q, W.listOf vs.toArray c) :: (tl ++ news)) y s₂)) E' { s with heap := h, toks := tk })
    (fin : ∀ ys tl, RowsAt (tl ++ news) ys ((List.range n).map g) → Fin ys (tl ++ news)) : LCg.CompRest prog w A h₀ L m env elt x scope cl s (fun _ => True) (fun i v => ∃ t, v = .int (0 + (i : Int)) t) Fin n 0 [] news := by
  have key : ∀ (j i : Nat) (ys : List Value) (tl : List (Addr × Obj)), i + j = n → RowsAt (tl ++ news) ys ((List.range i).map g) → LCg.CompRest prog w A h₀ L m env elt x scope cl s (fun _ => True) (fun i v => ∃ t, v = .int (0 + (i : Int)) t) Fin j i ys (tl ++ news) := by
    intro j
    induction j with
    | zero =>
      intro i ys tl hi hy
      have e : i = n := by omega
      subst e
      exact LCg.CompRest.zero (fin ys tl hy)
    | succ j ih =>
      intro i ys tl hi hy
      refine LCg.CompRest.succ ?_
      intro v I oI C oC D m₂ h tk E' hv hC hx F N off ne
      obtain ⟨t, hv⟩ := hv
      subst hv
      refine wpAny_mono (turn i t I oI C oC D m₂ ys h tk E' tl (by omega) hC hx F N off ne True.intro) (fun y s₂ hq => ?_) fun _ _ e => e
      obtain ⟨h', tk', nw, e, F', N', off', _, q, vs, c, hy', hS, hn⟩ := hq.out
      refine ⟨h', tk', nw, e, F', N', off', trivial, ?_⟩
      subst hn
      have hh := ih (i + 1) (ys ++ [y]) ((q, W.listOf vs.toArray c) :: tl) (by omega) ?_
      · exact hh
      · rw [List.range_succ, List.map_append]
        exact (hy.mono fun p hp => .tail _ hp).append (RowsAt.one ⟨q, vs, c, hy', .head _, hS⟩)
  exact key n 0 [] [] (by omega) RowsAt.nil
end
end Mine
end

section
open PySem PySem.W PyProof.Rows PyProof.V PySem.Spec
namespace Mine
theorem s_canLayAll0 : ∀ ns : List Str, (∀ x ∈ ns, PyData.strOk x = true) → PyData.canLayAll0 (ns.map PyData.str) = true
  | [], _ => rfl
  | a :: r, h => by
    have h1 := h a (.head _)
    simp [PyData.canLayAll0, PyData.canLay0, s_canLayAll0 r (fun x hx => h x (.tail _ hx)), h1]
theorem s_depthAll : ∀ ns : List Str, PyData.depthAll (ns.map PyData.str) = 0
  | [] => rfl
  | _ :: r => by simp [PyData.depthAll, PyData.depth, s_depthAll r]
theorem s_shaped (ns : List Str) (h : ∀ x ∈ ns, PyData.strOk x = true) : SeqAt.shaped (.list (ns.map PyData.str)) = true := by
  simp [SeqAt.shaped, PyData.canLay0, PyData.depth, s_canLayAll0 ns h, s_depthAll]
theorem s_sameAll : ∀ ns ms : List Str, PySem.Spec.sameAll (ns.map PyData.str) (ms.map PyData.str) = decide (ns = ms)
  | [], [] => by simp [PySem.Spec.sameAll]
  | [], _ :: _ => by simp [PySem.Spec.sameAll]
  | _ :: _, [] => by simp [PySem.Spec.sameAll]
  | a :: r, b :: t => by
    simp only [List.map_cons, PySem.Spec.sameAll, PySem.Spec.same, s_sameAll r t]
    by_cases h : a = b <;> by_cases h' : r = t <;> simp [h, h']
theorem s_same (ns ms : List Str) : PySem.Spec.same (.list (ns.map PyData.str)) (.list (ms.map PyData.str)) = decide (ns = ms) := by
  simp only [PySem.Spec.same]; exact s_sameAll ns ms
section
variable {prog : Program} {w : World} {A : Around} {E : Value → Shared → Prop} {s : Shared} {a b : Addr} {xs ys : List Value} {ns ms : List Str} {Q : Value → Shared → Prop}
theorem ne_strs (ha : s.heap.IsList a xs.toArray) (hb : s.heap.IsList b ys.toArray) (hi : StrsAre xs ns) (hj : StrsAre ys ms) (hu : A.units + 64 < cLine) (hn : ∀ x ∈ ns, PyData.strOk x = true) (hm : ∀ x ∈ ms, PyData.strOk x = true) (h : Q (.bool (!decide (ns = ms))) s) :
    wpAny (model prog w) A (compareOp .NotEq (.ref a) (.ref b)) Q E s :=
  ne_dataH_same (reads_newData ha (lm_carried_strs hi)) (reads_newData hb (lm_carried_strs hj)) (s_shaped _ hn) (s_shaped _ hm) hu (SeqAt.noMix_of_shape (.list .str) rfl _ _ (list_map_has fun _ => rfl) (list_map_has fun _ => rfl)) (by rw [s_same]; exact h)
end
end Mine
end

section
open PySem PySem.W PyProof.Rows
namespace Mine
/-- the reader's state: items so far, the part, escape, quote -/
structure PSt where
  res : List Str
  part : Str
  esc : Bool
  quo : Bool
def chr1 (c : Int) : Str := ⟨#[c.toNat]⟩
def pstep (s : PSt) (c : Int) : PSt :=
  if s.esc = true then { s with part := s.part ++ chr1 c, esc := false }
  else if s.quo = true then
    if (chr1 c == Str.ofString "\\") = true then { s with esc := true }
    else if (chr1 c == Str.ofString "\"") = true then { s with part := s.part ++ chr1 c, quo := false }
    else { s with part := s.part ++ chr1 c }
  else if (chr1 c == Str.ofString ",") = true then { s with res := s.res ++ [s.part], part := Str.ofString "" }
  else if (chr1 c == Str.ofString "\"") = true then { s with part := s.part ++ chr1 c, quo := true }
  else { s with part := s.part ++ chr1 c }
def pinit : PSt := ⟨[], Str.ofString "", false, false⟩
def prun (l : List Int) : PSt := l.foldl pstep pinit

theorem prun_snoc (l : List Int) (c : Int) : prun (l ++ [c]) = pstep (prun l) c := by
  unfold prun; rw [List.foldl_append]; rfl
theorem chr1_nat (n : Nat) : chr1 (n : Int) = ⟨#[n]⟩ := rfl
theorem len_one (n : Nat) : (⟨#[n]⟩ : Str).length = 1 := rfl
theorem pstep_len (s : PSt) (c : Int) (n : Nat) (h1 : s.part.length ≤ n) (h2 : s.res.length ≤ n) (h3 : ∀ r ∈ s.res, r.length ≤ n) :
    (pstep s c).part.length ≤ n + 1 ∧ (pstep s c).res.length ≤ n + 1 ∧ ∀ r ∈ (pstep s c).res, r.length ≤ n + 1 := by
  have hl0 : (Str.ofString "").length = 0 := by decide +kernel
  have hc : (chr1 c).length = 1 := rfl
  have h3' : ∀ r ∈ s.res, r.length ≤ n + 1 := fun r hr => Nat.le_succ_of_le (h3 r hr)
  have h4' : ∀ r ∈ s.res ++ [s.part], r.length ≤ n + 1 := by
    intro r hr
    rcases List.mem_append.mp hr with hr | hr
    · exact h3' r hr
    · rw [List.mem_singleton.mp hr]; omega
  unfold pstep
  repeat' split
  all_goals (dsimp only; refine ⟨?_, ?_, by first | exact h3' | exact h4'⟩)
  all_goals ((try simp only [Str.length_append, hc, hl0, List.length_append, List.length_cons, List.length_nil]); omega)
theorem pfold_len : ∀ (l : List Int) (s : PSt) (n : Nat), s.part.length ≤ n → s.res.length ≤ n → (∀ r ∈ s.res, r.length ≤ n) →
    (l.foldl pstep s).part.length ≤ n + l.length ∧ (l.foldl pstep s).res.length ≤ n + l.length ∧ ∀ r ∈ (l.foldl pstep s).res, r.length ≤ n + l.length
  | [], _, _, h1, h2, h3 => ⟨h1, h2, h3⟩
  | c :: l, s, n, h1, h2, h3 => by
    obtain ⟨a, b, d⟩ := pstep_len s c n h1 h2 h3
    have := pfold_len l (pstep s c) (n + 1) a b d
    rw [List.foldl_cons, List.length_cons, Nat.add_comm l.length 1, ← Nat.add_assoc]
    exact this
theorem prun_len (l : List Int) : (prun l).part.length ≤ l.length ∧ (prun l).res.length ≤ l.length ∧ ∀ r ∈ (prun l).res, r.length ≤ l.length := by
  have := pfold_len l pinit 0 (Nat.le_refl _) (Nat.le_refl _) (fun _ h => nomatch h)
  rw [Nat.zero_add] at this
  exact this
/-- what parse_http_list gives -/
def pitems (s : PSt) : List Str := if (s.part.length : Int) ≠ 0 then s.res ++ [s.part] else s.res
def parseF (x : Str) : List Str := (pitems (prun (KStt.codes x))).map Txt.strip
set_option maxRecDepth 100000 in
set_option maxHeartbeats 8000000 in
theorem parse_ok {w : World} {mean : ExcName → Option Value} {mg mb : Str → Option Value} (x : Str) (tx : Tok) (hx : x.length ≤ 100000) (dp un : Nat) (gd : Option (List Code)) (cn : Str) (cs : Scope) (a : Addr) (ccd : Value) (cl : List (Str × Addr)) (outer : List Env) (A₀ : Around) (base h₀ : Heap) (L : Addr) (m : Str → Option Value) (news : List (Addr × Obj)) (s : Shared)
    (Q E : Value → Shared → Prop) (B : Below A₀ base outer h₀) (F : Fr h₀ L s.heap m) (X : (Mine.hd.heap_39 w.params).In h₀) (N : News h₀ L s.heap news) (T : Top Mine.hd.view_39 (looseW Mine.hd.view_39 []) mean mg mb h₀) (hk : cs.kind = .function) (hd : dp + 1 < recursionLimit) (hu : un + 8 < cLine)
    (hret : ∀ (q : Addr) (vs : List Value) (h' : Heap) (tk' : Nat), StrsAre vs (parseF x) → Fr h₀ L h' m → News h₀ L h' ((q, LCg.lst vs) :: news) → LCg.Off1 q news → Q (.ref q) { s with heap := h', toks := tk' }) :
    wpAny (model PySem.Challenge.rw_mq0075_02.row.prog w) (ktrTop dp un gd cn cs L a ccd cl outer) (call (.ref 26) [.str x tx]) Q E s := by
  k_with_none
  w_top off
  k_with "pyIter str" => skip
  revert X T; k_fill; intro X T
  refine wpAny_call ?_
  k_dflt ktr_enter
  iterate 22 (first | (k_unfold; (try dsimp only)) | (k_end; wrow_close) | walk1 | (dsimp only; walk1) | (leave1; walk_say "STEP leave1"; try dsimp only))
  rename Fr _ _ _ _ => F1
  rename News _ _ _ _ => N1
  refine' loop_text (σ := List Value × Nat × PSt × Tok) (fun c => (_, W.listOf c.1.toArray c.2.1) :: news) (fun c => [(Str.ofString "part", .str c.2.2.1.part c.2.2.2), (Str.ofString "escape", .bool c.2.2.1.esc), (Str.ofString "quote", .bool c.2.2.1.quo)]) [] (fun pre c => StrsAre c.1 c.2.2.1.res ∧ c.2.2.1 = prun pre) ([], 0, pinit, ?tk0) (by rfl) F1 N1 ?hk ?hp ?turn ?fin
  case hk => kst_all
  case hp => exact ⟨.nil, rfl⟩
  case turn =>
    clear N1 F1
    rintro ⟨vs, cap, ⟨res, part, esc, quo⟩, tok⟩ pre post n t u h tk own e hmark hoff hP F2 N2
    obtain ⟨hS, hst⟩ := hP
    dsimp only [kstB] at hS hst F2 N2 ⊢
    rw [List.cons_append] at N2
    have hpre : pre.length ≤ x.length := by
      have := congrArg List.length e
      rw [KStt.codes_length, List.length_append] at this
      omega
    have hpl := prun_len pre
    rw [← hst] at hpl
    dsimp only at hpl
    have hvl : vs.length ≤ 100000 := by have := hS.length; omega
    have hpb : part.length ≤ 100000 := by omega
    clear hpl
    k_steps
    all_goals (try dsimp only)
    all_goals (
      refine Hid.mk ?_; dsimp only [InvPostN]
      rename Fr _ _ _ _ => F3; rename News _ _ _ _ => N3; try simp only [List.push_toArray] at N3
      first
        | refine kst_end ⟨_, _, ⟨res, _, _, _⟩, _⟩ F3 N3 (by first | kst_in | kst_inAny) (by first | (intro p hp; kst_mem) | kst_anyIn) rfl trivial (by kst_all) (by kst_same) ⟨hS, ?_⟩
        | refine kst_end ⟨_, _, ⟨res ++ [part], _, _, _⟩, _⟩ F3 N3 (by first | kst_in | kst_inAny) (by first | (intro p hp; kst_mem) | kst_anyIn) rfl trivial (by kst_all) (by kst_same) ⟨KStt.strs_snoc hS, ?_⟩
      rw [prun_snoc, ← hst]
      simp_all only [pstep, chr1_nat, if_true, if_false, Bool.false_eq_true])
  case fin =>
    clear N1 F1
    rintro ⟨vs, cap, ⟨res, part, esc, quo⟩, tok⟩ u h tk hP F2 N2
    obtain ⟨hS, hst⟩ := hP
    dsimp only [kstB] at hS hst F2 N2 ⊢
    have hpl := prun_len (KStt.codes x)
    rw [← hst, KStt.codes_length] at hpl
    dsimp only at hpl
    obtain ⟨hp1, hp2, hp3⟩ := hpl
    have hp4 : ∀ k ∈ res, k.length ≤ 100000 := fun k hk => Nat.le_trans (hp3 k hk) hx
    have hp5 : ∀ k ∈ res ++ [part], k.length ≤ 100000 := by
      intro k hk
      rcases List.mem_append.mp hk with hk | hk
      · exact hp4 k hk
      · rw [List.mem_singleton.mp hk]; omega
    have hvl : vs.length ≤ 100000 := by have := hS.length; omega
    have hpb : part.length ≤ 100000 := by omega
    have hmark := kstMark
    clear hp3
    k_with "eval ListComp" => (k_here; k_dflt (refine LCg.ListComp_U (F₀ := by k_asm) (by with_unfolding_all rfl) (by decide) (by rfl) (by decide) (by rfl) ?_))
    k_with "CompSrc" => (k_here; k_dflt (refine LCg.CompSrc.ledger (by rfl) (by k_asm) (by k_asm) (by first | k_memK | assumption) (by rw [PySem.sizeLine_eq]; simp only [List.size_toArray, Array.size_push]; omega) ?_; intro g'))
    k_steps
    all_goals (simp only [List.push_toArray] at *)
    all_goals (first
      | refine comp_strs Txt.strip (KStt.strs_snoc hS) (fun k' t' I' oI' C' oC' D' m' ys' h' tk' E' hk' hC' hx' F' N' off' ne' mk' => ?_) (fun ys' hys' => ?_)
      | refine comp_strs Txt.strip hS (fun k' t' I' oI' C' oC' D' m' ys' h' tk' E' hk' hC' hx' F' N' off' ne' mk' => ?_) (fun ys' hys' => ?_))
    all_goals (first | (unfold LCg.FinE; intro D9 h9 tk9 F9 N9 off9; dsimp only) | (first | have hkl := hp5 _ hk' | have hkl := hp4 _ hk'))
    all_goals k_steps
    all_goals (try dsimp only)
    all_goals (first
      | exact Hid.mk (LCg.CompEnd.intro (by k_asm) N' _ (fun _ h => h) off' (.inr ⟨_, .head _, rfl, _, rfl⟩) ⟨rfl, _, rfl⟩)
      | (have e9 : parseF x = List.map Txt.strip (res ++ [part]) := by unfold parseF pitems; rw [← hst]; exact congrArg _ (if_pos (by assumption))
         exact hret D9 ys' h9 tk9 (e9 ▸ hys') (by k_asm) (kst_newsOf (by k_asm) (by intro p hp; rcases List.mem_cons.mp hp with rfl | hp; exact .head _; exact .tail _ (.tail _ hp))) off9.2)
      | (have e9 : parseF x = List.map Txt.strip res := by unfold parseF pitems; rw [← hst]; exact congrArg _ (if_neg (not_not_intro (by assumption)))
         exact hret D9 ys' h9 tk9 (e9 ▸ hys') (by k_asm) (kst_newsOf (by k_asm) (by intro p hp; rcases List.mem_cons.mp hp with rfl | hp; exact .head _; exact .tail _ (.tail _ hp))) off9.2))
end Mine
end

section
open PySem PySem.W PyProof.Rows
namespace Mine
def rstep (x p r : Str) : Str := Txt.join r (Txt.split x p)
def replF : Str → List (Str × Str) → Str
  | x, [] => x
  | x, (p, r) :: q => replF (rstep x p r) q
def flatP : List (Str × Str) → List Str
  | [] => []
  | (p, r) :: q => p :: r :: flatP q
theorem flatP_len : ∀ l : List (Str × Str), (flatP l).length = 2 * l.length
  | [] => rfl
  | (p, r) :: q => by simp only [flatP, List.length_cons, flatP_len q]; omega
theorem rstep_len {x p r : Str} (hp : p.length = 1) (hr : r.length ≤ 2) : (rstep x p r).length ≤ 2 * x.length := by
  have hw := split_weight x p (by omega)
  unfold rstep Txt.join
  rw [StrLaws.glued_eq_join]
  generalize Txt.split x p = ys at hw
  cases ys with
  | nil => exact Nat.zero_le _
  | cons a l =>
    rw [len_join_cons]
    simp only [List.length_cons] at hw
    have : l.length * r.length ≤ l.length * 2 := Nat.mul_le_mul_left _ hr
    omega
theorem flat_cons {vs : List Value} {p r : Str} {l : List Str} (h : StrsAre vs (p :: r :: l)) : ∃ t u vs', vs = .str p t :: .str r u :: vs' ∧ StrsAre vs' l := by
  cases h with
  | cons _ t h => cases h with
    | cons _ u h => exact ⟨t, u, _, rfl, h⟩
theorem flat_nil {vs : List Value} (h : StrsAre vs []) : vs = [] := by cases h; rfl

abbrev tupO (vs : List Value) : Obj := { cls := .type "tuple", data := .seq vs.toArray }
set_option maxRecDepth 100000 in
set_option maxHeartbeats 8000000 in
theorem repl_ok {w : World} {mean : ExcName → Option Value} {mg mb : Str → Option Value} (x : Str) (tx : Tok) (ps : List (Str × Str)) (vs : List Value) (hvs : StrsAre vs (flatP ps)) (hps : ∀ q ∈ ps, q.1.length = 1 ∧ q.2.length ≤ 2) (hpl : ps.length ≤ 20) (hx : x.length * 2 ^ ps.length ≤ 1000000) (dp un : Nat) (gd : Option (List Code)) (cn : Str) (cs : Scope) (a : Addr) (ccd : Value) (cl : List (Str × Addr)) (outer : List Env) (A₀ : Around) (base h₀ : Heap) (L : Addr) (m : Str → Option Value) (news : List (Addr × Obj)) (s : Shared)
    (Q E : Value → Shared → Prop) (B : Below A₀ base outer h₀) (F : Fr h₀ L s.heap m) (X : (Mine.hd.heap_39 w.params).In h₀) (N : News h₀ L s.heap news) (T : Top Mine.hd.view_39 (looseW Mine.hd.view_39 []) mean mg mb h₀) (hk : cs.kind = .function) (hd : dp + 1 < recursionLimit) (hu : un + 8 < cLine)
    (hret : ∀ (t : Tok) (h' : Heap) (tk' : Nat), Fr h₀ L h' m → News h₀ L h' news → Q (.str (replF x ps) t) { s with heap := h', toks := tk' }) :
    wpAny (model PySem.Challenge.rw_mq0075_02.row.prog w) (ktrTop dp un gd cn cs L a ccd cl outer) (call (.ref 21) (.str x tx :: vs)) Q E s := by
  have hvl : vs.length ≤ sizeLine := by rw [hvs.length, flatP_len, sizeLine_eq]; omega
  k_with_none
  w_top off
  revert X T; k_fill; intro X T
  refine wpAny_call ?_
  k_dflt (refine' kp_rest (vs := vs) (g₁ := fun D => some [(Str.ofString "text", .str x tx), (Str.ofString "pairs", .ref D)]) (binds := fun D => [(Str.ofString "text", .str x tx), (Str.ofString "pairs", .ref D)]) ?k1 ?k2 ?k3 ?k4 ?k5 ?kA ?kF ?kK ?k6 ?k7 ?k8 ?kV ?kP ?kG ?kB ?_ ?c2 ?c3 ?c4 ?c5; (case kA => exact rfl); (case kF => exact rfl); (case kK => assumption); (case k1 => k_asm); (case k2 => k_asm); (case k3 => k_asm); (case k4 => k_asm); (case k5 => k_asm); (case k6 => k_is); (case k7 => k_is); (case k8 => ktr_room); (case kV => exact rfl); (case kG => exact fun _ => rfl); (case kB => exact fun _ => locs rfl); (case c5 => decide); (case c2 => exact rfl); (case c3 => exact rfl); (case c4 => exact rfl); (case kP => exact rest_peek (f := fun t => [(Str.ofString "text", .str x tx), (Str.ofString "pairs", t)]) hvl (by intro vs; cases vs <;> rfl)); k_whole; intro D' g' L' h' l1 FG' F' N' B' X' T'; (try dsimp only); (try k_fold))
  iterate 2 (first | (k_unfold; (try dsimp only)) | walk1 | (dsimp only; walk1))
  rename Fr _ _ _ _ => F1
  rename News _ _ _ _ => N1
  refine' loop_while (σ := Str × Tok × Addr × List Value × List (Str × Str)) (fun c => (c.2.2.1, tupO c.2.2.2.1) :: news) (fun c => [(Str.ofString "text", .str c.1 c.2.1), (Str.ofString "pairs", .ref c.2.2.1)]) [] (fun c => StrsAre c.2.2.2.1 (flatP c.2.2.2.2) ∧ (∀ q ∈ c.2.2.2.2, q.1.length = 1 ∧ q.2.length ≤ 2) ∧ c.2.2.2.2.length ≤ 20 ∧ c.1.length * 2 ^ c.2.2.2.2.length ≤ 1000000 ∧ replF c.1 c.2.2.2.2 = replF x ps) (fun c => c.2.2.2.2.length) (x, tx, D', vs, ps) ?hF ?hN ?hk ?hp ?turn ?hE
  case hF => exact F1
  case hN => exact N1
  case hE => passes_own
  case hk => kst_all
  case hp => exact ⟨hvs, hps, hpl, hx, rfl⟩
  case turn =>
    clear N1 F1
    rintro ⟨y, ty, D, us, qs⟩ u h tk hmark hP F2 N2
    obtain ⟨hS, hq, hql, hyl, hrep⟩ := hP
    dsimp only [kstB] at hS hq hql hyl hrep F2 N2 ⊢
    cases qs with
    | nil =>
      have := flat_nil hS
      subst this
      k_steps
      have hrep' : y = replF x ps := hrep
      subst hrep'
      exact hret _ _ _ (by k_asm) (kst_newsOf (by k_asm) fun p hp => .tail _ hp)
    | cons q qs =>
      obtain ⟨p, r⟩ := q
      obtain ⟨t1, t2, us', rfl, hS'⟩ := flat_cons hS
      obtain ⟨hp1, hr1⟩ := hq _ (.head _)
      dsimp only at hp1 hr1
      have hpow : 2 ^ (((p, r) :: qs).length) = 2 * 2 ^ qs.length := by rw [List.length_cons, Nat.pow_succ]; omega
      have hpos : 1 ≤ 2 ^ qs.length := Nat.one_le_two_pow
      have hyb : y.length ≤ 500000 := by
        rw [hpow] at hyl
        have : y.length * 2 ≤ y.length * (2 * 2 ^ qs.length) := Nat.mul_le_mul_left _ (by omega)
        omega
      have hul : us'.length ≤ 38 := by rw [hS'.length, flatP_len]; simp only [List.length_cons] at hql; omega
      k_with "truthy ref" => (refine ktl_truthyK (by k_asm) (by k_memK) (by simp only [List.length_cons]; omega) ?_; try simp only [List.isEmpty_cons, Bool.not_false])
      k_with "subscriptTail Name Constant ref int" => (refine' item_tupleT ?t ?a ?b ?c ?d ?_; (case t => exact News.isTup (by k_asm) (by k_memK)); (case a => decide); (case b => decide); (case c => first | exact seqIdx_nat (k := 0) (by simp only [List.length_cons]; omega) | exact seqIdx_nat (k := 1) (by simp only [List.length_cons]; omega)); (case d => rfl))
      k_with "subscriptTail Name Slice ref ref" => (with_unfolding_all refine slice_tuple_from (a := 2) (by k_asm) (by k_asm) (News.isTup (by k_asm) (by k_memK)) (by decide) (by simp only [List.size_toArray, List.length_cons]; omega) ?_ (hsz := by rw [PySem.sizeLine_eq]; simp only [List.size_toArray, List.length_cons]; omega); intro h' F' N')
      k_with "call builtin:str.join" => (refine join_listW (News.isList (by k_asm) (by k_memK)) (by assumption) (by omega) ?_ ?_)
      k_with "call builtin:str.split" => (refine KSpl.split1 (by k_asm) (by k_asm) (by rw [beq_eq_false_iff_ne]; omega) ?_ (by rw [PySem.sizeLine_eq]; omega); intro D' l' h' k' e' a' F' N' l1; rw [e'] at a')
      k_steps
      · have := split_weight y p (by omega)
        omega
      · refine Hid.mk ?_
        dsimp only [KswPost]
        rename Fr _ _ _ _ => F3; rename News _ _ _ _ => N3
        have hrl := rstep_len (x := y) hp1 hr1
        refine ksw_end (rstep y p r, _, _, us', qs) F3 N3 (by intro p hp; rcases List.mem_cons.mp hp with rfl | hp; exact .head _; repeat (first | exact hp | refine .tail _ ?_)) trivial (by kst_all) (by ksw_same) ⟨hS', fun q hq' => hq q (.tail _ hq'), ?_, ?_, hrep⟩ ?_
        · simp only [List.length_cons] at hql; dsimp only; omega
        · rw [hpow] at hyl
          dsimp only
          refine Nat.le_trans (Nat.mul_le_mul_right _ hrl) ?_
          rw [Nat.mul_comm 2 y.length, Nat.mul_assoc]
          exact hyl
        · dsimp only; simp only [List.length_cons]; omega
end Mine
end

section
open PySem PySem.W PyProof.Rows
namespace Mine
def cstep (sign : Str) (n : Int) (nm : Str) : Int :=
  if (nm == Str.ofString "\\") = true then n * 2
  else if (nm == sign) = true then n + 1
  else n
def countF (n : Int) (sign : Str) (row : List Str) : Int := row.foldl (cstep sign) n
theorem countF_snoc (n : Int) (sign : Str) (row : List Str) (a : Str) : countF n sign (row ++ [a]) = cstep sign (countF n sign row) a := by
  unfold countF; rw [List.foldl_append]; rfl

theorem cstep_bound (sign : Str) (n M : Int) (nm : Str) (h0 : 0 ≤ n) (h1 : n + 1 ≤ M) : 0 ≤ cstep sign n nm ∧ cstep sign n nm + 1 ≤ 2 * M := by
  unfold cstep
  repeat' split
  all_goals omega
theorem countF_bound (sign : Str) : ∀ (row : List Str) (n M : Int), 0 ≤ n → n + 1 ≤ M → 0 ≤ countF n sign row ∧ countF n sign row + 1 ≤ 2 ^ row.length * M
  | [], n, M, h0, h1 => ⟨h0, by simpa [countF] using h1⟩
  | a :: r, n, M, h0, h1 => by
    obtain ⟨x, y⟩ := cstep_bound sign n M a h0 h1
    have := countF_bound sign r (cstep sign n a) (2 * M) x y
    rw [List.length_cons, Int.pow_succ, Int.mul_assoc]
    exact this
theorem count_bound {n : Int} {sign a : Str} {row pre post : List Str} (h0 : 0 ≤ n) (h1 : n ≤ 1000) (hr : row.length ≤ 10) (e : row = pre ++ a :: post) : 0 ≤ countF n sign pre ∧ countF n sign pre ≤ 1100000 := by
  obtain ⟨x, y⟩ := countF_bound sign pre n 1001 h0 (by omega)
  refine ⟨x, ?_⟩
  have hl : pre.length ≤ 10 := by rw [e, List.length_append] at hr; omega
  have h2 : (2 : Int) ^ pre.length ≤ 2 ^ 10 := by
    have : (2 : Nat) ^ pre.length ≤ 2 ^ 10 := Nat.pow_le_pow_right (by decide) hl
    exact_mod_cast this
  have : (2 : Int) ^ pre.length * 1001 ≤ 2 ^ 10 * 1001 := Int.mul_le_mul_of_nonneg_right h2 (by decide)
  have e1 : (2 : Int) ^ 10 * 1001 = 1025024 := by decide
  omega
set_option maxRecDepth 100000 in
set_option maxHeartbeats 8000000 in
theorem count_ok {w : World} {mean : ExcName → Option Value} {mg mb : Str → Option Value} (n₀ : Int) (tn : Tok) (sign : Str) (ts : Tok) (lr : Addr) (rv : List Value) (rn : Nat) (row : List Str) (dp un : Nat) (gd : Option (List Code)) (cn : Str) (cs : Scope) (a : Addr) (ccd : Value) (cl : List (Str × Addr)) (outer : List Env) (A₀ : Around) (base h₀ : Heap) (L : Addr) (m : Str → Option Value) (news : List (Addr × Obj)) (s : Shared)
    (Q E : Value → Shared → Prop) (B : Below A₀ base outer h₀) (F : Fr h₀ L s.heap m) (X : (Mine.hd.heap_39 w.params).In h₀) (N : News h₀ L s.heap news) (T : Top Mine.hd.view_39 (looseW Mine.hd.view_39 []) mean mg mb h₀) (hk : cs.kind = .function) (hd : dp + 1 < recursionLimit) (hu : un + 8 < cLine) (hl : (lr, W.listOf rv.toArray rn) ∈ news) (hrow : StrsAre rv row) (hrl : row.length ≤ 10) (hn0 : 0 ≤ n₀) (hn1 : n₀ ≤ 1000)
    (hret : ∀ (t : Tok) (h' : Heap) (tk' : Nat), Fr h₀ L h' m → News h₀ L h' news → Q (.int (countF n₀ sign row) t) { s with heap := h', toks := tk' }) :
    wpAny (model PySem.Challenge.rw_mq0075_02.row.prog w) (ktrTop dp un gd cn cs L a ccd cl outer) (call (.ref 33) [.int n₀ tn, .str sign ts, .ref lr]) Q E s := by
  k_with_none
  w_top off
  revert X T; k_fill; intro X T
  refine wpAny_call ?_
  k_dflt ktr_enter
  iterate 2 (first | (k_unfold; (try dsimp only)) | walk1 | (dsimp only; walk1))
  (rename Fr _ _ _ _ => lF'; with_unfolding_all refine' For_invVF lF' ?k1 ?k2 ?_; (case k1 => exact rfl); (case k2 => exact rfl); k_whole)
  walk1
  rename Fr _ _ _ _ => F1
  rename News _ _ _ _ => N1
  refine' loop_strs (σ := Int × Tok) (fun _ => news) (fun c => [(Str.ofString "ahead", .int c.1 c.2)]) [] (fun pre c => c.1 = countF n₀ sign pre) (n₀, tn) hrow (by rfl) (fun _ => hl) ?hF ?hN ?hk ?hp ?turn ?fin
  case hF => exact F1
  case hN => exact N1
  case hk => kst_all
  case hp => rfl
  case turn =>
    clear N1 F1
    rintro ⟨c, tc⟩ pre post nm t u h tk own e hmark hoff hP F2 N2
    dsimp only [kstB] at hP F2 N2 hoff ⊢
    have hb := count_bound (sign := sign) hn0 hn1 hrl e
    rw [← hP] at hb
    obtain ⟨hb0, hb1⟩ := hb
    k_steps
    all_goals (try dsimp only)
    all_goals (
      refine Hid.mk ?_; dsimp only [InvPostG]
      rename Fr _ _ _ _ => F3; rename News _ _ _ _ => N3
      refine lst_end (_, _) F3 N3 (by intro p hp; exact List.mem_append.mpr (.inl hp)) (by intro p hp; exact List.mem_append.mpr (.inr hp)) hoff (by kst_all) (by kst_same) ?_ hl
      dsimp only
      rw [countF_snoc, ← hP]
      simp_all only [cstep, if_true, if_false, Bool.false_eq_true])
  case fin =>
    clear N1 F1
    rintro ⟨c, tc⟩ u h tk hmark hP F2 N2
    dsimp only [kstB] at hP F2 N2 ⊢
    subst hP
    k_steps
    exact hret _ _ _ (by k_asm) (by k_asm)
end Mine
end

section
open PySem PySem.W PyProof.Rows
namespace Mine
/-- _law_due's state: the parts ahead, the last part, quoted, run -/
structure DSt where
  init : List Str
  last : Str
  quo : Bool
  run : Int
def slash (k : Int) : Str := Txt.mul (Str.ofString "\\") k
def dstep (row : List Str) (s : DSt) (a : Str) : DSt :=
  if (a == Str.ofString "\\") = true then { s with run := s.run + 1 }
  else
    let n := countF s.run a row
    let l := s.last ++ slash (if s.quo = true then n.fdiv 2 else n)
    let live := !s.quo || (n.fmod 2 == 0)
    let q := if (live && ([Str.ofString "", Str.ofString "\""].any fun x => x == a)) = true then !s.quo else s.quo
    if (a == Str.ofString ",") = true ∧ s.quo = false then ⟨s.init ++ [l], Str.ofString "", q, 0⟩
    else ⟨s.init, l ++ (if (a.length : Int) ≠ 0 then a else Str.ofString "\""), q, 0⟩
def dinit : DSt := ⟨[], Str.ofString "\"", true, 0⟩
def drun (row : List Str) (l : List Str) : DSt := l.foldl (dstep row) dinit
theorem drun_snoc (row l : List Str) (a : Str) : drun row (l ++ [a]) = dstep row (drun row l) a := by
  unfold drun; rw [List.foldl_append]; rfl
/-- what a sign is: a backslash, a comma, a quote, none, another -/
theorem sign_kinds {a : Str} (h : a.length ≤ 1) :
    ((a == Str.ofString "\\") = true) ∨
    ((a == Str.ofString "\\") = false ∧ (a == Str.ofString ",") = true ∧ ([Str.ofString "", Str.ofString "\""].any fun x => x == a) = false ∧ (a.length : Int) ≠ 0) ∨
    ((a == Str.ofString "\\") = false ∧ (a == Str.ofString ",") = false ∧ ([Str.ofString "", Str.ofString "\""].any fun x => x == a) = true ∧ (a.length : Int) ≠ 0) ∨
    ((a == Str.ofString "\\") = false ∧ (a == Str.ofString ",") = false ∧ ([Str.ofString "", Str.ofString "\""].any fun x => x == a) = true ∧ (a.length : Int) = 0) ∨
    ((a == Str.ofString "\\") = false ∧ (a == Str.ofString ",") = false ∧ ([Str.ofString "", Str.ofString "\""].any fun x => x == a) = false ∧ (a.length : Int) ≠ 0) := by
  by_cases h1 : a = Str.ofString "\\"
  · subst h1; exact .inl (by decide +kernel)
  by_cases h2 : a = Str.ofString ","
  · subst h2; exact .inr (.inl (by decide +kernel))
  by_cases h3 : a = Str.ofString "\""
  · subst h3; exact .inr (.inr (.inl (by decide +kernel)))
  by_cases h4 : a = Str.ofString ""
  · subst h4; exact .inr (.inr (.inr (.inl (by decide +kernel))))
  refine .inr (.inr (.inr (.inr ⟨beq_eq_false_iff_ne.mpr h1, beq_eq_false_iff_ne.mpr h2, ?_, ?_⟩)))
  · simp only [List.any_cons, List.any_nil, Bool.or_false, Bool.or_eq_false_iff, beq_eq_false_iff_ne]
    exact ⟨fun e => h4 e.symm, fun e => h3 e.symm⟩
  intro h0
  apply h4
  have : a.length = 0 := by omega
  have e : Str.ofString "" = ⟨#[]⟩ := by decide +kernel
  rw [e]
  apply Str.ext'
  exact Array.eq_empty_of_size_eq_zero this
theorem sub2 {a b : Addr × Obj} {news own : List (Addr × Obj)} : ∀ p ∈ a :: b :: news, p ∈ a :: b :: (news ++ own) := by
  intro p hp
  rcases List.mem_cons.mp hp with rfl | hp
  · exact .head _
  rcases List.mem_cons.mp hp with rfl | hp
  · exact .tail _ (.head _)
  exact .tail _ (.tail _ (List.mem_append.mpr (.inl hp)))
theorem sub3 {t a b : Addr × Obj} {news own : List (Addr × Obj)} : ∀ p ∈ a :: b :: news, p ∈ t :: a :: b :: (news ++ own) := fun p hp => .tail _ (sub2 p hp)
theorem own2 {a b : Addr × Obj} {news own : List (Addr × Obj)} : ∀ p ∈ own, p ∈ a :: b :: (news ++ own) := fun p hp => .tail _ (.tail _ (List.mem_append.mpr (.inr hp)))
theorem own3 {t a b : Addr × Obj} {news own : List (Addr × Obj)} : ∀ p ∈ own, p ∈ t :: a :: b :: (news ++ own) := fun p hp => .tail _ (own2 p hp)
theorem slash_len {n : Int} (h : n ≤ 1000) : (slash n).length ≤ 1000 := len_mul_one (N := 1000) (show Str.ofString "\\" = ⟨#[92]⟩ by decide +kernel) h
theorem mul_slash {prog : Program} {w : World} {A : Around} {E : Value → Shared → Prop} {s : Shared} {t u : Tok} {n : Int} {Q : Value → Shared → Prop} (h0 : 0 ≤ n) (h1 : n ≤ 1000) (h : ∀ t' k, (slash n).length ≤ 1000 → Q (.str (slash n) t') { s with toks := k }) :
    wpAny (model prog w) A (binaryOp .Mult (.str (Str.ofString "\\") t) (.int n u)) Q E s :=
  SB.mul (mulOk_of 1 1000 (by decide +kernel) h1 (by omega) (by decide) (by decide)) fun t' k => h t' k (slash_len h1)

theorem cnt_bound {n : Int} {a : Str} {row : List Str} {k : Nat} (h0 : 0 ≤ n) (h1 : n ≤ k) (hk : k ≤ 31) (hr : row.length ≤ 3) : 0 ≤ countF n a row ∧ countF n a row ≤ 255 := by
  obtain ⟨x, y⟩ := countF_bound a row n (k + 1) h0 (by omega)
  refine ⟨x, ?_⟩
  have h2 : (2 : Int) ^ row.length ≤ 8 := by
    have : (2 : Nat) ^ row.length ≤ 2 ^ 3 := Nat.pow_le_pow_right (by decide) hr
    exact_mod_cast this
  have h3 : (2 : Int) ^ row.length * ((k : Int) + 1) ≤ 8 * ((k : Int) + 1) := Int.mul_le_mul_of_nonneg_right h2 (by omega)
  omega
theorem fdiv2 {n : Int} (h0 : 0 ≤ n) : 0 ≤ n.fdiv 2 ∧ n.fdiv 2 ≤ n := by
  rw [Int.fdiv_eq_ediv_of_nonneg _ (by decide)]
  omega
structure DLen (s : DSt) (k : Nat) : Prop where
  r0 : 0 ≤ s.run
  r1 : s.run ≤ k
  la : s.last.length ≤ 300 * k + 1
  il : s.init.length ≤ k
  im : ∀ p ∈ s.init, p.length ≤ 300 * k + 1
theorem dstep_len {row : List Str} {s : DSt} {a : Str} {k : Nat} (hr : row.length ≤ 3) (hk : k ≤ 31) (ha : a.length ≤ 1) (h : DLen s k) : DLen (dstep row s a) (k + 1) := by
  obtain ⟨r0, r1, la, il, im⟩ := h
  obtain ⟨c0, c1⟩ := cnt_bound (a := a) r0 r1 hk hr
  obtain ⟨d0, d1⟩ := fdiv2 c0
  have hl0 : (Str.ofString "").length = 0 := by decide +kernel
  have hl1 : (Str.ofString "\"").length = 1 := by decide +kernel
  have hs1 : (slash (countF s.run a row)).length ≤ 255 := len_mul_one (N := 255) (show Str.ofString "\\" = ⟨#[92]⟩ by decide +kernel) (by omega)
  have hs2 : (slash ((countF s.run a row).fdiv 2)).length ≤ 255 := len_mul_one (N := 255) (show Str.ofString "\\" = ⟨#[92]⟩ by decide +kernel) (by omega)
  have im' : ∀ p ∈ s.init, p.length ≤ 300 * (k + 1) + 1 := fun p hp => by have := im p hp; omega
  unfold dstep
  split
  · exact ⟨by dsimp only; omega, by dsimp only; omega, by dsimp only; omega, by dsimp only; omega, im'⟩
  · dsimp only
    have hsq : (slash (if s.quo = true then (countF s.run a row).fdiv 2 else countF s.run a row)).length ≤ 255 := by split <;> assumption
    generalize slash (if s.quo = true then (countF s.run a row).fdiv 2 else countF s.run a row) = sl at hsq
    split
    · refine ⟨by dsimp only; omega, by dsimp only; omega, by dsimp only; omega, by simp only [List.length_append, List.length_cons, List.length_nil]; omega, ?_⟩
      intro p hp
      rcases List.mem_append.mp hp with hp | hp
      · exact im' p hp
      · rw [List.mem_singleton.mp hp, Str.length_append]; omega
    · refine ⟨by dsimp only; omega, by dsimp only; omega, ?_, by dsimp only; omega, im'⟩
      simp only [Str.length_append]
      have : (if (a.length : Int) ≠ 0 then a else Str.ofString "\"").length ≤ 1 := by split <;> omega
      omega
theorem dfold_len {row : List Str} (hr : row.length ≤ 3) : ∀ (l : List Str) (s : DSt) (k : Nat), k + l.length ≤ 32 → (∀ a ∈ l, a.length ≤ 1) → DLen s k → DLen (l.foldl (dstep row) s) (k + l.length)
  | [], _, _, _, _, h => h
  | a :: l, s, k, hk, ha, h => by
    rw [List.length_cons] at hk
    have := dfold_len hr l (dstep row s a) (k + 1) (by omega) (fun b hb => ha b (.tail _ hb)) (dstep_len hr (by omega) (ha a (.head _)) h)
    rw [List.foldl_cons, List.length_cons, Nat.add_comm l.length 1, ← Nat.add_assoc]
    exact this
theorem drun_len {row l : List Str} (hr : row.length ≤ 3) (hl : l.length ≤ 32) (ha : ∀ a ∈ l, a.length ≤ 1) : DLen (drun row l) l.length := by
  have := dfold_len hr l dinit 0 (by omega) ha ⟨by decide, by decide, by decide +kernel, by decide, fun _ h => nomatch h⟩
  rw [Nat.zero_add] at this
  exact this
theorem signs_one {x : Str} : ∀ a ∈ signs x ++ [Str.ofString ""], a.length ≤ 1 := by
  intro a ha
  rcases List.mem_append.mp ha with ha | ha
  · unfold signs at ha
    obtain ⟨n, _, rfl⟩ := List.mem_map.mp ha
    exact Nat.le_refl _
  · rw [List.mem_singleton.mp ha]; decide +kernel
end Mine
end

section
open PySem PySem.W PyProof.Rows
namespace Mine
/-- what _law_due gives -/
def dparts (s : DSt) : List Str := if s.quo = true then s.init ++ [s.last ++ Str.ofString ",a"] else s.init ++ [s.last] ++ [Str.ofString "a"]
def dueF (x : Str) (row : List Str) : List Str := (dparts (drun row (signs x ++ [Str.ofString ""]))).map Txt.strip
local macro_rules | `(tactic| walk_at "call type:list") => `(tactic| ((with_reducible show wpAny _ _ (call (Value.type "list") [Value.str _ _]) _ _ _); (k_dflt (refine list_strL (by rfl) (by k_asm) (by k_asm) (by rw [PySem.sizeLine_eq]; omega) ?_)); intro D' ys' n' h' tk' F' N' l1 hS'))
set_option maxRecDepth 100000 in
set_option maxHeartbeats 8000000 in
theorem due_ok {w : World} {mean : ExcName → Option Value} {mg mb : Str → Option Value} (x : Str) (tx : Tok) (hx : x.length ≤ 30) (lr : Addr) (rv : List Value) (rn : Nat) (row : List Str) (hrow : StrsAre rv row) (hrl : row.length ≤ 3) (dp un : Nat) (gd : Option (List Code)) (cn : Str) (cs : Scope) (a : Addr) (ccd : Value) (cl : List (Str × Addr)) (outer : List Env) (A₀ : Around) (base h₀ : Heap) (L : Addr) (m : Str → Option Value) (news : List (Addr × Obj)) (s : Shared)
    (Q E : Value → Shared → Prop) (B : Below A₀ base outer h₀) (F : Fr h₀ L s.heap m) (X : (Mine.hd.heap_39 w.params).In h₀) (N : News h₀ L s.heap news) (T : Top Mine.hd.view_39 (looseW Mine.hd.view_39 []) mean mg mb h₀) (hk : cs.kind = .function) (hd : dp + 2 < recursionLimit) (hu : un + 16 < cLine) (hl : (lr, W.listOf rv.toArray rn) ∈ news)
    (hret : ∀ (q : Addr) (vs : List Value) (h' : Heap) (tk' : Nat), StrsAre vs (dueF x row) → Fr h₀ L h' m → News h₀ L h' ((q, LCg.lst vs) :: news) → LCg.Off1 q news → Q (.ref q) { s with heap := h', toks := tk' }) :
    wpAny (model PySem.Challenge.rw_mq0075_02.row.prog w) (ktrTop dp un gd cn cs L a ccd cl outer) (call (.ref 38) [.str x tx, .ref lr]) Q E s := by
  k_with_none
  w_top off
  revert X T; k_fill; intro X T
  refine wpAny_call ?_
  k_dflt ktr_enter
  iterate 19 (first | (k_unfold; (try dsimp only)) | walk1 | (dsimp only; walk1))
  (rename Fr _ _ _ _ => lF'; with_unfolding_all refine' For_invVF lF' ?k1 ?k2 ?_; (case k1 => exact rfl); (case k2 => exact rfl); k_whole)
  k_with "binaryOp Add ref ref" => (k_dflt (refine kmk_add_lit (by k_asm) (by k_asm) (News.isList (by k_asm) (by k_memK)) (News.isList (by k_asm) (by k_memK)) rfl ?_ (by have := StrsAre.length (by assumption); rw [signs_length] at this; simp only [List.length_cons, List.length_nil, PySem.sizeLine_eq]; omega)); intro D' h' F' N' l1)
  iterate 14 (first | (k_unfold; (try dsimp only)) | walk1 | (dsimp only; walk1))
  k_with "call ref" => (k_dflt (refine count_ok _ _ _ _ _ _ _ _ _ _ _ _ _ _ _ _ _ _ _ _ _ _ _ _ _ _ (by k_asm) (by k_asm) (by k_asm) (by k_asm) (by k_asm) rfl (by ktr_room) (by ktr_units) (by kst_mem) (by assumption) (by omega) (by omega) (by omega) ?_); intro t9 h9 tk9 F9 N9)
  rename_i tk00 lp h5 hlt0 h4 h3 h2 D1 ys1 n1 h1 tk1 hlt1 hS1 Dl h0 F0 N0 hltl
  have hlt2 := ltN (l1 _ (.tail _ (.tail _ (.head _))))
  have hlt3 := allLt_of hlt0
  obtain ⟨zs, N1, hz⟩ : ∃ zs : List Value, News _ _ _ ((D', W.listOf zs.toArray 0) :: (lp, W.listOf ([] ++ [Value.str (Str.ofString "\"") tk00]).toArray 0) :: news) ∧ StrsAre zs (signs x ++ [Str.ofString ""]) :=
    ⟨_, kst_newsOf N' (by intro p hp; rcases List.mem_cons.mp hp with rfl | hp; exact .head _; rcases List.mem_cons.mp hp with rfl | hp; exact .tail _ (.tail _ (.tail _ (.head _))); exact .tail _ (.tail _ (.tail _ (.tail _ hp)))), hS1.append' (.cons _ _ .nil)⟩
  refine' loop_strs (vs := zs) (σ := List Value × Tok × Nat × DSt × Tok) (fun c => (D', W.listOf zs.toArray 0) :: (lp, W.listOf (c.1 ++ [Value.str c.2.2.2.1.last c.2.1]).toArray c.2.2.1) :: news) (fun c => [(Str.ofString "quoted", Value.bool c.2.2.2.1.quo), (Str.ofString "run", Value.int c.2.2.2.1.run c.2.2.2.2)]) [Str.ofString "live"] (fun pre c => StrsAre c.1 c.2.2.2.1.init ∧ c.2.2.2.1 = drun row pre) ([], tk00, 0, dinit, _) hz (by rfl) (fun _ => .head _) ?hF ?hN ?hk ?hp ?turn ?fin
  case hN => exact N1
  case hF => exact F'
  case hk => kst_all
  case hp => exact ⟨.nil, rfl⟩
  case turn =>
    clear N' F' N0 F0 N1
    rintro ⟨pv, tl, cap, ⟨init, last, quo, run⟩, tr⟩ pre post sg t u h tk own e hmark hoff hP F2 N2
    obtain ⟨hS, hst⟩ := hP
    dsimp only [kstB] at hS hst hlt2 F2 N2 hoff ⊢
    simp only [List.cons_append] at N2
    simp only [List.map_cons] at hoff
    k_with "binaryOp Mult str int" => (k_dflt (refine mul_slash (by omega) (by omega) ?_); intro tm km hm)
    have hlz : (pre ++ sg :: post).length ≤ 31 := by rw [← e]; simp only [List.length_append, signs_length, List.length_cons, List.length_nil]; omega
    have hon : ∀ a ∈ pre ++ sg :: post, a.length ≤ 1 := by rw [← e]; exact signs_one
    have hdl := drun_len (row := row) (l := pre) hrl (by rw [List.length_append] at hlz; omega) (fun a ha => hon a (List.mem_append.mpr (.inl ha)))
    rw [← hst] at hdl
    have hpl : pre.length ≤ 30 := by simp only [List.length_append, List.length_cons] at hlz; omega
    have hsl : sg.length ≤ 1 := hon sg (List.mem_append.mpr (.inr (.head _)))
    have hrun0 : 0 ≤ run := hdl.r0
    have hrun1 : run ≤ 100 := by have := hdl.r1; dsimp only at this; omega
    have hlast : last.length ≤ 100000 := by have := hdl.la; dsimp only at this; omega
    have hpvl : pv.length ≤ 1000 := by have := hdl.il; have := hS.length; dsimp only at *; omega
    obtain ⟨hc0, hc1'⟩ := cnt_bound (a := sg) (row := row) hdl.r0 hdl.r1 (by omega) hrl
    dsimp only at hc0 hc1'
    have hc1 : countF run sg row ≤ 900 := by omega
    obtain ⟨hc2, hc3'⟩ := fdiv2 hc0
    have hc3 : (countF run sg row).fdiv 2 ≤ 900 := by omega
    clear hc1' hc3' hdl hlz hon hpl
    k_with "getItem ref int" => (k_dflt (refine last_get (by k_asm) (by first | k_memK | kst_mem) ?_))
    k_with "setItem ref int" => (k_dflt (refine last_set (by k_asm) (by k_asm) (by k_upd) ?_); intro h9 F9 N9)
    obtain hbs | ⟨hbs, hcm, hin, hln⟩ | ⟨hbs, hcm, hin, hln⟩ | ⟨hbs, hcm, hin, hln⟩ | ⟨hbs, hcm, hin, hln⟩ := sign_kinds hsl
    all_goals k_steps
    all_goals (try dsimp only)
    all_goals (first | (exfalso; omega) | skip)
    all_goals (
      refine Hid.mk ?_; dsimp only [InvPostG]
      rename Fr _ _ _ _ => F3; rename News _ _ _ _ => N3; try simp only [List.push_toArray] at N3
      first
        | refine lst_end (pv, _, _, ⟨init, _, _, _⟩, _) F3 N3 (by first | exact sub2 | exact sub3) (by first | exact own2 | exact own3) hoff (by kst_all) (by kst_same) ⟨hS, ?_⟩ (.head _)
        | refine lst_end (pv ++ [_], _, _, ⟨init ++ [_], _, _, _⟩, _) F3 N3 (by first | exact sub2 | exact sub3) (by first | exact own2 | exact own3) hoff (by kst_all) (by kst_same) ⟨KStt.strs_snoc hS, ?_⟩ (.head _)
      dsimp only
      rw [drun_snoc, ← hst]
      clear F3 N3 F2 N2
      unfold dstep slash
      simp_all <;> rfl)
  case fin =>
    clear N' F' N0 F0 N1
    rintro ⟨pv, tl, cap, ⟨init, last, quo, run⟩, tr⟩ u h tk hmark hP F2 N2
    obtain ⟨hS, hst⟩ := hP
    dsimp only [kstB] at hS hst hlt2 F2 N2 ⊢
    have hlz : (signs x ++ [Str.ofString ""]).length ≤ 31 := by simp only [List.length_append, signs_length, List.length_cons, List.length_nil]; omega
    have hdl := drun_len (row := row) (l := signs x ++ [Str.ofString ""]) hrl (by omega) signs_one
    rw [← hst] at hdl
    have hlast : last.length ≤ 10000 := by have := hdl.la; dsimp only at this; omega
    have hpvl : pv.length ≤ 100 := by have := hdl.il; have := hS.length; dsimp only at *; omega
    have hinit : ∀ p ∈ init, p.length ≤ 10000 := fun p hp => by have := hdl.im p hp; omega
    have hla2 : (Str.ofString ",a").length = 2 := by decide +kernel
    have hlla : (last ++ Str.ofString ",a").length ≤ 100000 := by rw [Str.length_append]; omega
    have hl1 : ∀ p ∈ init ++ [last ++ Str.ofString ",a"], p.length ≤ 100000 := by
      intro p hp
      rcases List.mem_append.mp hp with hp | hp
      · have := hinit p hp; omega
      · rw [List.mem_singleton.mp hp]; exact hlla
    have hl2 : ∀ p ∈ init ++ [last] ++ [Str.ofString "a"], p.length ≤ 100000 := by
      intro p hp
      rcases List.mem_append.mp hp with hp | hp
      · rcases List.mem_append.mp hp with hp | hp
        · have := hinit p hp; omega
        · rw [List.mem_singleton.mp hp]; omega
      · rw [List.mem_singleton.mp hp]; decide +kernel
    clear hdl hlz
    k_with "getItem ref int" => (k_dflt (refine last_get (by k_asm) (by first | k_memK | kst_mem) ?_))
    k_with "setItem ref int" => (k_dflt (refine last_set (by k_asm) (by k_asm) (by k_upd) ?_); intro h9 F9 N9)
    k_with "eval ListComp" => (k_here; k_dflt (refine LCg.ListComp_U (F₀ := by k_asm) (by with_unfolding_all rfl) (by decide) (by rfl) (by decide) (by rfl) ?_))
    k_with "CompSrc" => (k_here; k_dflt (refine LCg.CompSrc.ledger (by rfl) (by k_asm) (by k_asm) (by first | k_memK | assumption) (by rw [PySem.sizeLine_eq]; simp only [List.size_toArray, Array.size_push, List.length_append, List.length_cons, List.length_nil]; omega) ?_; intro g'))
    k_steps
    all_goals (try simp only [List.push_toArray] at *)
    all_goals (first
      | refine comp_strs Txt.strip (KStt.strs_snoc (KStt.strs_snoc hS)) (fun k' t' I' oI' C' oC' D' m' ys' h' tk' E' hk' hC' hx' F' N' off' ne' mk' => ?_) (fun ys' hys' => ?_)
      | refine comp_strs Txt.strip (KStt.strs_snoc hS) (fun k' t' I' oI' C' oC' D' m' ys' h' tk' E' hk' hC' hx' F' N' off' ne' mk' => ?_) (fun ys' hys' => ?_))
    all_goals (first | (unfold LCg.FinE; intro D9 h9 tk9 F9 N9 off9; dsimp only) | (first | have hkl := hl1 _ hk' | have hkl := hl2 _ hk'))
    all_goals k_steps
    all_goals (try dsimp only)
    all_goals (first
      | exact Hid.mk (LCg.CompEnd.intro (by k_asm) N' _ (fun _ h => h) off' (.inr ⟨_, by first | k_memK | assumption, rfl, _, rfl⟩) ⟨rfl, _, rfl⟩)
      | (have e9 : dueF x row = List.map Txt.strip (init ++ [last ++ Str.ofString ",a"]) := by unfold dueF dparts; rw [← hst]; exact congrArg _ (if_pos (by assumption))
         exact hret D9 ys' h9 tk9 (e9 ▸ hys') (by k_asm) (kst_newsOf (by k_asm) (by intro p hp; rcases List.mem_cons.mp hp with rfl | hp; exact .head _; exact .tail _ (.tail _ (.tail _ hp)))) off9.2.2)
      | (have e9 : dueF x row = List.map Txt.strip (init ++ [last] ++ [Str.ofString "a"]) := by unfold dueF dparts; rw [← hst]; exact congrArg _ (if_neg (by simp_all))
         exact hret D9 ys' h9 tk9 (e9 ▸ hys') (by k_asm) (kst_newsOf (by k_asm) (by intro p hp; rcases List.mem_cons.mp hp with rfl | hp; exact .head _; exact .tail _ (.tail _ (.tail _ hp)))) off9.2.2))
end Mine
end

section
open PySem PySem.W PyProof.Rows
namespace Mine
/-- texts by their codes -/
abbrev txt (l : List Nat) : Str := ⟨l.toArray⟩
theorem txt_list (l : List Nat) : (txt l).cps.toList = l := rfl
theorem txt_of (x : Str) : txt x.cps.toList = x := rfl
theorem txt_append (a b : List Nat) : txt a ++ txt b = txt (a ++ b) := by
  apply Str.ext'
  apply Array.toList_inj.mp
  rw [Str.cps_append, Array.toList_append]
theorem txt_inj {a b : List Nat} (h : txt a = txt b) : a = b := by
  have := congrArg (fun x : Str => x.cps.toList) h
  exact this
theorem txt_beq (a b : List Nat) : (txt a == txt b) = decide (a = b) := by
  by_cases h : a = b
  · subst h; simp
  · have : txt a ≠ txt b := fun e => h (txt_inj e)
    rw [beq_eq_false_iff_ne.mpr this, decide_eq_false h]
def sl (n : Nat) : Str := txt (List.replicate n 92)
theorem slash_nat (n : Nat) : slash (n : Int) = sl n := by
  apply Str.ext'
  apply Array.toList_inj.mp
  unfold slash sl
  rw [show Str.ofString "\\" = ⟨#[92]⟩ from by decide +kernel, mul_one_list]
  rfl
theorem e92 : Str.ofString "\\" = txt [92] := by decide +kernel
theorem e34 : Str.ofString "\"" = txt [34] := by decide +kernel
theorem e44 : Str.ofString "," = txt [44] := by decide +kernel
theorem e0 : Str.ofString "" = txt [] := by decide +kernel
theorem e97 : Str.ofString "a" = txt [97] := by decide +kernel
theorem eca : Str.ofString ",a" = txt [44, 97] := by decide +kernel
theorem eqca : Str.ofString "\",a" = txt [34, 44, 97] := by decide +kernel
/-- replacing one sign -/
def sub1 (c : Nat) (r : List Nat) (l : List Nat) : List Nat := l.flatMap fun n => if n = c then r else [n]
theorem sub1_free {c : Nat} {r : List Nat} : ∀ {l : List Nat}, c ∉ l → sub1 c r l = l
  | [], _ => rfl
  | a :: l, h => by
    have h1 : a ≠ c := fun e => h (e ▸ .head _)
    have h2 : c ∉ l := fun e => h (.tail _ e)
    show (if a = c then r else [a]) ++ sub1 c r l = _
    rw [if_neg h1, sub1_free h2]
    rfl
theorem join_list (sep : List Nat) : ∀ (a : Str) (l : List Str), (Str.join (txt sep) (a :: l)).cps.toList = a.cps.toList ++ l.flatMap fun b => sep ++ b.cps.toList
  | a, [] => by simp [Str.join]
  | a, b :: l => by
    show (a ++ txt sep ++ Str.join (txt sep) (b :: l)).cps.toList = _
    rw [Str.cps_append, Array.toList_append, join_list sep b l, Str.cps_append, Array.toList_append]
    simp
theorem sub1_join {c : Nat} {r : List Nat} : ∀ (l : List Str), (∀ p ∈ l, c ∉ p.cps.toList) → ∀ a : Str, c ∉ a.cps.toList →
    sub1 c r (a.cps.toList ++ l.flatMap fun b => [c] ++ b.cps.toList) = a.cps.toList ++ l.flatMap fun b => r ++ b.cps.toList
  | [], _, a, ha => by simp [sub1_free ha]
  | b :: l, h, a, ha => by
    have ih := sub1_join (r := r) l (fun p hp => h p (.tail _ hp)) b (h b (.head _))
    rw [List.flatMap_cons, List.flatMap_cons]
    have hs : ∀ x y : List Nat, sub1 c r (x ++ y) = sub1 c r x ++ sub1 c r y := fun x y => by unfold sub1; rw [List.flatMap_append]
    rw [hs, sub1_free ha, List.append_assoc, hs, ih]
    have : sub1 c r [c] = r := by simp [sub1]
    rw [this, List.append_assoc]
theorem rstep_codes (x : Str) (c : Nat) (r : List Nat) : (rstep x ⟨#[c]⟩ (txt r)).cps.toList = sub1 c r x.cps.toList := by
  unfold rstep Txt.join
  rw [StrLaws.glued_eq_join]
  have hf := StrLaws.split_free x c
  have hj := StrLaws.join_split x ⟨#[c]⟩
  generalize Txt.split x ⟨#[c]⟩ = ys at hf hj
  cases ys with
  | nil =>
    rw [← hj]
    rfl
  | cons a l =>
    rw [join_list]
    have e : x.cps.toList = a.cps.toList ++ l.flatMap fun b => [c] ++ b.cps.toList := by
      rw [← hj]
      exact join_list [c] a l
    rw [e, sub1_join l (fun p hp => hf p (.tail _ hp)) a (hf a (.head _))]
/-- the count in naturals -/
def cntN (n : Nat) (d : List Nat) (row : List Nat) : Nat := row.foldl (fun n c => if c = 92 then n * 2 else if [c] = d then n + 1 else n) n
def rowS (row : List Nat) : List Str := row.map fun c => txt [c]
theorem cnt_eq (d : List Nat) : ∀ (row : List Nat) (n : Nat), countF (n : Int) (txt d) (rowS row) = (cntN n d row : Int)
  | [], n => rfl
  | c :: r, n => by
    have ih := fun k => cnt_eq d r k
    show countF (cstep (txt d) (n : Int) (txt [c])) (txt d) (rowS r) = ((r.foldl _ (if c = 92 then n * 2 else if [c] = d then n + 1 else n) : Nat) : Int)
    unfold cstep
    rw [e92, txt_beq, txt_beq]
    by_cases h1 : c = 92
    · subst h1
      simp only [decide_true, if_true]
      have := ih (n * 2)
      rw [Int.natCast_mul] at this
      exact this
    · have h1' : ¬ ([c] = [92]) := fun e => h1 (by simpa using e)
      rw [decide_eq_false h1', if_neg (by decide), if_neg h1]
      by_cases h2 : [c] = d
      · rw [decide_eq_true h2, if_pos rfl, if_pos h2]
        exact ih (n + 1)
      · rw [decide_eq_false h2, if_neg (by decide), if_neg h2]
        exact ih n
/-- the text with its signs escaped, k backslashes pending -/
def enc (row : List Nat) : Nat → List Nat → List Nat
  | k, [] => List.replicate (cntN k [] row) 92
  | k, d :: l => if d = 92 then enc row (k + 1) l else List.replicate (cntN k [d] row) 92 ++ d :: enc row 0 l
theorem enc_nil : ∀ (l : List Nat) (k : Nat), enc [] k l = List.replicate k 92 ++ l
  | [], k => by simp [enc, cntN]
  | d :: l, k => by
    unfold enc
    split
    · rename_i h
      subst h
      rw [enc_nil l (k + 1), List.replicate_succ', List.append_assoc]
      rfl
    · rw [enc_nil l 0]
      simp [cntN]
theorem cntN_snoc (n : Nat) (d row : List Nat) (c : Nat) : cntN n d (row ++ [c]) = if c = 92 then cntN n d row * 2 else if [c] = d then cntN n d row + 1 else cntN n d row := by
  unfold cntN
  rw [List.foldl_append]
  rfl
theorem sub1_append (c : Nat) (r x y : List Nat) : sub1 c r (x ++ y) = sub1 c r x ++ sub1 c r y := by unfold sub1; rw [List.flatMap_append]
theorem sub1_rep92 : ∀ n, sub1 92 [92, 92] (List.replicate n 92) = List.replicate (n * 2) 92
  | 0 => rfl
  | n + 1 => by
    rw [List.replicate_succ, show 92 :: List.replicate n 92 = [92] ++ List.replicate n 92 from rfl, sub1_append, sub1_rep92 n]
    have : sub1 92 [92, 92] [92] = [92, 92] := rfl
    rw [this, show (n + 1) * 2 = n * 2 + 1 + 1 by omega, List.replicate_succ, List.replicate_succ]
    rfl
theorem sub1_rep {c : Nat} {r : List Nat} (h : c ≠ 92) (n : Nat) : sub1 c r (List.replicate n 92) = List.replicate n 92 :=
  sub1_free fun hm => h (List.eq_of_mem_replicate hm)
theorem enc_step (row : List Nat) (c : Nat) : ∀ (l : List Nat) (k : Nat), sub1 c [92, c] (enc row k l) = enc (row ++ [c]) k l
  | [], k => by
    unfold enc
    rw [cntN_snoc]
    by_cases h : c = 92
    · subst h; rw [if_pos rfl, sub1_rep92]
    · rw [if_neg h, if_neg (by simp), sub1_rep h]
  | d :: l, k => by
    unfold enc
    split
    · exact enc_step row c l (k + 1)
    · rename_i hd
      rw [show List.replicate (cntN k [d] row) 92 ++ d :: enc row 0 l = List.replicate (cntN k [d] row) 92 ++ ([d] ++ enc row 0 l) from rfl, sub1_append, sub1_append, enc_step row c l 0, cntN_snoc]
      by_cases h : c = 92
      · subst h
        rw [if_pos rfl, sub1_rep92, sub1_free (by simpa using fun e => hd e.symm)]
        rfl
      · rw [if_neg h, sub1_rep h]
        by_cases h2 : c = d
        · subst h2
          rw [if_pos rfl]
          have : sub1 c [92, c] [c] = [92, c] := by simp [sub1]
          rw [this, List.replicate_succ', List.append_assoc]
          rfl
        · rw [if_neg (by simpa using h2), sub1_free (by simpa using h2)]
          rfl
theorem repl_enc (x : Str) : ∀ (row done : List Nat) (y : Str), y.cps.toList = enc done 0 x.cps.toList → (replF y ((rowS row).map fun a => (a, Str.ofString "\\" ++ a))).cps.toList = enc (done ++ row) 0 x.cps.toList
  | [], done, y, h => by simpa [rowS, replF] using h
  | c :: r, done, y, h => by
    show (replF (rstep y (txt [c]) (Str.ofString "\\" ++ txt [c])) ((rowS r).map fun a => (a, Str.ofString "\\" ++ a))).cps.toList = _
    have := repl_enc x r (done ++ [c]) (rstep y (txt [c]) (Str.ofString "\\" ++ txt [c])) (by
      rw [e92, txt_append]
      refine (rstep_codes y c [92, c]).trans ?_
      rw [h, enc_step])
    rw [this, List.append_assoc]
    rfl
theorem repl_codes (x : Str) (row : List Nat) : (replF x ((rowS row).map fun a => (a, Str.ofString "\\" ++ a))).cps.toList = enc row 0 x.cps.toList := by
  have := repl_enc x row [] x (by rw [enc_nil]; rfl)
  simpa using this
/-- the reader by codes -/
def pfold (s : PSt) (l : List Nat) : PSt := l.foldl (fun (s : PSt) (n : Nat) => pstep s (n : Int)) s
theorem prun_codes (x : Str) : prun (KStt.codes x) = pfold pinit x.cps.toList := by
  unfold prun KStt.codes pfold
  rw [List.foldl_map]
theorem pfold_append (s : PSt) (a b : List Nat) : pfold s (a ++ b) = pfold (pfold s a) b := by unfold pfold; rw [List.foldl_append]
theorem pfold_cons (s : PSt) (a : Nat) (b : List Nat) : pfold s (a :: b) = pfold (pstep s (a : Int)) b := rfl
theorem pfold_nil (s : PSt) : pfold s [] = s := rfl
theorem chr_txt (n : Nat) : chr1 (n : Int) = txt [n] := rfl
theorem one_dec (n k : Nat) : decide ([n] = [k]) = decide (n = k) := by simp
theorem pstep_code (s : PSt) (n : Nat) : pstep s (n : Int) =
    if s.esc = true then { s with part := s.part ++ txt [n], esc := false }
    else if s.quo = true then
      if n = 92 then { s with esc := true }
      else if n = 34 then { s with part := s.part ++ txt [n], quo := false }
      else { s with part := s.part ++ txt [n] }
    else if n = 44 then { s with res := s.res ++ [s.part], part := txt [] }
    else if n = 34 then { s with part := s.part ++ txt [n], quo := true }
    else { s with part := s.part ++ txt [n] } := by
  unfold pstep
  rw [chr_txt, e92, e34, e44, e0]
  simp only [txt_beq, one_dec, decide_eq_true_eq]
theorem sl_succ (n : Nat) : sl (n + 1) = txt [92] ++ sl n := by
  unfold sl
  rw [txt_append, List.replicate_succ]
  rfl
theorem sl_zero (x : Str) : x ++ sl 0 = x := by
  show x ++ Str.empty = x
  exact Str.append_empty x
theorem rep_even (res : List Str) : ∀ (m : Nat) (part : Str), pfold ⟨res, part, false, true⟩ (List.replicate (2 * m) 92) = ⟨res, part ++ sl m, false, true⟩
  | 0, part => by rw [sl_zero]; rfl
  | m + 1, part => by
    rw [show 2 * (m + 1) = 2 * m + 1 + 1 by omega, List.replicate_succ, List.replicate_succ, pfold_cons, pfold_cons, pstep_code, pstep_code]
    simp only [if_true, if_false, Bool.false_eq_true]
    rw [rep_even res m, sl_succ, Str.append_assoc]
theorem rep_out (res : List Str) : ∀ (m : Nat) (part : Str), pfold ⟨res, part, false, false⟩ (List.replicate m 92) = ⟨res, part ++ sl m, false, false⟩
  | 0, part => by rw [sl_zero]; rfl
  | m + 1, part => by
    rw [List.replicate_succ, pfold_cons, pstep_code]
    simp only [if_true, if_false, Bool.false_eq_true]
    rw [if_neg (by decide), if_neg (by decide), rep_out res m, sl_succ, Str.append_assoc]
/-- one sign behind n backslashes: what is read -/
def rstate (init : List Str) (last : Str) (quo : Bool) (n d : Nat) : PSt :=
  if quo = true then
    (if n % 2 = 0 ∧ d = 34 then ⟨init, last ++ sl (n / 2) ++ txt [d], false, false⟩ else ⟨init, last ++ sl (n / 2) ++ txt [d], false, true⟩)
  else if d = 44 then ⟨init ++ [last ++ sl n], txt [], false, false⟩
  else if d = 34 then ⟨init, last ++ sl n ++ txt [d], false, true⟩
  else ⟨init, last ++ sl n ++ txt [d], false, false⟩
theorem read_sign (init : List Str) (last : Str) (quo : Bool) (n d : Nat) (hd : d ≠ 92) : pfold ⟨init, last, false, quo⟩ (List.replicate n 92 ++ [d]) = rstate init last quo n d := by
  rw [pfold_append, pfold_cons, pfold_nil]
  unfold rstate
  cases quo with
  | false =>
    rw [rep_out, pstep_code]
    simp only [if_false, Bool.false_eq_true]
  | true =>
    simp only [if_true]
    rcases Nat.mod_two_eq_zero_or_one n with h | h
    · have e : List.replicate n 92 = List.replicate (2 * (n / 2)) 92 := by congr 1; omega
      rw [e, rep_even, pstep_code]
      simp only [if_true, if_false, Bool.false_eq_true, h, true_and]
      rw [if_neg hd]
    · have e : List.replicate n 92 = List.replicate (2 * (n / 2)) 92 ++ [92] := by
        rw [← List.replicate_succ']
        congr 1; omega
      have h1 : pstep ⟨init, last ++ sl (n / 2), false, true⟩ ((92 : Nat) : Int) = ⟨init, last ++ sl (n / 2), true, true⟩ := by
        rw [pstep_code]
        simp only [if_true, if_false, Bool.false_eq_true]
      rw [e, pfold_append, rep_even, pfold_cons, pfold_nil, h1, pstep_code]
      simp only [if_true]
      rw [if_neg (by omega)]
theorem fdiv_nat (n : Nat) : ((n : Int)).fdiv 2 = ((n / 2 : Nat) : Int) := by
  rw [Int.fdiv_eq_ediv_of_nonneg _ (by decide)]
  omega
theorem fmod_nat (n : Nat) : ((n : Int)).fmod 2 = ((n % 2 : Nat) : Int) := by
  rw [Int.fmod_eq_emod_of_nonneg _ (by decide)]
  omega
def toP (s : DSt) : PSt := ⟨s.init, s.last, false, s.quo⟩
def toD (s : PSt) : DSt := ⟨s.res, s.part, s.quo, 0⟩
theorem rstate_esc (init : List Str) (last : Str) (quo : Bool) (n d : Nat) : (rstate init last quo n d).esc = false := by
  unfold rstate
  repeat' split
  all_goals rfl
theorem toP_toD {s : PSt} (h : s.esc = false) : toP (toD s) = s := by
  obtain ⟨r, p, e, q⟩ := s
  dsimp only at h
  subst h
  rfl
/-- the two readings of a sign agree; a is the sign, d its code (a quote at the end) -/
theorem dstep_sign (row : List Nat) (init : List Str) (last : Str) (quo : Bool) (k : Nat) (a : List Nat) (d : Nat) (hd : d ≠ 92) (ha : a = [d] ∨ (a = [] ∧ d = 34)) :
    dstep (rowS row) ⟨init, last, quo, k⟩ (txt a) = toD (rstate init last quo (cntN k a row) d) := by
  have h92 : ¬ (a = [92]) := by rcases ha with rfl | ⟨rfl, _⟩ <;> simp [hd]
  unfold dstep
  rw [e92, e0, e34, e44]
  simp only [txt_beq, decide_eq_true_eq, if_neg h92, cnt_eq, fdiv_nat, fmod_nat, List.any_cons, List.any_nil, Bool.or_false]
  have hq : (if quo = true then ((cntN k a row / 2 : Nat) : Int) else (cntN k a row : Int)) = (((if quo = true then cntN k a row / 2 else cntN k a row) : Nat) : Int) := by split <;> rfl
  rw [hq, slash_nat]
  generalize cntN k a row = n
  have hmod : (((n % 2 : Nat) : Int) == 0) = decide (n % 2 = 0) := by
    by_cases h : n % 2 = 0 <;> simp [h]
    omega
  rw [hmod]
  have hlen : ((txt a).length : Int) = (a.length : Int) := by simp [Str.length]
  rw [hlen]
  unfold rstate toD
  rcases ha with rfl | ⟨rfl, rfl⟩
  · cases quo
    · by_cases h1 : d = 44
      · subst h1; simp
      · by_cases h2 : d = 34
        · subst h2; simp
        · have h3 : ¬ (34 = d) := fun e => h2 e.symm
          simp [h1, h2, h3]
    · by_cases h2 : d = 34
      · subst h2
        by_cases h3 : n % 2 = 0 <;> simp [h3]
      · have h3 : ¬ (34 = d) := fun e => h2 e.symm
        simp [h2, h3]
  · cases quo
    · simp
    · by_cases h3 : n % 2 = 0 <;> simp [h3]
theorem sim (row : List Nat) : ∀ (l : List Nat) (init : List Str) (last : Str) (quo : Bool) (k : Nat),
    pfold ⟨init, last, false, quo⟩ (enc row k l ++ [34]) = toP (((l.map fun n => txt [n]) ++ [txt []]).foldl (dstep (rowS row)) ⟨init, last, quo, k⟩) := by
  intro l
  induction l with
  | nil =>
    intro init last quo k
    unfold enc
    rw [read_sign _ _ _ _ 34 (by decide)]
    show _ = toP (dstep (rowS row) ⟨init, last, quo, k⟩ (txt []))
    rw [dstep_sign row init last quo k [] 34 (by decide) (.inr ⟨rfl, rfl⟩), toP_toD (rstate_esc _ _ _ _ _)]
  | cons d l ih =>
    intro init last quo k
    unfold enc
    rw [List.map_cons, List.cons_append, List.foldl_cons]
    split
    · rename_i h
      subst h
      have hs : dstep (rowS row) ⟨init, last, quo, k⟩ (txt [92]) = ⟨init, last, quo, ((k + 1 : Nat) : Int)⟩ := by
        unfold dstep
        rw [e92]
        simp
      rw [hs]
      exact ih init last quo (k + 1)
    · rename_i hd
      rw [dstep_sign row init last quo k [d] d hd (.inl rfl)]
      have hesc := rstate_esc init last quo (cntN k [d] row) d
      have e : List.replicate (cntN k [d] row) 92 ++ d :: enc row 0 l ++ [34] = (List.replicate (cntN k [d] row) 92 ++ [d]) ++ (enc row 0 l ++ [34]) := by simp
      rw [e, pfold_append, read_sign _ _ _ _ d hd]
      generalize rstate init last quo (cntN k [d] row) d = s at hesc
      obtain ⟨r, p, e', q⟩ := s
      dsimp only at hesc
      subst hesc
      exact ih r p q 0
theorem tail_ca (s : DSt) : pitems (pfold (toP s) [44, 97]) = dparts s := by
  obtain ⟨init, last, quo, run⟩ := s
  unfold toP
  rw [pfold_cons, pfold_cons, pfold_nil]
  cases quo with
  | true =>
    have h1 : pstep ⟨init, last, false, true⟩ ((44 : Nat) : Int) = ⟨init, last ++ txt [44], false, true⟩ := by
      rw [pstep_code]
      simp
    rw [h1]
    have h2 : pstep ⟨init, last ++ txt [44], false, true⟩ ((97 : Nat) : Int) = ⟨init, last ++ txt [44] ++ txt [97], false, true⟩ := by
      rw [pstep_code]
      simp
    rw [h2]
    unfold pitems dparts
    have hl : ((last ++ txt [44] ++ txt [97]).length : Int) ≠ 0 := by
      rw [Str.length_append, Str.length_append]
      have : (txt [97]).length = 1 := rfl
      omega
    rw [if_pos hl, if_pos rfl, eca, Str.append_assoc, show txt [44] ++ txt [97] = txt [44, 97] from txt_append [44] [97]]
  | false =>
    have h1 : pstep ⟨init, last, false, false⟩ ((44 : Nat) : Int) = ⟨init ++ [last], txt [], false, false⟩ := by
      rw [pstep_code]
      simp
    rw [h1]
    have h2 : pstep ⟨init ++ [last], txt [], false, false⟩ ((97 : Nat) : Int) = ⟨init ++ [last], txt [97], false, false⟩ := by
      rw [pstep_code]
      simp only [if_false, Bool.false_eq_true]
      rw [if_neg (by decide), if_neg (by decide)]
      rfl
    rw [h2]
    unfold pitems dparts
    have hl : ((txt [97]).length : Int) ≠ 0 := by decide
    rw [if_pos hl, if_neg (fun e => nomatch e), e97]
/-- the law in plain words -/
theorem plain2 (x : Str) (row : List Nat) :
    parseF (Str.ofString "\"" ++ replF x ((rowS row).map fun a => (a, Str.ofString "\\" ++ a)) ++ Str.ofString "\",a") = dueF x (rowS row) := by
  unfold parseF dueF
  congr 1
  rw [prun_codes, Str.cps_append, Str.cps_append, Array.toList_append, Array.toList_append, repl_codes, e34, eqca, txt_list, txt_list]
  have e : [34] ++ enc row 0 x.cps.toList ++ [34, 44, 97] = [34] ++ (enc row 0 x.cps.toList ++ [34]) ++ [44, 97] := by simp
  rw [e, pfold_append, pfold_append]
  have h0 : pfold pinit [34] = ⟨[], txt [34], false, true⟩ := by
    rw [pfold_cons, pfold_nil, pstep_code]
    unfold pinit
    rw [e0]
    rfl
  rw [h0, sim]
  have hs : signs x ++ [Str.ofString ""] = (x.cps.toList.map fun n => txt [n]) ++ [txt []] := by rw [e0]; rfl
  rw [hs]
  have hd : dinit = ⟨[], txt [34], true, ((0 : Nat) : Int)⟩ := by unfold dinit; rw [e34]; rfl
  unfold drun
  rw [hd]
  exact tail_ca _
end Mine
end

section
open PySem PySem.W PyProof.Rows
namespace Mine
def okS (s : Str) : Prop := ∀ c ∈ s.cps.toList, c < 0x110000
theorem okS.strOk {s : Str} (h : okS s) : PyData.strOk s = true := by
  unfold PyData.strOk
  rw [Array.all_eq_true']
  intro c hc
  exact decide_eq_true (h c (by simpa using hc))
theorem okS.append {a b : Str} (ha : okS a) (hb : okS b) : okS (a ++ b) := by
  intro c hc
  rw [Str.cps_append, Array.toList_append] at hc
  exact (List.mem_append.mp hc).elim (ha c) (hb c)
theorem okS.sub {s : Str} (h : okS s) (i j : Nat) : okS (Builtin.Str.strSub s i j) := by
  intro c hc
  rw [StrLaws.strSub_toList] at hc
  exact h c (List.mem_of_mem_drop (List.mem_of_mem_take hc))
theorem okS.strip {s : Str} (h : okS s) : okS (Txt.strip s) := by
  unfold Txt.strip
  rw [PyProof.Rows.stripBy_eq]
  exact h.sub _ _
theorem okS_slash (k : Int) : okS (slash k) := by
  intro c hc
  unfold slash at hc
  rw [show Str.ofString "\\" = ⟨#[92]⟩ from by decide +kernel, mul_one_list] at hc
  rw [List.eq_of_mem_replicate hc]
  decide
theorem okS_dec {l : List Nat} (h : (l.all fun c => decide (c < 0x110000)) = true) : okS (txt l) := by
  intro c hc
  exact of_decide_eq_true (List.all_eq_true.mp h c hc)
def okD (s : DSt) : Prop := okS s.last ∧ ∀ p ∈ s.init, okS p
theorem dstep_ok {row : List Str} {s : DSt} {a : Str} (h : okD s) (ha : okS a) : okD (dstep row s a) := by
  obtain ⟨h1, h2⟩ := h
  have hq : okS (Str.ofString "\"") := by rw [e34]; exact okS_dec (by decide)
  have h0 : okS (Str.ofString "") := by rw [e0]; exact okS_dec (by decide)
  unfold dstep
  split
  · exact ⟨h1, h2⟩
  · dsimp only
    have hl : okS (s.last ++ slash (if s.quo = true then (countF s.run a row).fdiv 2 else countF s.run a row)) := h1.append (okS_slash _)
    split
    · refine ⟨h0, fun p hp => ?_⟩
      rcases List.mem_append.mp hp with hp | hp
      · exact h2 p hp
      · rw [List.mem_singleton.mp hp]; exact hl
    · refine ⟨hl.append ?_, h2⟩
      split
      · exact ha
      · exact hq
theorem dfold_ok {row : List Str} : ∀ (l : List Str) (s : DSt), okD s → (∀ a ∈ l, okS a) → okD (l.foldl (dstep row) s)
  | [], _, h, _ => h
  | a :: l, s, h, hl => dfold_ok l _ (dstep_ok h (hl a (.head _))) fun b hb => hl b (.tail _ hb)
theorem due_ok_str {x : Str} {row : List Str} (hx : okS x) : ∀ y ∈ dueF x row, PyData.strOk y = true := by
  have hq : okS (Str.ofString "\"") := by rw [e34]; exact okS_dec (by decide)
  have h0 : okS (Str.ofString "") := by rw [e0]; exact okS_dec (by decide)
  have hca : okS (Str.ofString ",a") := by rw [eca]; exact okS_dec (by decide)
  have ha : okS (Str.ofString "a") := by rw [e97]; exact okS_dec (by decide)
  have hd : okD (drun row (signs x ++ [Str.ofString ""])) := by
    refine dfold_ok _ _ ⟨hq, fun _ h => nomatch h⟩ fun a ha => ?_
    rcases List.mem_append.mp ha with ha | ha
    · unfold signs at ha
      obtain ⟨n, hn, rfl⟩ := List.mem_map.mp ha
      intro c hc
      have : c = n := by simpa using hc
      rw [this]
      exact hx n hn
    · rw [List.mem_singleton.mp ha]; exact h0
  intro y hy
  unfold dueF at hy
  obtain ⟨p, hp, rfl⟩ := List.mem_map.mp hy
  refine (okS.strip ?_).strOk
  generalize drun row (signs x ++ [Str.ofString ""]) = s at hd hp
  obtain ⟨d1, d2⟩ := hd
  unfold dparts at hp
  split at hp
  · rcases List.mem_append.mp hp with hp | hp
    · exact d2 p hp
    · rw [List.mem_singleton.mp hp]; exact d1.append hca
  · rcases List.mem_append.mp hp with hp | hp
    · rcases List.mem_append.mp hp with hp | hp
      · exact d2 p hp
      · rw [List.mem_singleton.mp hp]; exact d1
    · rw [List.mem_singleton.mp hp]; exact ha
end Mine
end

section
open PySem PySem.W PyProof.Rows
namespace Mine
def sgn2 (x : Int) : Str := Txt.item (Str.ofString "\\\", a") ((x.fdiv 5).fmod 5)
def sgn (x : Int) : Str := Txt.item (Str.ofString "\\\", a") (x.fmod 5)
theorem sgn_len (x : Int) : (sgn x).length = 1 := rfl
theorem one_weight {α : Type} (f : α → Str) (hf : ∀ a, (f a).length = 1) : ∀ l : List α, ((l.map f).map (·.length)).sum + (l.map f).length = 2 * l.length
  | [] => rfl
  | a :: r => by
    have := one_weight f hf r
    simp only [List.map_cons, List.sum_cons, List.length_cons, hf] at this ⊢
    omega
theorem rot3 {q i c d : Addr × Obj} {l : List (Addr × Obj)} : ∀ p ∈ i :: c :: d :: q :: l, p ∈ q :: i :: c :: d :: l := by
  intro p hp
  simp only [List.mem_cons] at hp ⊢
  rcases hp with h | h | h | h | h <;> simp [h]
/-- the rows of the law -/
def rowsOf (nm : List Str) : List (List Str) := (List.range (nm.length + 1)).map (fun k => nm.take k) ++ [[Str.ofString "\\", Str.ofString "\""], [Str.ofString "\"", Str.ofString "\\"]]
/-- a sign of the law -/
def IsSg (a : Str) : Prop := a = ⟨#[92]⟩ ∨ a = ⟨#[34]⟩ ∨ a = ⟨#[44]⟩ ∨ a = ⟨#[32]⟩ ∨ a = ⟨#[97]⟩
theorem IsSg.len {a : Str} (h : IsSg a) : a.length = 1 := by rcases h with rfl | rfl | rfl | rfl | rfl <;> rfl
theorem item_sg {i : Int} (h0 : 0 ≤ i) (h1 : i < 5) : IsSg (Txt.item (Str.ofString "\\\", a") i) := by
  have : i = 0 ∨ i = 1 ∨ i = 2 ∨ i = 3 ∨ i = 4 := by omega
  rcases this with rfl | rfl | rfl | rfl | rfl
  · exact .inl (by decide +kernel)
  · exact .inr (.inl (by decide +kernel))
  · exact .inr (.inr (.inl (by decide +kernel)))
  · exact .inr (.inr (.inr (.inl (by decide +kernel))))
  · exact .inr (.inr (.inr (.inr (by decide +kernel))))
theorem sgn_sg (x : Int) : IsSg (sgn x) := item_sg (fmod_lo _ (by decide)) (fmod_hi _ (by decide))
theorem sgn2_sg (x : Int) : IsSg (sgn2 x) := item_sg (fmod_lo _ (by decide)) (fmod_hi _ (by decide))
theorem rowsOf_ok {nm r : List Str} (hl : nm.length ≤ 3) (hs : ∀ a ∈ nm, IsSg a) (hr : r ∈ rowsOf nm) : r.length ≤ 3 ∧ ∀ a ∈ r, IsSg a := by
  rcases List.mem_append.mp hr with hr | hr
  · obtain ⟨k, _, rfl⟩ := List.mem_map.mp hr
    exact ⟨by rw [List.length_take]; omega, fun a ha => hs a (List.mem_of_mem_take ha)⟩
  · have e1 : Str.ofString "\\" = ⟨#[92]⟩ := by decide +kernel
    have e2 : Str.ofString "\"" = ⟨#[34]⟩ := by decide +kernel
    rw [e1, e2] at hr
    rcases List.mem_cons.mp hr with rfl | hr
    · refine ⟨by decide, fun a ha => ?_⟩
      rcases List.mem_cons.mp ha with rfl | ha
      · exact .inl rfl
      · exact .inr (.inl (List.mem_singleton.mp ha))
    · rw [List.mem_singleton.mp hr]
      refine ⟨by decide, fun a ha => ?_⟩
      rcases List.mem_cons.mp ha with rfl | ha
      · exact .inr (.inl rfl)
      · exact .inl (List.mem_singleton.mp ha)
def prsOf (r : List Str) : List (Str × Str) := r.map fun a => (a, Str.ofString "\\" ++ a)
theorem flatP_append : ∀ a b : List (Str × Str), flatP (a ++ b) = flatP a ++ flatP b
  | [], _ => rfl
  | (p, q) :: a, b => by
    show p :: q :: flatP (a ++ b) = p :: q :: (flatP a ++ flatP b)
    rw [flatP_append a b]
theorem prs_snoc (r : List Str) (a : Str) : flatP (prsOf (r ++ [a])) = flatP (prsOf r) ++ [a, Str.ofString "\\" ++ a] := by
  unfold prsOf
  rw [List.map_append, flatP_append]
  rfl
theorem sub_own {a b : Addr × Obj} {l own : List (Addr × Obj)} : ∀ p ∈ b :: l, p ∈ a :: b :: (l ++ own) := by
  intro p hp
  rcases List.mem_cons.mp hp with rfl | hp
  · exact .tail _ (.head _)
  · exact .tail _ (.tail _ (List.mem_append.mpr (.inl hp)))
theorem own_own {a b : Addr × Obj} {l own : List (Addr × Obj)} : ∀ p ∈ own, p ∈ a :: b :: (l ++ own) := fun p hp => .tail _ (.tail _ (List.mem_append.mpr (.inr hp)))
theorem prs_ok {r : List Str} (h : ∀ a ∈ r, IsSg a) : ∀ q ∈ prsOf r, q.1.length = 1 ∧ q.2.length ≤ 2 := by
  intro q hq
  obtain ⟨a, ha, rfl⟩ := List.mem_map.mp hq
  have h1 := (h a ha).len
  refine ⟨h1, ?_⟩
  show (Str.ofString "\\" ++ a).length ≤ 2
  rw [Str.length_append, h1]
  decide +kernel
theorem replF_len : ∀ (ps : List (Str × Str)) (x : Str), (∀ q ∈ ps, q.1.length = 1 ∧ q.2.length ≤ 2) → (replF x ps).length ≤ x.length * 2 ^ ps.length
  | [], x, _ => by simp [replF]
  | (p, r) :: q, x, h => by
    obtain ⟨h1, h2⟩ := h _ (.head _)
    have hl := rstep_len (x := x) h1 h2
    have := replF_len q (rstep x p r) (fun a ha => h a (.tail _ ha))
    show (replF (rstep x p r) q).length ≤ _
    have h3 : (rstep x p r).length * 2 ^ q.length ≤ 2 * x.length * 2 ^ q.length := Nat.mul_le_mul_right _ hl
    have h4 : x.length * 2 ^ ((p, r) :: q).length = 2 * x.length * 2 ^ q.length := by
      rw [List.length_cons, Nat.pow_succ]
      generalize 2 ^ q.length = z
      rw [Nat.mul_comm z 2, ← Nat.mul_assoc, Nat.mul_comm x.length 2]
    omega
theorem row_codes : ∀ {r : List Str}, (∀ a ∈ r, IsSg a) → ∃ row : List Nat, r = rowS row
  | [], _ => ⟨[], rfl⟩
  | a :: r, h => by
    obtain ⟨row, e⟩ := row_codes (r := r) fun b hb => h b (.tail _ hb)
    rcases h a (.head _) with e' | e' | e' | e' | e'
    · exact ⟨92 :: row, by rw [e, e']; rfl⟩
    · exact ⟨34 :: row, by rw [e, e']; rfl⟩
    · exact ⟨44 :: row, by rw [e, e']; rfl⟩
    · exact ⟨32 :: row, by rw [e, e']; rfl⟩
    · exact ⟨97 :: row, by rw [e, e']; rfl⟩
theorem law_plain {r : List Str} (hr : ∀ a ∈ r, IsSg a) (x : Str) : parseF (Str.ofString "\"" ++ replF x (prsOf r) ++ Str.ofString "\",a") = dueF x r := by
  obtain ⟨row, rfl⟩ := row_codes hr
  exact plain2 x row
theorem sg_ok {a : Str} (h : IsSg a) : okS a := by
  rcases h with rfl | rfl | rfl | rfl | rfl
  all_goals exact okS_dec (by decide)
theorem join_nil_eq {α : Type} (f : α → Str) : ∀ l : List α, Txt.join (Str.ofString "") (l.map f) = ⟨(l.flatMap fun a => (f a).cps.toList).toArray⟩ := by
  intro l
  unfold Txt.join
  rw [StrLaws.glued_eq_join]
  have e0 : Str.ofString "" = Str.empty := by decide +kernel
  rw [e0]
  induction l with
  | nil => rfl
  | cons a r ih =>
    cases r with
    | nil =>
      show f a = _
      apply Str.ext'
      apply Array.toList_inj.mp
      simp
    | cons b r =>
      show f a ++ Str.empty ++ Str.join Str.empty (List.map f (b :: r)) = _
      rw [ih, Str.append_empty]
      apply Str.ext'
      apply Array.toList_inj.mp
      rw [Str.cps_append, Array.toList_append]
      simp
theorem join_nil_len {α : Type} (f : α → Str) (hf : ∀ a, (f a).length = 1) (l : List α) : (Txt.join (Str.ofString "") (l.map f)).length = l.length := by
  rw [join_nil_eq]
  show ((l.flatMap fun a => (f a).cps.toList).toArray).size = _
  rw [List.size_toArray]
  induction l with
  | nil => rfl
  | cons a r ih =>
    have := hf a
    have h1 : (f a).cps.toList.length = 1 := by simpa [Str.length] using this
    rw [List.flatMap_cons, List.length_append, h1, ih, List.length_cons]
    omega
theorem text_ok (cs : List Int) : okS (Txt.join (Str.ofString "") (cs.map sgn) ++ Str.ofString "\\\",a\" ,") := by
  refine okS.append ?_ ?_
  · rw [join_nil_eq]
    intro c hc
    obtain ⟨x, _, hx⟩ := List.mem_flatMap.mp hc
    exact sg_ok (sgn_sg x) c hx
  · rw [show Str.ofString "\\\",a\" ," = txt [92, 34, 44, 97, 34, 32, 44] from by decide +kernel]
    exact okS_dec (by decide)
end Mine
open Mine
local macro_rules | `(tactic| k_mem) => `(tactic| (refine List.mem_append.mpr (.inr ?_); k_mem))
local macro_rules | `(tactic| k_memK) => `(tactic| (refine List.mem_append.mpr (.inr ?_); k_memK))
set_option maxRecDepth 100000 in
set_option maxHeartbeats 8000000 in
theorem PySem.Challenge.cw_mq0075_02_holds : PySem.Challenge.rw_mq0075_02.Holds :=
  Mine.hd (by
    k_with_none
    k_go0
    all_goals try k_fold
    iterate 24 (first | (k_unfold; (try dsimp only)) | walk1 | (dsimp only; walk1))
    rename IntsAre _ (List.map _ _) => hI0
    obtain ⟨cs, hI1, hcl⟩ : ∃ cs : List Int, IntsAre ys cs ∧ cs.length ≤ 6 := ⟨_, hI0, by rw [List.length_map, List.length_take]; omega⟩
    clear hI0
    have hyl := hI1.length
    k_with "eval ListComp" => (k_here; k_dflt (refine LCg.ListComp_U (F₀ := by k_asm) (by with_unfolding_all rfl) (by decide) (by rfl) (by decide) (by rfl) ?_))
    k_with "CompSrc" => (k_here; k_dflt (refine LCg.CompSrc.ledger (by rfl) (by k_asm) (by k_asm) (by first | k_memK | assumption) ?_ ?_); rotate_left; intro g')
    k_steps
    rotate_left
    · rw [List.size_toArray, PySem.sizeLine_eq]; omega
    refine comp_ints sgn hI1 (fun k' t' I' oI' C' oC' D' m' ys' h' tk' E' hk' hC' hx' F' N' off' ne' mk' => ?_) (fun ys' hys' => ?_)
    · k_steps
      exact Hid.mk (LCg.CompEnd.intro (by k_asm) N' _ (fun _ h => h) off' (.inr ⟨_, by k_memK, rfl, _, rfl⟩) ⟨rfl, _, rfl⟩)
    unfold LCg.FinE; intro D9 h9 tk9 F9 N9 off9; dsimp only
    simp only [LCg.Off1, and_true] at off9
    k_with "call builtin:str.join" => (k_dflt (refine join_listW (News.isList (by k_asm) (by k_memK)) hys' (by decide +kernel) (by rw [one_weight sgn sgn_len]; omega) ?_); intro tj kj; (have hXl := join_nil_len sgn sgn_len cs); generalize hX : Txt.join (Str.ofString "") (List.map sgn cs) = X at hXl ⊢)
    k_steps
    rotate_left
    · rename IntsAre _ (List.take _ cs) => hI2
      rw [List.size_toArray, hI2.length, List.length_take, PySem.sizeLine_eq]; omega
    rename IntsAre _ (List.take _ cs) => hI2
    refine comp_ints sgn2 hI2 (fun k' t' I' oI' C' oC' D' m' ys' h' tk' E' hk' hC' hx' F' N' off' ne' mk' => ?_) (fun zs hzs => ?_)
    · k_steps
      exact Hid.mk (LCg.CompEnd.intro (by k_asm) N' _ (fun _ h => h) off' (.inr ⟨_, by k_memK, rfl, _, rfl⟩) ⟨rfl, _, rfl⟩)
    unfold LCg.FinE; intro D8 h8 tk8 F8 N8 off8; dsimp only
    simp only [LCg.Off1, and_true] at off8
    obtain ⟨nm, hnm, hnl, hns⟩ : ∃ nm : List Str, StrsAre zs nm ∧ nm.length ≤ 3 ∧ ∀ a ∈ nm, IsSg a := ⟨_, hzs, by rw [List.length_map, List.length_take]; omega, by intro a ha; obtain ⟨k, _, e⟩ := List.mem_map.mp ha; rw [← e]; exact sgn2_sg k⟩
    clear hzs hI2
    have hzl := hnm.length
    k_with "subscriptTail Name Slice ref ref" => (k_dflt (refine kmk_slice_lit (by k_asm) (by k_asm) (News.isList (by k_asm) (by k_memK)) .none (.int _ _) (pick_upto _ (by omega)) ?_ (by with_unfolding_all rfl) (by intro _; with_unfolding_all rfl) (by rw [List.size_toArray, PySem.sizeLine_eq]; omega)); intro D7 h7 F7 N7 l7)
    k_with "CompSrc" => (k_here; k_dflt (refine LCg.CompSrc.range (by rfl) (by k_asm) (by k_asm) (by assumption) (small_one (by omega) (by omega) (by omega) (by omega)) (rangeSize_nat _ _) (by rw [PySem.sizeLine_eq]; omega) ?_); intro g'; refine comp_rows (fun k => nm.take k) (fun k' t' I' oI' C' oC' D' m' ys' h' tk' E' tl' hk' hC' hx' F' N' off' ne' mk' => ?_) (fun rv tl hrv => ?_))
    k_with "binaryOp Add ref ref" => (k_dflt (refine kmk_add_lit (by k_asm) (by k_asm) (News.isList (by k_asm) (by k_memK)) (News.isList (by k_asm) (by k_memK)) rfl ?_ (by have := hrv.1; simp only [List.length_map, List.length_range, List.length_cons, List.length_nil, PySem.sizeLine_eq] at *; omega)); intro DR hR FR NR lR)
    k_steps
    · refine Hid.mk (LCg.CompEnd.intro F7 N7 ((D7, W.listOf _ 0) :: (tl' ++ _)) rot3 ⟨⟨fun e => absurd (l7 _ (.head _)) (by dsimp only at e ⊢; rw [e]; exact Nat.lt_irrefl _), fun e => absurd (l7 _ (.tail _ (.head _))) (by dsimp only at e ⊢; rw [e]; exact Nat.lt_irrefl _), fun e => absurd (l7 _ (.tail _ (.tail _ (.head _)))) (by dsimp only at e ⊢; rw [e]; exact Nat.lt_irrefl _)⟩, off'⟩ trivial ⟨D7, _, _, rfl, ?_, rfl⟩)
      have e0 : (0 + (k' : Int)).toNat = k' := by omega
      rw [e0]
      exact strs_take (by assumption) k'
    rename Fr _ _ _ _ => FL
    rename News _ _ _ _ => NL
    obtain ⟨cnt, hrv, hcnt⟩ : ∃ cnt : Nat, RowsAt _ rv ((List.range cnt).map (fun k => nm.take k)) ∧ cnt = nm.length + 1 := ⟨_, hrv, by omega⟩
    subst hcnt
    obtain ⟨NW, rv2, NL1, hmem, hrows⟩ : ∃ (NW : List (Addr × Obj)) (rv2 : List Value), News _ _ _ NW ∧ (DR, W.listOf rv2.toArray 0) ∈ NW ∧ RowsAt NW rv2 (rowsOf nm) :=
      ⟨_, _, NL, .head _, (hrv.mono fun p hp => .tail _ (.tail _ (.tail _ (.tail _ (.tail _ hp))))).append ((RowsAt.one ⟨_, _, _, rfl, .tail _ (.tail _ (.tail _ (.head _))), .cons _ _ (.cons _ _ .nil)⟩).append (RowsAt.one ⟨_, _, _, rfl, .tail _ (.tail _ (.head _)), .cons _ _ (.cons _ _ .nil)⟩))⟩
    k_with_none
    refine' loop_vals (as := rowsOf nm) (vs := rv2) (σ := Unit) (RowAt NW) (fun _ => NW) (fun _ => []) [Str.ofString "pairs", Str.ofString "sign", Str.ofString "header"] (fun _ _ => True) () hrows.1 hrows.2 (by rfl) (fun _ => hmem) ?hF ?hN ?hk trivial ?turn ?fin
    case hF => exact FL
    case hN => exact NL1
    case hk => exact fun _ h => nomatch h
    case turn =>
      clear NL NL1 FL
      rintro ⟨⟩ pre post r v u h tk own e hV hmark hoff _ F2 N2
      obtain ⟨a, vs, n, rfl, hm, hS⟩ := hV
      obtain ⟨hrl, hrs⟩ := rowsOf_ok hnl hns (by rw [e]; exact List.mem_append.mpr (.inr (.head _)))
      dsimp only [kstB] at F2 N2 hoff ⊢
      k_steps
      rename_i lp hA FA NA hlp hB FB NB
      refine' loop_strs (vs := vs) (ss := r) (σ := List Value × Nat) (fun c => (lp, W.listOf c.1.toArray c.2) :: (NW ++ own)) (fun _ => []) [] (fun pre c => StrsAre c.1 (flatP (prsOf pre))) ([], 0) hS (by rfl) (fun _ => .tail _ (List.mem_append.mpr (.inl hm))) ?hF2 ?hN2 ?hk2 ?hp2 ?turn2 ?fin2
      case hF2 => exact FB
      case hN2 => exact NB
      case hk2 => exact fun _ h => nomatch h
      case hp2 => exact .nil
      case turn2 =>
        clear FA NA FB NB
        rintro ⟨pv, cap⟩ pre2 post2 sg t2 u2 h2 tk2 own2 e2 hmark2 hoff2 hP2 F2 N2
        dsimp only [kstB] at hP2 F2 N2 hoff2 ⊢
        simp only [List.cons_append] at N2
        simp only [List.map_cons] at hoff2
        have hsg := (hrs sg (by rw [e2]; exact List.mem_append.mpr (.inr (.head _)))).len
        have hpl2 : pv.length ≤ 6 := by rw [hP2.length, flatP_len, prsOf, List.length_map]; rw [e2, List.length_append] at hrl; omega
        have hlp2 := allLt_of hlp
        k_with "call builtin:list.extend" => (k_dflt (refine kl_extend (by k_asm) (by k_asm) (.head _) rfl (by exact Nat.succ_ne_zero _) (by k_upd) (extend_door (by simp only [List.size_toArray, List.length_cons, List.length_nil]; rw [PySem.sizeLine_eq]; omega)) (by simp only [List.length_cons, List.length_nil]; rw [PySem.sizeLine_eq]; omega) (by simp only [List.size_toArray, List.length_cons, List.length_nil]; rw [PySem.sizeLine_eq]; omega) ?_); intro h6 F6 N6)
        k_steps
        refine Hid.mk ?_; dsimp only [InvPostG]
        rename Fr _ _ _ _ => F3; rename News _ _ _ _ => N3
        refine lst_end (_, _) F3 N3 sub_own own_own hoff2 (fun _ h => nomatch h) (by kst_same) ?_ (.tail _ (List.mem_append.mpr (.inl hm)))
        dsimp only
        rw [prs_snoc]
        exact hP2.append' (.cons _ _ (.cons _ _ .nil))
      case fin2 =>
        clear FA NA FB NB
        rintro ⟨pv, cap⟩ u2 h2 tk2 hmark2 hP2 F2 N2
        dsimp only [kstB] at hP2 F2 N2 ⊢
        have hpv6 : pv.length ≤ 6 := by rw [hP2.length, flatP_len, prsOf, List.length_map]; omega
        have hT7 : (Str.ofString "\\\",a\" ,").length = 7 := by decide +kernel
        have hTl : (X ++ Str.ofString "\\\",a\" ,").length ≤ 13 := by rw [Str.length_append]; omega
        have hLaw := law_plain hrs (X ++ Str.ofString "\\\",a\" ,")
        have hOk := due_ok_str (row := r) (text_ok cs)
        rw [hX] at hOk
        generalize hT : X ++ Str.ofString "\\\",a\" ,"  = T at *
        have hq1 := prs_ok hrs
        have hq2 : (prsOf r).length ≤ 3 := by rw [prsOf, List.length_map]; exact hrl
        have hq3 : 2 ^ (prsOf r).length ≤ 8 := Nat.pow_le_pow_right (by decide) hq2
        have hq4 : T.length * 2 ^ (prsOf r).length ≤ 13 * 8 := Nat.mul_le_mul hTl hq3
        have hq5 := replF_len (prsOf r) T hq1
        have hq6 : (replF T (prsOf r)).length ≤ 104 := by omega
        have hq7 : (Str.ofString "\"" ++ replF T (prsOf r) ++ Str.ofString "\",a").length ≤ 100000 := by
          have h1 : (Str.ofString "\"").length = 1 := by decide +kernel
          have h3 : (Str.ofString "\",a").length = 3 := by decide +kernel
          rw [Str.length_append, Str.length_append]
          omega
        clear hq5 hq3
        k_with "StarOf" => (k_dflt (refine star_seq (by k_asm) (by k_asm) (.head _) rfl rfl (.inl rfl) rfl (by rw [List.size_toArray, PySem.sizeLine_eq]; omega) ?_); intro h6 F6 N6)
        k_with "call ref" => ((try simp only [List.append_nil]); k_dflt (refine repl_ok T _ (prsOf r) _ (by assumption) (by assumption) (by omega) (by omega) _ _ _ _ _ _ _ _ _ _ _ _ _ _ _ _ _ _ (by k_asm) (by k_asm) (by k_asm) (by k_asm) (by k_asm) rfl (by ktr_room) (by ktr_units) ?_); intro t5 h5 tk5 F5 N5)
        k_with "call ref" => (k_dflt (refine parse_ok _ _ (by assumption) _ _ _ _ _ _ _ _ _ _ _ _ _ _ _ _ _ _ (by k_asm) (by k_asm) (by k_asm) (by k_asm) (by k_asm) rfl (by ktr_room) (by ktr_units) ?_); intro q4 vs4 h4 tk4 hS4 F4 N4 off4)
        k_with "call ref" => (k_dflt (refine due_ok _ _ (by omega) a vs n r (by assumption) (by assumption) _ _ _ _ _ _ _ _ _ _ _ _ _ _ _ _ _ _ (by k_asm) (by k_asm) (by k_asm) (by k_asm) (by k_asm) rfl (by ktr_room) (by ktr_units) (by kst_mem) ?_); intro q3 vs3 h3 tk3 hS3 F3 N3 off3)
        k_with "compareOp NotEq ref ref" => (k_dflt (refine ne_strs (News.isList (by k_asm) (.tail _ (.head _))) (News.isList (by k_asm) (.head _)) hS4 hS3 (by ke_room) (by rw [hLaw]; exact hOk) hOk ?_); simp only [hLaw, decide_true, Bool.not_true])
        k_steps
        refine Hid.mk ?_; dsimp only [InvPostG]
        rename Fr _ _ _ _ => F3; rename News _ _ _ _ => N3
        refine lst_end () F3 N3 (by intro p hp; kst_mem) (by intro p hp; kst_mem) hoff (fun _ h => nomatch h) (by kst_same) trivial hmem
    case fin =>
      clear NL NL1 FL
      rintro ⟨⟩ u h tk hmark _ F2 N2
      dsimp only [kstB] at F2 N2 ⊢
      k_steps
      all_goals (try k_data)
      all_goals w_report)
end

