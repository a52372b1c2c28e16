import PyProof.Rows.All
import Wide.All
import OpenK.AllK
import Wide.FinOn
import Lean
import PySem.Challenge.RW_mq0075_01
set_option Elab.async false
set_option linter.unusedVariables false
set_option linter.unusedSimpArgs false

section
open PySem PySem.W PyProof.Rows
namespace Mine
set_option maxRecDepth 100000 in
set_option maxHeartbeats 8000000 in
open_top hd for PySem.Challenge.rw_mq0075_01
end Mine
end

open PySem PySem.W PyProof.Rows in
local macro_rules | `(tactic| walk_at $s:str) => `(tactic| k_extra $s)

section
open PySem PySem.W PyProof.Rows
namespace Mine
/-- an end that the walk leaves to the hand -/
structure Hid (P : Prop) : Prop where
  out : P

section
variable {prog : Program} {w : World} {A : Around} {E : Value → Shared → Prop} {s : Shared} {env : Env} {h₀ : Heap} {x : PySem.Str} {body : List Stmt} {Q : Flow → Shared → Prop}
/-- a loop over a text, the turn's end left to the hand -/
theorem loop_text {σ : Type} {xt : PySem.Str} {tx : Tok} {m₀ : PySem.Str → Option Value} (Led : σ → List (Addr × Obj)) (ps : σ → List (PySem.Str × Value)) (stored : List PySem.Str) (P : List Int → σ → Prop) (c₀ : σ)
    (hh : A.handled = none) (F : Fr h₀ env.locals s.heap m₀) (N : News h₀ env.locals s.heap (Led c₀)) (hk : ∀ p ∈ ps c₀, m₀ p.1 = some p.2) (hp : P [] c₀)
    (turn : ∀ (c : σ) (pre post : List Int) (n : Nat) t (u : PySem.Str → Option Value) h tk own, KStt.codes xt = pre ++ (n : Int) :: post → KstMark → OwnOff own ((Led c₀).map (·.1)) → P pre c →
      Fr h₀ env.locals h (fun y => if y = x then some (.str ⟨#[n]⟩ t) else kstB (fun z => if stored.contains z then u z else m₀ z) (ps c) y) → News h₀ env.locals h (Led c ++ own) →
      wpAny (model prog w) A (execs body env) (fun f s₂ => Hid (InvPostN h₀ env.locals (KstS Led ps (fun _ => True) x stored m₀ P (pre ++ [(n : Int)])) own ((Led c₀).map (·.1)) { s with heap := h, toks := tk } Q f s₂)) E { s with heap := h, toks := tk })
    (done : ∀ (c : σ) (u : PySem.Str → Option Value) h tk, P (KStt.codes xt) c → Fr h₀ env.locals h (fun y => if y = x then u y else kstB (fun z => if stored.contains z then u z else m₀ z) (ps c) y) → News h₀ env.locals h (Led c) → Q .next { s with heap := h, toks := tk }) :
    wpAny (model prog w) A (pyIter (.str xt tx)) (fun it s₂ => LoopAtV prog w A h₀ env x body Q E it s₂) E s := by
  refine KStt.kst_text Led ps (fun _ => True) stored P c₀ hh F N trivial hk hp ?_ ?_
  · intro c pre post n t u h tk own e hoff _ hP F₁ N₁
    exact wpAny_mono (turn c pre post n t u h tk own e kstMark hoff hP F₁ N₁) (fun f s₂ p => p.out) fun _ _ e => e
  · intro c u h tk _ hP F₁ N₁
    exact done c u h tk hP F₁ N₁
end
section
variable {prog : Program} {w : World} {A : Around} {h₀ : Heap} {L : Addr} {m : Str → Option Value} {env : Env} {elt : Expr} {x : Str} {scope : Scope} {cl : List (Str × Addr)} {s : Shared} {S : List (Addr × Obj) → Prop} {P : Nat → Value → Prop} {Fin : List Value → List (Addr × Obj) → Prop} {news : List (Addr × Obj)}
/-- a comprehension whose element is a text -/
theorem comp_rest {α : Type} {n : Nat} {ks : List α} (Val : α → Value → Prop) (g : α → Str) (hks : ks.length = n) (hP : ∀ i v, i < n → P i v → ∃ k, ks[i]? = some k ∧ Val k v)
    (turn : ∀ k v I oI C oC D m₂ ys h tk (E' : Value → Shared → Prop), k ∈ ks → Val k v → LCg.NsObj oC m₂ → m₂ x = some v → Fr h₀ L h m → News h₀ L h ((I, oI) :: (C, oC) :: (D, LCg.lst ys) :: news) → LCg.Off3 I C D news → ((@Ne Nat I C) ∧ (@Ne Nat I D) ∧ (@Ne Nat C D)) → KPfMark →
      wpAny (model prog w) A (eval elt (compEnvC scope cl C env)) (fun y s₂ => Hid (LCg.CompEnd h₀ L m { s with heap := h, toks := tk } I oI C oC D (LCg.lst ys) S (fun y news' => KCtEl news (g k) y news') y s₂)) E' { s with heap := h, toks := tk })
    (fin : ∀ ys, StrsAre ys (ks.map g) → Fin ys news) : LCg.CompRest prog w A h₀ L m env elt x scope cl s S P Fin n 0 [] news := by
  have key : ∀ (j i : Nat) (ys : List Value), i + j = n → StrsAre ys ((ks.take i).map g) → LCg.CompRest prog w A h₀ L m env elt x scope cl s S P Fin j i ys news := by
    intro j
    induction j with
    | zero =>
      intro i ys hi hy
      have e : i = ks.length := by omega
      subst e
      rw [List.take_length] at hy
      exact LCg.CompRest.zero (fin ys hy)
    | succ j ih =>
      intro i ys hi hy
      refine LCg.CompRest.succ ?_
      intro v I oI C oC D m₂ h tk E' hv hC hx F N off ne
      obtain ⟨k, hk, hv'⟩ := hP i v (by omega) hv
      refine wpAny_mono (turn k v I oI C oC D m₂ ys h tk E' (List.mem_of_getElem? hk) hv' hC hx F N off ne True.intro) (fun y s₂ hq => ?_) fun _ _ e => e
      obtain ⟨h', tk', nw, e, F', N', off', hS, hn, t', hy'⟩ := hq.out
      rw [hn] at N' off' hS
      refine ⟨h', tk', news, e, F', N', off', hS, ?_⟩
      rw [hy']
      refine ih (i + 1) _ (by omega) ?_
      rw [List.take_add_one, hk]
      simpa using kct_snoc hy
  exact key n 0 [] (by omega) (by simp only [List.take_zero, List.map_nil]; exact .nil)
theorem strs_at {vs : List Value} {ys : List Str} (h : StrsAre vs ys) : ∀ (i : Nat) (v : Value), vs[i]? = some v → ∃ y, ys[i]? = some y ∧ ∃ t : Tok, v = Value.str y t := by
  induction h with
  | nil => intro i v h; simp at h
  | cons y t r ih =>
    intro i v h
    cases i with
    | zero => simp at h; exact ⟨y, rfl, t, h.symm⟩
    | succ i => simp at h; simpa using ih i v h
/-- over a list of texts -/
theorem comp_strs {vs : List Value} {ss : List Str} (g : Str → Str) (hi : StrsAre vs ss)
    (turn : ∀ k t I oI C oC D m₂ ys h tk (E' : Value → Shared → Prop), k ∈ ss → LCg.NsObj oC m₂ → m₂ x = some (.str k t) → Fr h₀ L h m → News h₀ L h ((I, oI) :: (C, oC) :: (D, LCg.lst ys) :: news) → LCg.Off3 I C D news → ((@Ne Nat I C) ∧ (@Ne Nat I D) ∧ (@Ne Nat C D)) → KPfMark →
      wpAny (model prog w) A (eval elt (compEnvC scope cl C env)) (fun y s₂ => Hid (LCg.CompEnd h₀ L m { s with heap := h, toks := tk } I oI C oC D (LCg.lst ys) S (fun y news' => KCtEl news (g k) y news') y s₂)) E' { s with heap := h, toks := tk })
    (fin : ∀ ys, StrsAre ys (ss.map g) → Fin ys news) : LCg.CompRest prog w A h₀ L m env elt x scope cl s S (fun i v => vs.toArray[i]? = some v) Fin vs.toArray.size 0 [] news :=
  comp_rest (ks := ss) (fun k v => ∃ t : Tok, v = Value.str k t) g (by rw [List.size_toArray]; exact hi.length.symm) (fun i v _ hv => strs_at hi i v (by simpa using hv))
    (fun k v I oI C oC D m₂ ys h tk E' hk hv hC hx F N off ne mk => by
      obtain ⟨t, rfl⟩ := hv
      exact turn k t I oI C oC D m₂ ys h tk E' hk hC hx F N off ne mk) fin
/-- over a list of ints -/
theorem comp_ints {vs : List Value} {ns : List Int} (g : Int → Str) (hi : IntsAre vs ns)
    (turn : ∀ k t I oI C oC D m₂ ys h tk (E' : Value → Shared → Prop), k ∈ ns → LCg.NsObj oC m₂ → m₂ x = some (.int k t) → Fr h₀ L h m → News h₀ L h ((I, oI) :: (C, oC) :: (D, LCg.lst ys) :: news) → LCg.Off3 I C D news → ((@Ne Nat I C) ∧ (@Ne Nat I D) ∧ (@Ne Nat C D)) → KPfMark →
      wpAny (model prog w) A (eval elt (compEnvC scope cl C env)) (fun y s₂ => Hid (LCg.CompEnd h₀ L m { s with heap := h, toks := tk } I oI C oC D (LCg.lst ys) S (fun y news' => KCtEl news (g k) y news') y s₂)) E' { s with heap := h, toks := tk })
    (fin : ∀ ys, StrsAre ys (ns.map g) → Fin ys news) : LCg.CompRest prog w A h₀ L m env elt x scope cl s S (fun i v => vs.toArray[i]? = some v) Fin vs.toArray.size 0 [] news :=
  comp_rest (ks := ns) (fun k v => ∃ t : Tok, v = Value.int k t) g (by rw [List.size_toArray]; exact hi.length.symm) (fun i v _ hv => by
      obtain ⟨k, t, e, hk⟩ := IntsAre.at hi i v (by simpa using hv)
      exact ⟨k, hk, t, e⟩)
    (fun k v I oI C oC D m₂ ys h tk E' hk hv hC hx F N off ne mk => by
      obtain ⟨t, rfl⟩ := hv
      exact turn k t I oI C oC D m₂ ys h tk E' hk hC hx F N off ne mk) fin
end
section
variable {prog : Program} {w : World} {A : Around} {E : Value → Shared → Prop} {Q : Flow → Shared → Prop} {s : Shared} {env : Env} {h₀ : Heap} {L : Addr}
/-- a while by its state, the turn's end left to the hand -/
theorem loop_while {σ : Type} {test : Expr} {body : List Stmt} {pos : Pos} {m₀ : Str → Option Value} (Led : σ → List (Addr × Obj)) (ps : σ → List (Str × Value)) (stored : List Str) (P : σ → Prop) (μ : σ → Nat) (c₀ : σ)
    (F : Fr h₀ L s.heap m₀) (N : News h₀ L s.heap (Led c₀)) (hk : ∀ p ∈ ps c₀, m₀ p.1 = some p.2) (hp : P c₀)
    (turn : ∀ (c : σ) (u : Str → Option Value) h tk, KstMark → P c → Fr h₀ L h (kstB (fun z => if stored.contains z then u z else m₀ z) (ps c)) → News h₀ L h (Led c) →
      wpAny (model prog w) A (isTrue test env (eval test env)) (fun b s₂ =>
        if b = true then wpAny (model prog w) A (execs body env) (fun f s₃ => Hid (KswPost h₀ L s Led ps (fun _ => True) stored m₀ P μ Q c f s₃)) E s₂ else Q .next s₂) E { s with heap := h, toks := tk })
    (hE : PassesOwn (model prog w) A env E) :
    wpAny (model prog w) A (exec (.While test body [] pos) env) Q E s := by
  refine ksw_while Led ps (fun _ => True) stored P μ c₀ F N trivial hk hp ?_ hE
  intro c u h tk _ hP F₁ N₁
  refine wpAny_mono (turn c u h tk kstMark hP F₁ N₁) (fun b s₂ p => ?_) fun _ _ e => e
  cases b with
  | false => exact p
  | true =>
    simp only [if_true] at p ⊢
    exact wpAny_mono p (fun f s₃ q => q.out) fun _ _ e => e
end
theorem newTuple_ok (vs : List Value) (h : vs.length ≤ sizeLine) : newTuple vs = newObjAsIs (.type "tuple") (.seq vs.toArray) := by
  unfold newTuple newObj
  simp only [List.size_toArray]
  rw [if_neg (by omega)]
/-- a def of one parameter and a star: what is bound -/
theorem rest_peek {K : Frag} {S : Setting} {fd : FuncData} {x : Value} {vs : List Value} {f : Value → List (Str × Value)}
    (hv : vs.length ≤ sizeLine) (e : ∀ vs, peek1 K S (bindArgs fd ⟨x :: vs, []⟩) = peek1 K S (newTuple vs >>= fun t => pure (f t))) :
    peek1 K S (bindArgs fd ⟨x :: vs, []⟩) = some (({ cls := .type "tuple", data := .seq vs.toArray } : Obj), fun D => some (f (.ref D))) := by
  rw [e, newTuple_ok vs hv]
  rfl
theorem seqIdx_nat {k n : Nat} (h : k < n) : seqIndex? (k : Int) n = some k := by
  unfold seqIndex?
  simp
  omega
section
variable {prog : Program} {w : World} {A : Around} {E : Value → Shared → Prop} {s : Shared} {env : Env} {h₀ : Heap} {x : PySem.Str} {body : List Stmt} {Q : Flow → Shared → Prop}
/-- the state of a loop over a list of the ledger -/
def LSt {α σ : Type} (Led : σ → List (Addr × Obj)) (ps : σ → List (Str × Value)) (x : Str) (stored : List Str) (m₀ : Str → Option Value) (P : List α → σ → Prop) (pre : List α) (m : Str → Option Value) (nx : List (Addr × Obj)) : Prop :=
  ∃ c : σ, nx = Led c ∧ (∀ p ∈ ps c, m p.1 = some p.2) ∧ (∀ z, z ≠ x → (∀ p ∈ ps c, z ≠ p.1) → stored.contains z = false → m z = m₀ z) ∧ P pre c
theorem lst_end {α σ : Type} {Led : σ → List (Addr × Obj)} {ps : σ → List (Str × Value)} {stored : List Str} {m₀ : Str → Option Value} {P : List α → σ → Prop} {pre : List α} {M : (Str → Option Value) → List (Addr × Obj) → Prop} (c : σ) {L : Addr} {m' : Str → Option Value} {own news' : List (Addr × Obj)} {s₁ : Shared} {h' : Heap} {tk : Nat}
    (F : Fr h₀ L h' m') (N : News h₀ L h' news') (hn : ∀ p ∈ Led c, p ∈ news') (ho : ∀ p ∈ own, p ∈ news') (ha : OwnOff own ((Led c).map (·.1))) (hk : ∀ p ∈ ps c, m' p.1 = some p.2) (hr : ∀ z, z ≠ x → (∀ p ∈ ps c, z ≠ p.1) → stored.contains z = false → m' z = m₀ z) (hp : P pre c)
    (hM : M m' (Led c)) : InvEndG h₀ L (fun m nx => M m nx ∧ LSt Led ps x stored m₀ P pre m nx) own s₁ { s₁ with heap := h', toks := tk } :=
  ⟨h', tk, m', news', Led c, rfl, F, N, hn, ho, ha, hM, c, rfl, hk, hr, hp⟩
theorem loop_vals {α σ : Type} {l : Addr} {vs : List Value} {as : List α} {nn : Nat} {m₀ : PySem.Str → Option Value} (Val : α → Value → Prop) (Led : σ → List (Addr × Obj)) (ps : σ → List (PySem.Str × Value)) (stored : List PySem.Str) (P : List α → σ → Prop) (c₀ : σ)
    (hlen : vs.length = as.length) (hv : ∀ (i : Nat) (v : Value), vs[i]? = some v → ∃ a, as[i]? = some a ∧ Val a v)
    (hh : A.handled = none) (hl : ∀ c : σ, (l, W.listOf vs.toArray nn) ∈ Led c) (F : Fr h₀ env.locals s.heap m₀) (N : News h₀ env.locals s.heap (Led c₀)) (hk : ∀ p ∈ ps c₀, m₀ p.1 = some p.2) (hp : P [] c₀)
    (turn : ∀ (c : σ) (pre post : List α) (a : α) v (u : PySem.Str → Option Value) h tk own, as = pre ++ a :: post → Val a v → KstMark → OwnOff own ((Led c).map (·.1)) → P pre c →
      Fr h₀ env.locals h (fun y => if y = x then some v else kstB (fun z => if stored.contains z then u z else m₀ z) (ps c) y) → News h₀ env.locals h (Led c ++ own) →
      wpAny (model prog w) A (execs body env) (fun f s₂ => Hid (InvPostG h₀ env.locals (fun m nx => (l, W.listOf vs.toArray nn) ∈ nx ∧ LSt Led ps x stored m₀ P (pre ++ [a]) m nx) own { s with heap := h, toks := tk } Q f s₂)) E { s with heap := h, toks := tk })
    (fin : ∀ (c : σ) (u : PySem.Str → Option Value) h tk, KstMark → P as c → Fr h₀ env.locals h (fun y => if y = x then u y else kstB (fun z => if stored.contains z then u z else m₀ z) (ps c) y) → News h₀ env.locals h (Led c) → Q .next { s with heap := h, toks := tk }) :
    wpAny (model prog w) A (pyIter (.ref l)) (fun it s₂ => LoopAtV prog w A h₀ env x body Q E it s₂) E s := by
  refine kdl_iter (news := Led c₀) (fun i m nx => LSt Led ps x stored m₀ P (as.take i) m nx) hh (hl c₀) F N ⟨c₀, rfl, hk, fun _ _ _ _ => rfl, by simpa using hp⟩ ?_ ?_
  · rintro i v m₁ nx h tk own hvi hoff _ ⟨c, rfl, h1, h2, hp'⟩ F₁ N₁
    obtain ⟨a, ha, hV⟩ := hv i v hvi
    have hs : as.take (i + 1) = as.take i ++ [a] := by simp [List.take_add_one, ha]
    have e : as = as.take i ++ a :: as.drop (i + 1) := by
      have ht := List.take_append_drop (i + 1) as
      rw [hs, List.append_assoc] at ht
      exact ht.symm
    rw [hs]
    exact wpAny_mono (turn c _ _ a v m₁ h tk own e hV kstMark hoff hp' (kst_fr h1 h2 F₁) N₁) (fun f s₂ p => p.out) fun _ _ e => e
  · rintro m₁ nx h tk ⟨c, rfl, h1, h2, hp'⟩ F₁ N₁
    rw [hlen, List.take_length] at hp'
    exact fin c m₁ h tk kstMark hp' (kst_frOut h1 h2 F₁) N₁
/-- a loop over a list of texts -/
theorem loop_strs {σ : Type} {l : Addr} {vs : List Value} {ss : List Str} {nn : Nat} {m₀ : PySem.Str → Option Value} (Led : σ → List (Addr × Obj)) (ps : σ → List (PySem.Str × Value)) (stored : List PySem.Str) (P : List Str → σ → Prop) (c₀ : σ)
    (hi : StrsAre vs ss) (hh : A.handled = none) (hl : ∀ c : σ, (l, W.listOf vs.toArray nn) ∈ Led c) (F : Fr h₀ env.locals s.heap m₀) (N : News h₀ env.locals s.heap (Led c₀)) (hk : ∀ p ∈ ps c₀, m₀ p.1 = some p.2) (hp : P [] c₀)
    (turn : ∀ (c : σ) (pre post : List Str) (a : Str) (t : Tok) (u : PySem.Str → Option Value) h tk own, ss = pre ++ a :: post → KstMark → OwnOff own ((Led c).map (·.1)) → P pre c →
      Fr h₀ env.locals h (fun y => if y = x then some (.str a t) else kstB (fun z => if stored.contains z then u z else m₀ z) (ps c) y) → News h₀ env.locals h (Led c ++ own) →
      wpAny (model prog w) A (execs body env) (fun f s₂ => Hid (InvPostG h₀ env.locals (fun m nx => (l, W.listOf vs.toArray nn) ∈ nx ∧ LSt Led ps x stored m₀ P (pre ++ [a]) m nx) own { s with heap := h, toks := tk } Q f s₂)) E { s with heap := h, toks := tk })
    (fin : ∀ (c : σ) (u : PySem.Str → Option Value) h tk, KstMark → P ss c → Fr h₀ env.locals h (fun y => if y = x then u y else kstB (fun z => if stored.contains z then u z else m₀ z) (ps c) y) → News h₀ env.locals h (Led c) → Q .next { s with heap := h, toks := tk }) :
    wpAny (model prog w) A (pyIter (.ref l)) (fun it s₂ => LoopAtV prog w A h₀ env x body Q E it s₂) E s := by
  refine loop_vals (as := ss) (fun a v => ∃ t : Tok, v = Value.str a t) Led ps stored P c₀ hi.length (fun i v h => strs_at hi i v h) hh hl F N hk hp ?_ fin
  rintro c pre post a v u h tk own e ⟨t, rfl⟩ mk hoff hP F₁ N₁
  exact turn c pre post a t u h tk own e mk hoff hP F₁ N₁
/-- a loop over a list of ints -/
theorem loop_ints {σ : Type} {l : Addr} {vs : List Value} {ns : List Int} {nn : Nat} {m₀ : PySem.Str → Option Value} (Led : σ → List (Addr × Obj)) (ps : σ → List (PySem.Str × Value)) (stored : List PySem.Str) (P : List Int → σ → Prop) (c₀ : σ)
    (hi : IntsAre vs ns) (hh : A.handled = none) (hl : ∀ c : σ, (l, W.listOf vs.toArray nn) ∈ Led c) (F : Fr h₀ env.locals s.heap m₀) (N : News h₀ env.locals s.heap (Led c₀)) (hk : ∀ p ∈ ps c₀, m₀ p.1 = some p.2) (hp : P [] c₀)
    (turn : ∀ (c : σ) (pre post : List Int) (a : Int) (t : Tok) (u : PySem.Str → Option Value) h tk own, ns = pre ++ a :: post → KstMark → OwnOff own ((Led c).map (·.1)) → P pre c →
      Fr h₀ env.locals h (fun y => if y = x then some (.int a t) else kstB (fun z => if stored.contains z then u z else m₀ z) (ps c) y) → News h₀ env.locals h (Led c ++ own) →
      wpAny (model prog w) A (execs body env) (fun f s₂ => Hid (InvPostG h₀ env.locals (fun m nx => (l, W.listOf vs.toArray nn) ∈ nx ∧ LSt Led ps x stored m₀ P (pre ++ [a]) m nx) own { s with heap := h, toks := tk } Q f s₂)) E { s with heap := h, toks := tk })
    (fin : ∀ (c : σ) (u : PySem.Str → Option Value) h tk, KstMark → P ns c → Fr h₀ env.locals h (fun y => if y = x then u y else kstB (fun z => if stored.contains z then u z else m₀ z) (ps c) y) → News h₀ env.locals h (Led c) → Q .next { s with heap := h, toks := tk }) :
    wpAny (model prog w) A (pyIter (.ref l)) (fun it s₂ => LoopAtV prog w A h₀ env x body Q E it s₂) E s := by
  refine loop_vals (as := ns) (fun a v => ∃ t : Tok, v = Value.int a t) Led ps stored P c₀ hi.length (fun i v h => by
    obtain ⟨k, t, e, hk⟩ := IntsAre.at hi i v h
    exact ⟨k, hk, t, e⟩) hh hl F N hk hp ?_ fin
  rintro c pre post a v u h tk own e ⟨t, rfl⟩ mk hoff hP F₁ N₁
  exact turn c pre post a t u h tk own e mk hoff hP F₁ N₁
end
section
variable {prog : Program} {w : World} {A : Around} {E : Value → Shared → Prop} {s : Shared} {h₀ : Heap} {L D : Addr} {m : Str → Option Value} {news news' : List (Addr × Obj)} {vs : List Value} {v v' : Value} {n : Nat}
theorem seqIdx_last {k : Nat} : seqIndex? (-1) (k + 1) = some k := by
  unfold seqIndex?
  simp
  omega
theorem setL_last : ∀ (vs : List Value) (v v' : Value), ki_setL (vs ++ [v]) vs.length v' = some (vs ++ [v'])
  | [], _, _ => rfl
  | x :: r, v, v' => by
    show (match ki_setL (r ++ [v]) r.length v' with | some q => some (x :: q) | none => none) = _
    rw [setL_last r v v']
    rfl
/-- xs[-1] -/
theorem last_get {u : Tok} {Q : Value → Shared → Prop} (N : News h₀ L s.heap news) (hm : (D, W.listOf (vs ++ [v]).toArray n) ∈ news) (h : Q v s) : wpAny (model prog w) A (getItem (.ref D) (.int (-1) u)) Q E s := by
  refine wpAny_getItem_list_neg (N.isList hm) (by decide) (by simp only [List.size_toArray, List.length_append, List.length_cons, List.length_nil]; omega) (by decide) ?_ h
  have e : ((-1 : Int) + ((vs ++ [v]).toArray.size : Nat)).toNat = vs.length := by
    simp only [List.size_toArray, List.length_append, List.length_cons, List.length_nil]
    omega
  rw [e]
  simp
/-- xs[-1] = v -/
theorem last_set {u : Tok} {Q : Unit → Shared → Prop} (F : Fr h₀ L s.heap m) (N : News h₀ L s.heap news) (U : Upd D (W.listOf (vs ++ [v]).toArray n) (W.listOf (vs ++ [v']).toArray n) news news')
    (h : ∀ h', Fr h₀ L h' m → News h₀ L h' news' → Q () { s with heap := h' }) : wpAny (model prog w) A (setItem (.ref D) (.int (-1) u) v') Q E s := by
  refine ki_setNeg F N (by decide) (by decide) (j := vs.length) ?_ (setL_last vs v v') U h
  have e : (vs ++ [v]).toArray.size = vs.length + 1 := by simp
  rw [e]
  exact seqIdx_last
/-- list(text) -/
theorem list_strL {x : Str} {t : Tok} {Q : Value → Shared → Prop} (hh : A.handled = none) (F : Fr h₀ L s.heap m) (N : News h₀ L s.heap news) (hx : x.length ≤ sizeLine)
    (h : ∀ D ys n h' tk, Fr h₀ L h' m → News h₀ L h' ((D, W.listOf (List.toArray ys) n) :: news) → (∀ p ∈ news, p.1 < D) → StrsAre ys (signs x) → Q (.ref D) { s with heap := h', toks := tk }) :
    wpAny (model prog w) A (call (.type "list") [.str x t]) Q E s := by
  refine list_strD hh F N (fun h' tk ys F' N' hk hn _ hp hc => ?_) hx
  obtain ⟨⟨n, e⟩, hne⟩ := hp
  refine h _ ys n h' tk F' ?_ (fun p hp => Heap.lt_size (N p hp).1) (StrsAre.of_carried hc)
  intro p hp
  rcases List.mem_cons.mp hp with rfl | hp
  · exact ⟨e, (fun e' => absurd F.ns.lt (by dsimp only at e'; rw [← e']; exact Nat.lt_irrefl _)), hn⟩
  · exact N' p hp
end
end Mine
end

section
open PySem PySem.W PyProof.Rows
namespace Mine
theorem pick_upto (vs : List Value) {y : Int} (h : 0 ≤ y) : (slicePick vs.toArray none (some y) none).toList = vs.take y.toNat := by
  have e : sliceBounds none (some y) none vs.toArray.size = (((0 : Nat) : Int), ((min y.toNat vs.toArray.size : Nat) : Int), 1) := by
    simp only [sliceBounds, Option.getD_none, show (1 : Int) > 0 by decide, if_true, if_neg (show ¬ (y < 0) by omega)]
    congr 1
    congr 1
    omega
  rw [kmk_pick_nat _ e]
  show ((vs.drop 0).take (min y.toNat vs.toArray.size - 0)) = _
  rw [List.drop_zero, Nat.sub_zero, List.size_toArray, kmk_take_min]
theorem pick_from (vs : List Value) {x : Int} (h : 0 ≤ x) : (slicePick vs.toArray (some x) none none).toList = vs.drop x.toNat := by
  have e : sliceBounds (some x) none none vs.toArray.size = (((min x.toNat vs.toArray.size : Nat) : Int), ((vs.toArray.size : Nat) : Int), 1) := by
    simp only [sliceBounds, Option.getD_none, show (1 : Int) > 0 by decide, if_true, if_neg (show ¬ (x < 0) by omega)]
    congr 1
    omega
  rw [kmk_pick_nat _ e]
  show ((vs.drop (min x.toNat vs.toArray.size)).take (vs.toArray.size - min x.toNat vs.toArray.size)) = _
  rw [List.size_toArray, kmk_drop_min, List.take_of_length_le (by rw [List.length_drop]; omega)]
theorem strs_take {vs : List Value} {ss : List Str} (h : StrsAre vs ss) : ∀ n, StrsAre (vs.take n) (ss.take n) := by
  induction h with
  | nil => intro n; simp only [List.take_nil]; exact .nil
  | cons y t r ih =>
    intro n
    cases n with
    | zero => exact .nil
    | succ n => exact .cons y t (ih n)
theorem strs_drop {vs : List Value} {ss : List Str} (h : StrsAre vs ss) : ∀ n, StrsAre (vs.drop n) (ss.drop n) := by
  induction h with
  | nil => intro n; simp only [List.drop_nil]; exact .nil
  | cons y t r ih =>
    intro n
    cases n with
    | zero => exact .cons y t r
    | succ n => exact ih n
/-- a value of a row: a list of texts of the ledger -/
def RowAt (nw : List (Addr × Obj)) (r : List Str) (v : Value) : Prop := ∃ (a : Addr) (vs : List Value) (n : Nat), v = .ref a ∧ (a, W.listOf vs.toArray n) ∈ nw ∧ StrsAre vs r
theorem RowAt.mono {nw nw' : List (Addr × Obj)} {r : List Str} {v : Value} (h : RowAt nw r v) (hs : ∀ p ∈ nw, p ∈ nw') : RowAt nw' r v :=
  let ⟨a, vs, n, e, hm, hS⟩ := h
  ⟨a, vs, n, e, hs _ hm, hS⟩
def RowsAt (nw : List (Addr × Obj)) (ys : List Value) (rs : List (List Str)) : Prop := ys.length = rs.length ∧ ∀ (i : Nat) (v : Value), ys[i]? = some v → ∃ r, rs[i]? = some r ∧ RowAt nw r v
theorem RowsAt.mono {nw nw' : List (Addr × Obj)} {ys : List Value} {rs : List (List Str)} (h : RowsAt nw ys rs) (hs : ∀ p ∈ nw, p ∈ nw') : RowsAt nw' ys rs :=
  ⟨h.1, fun i v e => let ⟨r, e', hr⟩ := h.2 i v e; ⟨r, e', hr.mono hs⟩⟩
theorem RowsAt.append {nw : List (Addr × Obj)} {ys zs : List Value} {rs ts : List (List Str)} (h : RowsAt nw ys rs) (h' : RowsAt nw zs ts) : RowsAt nw (ys ++ zs) (rs ++ ts) := by
  refine ⟨by rw [List.length_append, List.length_append, h.1, h'.1], fun i v e => ?_⟩
  by_cases hi : i < ys.length
  · rw [List.getElem?_append_left hi] at e
    obtain ⟨r, e', hr⟩ := h.2 i v e
    exact ⟨r, by rw [List.getElem?_append_left (by rw [← h.1]; exact hi)]; exact e', hr⟩
  · rw [List.getElem?_append_right (by omega)] at e
    obtain ⟨r, e', hr⟩ := h'.2 _ v e
    exact ⟨r, by rw [List.getElem?_append_right (by rw [← h.1]; omega), ← h.1]; exact e', hr⟩
theorem RowsAt.one {nw : List (Addr × Obj)} {v : Value} {r : List Str} (h : RowAt nw r v) : RowsAt nw [v] [r] := by
  refine ⟨rfl, fun i w e => ?_⟩
  cases i with
  | zero => simp at e; subst e; exact ⟨r, rfl, h⟩
  | succ i => simp at e
theorem RowsAt.nil {nw : List (Addr × Obj)} : RowsAt nw [] [] := ⟨rfl, fun i v e => by simp at e⟩
section
variable {prog : Program} {w : World} {A : Around} {h₀ : Heap} {L : Addr} {m : Str → Option Value} {env : Env} {elt : Expr} {x : Str} {scope : Scope} {cl : List (Str × Addr)} {s : Shared} {Fin : List Value → List (Addr × Obj) → Prop} {news : List (Addr × Obj)}
/-- a comprehension over range(n) whose element is a new list of texts -/
theorem comp_rows {n : Nat} (g : Nat → List Str)
    (turn : ∀ (k : Nat) t I oI C oC D m₂ ys h tk (E' : Value → Shared → Prop) tl, k < n → LCg.NsObj oC m₂ → m₂ x = some (.int (0 + (k : Int)) t) → Fr h₀ L h m → News h₀ L h ((I, oI) :: (C, oC) :: (D, LCg.lst ys) :: (tl ++ news)) → LCg.Off3 I C D (tl ++ news) → ((@Ne Nat I C) ∧ (@Ne Nat I D) ∧ (@Ne Nat C D)) → KPfMark →
      wpAny (model prog w) A (eval elt (compEnvC scope cl C env)) (fun y s₂ => Hid (LCg.CompEnd h₀ L m { s with heap := h, toks := tk } I oI C oC D (LCg.lst ys) (fun _ => True) (fun y news' => ∃ q vs c, y = .ref q ∧ StrsAre vs (g k) ∧ news' = (q, W.listOf vs.toArray c) :: (tl ++ news)) y s₂)) E' { s with heap := h, toks := tk })
    (fin : ∀ ys tl, RowsAt (tl ++ news) ys ((List.range n).map g) → Fin ys (tl ++ news)) : LCg.CompRest prog w A h₀ L m env elt x scope cl s (fun _ => True) (fun i v => ∃ t, v = .int (0 + (i : Int)) t) Fin n 0 [] news := by
  have key : ∀ (j i : Nat) (ys : List Value) (tl : List (Addr × Obj)), i + j = n → RowsAt (tl ++ news) ys ((List.range i).map g) → LCg.CompRest prog w A h₀ L m env elt x scope cl s (fun _ => True) (fun i v => ∃ t, v = .int (0 + (i : Int)) t) Fin j i ys (tl ++ news) := by
    intro j
    induction j with
    | zero =>
      intro i ys tl hi hy
      have e : i = n := by omega
      subst e
      exact LCg.CompRest.zero (fin ys tl hy)
    | succ j ih =>
      intro i ys tl hi hy
      refine LCg.CompRest.succ ?_
      intro v I oI C oC D m₂ h tk E' hv hC hx F N off ne
      obtain ⟨t, hv⟩ := hv
      subst hv
      refine wpAny_mono (turn i t I oI C oC D m₂ ys h tk E' tl (by omega) hC hx F N off ne True.intro) (fun y s₂ hq => ?_) fun _ _ e => e
      obtain ⟨h', tk', nw, e, F', N', off', _, q, vs, c, hy', hS, hn⟩ := hq.out
      refine ⟨h', tk', nw, e, F', N', off', trivial, ?_⟩
      subst hn
      have hh := ih (i + 1) (ys ++ [y]) ((q, W.listOf vs.toArray c) :: tl) (by omega) ?_
      · exact hh
      · rw [List.range_succ, List.map_append]
        exact (hy.mono fun p hp => .tail _ hp).append (RowsAt.one ⟨q, vs, c, hy', .head _, hS⟩)
  exact key n 0 [] [] (by omega) RowsAt.nil
end
end Mine
end

section
open PySem PySem.W PyProof.Rows PyProof.V PySem.Spec
namespace Mine
theorem s_canLayAll0 : ∀ ns : List Str, (∀ x ∈ ns, PyData.strOk x = true) → PyData.canLayAll0 (ns.map PyData.str) = true
  | [], _ => rfl
  | a :: r, h => by
    have h1 := h a (.head _)
    simp [PyData.canLayAll0, PyData.canLay0, s_canLayAll0 r (fun x hx => h x (.tail _ hx)), h1]
theorem s_depthAll : ∀ ns : List Str, PyData.depthAll (ns.map PyData.str) = 0
  | [] => rfl
  | _ :: r => by simp [PyData.depthAll, PyData.depth, s_depthAll r]
theorem s_shaped (ns : List Str) (h : ∀ x ∈ ns, PyData.strOk x = true) : SeqAt.shaped (.list (ns.map PyData.str)) = true := by
  simp [SeqAt.shaped, PyData.canLay0, PyData.depth, s_canLayAll0 ns h, s_depthAll]
theorem s_sameAll : ∀ ns ms : List Str, PySem.Spec.sameAll (ns.map PyData.str) (ms.map PyData.str) = decide (ns = ms)
  | [], [] => by simp [PySem.Spec.sameAll]
  | [], _ :: _ => by simp [PySem.Spec.sameAll]
  | _ :: _, [] => by simp [PySem.Spec.sameAll]
  | a :: r, b :: t => by
    simp only [List.map_cons, PySem.Spec.sameAll, PySem.Spec.same, s_sameAll r t]
    by_cases h : a = b <;> by_cases h' : r = t <;> simp [h, h']
theorem s_same (ns ms : List Str) : PySem.Spec.same (.list (ns.map PyData.str)) (.list (ms.map PyData.str)) = decide (ns = ms) := by
  simp only [PySem.Spec.same]; exact s_sameAll ns ms
section
variable {prog : Program} {w : World} {A : Around} {E : Value → Shared → Prop} {s : Shared} {a b : Addr} {xs ys : List Value} {ns ms : List Str} {Q : Value → Shared → Prop}
theorem ne_strs (ha : s.heap.IsList a xs.toArray) (hb : s.heap.IsList b ys.toArray) (hi : StrsAre xs ns) (hj : StrsAre ys ms) (hu : A.units + 64 < cLine) (hn : ∀ x ∈ ns, PyData.strOk x = true) (hm : ∀ x ∈ ms, PyData.strOk x = true) (h : Q (.bool (!decide (ns = ms))) s) :
    wpAny (model prog w) A (compareOp .NotEq (.ref a) (.ref b)) Q E s :=
  ne_dataH_same (reads_newData ha (lm_carried_strs hi)) (reads_newData hb (lm_carried_strs hj)) (s_shaped _ hn) (s_shaped _ hm) hu (SeqAt.noMix_of_shape (.list .str) rfl _ _ (list_map_has fun _ => rfl) (list_map_has fun _ => rfl)) (by rw [s_same]; exact h)
end
end Mine
end

section
open PySem PySem.W PyProof.Rows
namespace Mine
/-- the reader's state: items so far, the part, escape, quote -/
structure PSt where
  res : List Str
  part : Str
  esc : Bool
  quo : Bool
def chr1 (c : Int) : Str := ⟨#[c.toNat]⟩
def pstep (s : PSt) (c : Int) : PSt :=
  if s.esc = true then { s with part := s.part ++ chr1 c, esc := false }
  else if s.quo = true then
    if (chr1 c == Str.ofString "\\") = true then { s with esc := true }
    else if (chr1 c == Str.ofString "\"") = true then { s with part := s.part ++ chr1 c, quo := false }
    else { s with part := s.part ++ chr1 c }
  else if (chr1 c == Str.ofString ",") = true then { s with res := s.res ++ [s.part], part := Str.ofString "" }
  else if (chr1 c == Str.ofString "\"") = true then { s with part := s.part ++ chr1 c, quo := true }
  else { s with part := s.part ++ chr1 c }
def pinit : PSt := ⟨[], Str.ofString "", false, false⟩
def prun (l : List Int) : PSt := l.foldl pstep pinit

theorem prun_snoc (l : List Int) (c : Int) : prun (l ++ [c]) = pstep (prun l) c := by
  unfold prun; rw [List.foldl_append]; rfl
theorem chr1_nat (n : Nat) : chr1 (n : Int) = ⟨#[n]⟩ := rfl
theorem len_one (n : Nat) : (⟨#[n]⟩ : Str).length = 1 := rfl
theorem pstep_len (s : PSt) (c : Int) (n : Nat) (h1 : s.part.length ≤ n) (h2 : s.res.length ≤ n) (h3 : ∀ r ∈ s.res, r.length ≤ n) :
    (pstep s c).part.length ≤ n + 1 ∧ (pstep s c).res.length ≤ n + 1 ∧ ∀ r ∈ (pstep s c).res, r.length ≤ n + 1 := by
  have hl0 : (Str.ofString "").length = 0 := by decide +kernel
  have hc : (chr1 c).length = 1 := rfl
  have h3' : ∀ r ∈ s.res, r.length ≤ n + 1 := fun r hr => Nat.le_succ_of_le (h3 r hr)
  have h4' : ∀ r ∈ s.res ++ [s.part], r.length ≤ n + 1 := by
    intro r hr
    rcases List.mem_append.mp hr with hr | hr
    · exact h3' r hr
    · rw [List.mem_singleton.mp hr]; omega
  unfold pstep
  repeat' split
  all_goals (dsimp only; refine ⟨?_, ?_, by first | exact h3' | exact h4'⟩)
  all_goals ((try simp only [Str.length_append, hc, hl0, List.length_append, List.length_cons, List.length_nil]); omega)
theorem pfold_len : ∀ (l : List Int) (s : PSt) (n : Nat), s.part.length ≤ n → s.res.length ≤ n → (∀ r ∈ s.res, r.length ≤ n) →
    (l.foldl pstep s).part.length ≤ n + l.length ∧ (l.foldl pstep s).res.length ≤ n + l.length ∧ ∀ r ∈ (l.foldl pstep s).res, r.length ≤ n + l.length
  | [], _, _, h1, h2, h3 => ⟨h1, h2, h3⟩
  | c :: l, s, n, h1, h2, h3 => by
    obtain ⟨a, b, d⟩ := pstep_len s c n h1 h2 h3
    have := pfold_len l (pstep s c) (n + 1) a b d
    rw [List.foldl_cons, List.length_cons, Nat.add_comm l.length 1, ← Nat.add_assoc]
    exact this
theorem prun_len (l : List Int) : (prun l).part.length ≤ l.length ∧ (prun l).res.length ≤ l.length ∧ ∀ r ∈ (prun l).res, r.length ≤ l.length := by
  have := pfold_len l pinit 0 (Nat.le_refl _) (Nat.le_refl _) (fun _ h => nomatch h)
  rw [Nat.zero_add] at this
  exact this
/-- what parse_http_list gives -/
def pitems (s : PSt) : List Str := if (s.part.length : Int) ≠ 0 then s.res ++ [s.part] else s.res
def parseF (x : Str) : List Str := (pitems (prun (KStt.codes x))).map Txt.strip
set_option maxRecDepth 100000 in
set_option maxHeartbeats 8000000 in
theorem parse_ok {w : World} {mean : ExcName → Option Value} {mg mb : Str → Option Value} (x : Str) (tx : Tok) (hx : x.length ≤ 100000) (dp un : Nat) (gd : Option (List Code)) (cn : Str) (cs : Scope) (a : Addr) (ccd : Value) (cl : List (Str × Addr)) (outer : List Env) (A₀ : Around) (base h₀ : Heap) (L : Addr) (m : Str → Option Value) (news : List (Addr × Obj)) (s : Shared)
    (Q E : Value → Shared → Prop) (B : Below A₀ base outer h₀) (F : Fr h₀ L s.heap m) (X : (Mine.hd.heap_39 w.params).In h₀) (N : News h₀ L s.heap news) (T : Top Mine.hd.view_39 (looseW Mine.hd.view_39 []) mean mg mb h₀) (hk : cs.kind = .function) (hd : dp + 1 < recursionLimit) (hu : un + 8 < cLine)
    (hret : ∀ (q : Addr) (vs : List Value) (h' : Heap) (tk' : Nat), StrsAre vs (parseF x) → Fr h₀ L h' m → News h₀ L h' ((q, LCg.lst vs) :: news) → LCg.Off1 q news → Q (.ref q) { s with heap := h', toks := tk' }) :
    wpAny (model PySem.Challenge.rw_mq0075_01.row.prog w) (ktrTop dp un gd cn cs L a ccd cl outer) (call (.ref 19) [.str x tx]) Q E s := by
  k_with_none
  w_top off
  k_with "pyIter str" => skip
  revert X T; k_fill; intro X T
  refine wpAny_call ?_
  k_dflt ktr_enter
  iterate 22 (first | (k_unfold; (try dsimp only)) | (k_end; wrow_close) | walk1 | (dsimp only; walk1) | (leave1; walk_say "STEP leave1"; try dsimp only))
  rename Fr _ _ _ _ => F1
  rename News _ _ _ _ => N1
  refine' loop_text (σ := List Value × Nat × PSt × Tok) (fun c => (_, W.listOf c.1.toArray c.2.1) :: news) (fun c => [(Str.ofString "part", .str c.2.2.1.part c.2.2.2), (Str.ofString "escape", .bool c.2.2.1.esc), (Str.ofString "quote", .bool c.2.2.1.quo)]) [] (fun pre c => StrsAre c.1 c.2.2.1.res ∧ c.2.2.1 = prun pre) ([], 0, pinit, ?tk0) (by rfl) F1 N1 ?hk ?hp ?turn ?fin
  case hk => kst_all
  case hp => exact ⟨.nil, rfl⟩
  case turn =>
    clear N1 F1
    rintro ⟨vs, cap, ⟨res, part, esc, quo⟩, tok⟩ pre post n t u h tk own e hmark hoff hP F2 N2
    obtain ⟨hS, hst⟩ := hP
    dsimp only [kstB] at hS hst F2 N2 ⊢
    rw [List.cons_append] at N2
    have hpre : pre.length ≤ x.length := by
      have := congrArg List.length e
      rw [KStt.codes_length, List.length_append] at this
      omega
    have hpl := prun_len pre
    rw [← hst] at hpl
    dsimp only at hpl
    have hvl : vs.length ≤ 100000 := by have := hS.length; omega
    have hpb : part.length ≤ 100000 := by omega
    clear hpl
    k_steps
    all_goals (try dsimp only)
    all_goals (
      refine Hid.mk ?_; dsimp only [InvPostN]
      rename Fr _ _ _ _ => F3; rename News _ _ _ _ => N3; try simp only [List.push_toArray] at N3
      first
        | refine kst_end ⟨_, _, ⟨res, _, _, _⟩, _⟩ F3 N3 (by first | kst_in | kst_inAny) (by first | (intro p hp; kst_mem) | kst_anyIn) rfl trivial (by kst_all) (by kst_same) ⟨hS, ?_⟩
        | refine kst_end ⟨_, _, ⟨res ++ [part], _, _, _⟩, _⟩ F3 N3 (by first | kst_in | kst_inAny) (by first | (intro p hp; kst_mem) | kst_anyIn) rfl trivial (by kst_all) (by kst_same) ⟨KStt.strs_snoc hS, ?_⟩
      rw [prun_snoc, ← hst]
      simp_all only [pstep, chr1_nat, if_true, if_false, Bool.false_eq_true])
  case fin =>
    clear N1 F1
    rintro ⟨vs, cap, ⟨res, part, esc, quo⟩, tok⟩ u h tk hP F2 N2
    obtain ⟨hS, hst⟩ := hP
    dsimp only [kstB] at hS hst F2 N2 ⊢
    have hpl := prun_len (KStt.codes x)
    rw [← hst, KStt.codes_length] at hpl
    dsimp only at hpl
    obtain ⟨hp1, hp2, hp3⟩ := hpl
    have hp4 : ∀ k ∈ res, k.length ≤ 100000 := fun k hk => Nat.le_trans (hp3 k hk) hx
    have hp5 : ∀ k ∈ res ++ [part], k.length ≤ 100000 := by
      intro k hk
      rcases List.mem_append.mp hk with hk | hk
      · exact hp4 k hk
      · rw [List.mem_singleton.mp hk]; omega
    have hvl : vs.length ≤ 100000 := by have := hS.length; omega
    have hpb : part.length ≤ 100000 := by omega
    have hmark := kstMark
    clear hp3
    k_with "eval ListComp" => (k_here; k_dflt (refine LCg.ListComp_U (F₀ := by k_asm) (by with_unfolding_all rfl) (by decide) (by rfl) (by decide) (by rfl) ?_))
    k_with "CompSrc" => (k_here; k_dflt (refine LCg.CompSrc.ledger (by rfl) (by k_asm) (by k_asm) (by first | k_memK | assumption) (by rw [PySem.sizeLine_eq]; simp only [List.size_toArray, Array.size_push]; omega) ?_; intro g'))
    k_steps
    all_goals (simp only [List.push_toArray] at *)
    all_goals (first
      | refine comp_strs Txt.strip (KStt.strs_snoc hS) (fun k' t' I' oI' C' oC' D' m' ys' h' tk' E' hk' hC' hx' F' N' off' ne' mk' => ?_) (fun ys' hys' => ?_)
      | refine comp_strs Txt.strip hS (fun k' t' I' oI' C' oC' D' m' ys' h' tk' E' hk' hC' hx' F' N' off' ne' mk' => ?_) (fun ys' hys' => ?_))
    all_goals (first | (unfold LCg.FinE; intro D9 h9 tk9 F9 N9 off9; dsimp only) | (first | have hkl := hp5 _ hk' | have hkl := hp4 _ hk'))
    all_goals k_steps
    all_goals (try dsimp only)
    all_goals (first
      | exact Hid.mk (LCg.CompEnd.intro (by k_asm) N' _ (fun _ h => h) off' (.inr ⟨_, .head _, rfl, _, rfl⟩) ⟨rfl, _, rfl⟩)
      | (have e9 : parseF x = List.map Txt.strip (res ++ [part]) := by unfold parseF pitems; rw [← hst]; exact congrArg _ (if_pos (by assumption))
         exact hret D9 ys' h9 tk9 (e9 ▸ hys') (by k_asm) (kst_newsOf (by k_asm) (by intro p hp; rcases List.mem_cons.mp hp with rfl | hp; exact .head _; exact .tail _ (.tail _ hp))) off9.2)
      | (have e9 : parseF x = List.map Txt.strip res := by unfold parseF pitems; rw [← hst]; exact congrArg _ (if_neg (not_not_intro (by assumption)))
         exact hret D9 ys' h9 tk9 (e9 ▸ hys') (by k_asm) (kst_newsOf (by k_asm) (by intro p hp; rcases List.mem_cons.mp hp with rfl | hp; exact .head _; exact .tail _ (.tail _ hp))) off9.2))
end Mine
end

section
open PySem PySem.W PyProof.Rows
namespace Mine
def rstep (x p r : Str) : Str := Txt.join r (Txt.split x p)
def replF : Str → List (Str × Str) → Str
  | x, [] => x
  | x, (p, r) :: q => replF (rstep x p r) q
def flatP : List (Str × Str) → List Str
  | [] => []
  | (p, r) :: q => p :: r :: flatP q
theorem flatP_len : ∀ l : List (Str × Str), (flatP l).length = 2 * l.length
  | [] => rfl
  | (p, r) :: q => by simp only [flatP, List.length_cons, flatP_len q]; omega
theorem rstep_len {x p r : Str} (hp : p.length = 1) (hr : r.length ≤ 2) : (rstep x p r).length ≤ 2 * x.length := by
  have hw := split_weight x p (by omega)
  unfold rstep Txt.join
  rw [StrLaws.glued_eq_join]
  generalize Txt.split x p = ys at hw
  cases ys with
  | nil => exact Nat.zero_le _
  | cons a l =>
    rw [len_join_cons]
    simp only [List.length_cons] at hw
    have : l.length * r.length ≤ l.length * 2 := Nat.mul_le_mul_left _ hr
    omega
theorem flat_cons {vs : List Value} {p r : Str} {l : List Str} (h : StrsAre vs (p :: r :: l)) : ∃ t u vs', vs = .str p t :: .str r u :: vs' ∧ StrsAre vs' l := by
  cases h with
  | cons _ t h => cases h with
    | cons _ u h => exact ⟨t, u, _, rfl, h⟩
theorem flat_nil {vs : List Value} (h : StrsAre vs []) : vs = [] := by cases h; rfl

abbrev tupO (vs : List Value) : Obj := { cls := .type "tuple", data := .seq vs.toArray }
set_option maxRecDepth 100000 in
set_option maxHeartbeats 8000000 in
theorem repl_ok {w : World} {mean : ExcName → Option Value} {mg mb : Str → Option Value} (x : Str) (tx : Tok) (ps : List (Str × Str)) (vs : List Value) (hvs : StrsAre vs (flatP ps)) (hps : ∀ q ∈ ps, q.1.length = 1 ∧ q.2.length ≤ 2) (hpl : ps.length ≤ 20) (hx : x.length * 2 ^ ps.length ≤ 1000000) (dp un : Nat) (gd : Option (List Code)) (cn : Str) (cs : Scope) (a : Addr) (ccd : Value) (cl : List (Str × Addr)) (outer : List Env) (A₀ : Around) (base h₀ : Heap) (L : Addr) (m : Str → Option Value) (news : List (Addr × Obj)) (s : Shared)
    (Q E : Value → Shared → Prop) (B : Below A₀ base outer h₀) (F : Fr h₀ L s.heap m) (X : (Mine.hd.heap_39 w.params).In h₀) (N : News h₀ L s.heap news) (T : Top Mine.hd.view_39 (looseW Mine.hd.view_39 []) mean mg mb h₀) (hk : cs.kind = .function) (hd : dp + 1 < recursionLimit) (hu : un + 8 < cLine)
    (hret : ∀ (t : Tok) (h' : Heap) (tk' : Nat), Fr h₀ L h' m → News h₀ L h' news → Q (.str (replF x ps) t) { s with heap := h', toks := tk' }) :
    wpAny (model PySem.Challenge.rw_mq0075_01.row.prog w) (ktrTop dp un gd cn cs L a ccd cl outer) (call (.ref 26) (.str x tx :: vs)) Q E s := by
  have hvl : vs.length ≤ sizeLine := by rw [hvs.length, flatP_len, sizeLine_eq]; omega
  k_with_none
  w_top off
  revert X T; k_fill; intro X T
  refine wpAny_call ?_
  k_dflt (refine' kp_rest (vs := vs) (g₁ := fun D => some [(Str.ofString "text", .str x tx), (Str.ofString "pairs", .ref D)]) (binds := fun D => [(Str.ofString "text", .str x tx), (Str.ofString "pairs", .ref D)]) ?k1 ?k2 ?k3 ?k4 ?k5 ?kA ?kF ?kK ?k6 ?k7 ?k8 ?kV ?kP ?kG ?kB ?_ ?c2 ?c3 ?c4 ?c5; (case kA => exact rfl); (case kF => exact rfl); (case kK => assumption); (case k1 => k_asm); (case k2 => k_asm); (case k3 => k_asm); (case k4 => k_asm); (case k5 => k_asm); (case k6 => k_is); (case k7 => k_is); (case k8 => ktr_room); (case kV => exact rfl); (case kG => exact fun _ => rfl); (case kB => exact fun _ => locs rfl); (case c5 => decide); (case c2 => exact rfl); (case c3 => exact rfl); (case c4 => exact rfl); (case kP => exact rest_peek (f := fun t => [(Str.ofString "text", .str x tx), (Str.ofString "pairs", t)]) hvl (by intro vs; cases vs <;> rfl)); k_whole; intro D' g' L' h' l1 FG' F' N' B' X' T'; (try dsimp only); (try k_fold))
  iterate 2 (first | (k_unfold; (try dsimp only)) | walk1 | (dsimp only; walk1))
  rename Fr _ _ _ _ => F1
  rename News _ _ _ _ => N1
  refine' loop_while (σ := Str × Tok × Addr × List Value × List (Str × Str)) (fun c => (c.2.2.1, tupO c.2.2.2.1) :: news) (fun c => [(Str.ofString "text", .str c.1 c.2.1), (Str.ofString "pairs", .ref c.2.2.1)]) [] (fun c => StrsAre c.2.2.2.1 (flatP c.2.2.2.2) ∧ (∀ q ∈ c.2.2.2.2, q.1.length = 1 ∧ q.2.length ≤ 2) ∧ c.2.2.2.2.length ≤ 20 ∧ c.1.length * 2 ^ c.2.2.2.2.length ≤ 1000000 ∧ replF c.1 c.2.2.2.2 = replF x ps) (fun c => c.2.2.2.2.length) (x, tx, D', vs, ps) ?hF ?hN ?hk ?hp ?turn ?hE
  case hF => exact F1
  case hN => exact N1
  case hE => passes_own
  case hk => kst_all
  case hp => exact ⟨hvs, hps, hpl, hx, rfl⟩
  case turn =>
    clear N1 F1
    rintro ⟨y, ty, D, us, qs⟩ u h tk hmark hP F2 N2
    obtain ⟨hS, hq, hql, hyl, hrep⟩ := hP
    dsimp only [kstB] at hS hq hql hyl hrep F2 N2 ⊢
    cases qs with
    | nil =>
      have := flat_nil hS
      subst this
      k_steps
      have hrep' : y = replF x ps := hrep
      subst hrep'
      exact hret _ _ _ (by k_asm) (kst_newsOf (by k_asm) fun p hp => .tail _ hp)
    | cons q qs =>
      obtain ⟨p, r⟩ := q
      obtain ⟨t1, t2, us', rfl, hS'⟩ := flat_cons hS
      obtain ⟨hp1, hr1⟩ := hq _ (.head _)
      dsimp only at hp1 hr1
      have hpow : 2 ^ (((p, r) :: qs).length) = 2 * 2 ^ qs.length := by rw [List.length_cons, Nat.pow_succ]; omega
      have hpos : 1 ≤ 2 ^ qs.length := Nat.one_le_two_pow
      have hyb : y.length ≤ 500000 := by
        rw [hpow] at hyl
        have : y.length * 2 ≤ y.length * (2 * 2 ^ qs.length) := Nat.mul_le_mul_left _ (by omega)
        omega
      have hul : us'.length ≤ 38 := by rw [hS'.length, flatP_len]; simp only [List.length_cons] at hql; omega
      k_with "truthy ref" => (refine ktl_truthyK (by k_asm) (by k_memK) (by simp only [List.length_cons]; omega) ?_; try simp only [List.isEmpty_cons, Bool.not_false])
      k_with "subscriptTail Name Constant ref int" => (refine' item_tupleT ?t ?a ?b ?c ?d ?_; (case t => exact News.isTup (by k_asm) (by k_memK)); (case a => decide); (case b => decide); (case c => first | exact seqIdx_nat (k := 0) (by simp only [List.length_cons]; omega) | exact seqIdx_nat (k := 1) (by simp only [List.length_cons]; omega)); (case d => rfl))
      k_with "subscriptTail Name Slice ref ref" => (with_unfolding_all refine slice_tuple_from (a := 2) (by k_asm) (by k_asm) (News.isTup (by k_asm) (by k_memK)) (by decide) (by simp only [List.size_toArray, List.length_cons]; omega) ?_ (hsz := by rw [PySem.sizeLine_eq]; simp only [List.size_toArray, List.length_cons]; omega); intro h' F' N')
      k_with "call builtin:str.join" => (refine join_listW (News.isList (by k_asm) (by k_memK)) (by assumption) (by omega) ?_ ?_)
      k_with "call builtin:str.split" => (refine KSpl.split1 (by k_asm) (by k_asm) (by rw [beq_eq_false_iff_ne]; omega) ?_ (by rw [PySem.sizeLine_eq]; omega); intro D' l' h' k' e' a' F' N' l1; rw [e'] at a')
      k_steps
      · have := split_weight y p (by omega)
        omega
      · refine Hid.mk ?_
        dsimp only [KswPost]
        rename Fr _ _ _ _ => F3; rename News _ _ _ _ => N3
        have hrl := rstep_len (x := y) hp1 hr1
        refine ksw_end (rstep y p r, _, _, us', qs) F3 N3 (by intro p hp; rcases List.mem_cons.mp hp with rfl | hp; exact .head _; repeat (first | exact hp | refine .tail _ ?_)) trivial (by kst_all) (by ksw_same) ⟨hS', fun q hq' => hq q (.tail _ hq'), ?_, ?_, hrep⟩ ?_
        · simp only [List.length_cons] at hql; dsimp only; omega
        · rw [hpow] at hyl
          dsimp only
          refine Nat.le_trans (Nat.mul_le_mul_right _ hrl) ?_
          rw [Nat.mul_comm 2 y.length, Nat.mul_assoc]
          exact hyl
        · dsimp only; simp only [List.length_cons]; omega
end Mine
end

section
open PySem PySem.W PyProof.Rows
namespace Mine
/-- the place ahead of the run of e that ends x's first p signs -/
def trailP (x e : Str) : Nat → Nat
  | 0 => 0
  | p + 1 => if (Txt.item x (p : Int) == e) = true then trailP x e p else p + 1
def endsF (x e : Str) : Bool := (((x.length : Int) - (trailP x e x.length : Int)).fmod 2 == 1)
theorem trail_stop {x e : Str} {p : Nat} (h : (p : Int) > 0) (hne : (Txt.item x ((p : Int) - 1) == e) = false) : trailP x e p = p := by
  cases p with
  | zero => exact absurd h (by decide)
  | succ p =>
    have : ((p + 1 : Nat) : Int) - 1 = (p : Int) := by omega
    rw [this] at hne
    unfold trailP
    rw [hne]
    rfl
theorem trail_go {x e : Str} {p : Nat} (h : (p : Int) > 0) (heq : (Txt.item x ((p : Int) - 1) == e) = true) : trailP x e p = trailP x e (p - 1) := by
  cases p with
  | zero => exact absurd h (by decide)
  | succ p =>
    have : ((p + 1 : Nat) : Int) - 1 = (p : Int) := by omega
    rw [this] at heq
    show (if (Txt.item x (p : Int) == e) = true then trailP x e p else p + 1) = _
    rw [if_pos heq]
    rfl
set_option maxRecDepth 100000 in
set_option maxHeartbeats 8000000 in
theorem ends_ok {w : World} {mean : ExcName → Option Value} {mg mb : Str → Option Value} (x : Str) (tx : Tok) (e : Str) (te : Tok) (hx : x.length ≤ 100000) (dp un : Nat) (gd : Option (List Code)) (cn : Str) (cs : Scope) (a : Addr) (ccd : Value) (cl : List (Str × Addr)) (outer : List Env) (A₀ : Around) (base h₀ : Heap) (L : Addr) (m : Str → Option Value) (news : List (Addr × Obj)) (s : Shared)
    (Q E : Value → Shared → Prop) (B : Below A₀ base outer h₀) (F : Fr h₀ L s.heap m) (X : (Mine.hd.heap_39 w.params).In h₀) (N : News h₀ L s.heap news) (T : Top Mine.hd.view_39 (looseW Mine.hd.view_39 []) mean mg mb h₀) (hk : cs.kind = .function) (hd : dp + 1 < recursionLimit) (hu : un + 8 < cLine)
    (hret : ∀ (h' : Heap) (tk' : Nat), Fr h₀ L h' m → News h₀ L h' news → Q (.bool (endsF x e)) { s with heap := h', toks := tk' }) :
    wpAny (model PySem.Challenge.rw_mq0075_01.row.prog w) (ktrTop dp un gd cn cs L a ccd cl outer) (call (.ref 47) [.str x tx, .str e te]) Q E s := by
  k_with_none
  w_top off
  revert X T; k_fill; intro X T
  refine wpAny_call ?_
  k_dflt ktr_enter
  iterate 13 (first | (k_unfold; (try dsimp only)) | walk1 | (dsimp only; walk1))
  rename Fr _ _ _ _ => F1
  rename News _ _ _ _ => N1
  refine' loop_while (σ := Nat × Tok) (fun _ => news) (fun c => [(Str.ofString "place", Value.int (c.1 : Int) c.2)]) [] (fun c => c.1 ≤ x.length ∧ trailP x e c.1 = trailP x e x.length) (fun c => c.1) (x.length, _) ?hF ?hN ?hk ?hp ?turn ?hE
  case hF => exact F1
  case hN => exact N1
  case hE => passes_own
  case hk => kst_all
  case hp => exact ⟨Nat.le_refl _, rfl⟩
  case turn =>
    clear N1 F1
    rintro ⟨p, tp⟩ u h tk hmark hP F2 N2
    obtain ⟨hle, htr⟩ := hP
    dsimp only [kstB] at hle htr F2 N2 ⊢
    k_steps
    · refine Hid.mk ?_
      dsimp only [KswPost]
      rename Fr _ _ _ _ => F3; rename News _ _ _ _ => N3
      rename (_ == _) = true => heq
      rename (_ : Int) > 0 => hpos
      have e1 : (p : Int) - 1 = ((p - 1 : Nat) : Int) := by omega
      have ht := trail_go hpos heq
      rw [e1] at F3
      refine ksw_end (p - 1, _) F3 N3 (fun _ h => h) trivial (by kst_all) (by ksw_same) ⟨by dsimp only; omega, by dsimp only; rw [← ht]; exact htr⟩ (by dsimp only; omega)
    · rename (_ == _) = false => hne
      rename (_ : Int) > 0 => hpos
      have ht := trail_stop hpos hne
      have e2 : endsF x e = (((x.length : Int) - (p : Int)).fmod 2 == 1) := by unfold endsF; rw [← htr, ht]
      rw [← e2]
      exact hret _ _ (by k_asm) (by k_asm)
    · rename ¬ (_ : Int) > 0 => hpos
      have hp0 : p = 0 := by omega
      have ht : trailP x e p = p := by rw [hp0]; rfl
      have e2 : endsF x e = (((x.length : Int) - (p : Int)).fmod 2 == 1) := by unfold endsF; rw [← htr, ht]
      rw [← e2]
      exact hret _ _ (by k_asm) (by k_asm)
end Mine
end

section
open PySem PySem.W PyProof.Rows PySem.Builtin.Str
namespace Mine
/-- a slice by its two ends -/
theorem slice_ab (x : Str) (l u : Option Int) (a b : Nat) (hab : a ≤ b) (hb : b ≤ x.length) (e : strSliceIndices l u 1 x.length = strSliceIndices (some (a : Int)) (some (b : Int)) 1 x.length) :
    (Txt.slice x l u).cps.toList = (x.cps.toList.drop a).take (b - a) := by
  unfold Txt.slice
  rw [e]
  split
  · rename_i h
    rw [StrLaws.strSliceIndices_plain hab hb] at h
    simp only [List.length_map, List.length_range, beq_self_eq_true, Bool.true_and, beq_iff_eq] at h
    have ha : a = 0 := by omega
    subst ha
    rw [List.drop_zero, List.take_of_length_le (by simp [Str.length] at *; omega)]
  · exact StrLaws.sliced_plain x hab hb
theorem slice_first (x : Str) : (Txt.slice x none (some 1)).cps.toList = x.cps.toList.take 1 := by
  rw [slice_ab x none (some 1) 0 (min 1 x.length) (Nat.zero_le _) (Nat.min_le_right _ _) ?_, List.drop_zero, Nat.sub_zero]
  · have : x.length = x.cps.toList.length := by simp [Str.length]
    rw [this]
    by_cases h : 1 ≤ x.cps.toList.length
    · rw [Nat.min_eq_left h]
    · rw [Nat.min_eq_right (by omega), List.take_of_length_le (Nat.le_refl _), List.take_of_length_le (by omega)]
  · unfold strSliceIndices
    have h1 : ¬ ((1 : Int) < 0) := by decide
    have h2 : ¬ (((0 : Nat) : Int) < 0) := by decide
    have h3 : ¬ (((min 1 x.length : Nat) : Int) < 0) := by omega
    simp only [if_neg h1, if_neg h2, if_neg h3, show (1 : Int) > 0 by decide, if_true]
    congr 1 <;> omega
theorem slice_rest (x : Str) : (Txt.slice x (some 1) none).cps.toList = x.cps.toList.drop 1 := by
  have hl : x.length = x.cps.toList.length := by simp [Str.length]
  rw [slice_ab x (some 1) none (min 1 x.length) x.length (Nat.min_le_right _ _) (Nat.le_refl _) ?_]
  · rw [hl]
    by_cases h : 1 ≤ x.cps.toList.length
    · rw [Nat.min_eq_left h, List.take_of_length_le (by rw [List.length_drop]; omega)]
    · have h0 : x.cps.toList = [] := List.eq_nil_of_length_eq_zero (by omega)
      rw [h0]; rfl
  · unfold strSliceIndices
    have h1 : ¬ ((1 : Int) < 0) := by decide
    have h2 : ¬ (((min 1 x.length : Nat) : Int) < 0) := by omega
    have h3 : ¬ ((x.length : Int) < 0) := by omega
    simp only [if_neg h1, if_neg h2, if_neg h3, show (1 : Int) > 0 by decide, if_true]
    congr 1 <;> omega
theorem slice_last (x : Str) : (Txt.slice x (some (-1)) none).cps.toList = x.cps.toList.drop (x.cps.toList.length - 1) := by
  have hl : x.length = x.cps.toList.length := by simp [Str.length]
  rw [slice_ab x (some (-1)) none (x.length - 1) x.length (by omega) (Nat.le_refl _) ?_]
  · rw [hl, List.take_of_length_le (by rw [List.length_drop]; omega)]
  · unfold strSliceIndices
    have h1 : ((-1 : Int) < 0) := by decide
    have h2 : ¬ (((x.length - 1 : Nat) : Int) < 0) := by omega
    have h3 : ¬ ((x.length : Int) < 0) := by omega
    simp only [if_pos h1, if_neg h2, if_neg h3, show (1 : Int) > 0 by decide, if_true]
    congr 1 <;> omega
theorem slice_init (x : Str) : (Txt.slice x none (some (-1))).cps.toList = x.cps.toList.take (x.cps.toList.length - 1) := by
  have hl : x.length = x.cps.toList.length := by simp [Str.length]
  rw [slice_ab x none (some (-1)) 0 (x.length - 1) (Nat.zero_le _) (by omega) ?_]
  · rw [hl, List.drop_zero, Nat.sub_zero]
  · unfold strSliceIndices
    have h1 : ((-1 : Int) < 0) := by decide
    have h2 : ¬ (((0 : Nat) : Int) < 0) := by decide
    have h3 : ¬ (((x.length - 1 : Nat) : Int) < 0) := by omega
    simp only [if_pos h1, if_neg h2, if_neg h3, show (1 : Int) > 0 by decide, if_true]
    congr 1 <;> omega
end Mine
end

section
open PySem PySem.W PyProof.Rows
namespace Mine
def ltrim (c : Nat) (l : List Nat) : List Nat := l.dropWhile (· == c)
def rtrim (c : Nat) (l : List Nat) : List Nat := (ltrim c l.reverse).reverse
def trimF (x : Str) (c : Nat) : Str := ⟨(rtrim c (ltrim c x.cps.toList)).toArray⟩
theorem str_beq_list (a : Str) (l : List Nat) : (a == (⟨l.toArray⟩ : Str)) = decide (a.cps.toList = l) := by
  by_cases h : a.cps.toList = l
  · subst h; simp
  · have : a ≠ ⟨l.toArray⟩ := fun e => h (by rw [e])
    rw [beq_eq_false_iff_ne.mpr this, decide_eq_false h]
theorem lt_go {c : Nat} {l : List Nat} (h : l.take 1 = [c]) : ltrim c (l.drop 1) = ltrim c l ∧ (l.drop 1).length < l.length := by
  cases l with
  | nil => cases h
  | cons a r =>
    have : a = c := by simpa using h
    subst this
    refine ⟨?_, by simp⟩
    show _ = List.dropWhile _ (a :: r)
    rw [List.dropWhile_cons, if_pos (by simp)]
    rfl
theorem lt_stop {c : Nat} {l : List Nat} (h : l.take 1 ≠ [c]) : ltrim c l = l := by
  cases l with
  | nil => rfl
  | cons a r =>
    have : a ≠ c := fun e => h (by simp [e])
    show List.dropWhile _ (a :: r) = _
    rw [List.dropWhile_cons, if_neg (by simpa using this)]
theorem rev_first (l : List Nat) : l.reverse.take 1 = l.drop (l.length - 1) := by
  rw [List.take_reverse]
  have : (l.drop (l.length - 1)).length ≤ 1 := by rw [List.length_drop]; omega
  generalize l.drop (l.length - 1) = m at this
  match m, this with
  | [], _ => rfl
  | [_], _ => rfl
theorem rev_rest (l : List Nat) : (l.take (l.length - 1)).reverse = l.reverse.drop 1 := by
  rw [List.drop_reverse]
theorem rt_go {c : Nat} {l : List Nat} (h : l.drop (l.length - 1) = [c]) : rtrim c (l.take (l.length - 1)) = rtrim c l ∧ (l.take (l.length - 1)).length < l.length := by
  have h' : l.reverse.take 1 = [c] := by rw [rev_first]; exact h
  obtain ⟨h1, h2⟩ := lt_go h'
  refine ⟨?_, ?_⟩
  · unfold rtrim
    rw [rev_rest, h1]
  · rw [← rev_rest, List.length_reverse, List.length_reverse] at h2
    exact h2
theorem rt_stop {c : Nat} {l : List Nat} (h : l.drop (l.length - 1) ≠ [c]) : rtrim c l = l := by
  unfold rtrim
  rw [lt_stop (by rw [rev_first]; exact h), List.reverse_reverse]
set_option maxRecDepth 100000 in
set_option maxHeartbeats 8000000 in
theorem trim_ok {w : World} {mean : ExcName → Option Value} {mg mb : Str → Option Value} (x : Str) (tx : Tok) (c : Nat) (te : Tok) (hx : x.length ≤ 100000) (dp un : Nat) (gd : Option (List Code)) (cn : Str) (cs : Scope) (a : Addr) (ccd : Value) (cl : List (Str × Addr)) (outer : List Env) (A₀ : Around) (base h₀ : Heap) (L : Addr) (m : Str → Option Value) (news : List (Addr × Obj)) (s : Shared)
    (Q E : Value → Shared → Prop) (B : Below A₀ base outer h₀) (F : Fr h₀ L s.heap m) (X : (Mine.hd.heap_39 w.params).In h₀) (N : News h₀ L s.heap news) (T : Top Mine.hd.view_39 (looseW Mine.hd.view_39 []) mean mg mb h₀) (hk : cs.kind = .function) (hd : dp + 1 < recursionLimit) (hu : un + 8 < cLine)
    (hret : ∀ (t : Tok) (h' : Heap) (tk' : Nat), Fr h₀ L h' m → News h₀ L h' news → Q (.str (trimF x c) t) { s with heap := h', toks := tk' }) :
    wpAny (model PySem.Challenge.rw_mq0075_01.row.prog w) (ktrTop dp un gd cn cs L a ccd cl outer) (call (.ref 61) [.str x tx, .str ⟨#[c]⟩ te]) Q E s := by
  k_with_none
  w_top off
  revert X T; k_fill; intro X T
  refine wpAny_call ?_
  k_dflt ktr_enter
  iterate 2 (first | (k_unfold; (try dsimp only)) | walk1 | (dsimp only; walk1))
  rename Fr _ _ _ _ => F1
  rename News _ _ _ _ => N1
  refine' loop_while (σ := Str × Tok) (fun _ => news) (fun k => [(Str.ofString "part", Value.str k.1 k.2)]) [] (fun k => k.1.length ≤ x.length ∧ ltrim c k.1.cps.toList = ltrim c x.cps.toList) (fun k => k.1.length) (x, tx) ?hF ?hN ?hk ?hp ?turn ?hE
  case hF => exact F1
  case hN => exact N1
  case hE => passes_own
  case hk => kst_all
  case hp => exact ⟨Nat.le_refl _, rfl⟩
  case turn =>
    clear N1 F1
    rintro ⟨p, tp⟩ u h tk hmark hP F2 N2
    obtain ⟨hle, hlt⟩ := hP
    dsimp only [kstB] at hle hlt F2 N2 ⊢
    have hpl : p.length ≤ 100000 := by omega
    have hpn : p.cps.toList.length = p.length := by simp [Str.length]
    by_cases hc : (Txt.slice p none (some 1) == (⟨#[c]⟩ : Str)) = true
    · k_steps
      refine Hid.mk ?_
      dsimp only [KswPost]
      rename Fr _ _ _ _ => F3; rename News _ _ _ _ => N3
      have hc' := hc
      rw [str_beq_list, decide_eq_true_eq, slice_first] at hc'
      obtain ⟨g1, g2⟩ := lt_go hc'
      rw [← slice_rest] at g1 g2
      have g3 : (Txt.slice p (some 1) none).cps.toList.length = (Txt.slice p (some 1) none).length := by simp [Str.length]
      refine ksw_end (Txt.slice p (some 1) none, _) F3 N3 (fun _ h => h) trivial (by kst_all) (by ksw_same) ⟨by dsimp only; omega, by dsimp only; rw [g1]; exact hlt⟩ (by dsimp only; omega)
    · iterate 14 (first | (k_unfold; (try dsimp only)) | walk1 | (dsimp only; walk1))
      have hstop : ltrim c p.cps.toList = p.cps.toList := by
        refine lt_stop fun h => hc ?_
        rw [str_beq_list, decide_eq_true_eq, slice_first]
        exact h
      rw [hstop] at hlt
      rename Fr _ _ _ _ => F1
      rename News _ _ _ _ => N1
      refine' loop_while (σ := Str × Tok) (fun _ => news) (fun k => [(Str.ofString "part", Value.str k.1 k.2)]) [] (fun k => k.1.length ≤ x.length ∧ rtrim c k.1.cps.toList = rtrim c p.cps.toList) (fun k => k.1.length) (p, tp) ?hF2 ?hN2 ?hk2 ?hp2 ?turn2 ?hE2
      case hF2 => exact F1
      case hN2 => exact N1
      case hE2 => passes_own
      case hk2 => kst_all
      case hp2 => exact ⟨hle, rfl⟩
      case turn2 =>
        clear N1 F1
        rintro ⟨q, tq⟩ u2 h2 tk2 hmark2 hP2 F2 N2
        obtain ⟨hle2, hrt⟩ := hP2
        dsimp only [kstB] at hle2 hrt F2 N2 ⊢
        have hql : q.length ≤ 100000 := by omega
        have hqn : q.cps.toList.length = q.length := by simp [Str.length]
        by_cases hc2 : (Txt.slice q (some (-1)) none == (⟨#[c]⟩ : Str)) = true
        · k_steps
          refine Hid.mk ?_
          dsimp only [KswPost]
          rename Fr _ _ _ _ => F3; rename News _ _ _ _ => N3
          have hc' := hc2
          rw [str_beq_list, decide_eq_true_eq, slice_last] at hc'
          obtain ⟨g1, g2⟩ := rt_go hc'
          rw [← slice_init] at g1 g2
          have g3 : (Txt.slice q none (some (-1))).cps.toList.length = (Txt.slice q none (some (-1))).length := by simp [Str.length]
          refine ksw_end (Txt.slice q none (some (-1)), _) F3 N3 (fun _ h => h) trivial (by kst_all) (by ksw_same) ⟨by dsimp only; omega, by dsimp only; rw [g1]; exact hrt⟩ (by dsimp only; omega)
        · k_steps
          have hstop2 : rtrim c q.cps.toList = q.cps.toList := by
            refine rt_stop fun h => hc2 ?_
            rw [str_beq_list, decide_eq_true_eq, slice_last]
            exact h
          have e9 : q = trimF x c := by
            apply Str.ext'
            apply Array.toList_inj.mp
            show q.cps.toList = rtrim c (ltrim c x.cps.toList)
            rw [← hlt, ← hrt, hstop2]
          subst e9
          exact hret _ _ _ (by k_asm) (by k_asm)
end Mine
end

section
open PySem PySem.W PyProof.Rows
namespace Mine
def bareL (e : Str) : List Str → Str → Str
  | [], acc => acc
  | [p], acc => acc ++ p
  | p :: q :: r, acc => if (p == Str.ofString "") = true then bareL e r (acc ++ e ++ q) else bareL e (q :: r) (acc ++ p)
def bareF (x e : Str) : Str := match Txt.split x e with
  | [] => Str.ofString ""
  | p :: r => bareL e r p
def wsum (l : List Str) : Nat := (l.map (·.length)).sum + l.length
theorem wsum_cons (p : Str) (l : List Str) : wsum (p :: l) = p.length + 1 + wsum l := by
  unfold wsum
  simp only [List.map_cons, List.sum_cons, List.length_cons]
  omega
section
variable {prog : Program} {w : World} {A : Around} {E : Value → Shared → Prop} {s : Shared}
/-- xs[k] -/
theorem item_at {value slice : PySem.Expr} {l : Addr} {vs : List Value} {i : Int} {u : Tok} {v : Value} {Q : Value → Shared → Prop} (k : Nat) (hl : s.heap.IsList l vs.toArray) (hi : i = (k : Int)) (hhi : k < 2 ^ 40) (hx : vs[k]? = some v) (h : Q v s)
    (hs : subscripted slice false (.ref l) (.int i u) = operate [.ref l, .int i u] (getItem (.ref l) (.int i u)) := by with_unfolding_all rfl) :
    wpAny (model prog w) A (subscriptTail value slice (.ref l) (.int i u)) Q E s := by
  subst hi
  exact tail_any hl.typeIs slot_list_getitem.lookup (wpAny_getItem_list hl (by omega) (by omega) (by simpa using hx) h) hs
end
theorem strs_get {vs : List Value} {ss : List Str} (h : StrsAre vs ss) : ∀ (i : Nat) (y : Str), ss[i]? = some y → ∃ t : Tok, vs[i]? = some (Value.str y t) := by
  induction h with
  | nil => intro i y h; simp at h
  | cons z t r ih =>
    intro i y h
    cases i with
    | zero => simp at h; subst h; exact ⟨t, rfl⟩
    | succ i => simp at h; simpa using ih i y h
theorem drop_at {α : Type} {l : List α} {k : Nat} {p : α} {r : List α} (h : l.drop k = p :: r) : l[k]? = some p ∧ l.drop (k + 1) = r ∧ k < l.length := by
  have h1 : k < l.length := by
    false_or_by_contra
    rename_i hc
    rw [List.drop_of_length_le (by omega)] at h
    cases h
  rw [List.drop_eq_getElem_cons h1] at h
  obtain ⟨h2, h3⟩ := List.cons.inj h
  exact ⟨by rw [List.getElem?_eq_getElem h1, h2], h3, h1⟩
theorem split_ne (x y : Str) : ∃ p r, Txt.split x y = p :: r := by
  unfold Txt.split
  split
  · exact ⟨_, _, rfl⟩
  · split
    · exact ⟨_, _, rfl⟩
    · rw [StrLaws.partsBetween_eq]
      exact StrLaws.partsFrom_ne _ _ _ _
set_option maxRecDepth 100000 in
set_option maxHeartbeats 8000000 in
theorem bare_ok {w : World} {mean : ExcName → Option Value} {mg mb : Str → Option Value} (x : Str) (tx : Tok) (e : Str) (te : Tok) (he : e.length = 1) (hx : x.length ≤ 100000) (dp un : Nat) (gd : Option (List Code)) (cn : Str) (cs : Scope) (a : Addr) (ccd : Value) (cl : List (Str × Addr)) (outer : List Env) (A₀ : Around) (base h₀ : Heap) (L : Addr) (m : Str → Option Value) (news : List (Addr × Obj)) (s : Shared)
    (Q E : Value → Shared → Prop) (B : Below A₀ base outer h₀) (F : Fr h₀ L s.heap m) (X : (Mine.hd.heap_39 w.params).In h₀) (N : News h₀ L s.heap news) (T : Top Mine.hd.view_39 (looseW Mine.hd.view_39 []) mean mg mb h₀) (hk : cs.kind = .function) (hd : dp + 1 < recursionLimit) (hu : un + 8 < cLine)
    (hret : ∀ (t : Tok) (h' : Heap) (tk' : Nat), Fr h₀ L h' m → News h₀ L h' news → Q (.str (bareF x e) t) { s with heap := h', toks := tk' }) :
    wpAny (model PySem.Challenge.rw_mq0075_01.row.prog w) (ktrTop dp un gd cn cs L a ccd cl outer) (call (.ref 54) [.str x tx, .str e te]) Q E s := by
  k_with_none
  w_top off
  have hw : wsum (Txt.split x e) ≤ x.length + 1 := split_weight x e (by omega)
  unfold bareF at hret
  obtain ⟨p0, r0, hps⟩ := split_ne x e
  rw [hps] at hw hret
  dsimp only at hret
  rw [wsum_cons] at hw
  revert X T; k_fill; intro X T
  refine wpAny_call ?_
  k_dflt ktr_enter
  k_with "call builtin:str.split" => (k_dflt (refine KSpl.split1 (by k_asm) (by k_asm) (by rw [beq_eq_false_iff_ne]; omega) ?_ (by rw [PySem.sizeLine_eq]; omega)); intro D' l' h' k' e' a' F' N' l1; rw [e', hps] at a')
  iterate 18 (first | (k_unfold; (try dsimp only)) | walk1 | (dsimp only; walk1))
  obtain ⟨t0, hg0⟩ := strs_get a' 0 p0 rfl
  have hal := a'.length
  have hr0 : r0.length ≤ x.length := by unfold wsum at hw; omega
  k_dflt (refine item_at 0 (News.isList (by k_asm) (by k_memK)) rfl (by decide) hg0 ?_)
  iterate 6 (first | (k_unfold; (try dsimp only)) | walk1 | (dsimp only; walk1))
  rename Fr _ _ _ _ => F1
  rename News _ _ _ _ => N1
  refine' loop_while (σ := Nat × Tok × Str × Tok) (fun _ => (D', W.listOf (strValues l').toArray 0) :: news) (fun k => [(Str.ofString "place", Value.int (k.1 : Int) k.2.1), (Str.ofString "bare", Value.str k.2.2.1 k.2.2.2)]) [] (fun k => 1 ≤ k.1 ∧ k.1 ≤ (p0 :: r0).length ∧ bareL e ((p0 :: r0).drop k.1) k.2.2.1 = bareL e r0 p0 ∧ k.2.2.1.length + wsum ((p0 :: r0).drop k.1) ≤ x.length) (fun k => (p0 :: r0).length - k.1) (1, _, p0, _) ?hF ?hN ?hk ?hp ?turn ?hE
  case hF => exact F1
  case hN => exact N1
  case hE => passes_own
  case hk => kst_all
  case hp => exact ⟨Nat.le_refl _, by simp, rfl, by show p0.length + wsum r0 ≤ _; omega⟩
  case turn =>
    clear N1 F1
    rintro ⟨k, tk0, b, tb⟩ u h tk hmark hP F2 N2
    obtain ⟨hk1, hk2, hbl, hwl⟩ := hP
    dsimp only [kstB] at hk1 hk2 hbl hwl F2 N2 ⊢
    have hbb : b.length ≤ 100000 := by omega
    have hps2 : (p0 :: r0).length ≤ 100001 := by simp only [List.length_cons]; omega
    cases hdr : (p0 :: r0).drop k with
    | nil =>
      have hke : k = (p0 :: r0).length := by
        have := congrArg List.length hdr
        rw [List.length_drop] at this
        simp only [List.length_nil] at this
        omega
      k_with "call builtin:len" => (k_dflt (refine kst_len (k := (p0 :: r0).length) (by k_asm) (by k_memK) hal (by omega) ?_))
      k_steps
      rw [hdr] at hbl
      have hbl' : b = bareL e r0 p0 := hbl
      subst hbl'
      exact hret _ _ _ (by k_asm) (kst_newsOf (by k_asm) fun p hp => .tail _ hp)
    | cons p r =>
      obtain ⟨hpk, hdr1, hklt⟩ := drop_at hdr
      obtain ⟨t1, hg1⟩ := strs_get a' k p hpk
      rw [hdr, wsum_cons] at hwl
      rw [hdr] at hbl
      have e1 : (k : Int) + 1 = ((k + 1 : Nat) : Int) := by omega
      cases r with
      | nil =>
        have hke1 : k + 1 = (p0 :: r0).length := by
          have := congrArg List.length hdr1
          rw [List.length_drop] at this
          simp only [List.length_nil] at this
          omega
        k_with "subscriptTail Name Name ref int" => (k_dflt (refine item_at k (News.isList (by k_asm) (by k_memK)) rfl (by omega) hg1 ?_))
        k_steps
        all_goals (
          refine Hid.mk ?_
          dsimp only [KswPost]
          rename Fr _ _ _ _ => F3; rename News _ _ _ _ => N3
          rw [e1] at F3
          refine ksw_end (k + 1, _, b ++ p, _) F3 N3 (fun _ h => h) trivial (by kst_all) (by ksw_same) ⟨by dsimp only; omega, by dsimp only; omega, by dsimp only; rw [hdr1]; exact hbl, by dsimp only; rw [hdr1, Str.length_append]; omega⟩ (by dsimp only; omega))
      | cons q r' =>
        obtain ⟨hqk, hdr2, hklt2⟩ := drop_at hdr1
        obtain ⟨t2, hg2⟩ := strs_get a' (k + 1) q hqk
        have e2 : ((k + 1 : Nat) : Int) + 1 = ((k + 2 : Nat) : Int) := by omega
        rw [wsum_cons] at hwl
        k_with "subscriptTail Name Name ref int" => (k_dflt (refine item_at (k + 1) (News.isList (by k_asm) (by k_memK)) (by omega) (by omega) hg2 ?_))
        k_with "subscriptTail Name Name ref int" => (k_dflt (refine item_at k (News.isList (by k_asm) (by k_memK)) rfl (by omega) hg1 ?_))
        by_cases hp0 : (p == Str.ofString "") = true
        · k_steps
          refine Hid.mk ?_
          dsimp only [KswPost]
          rename Fr _ _ _ _ => F3; rename News _ _ _ _ => N3
          rw [e1, e2] at F3
          have hb2 : bareL e (p :: q :: r') b = bareL e r' (b ++ e ++ q) := by rw [bareL, if_pos hp0]
          refine ksw_end (k + 2, _, b ++ e ++ q, _) F3 N3 (fun _ h => h) trivial (by kst_all) (by ksw_same) ⟨by dsimp only; omega, by dsimp only; omega, by dsimp only; rw [hdr2, ← hb2]; exact hbl, by dsimp only; rw [hdr2, Str.length_append, Str.length_append]; omega⟩ (by dsimp only; omega)
        · k_steps
          refine Hid.mk ?_
          dsimp only [KswPost]
          rename Fr _ _ _ _ => F3; rename News _ _ _ _ => N3
          rw [e1] at F3
          have hb2 : bareL e (p :: q :: r') b = bareL e (q :: r') (b ++ p) := by rw [bareL, if_neg hp0]
          refine ksw_end (k + 1, _, b ++ p, _) F3 N3 (fun _ h => h) trivial (by kst_all) (by ksw_same) ⟨by dsimp only; omega, by dsimp only; omega, by dsimp only; rw [hdr1, ← hb2]; exact hbl, by dsimp only; rw [hdr1, wsum_cons, Str.length_append]; omega⟩ (by dsimp only; omega)
end Mine
end

section
open PySem PySem.W PyProof.Rows
namespace Mine
section
variable {prog : Program} {w : World} {A : Around} {E : Value → Shared → Prop} {s : Shared} {env : Env} {h₀ : Heap} {x : PySem.Str} {body : List Stmt} {Q : Flow → Shared → Prop}
/-- a loop over a range downwards, the turn's end left to the hand -/
theorem loop_down {σ : Type} {r : Addr} {a₀ b₀ : Int} {t₀ u₀ v₀ : Tok} {n : Nat} {m₀ : PySem.Str → Option Value} (Led : σ → List (Addr × Obj)) (ps : σ → List (PySem.Str × Value)) (stored : List PySem.Str) (P : List Int → σ → Prop) (c₀ : σ)
    (hh : A.handled = none) (hr : IsRange s.heap r a₀ b₀ (-1) t₀ u₀ v₀) (hsmall : Builtin.Range.small a₀ b₀ (-1) = true) (hn : Builtin.Range.rangeSize a₀ b₀ (-1) = (n : Int)) (F : Fr h₀ env.locals s.heap m₀) (N : News h₀ env.locals s.heap (Led c₀)) (hk : ∀ p ∈ ps c₀, m₀ p.1 = some p.2) (hp : P [] c₀)
    (turn : ∀ (c : σ) (pre : List Int) (k : Int) t (u : PySem.Str → Option Value) h tk own, k = a₀ - (pre.length : Int) → pre.length < n → KstMark → OwnOff own ((Led c₀).map (·.1)) → P pre c →
      Fr h₀ env.locals h (fun y => if y = x then some (.int k t) else kstB (fun z => if stored.contains z then u z else m₀ z) (ps c) y) → News h₀ env.locals h (Led c ++ own) →
      wpAny (model prog w) A (execs body env) (fun f s₂ => Hid (InvPostN h₀ env.locals (KstS Led ps (fun _ => True) x stored m₀ P (pre ++ [k])) own ((Led c₀).map (·.1)) { s with heap := h, toks := tk } Q f s₂)) E { s with heap := h, toks := tk })
    (fin : ∀ (c : σ) (u : PySem.Str → Option Value) h tk, P (downKs a₀ n) c → Fr h₀ env.locals h (fun y => if y = x then u y else kstB (fun z => if stored.contains z then u z else m₀ z) (ps c) y) → News h₀ env.locals h (Led c) → Q .next { s with heap := h, toks := tk }) :
    wpAny (model prog w) A (pyIter (.ref r)) (fun it s₂ => LoopAtV prog w A h₀ env x body Q E it s₂) E s := by
  refine kst_rangeD Led ps (fun _ => True) stored P c₀ hh hr hsmall hn F N trivial hk hp ?_ ?_
  · intro c pre k t u h tk own e hl hoff _ hP F₁ N₁
    exact wpAny_mono (turn c pre k t u h tk own e hl kstMark hoff hP F₁ N₁) (fun f s₂ p => p.out) fun _ _ e => e
  · intro c u h tk _ hP F₁ N₁
    exact fin c u h tk hP F₁ N₁
end
theorem cut_at : ∀ (l : List Value) (k : Nat) (h : k < l.length), kl_cut l k = some (l.take k, l[k], l.drop (k + 1))
  | [], k, h => absurd h (Nat.not_lt_zero _)
  | x :: r, 0, _ => rfl
  | x :: r, k + 1, h => by
    have := cut_at r k (by simpa using h)
    unfold kl_cut
    rw [this]
    rfl
theorem strs_append {vs ws : List Value} {xs ys : List Str} (h : StrsAre vs xs) (h' : StrsAre ws ys) : StrsAre (vs ++ ws) (xs ++ ys) := h.append' h'
theorem strs_getElem {vs : List Value} {ss : List Str} (h : StrsAre vs ss) : ∀ (k : Nat) (hk : k < vs.length) (hk' : k < ss.length), ∃ t : Tok, vs[k] = Value.str ss[k] t := by
  induction h with
  | nil => intro k hk; exact absurd hk (Nat.not_lt_zero _)
  | cons y t r ih =>
    intro k hk hk'
    cases k with
    | zero => exact ⟨t, rfl⟩
    | succ k => exact ih k (by simpa using hk) (by simpa using hk')
section
variable {prog : Program} {w : World} {A : Around} {E : Value → Shared → Prop} {s : Shared} {h₀ : Heap} {L D : Addr} {m : Str → Option Value} {news news' : List (Addr × Obj)}
/-- xs.pop(i) of a list of texts -/
theorem popAt_strs {lv : List Value} {ls : List Str} {n : Nat} {i : Int} {u : Tok} {Q : Value → Shared → Prop} (k : Nat) (F : Fr h₀ L s.heap m) (N : News h₀ L s.heap news) (hS : StrsAre lv ls) (hi : i = (k : Int)) (hk : k < ls.length) (hz : ls.length ≤ 1000)
    (U : Upd D (W.listOf lv.toArray n) (W.listOf (lv.take k ++ lv.drop (k + 1)).toArray (n + 1)) news news')
    (h : ∀ h' t, Fr h₀ L h' m → News h₀ L h' news' → StrsAre (lv.take k ++ lv.drop (k + 1)) (ls.take k ++ ls.drop (k + 1)) → Q (.str ls[k] t) { s with heap := h' }) :
    wpAny (model prog w) A (call (.builtin "list.pop") [.ref D, .int i u]) Q E s := by
  have hl := hS.length
  have hk' : k < lv.length := by omega
  obtain ⟨t, ht⟩ := strs_getElem hS k hk' hk
  subst hi
  refine kl_popAt F N (k := k) ?_ ?_ (e := cut_at lv k hk') U ?_ ?_
  · unfold Builtin.List.listFitsIndex
    simp
    omega
  · rw [List.size_toArray]; exact seqIdx_nat hk'
  · rw [PySem.sizeLine_eq]; show lv.length ≤ _; omega
  · intro h' F' N'
    rw [ht]
    exact h h' t F' N' (strs_append (strs_take hS k) (strs_drop hS (k + 1)))
end
theorem sub2 {a b : Addr × Obj} {news own : List (Addr × Obj)} : ∀ p ∈ a :: b :: news, p ∈ a :: b :: (news ++ own) := by
  intro p hp
  rcases List.mem_cons.mp hp with rfl | hp
  · exact .head _
  rcases List.mem_cons.mp hp with rfl | hp
  · exact .tail _ (.head _)
  exact .tail _ (.tail _ (List.mem_append.mpr (.inl hp)))
theorem own2 {a b : Addr × Obj} {news own : List (Addr × Obj)} : ∀ p ∈ own, p ∈ a :: b :: (news ++ own) := fun p hp => .tail _ (.tail _ (List.mem_append.mpr (.inr hp)))
end Mine
end

section
open PySem PySem.W PyProof.Rows
namespace Mine
/-- a turn of _law_order: the number, what is left, the order -/
def ostep (s : Int × List Str × List Str) (size : Int) : Int × List Str × List Str :=
  (s.1.fdiv size, s.2.1.take (s.1.fmod size).toNat ++ s.2.1.drop ((s.1.fmod size).toNat + 1), s.2.2 ++ [s.2.1.getD (s.1.fmod size).toNat (Str.ofString "")])
def orun (n : Int) (l : List Int) : Int × List Str × List Str := l.foldl ostep (n, signs (Str.ofString ",\"\\ ;'a"), [])
def orderF (n : Int) : List Str := (orun n (downKs 7 7)).2.2
theorem orun_snoc (n : Int) (l : List Int) (k : Int) : orun n (l ++ [k]) = ostep (orun n l) k := by unfold orun; rw [List.foldl_append]; rfl
theorem fdiv_ok {n k : Int} (h0 : 0 ≤ n) (hk : 1 ≤ k) : 0 ≤ n.fdiv k ∧ n.fdiv k ≤ n := by
  rw [Int.fdiv_eq_ediv_of_nonneg _ (by omega)]
  exact ⟨Int.ediv_nonneg h0 (by omega), Int.ediv_le_self _ h0⟩
theorem fmod_ok {n k : Int} (hk : 1 ≤ k) : 0 ≤ n.fmod k ∧ n.fmod k < k := by
  rw [Int.fmod_eq_emod_of_nonneg _ (by omega)]
  exact ⟨Int.emod_nonneg _ (by omega), Int.emod_lt_of_pos _ (by omega)⟩
set_option maxRecDepth 100000 in
set_option maxHeartbeats 8000000 in
theorem order_ok {w : World} {mean : ExcName → Option Value} {mg mb : Str → Option Value} (n₀ : Int) (tn : Tok) (hn0 : 0 ≤ n₀) (hn : n₀ ≤ 1000000) (dp un : Nat) (gd : Option (List Code)) (cn : Str) (cs : Scope) (a : Addr) (ccd : Value) (cl : List (Str × Addr)) (outer : List Env) (A₀ : Around) (base h₀ : Heap) (L : Addr) (m : Str → Option Value) (news : List (Addr × Obj)) (s : Shared)
    (Q E : Value → Shared → Prop) (B : Below A₀ base outer h₀) (F : Fr h₀ L s.heap m) (X : (Mine.hd.heap_39 w.params).In h₀) (N : News h₀ L s.heap news) (T : Top Mine.hd.view_39 (looseW Mine.hd.view_39 []) mean mg mb h₀) (hk : cs.kind = .function) (hd : dp + 1 < recursionLimit) (hu : un + 8 < cLine)
    (hret : ∀ (r : Addr) (vs : List Value) (h' : Heap) (c : Nat) (tk' : Nat), StrsAre vs (orderF n₀) → Fr h₀ L h' m → News h₀ L h' ((r, W.listOf vs.toArray c) :: news) → (∀ p ∈ news, p.1 < r) → Q (.ref r) { s with heap := h', toks := tk' }) :
    wpAny (model PySem.Challenge.rw_mq0075_01.row.prog w) (ktrTop dp un gd cn cs L a ccd cl outer) (call (.ref 33) [.int n₀ tn]) Q E s := by
  k_with_none
  w_top off
  revert X T; k_fill; intro X T
  refine wpAny_call ?_
  k_dflt ktr_enter
  k_with "call type:list" => (k_dflt (refine list_strL (by rfl) (by k_asm) (by k_asm) (by decide +kernel) ?_); intro D' ys' n' h' tk' F' N' l1 hS')
  iterate 34 (first | (k_unfold; (try dsimp only)) | walk1 | (dsimp only; walk1))
  rename_i hx0 tk00 lo hx1 hlo hx2 F0 N0 hx3 tk01 t1 u1 v1 hR FR NR hKp
  have hlo1 := hlo.1
  have hlo2 := hlo.2
  have hD2 := allLt_of l1
  have h7 : (signs (Str.ofString ",\"\\ ;'a")).length = 7 := by decide +kernel
  refine' loop_down (σ := Tok × (Int × List Str × List Str) × List Value × Nat × List Value × Nat) (fun c => (lo, W.listOf c.2.2.1.toArray c.2.2.2.1) :: (D', W.listOf c.2.2.2.2.1.toArray c.2.2.2.2.2) :: news) (fun c => [(Str.ofString "number", Value.int c.2.1.1 c.1)]) [] (fun pre c => c.2.1 = orun n₀ pre ∧ StrsAre c.2.2.1 c.2.1.2.2 ∧ StrsAre c.2.2.2.2.1 c.2.1.2.1 ∧ c.2.1.2.1.length + pre.length = 7 ∧ c.2.1.2.2.length = pre.length ∧ 0 ≤ c.2.1.1 ∧ c.2.1.1 ≤ 1000000) (tn, (n₀, signs (Str.ofString ",\"\\ ;'a"), []), [], 0, ys', n') (by rfl) hR (by decide) (rangeSize_downNat _ _) FR NR ?hk ?hp ?turn ?fin
  case hk => kst_all
  case hp => exact ⟨rfl, .nil, hS', by rw [h7]; rfl, rfl, hn0, hn⟩
  case turn =>
    clear NR FR N0 F0
    rintro ⟨tk1, ⟨nu, lf, od⟩, ov, co, lv, clf⟩ pre k t u h tk own ek hpl hmark hoff hP F2 N2
    obtain ⟨hst, hov, hlv, hll, hol, hnu0, hnu1⟩ := hP
    dsimp only [kstB] at hst hov hlv hll hol hnu0 hnu1 F2 N2 hoff ⊢
    simp only [List.cons_append] at N2
    simp only [List.map_cons] at hoff
    have hpl7 : pre.length < 7 := hpl
    have hk1 : 1 ≤ k ∧ k ≤ 7 ∧ k = 7 - (pre.length : Int) := by omega
    obtain ⟨hm0, hm1⟩ := fmod_ok (n := nu) hk1.1
    obtain ⟨hd0, hd1⟩ := fdiv_ok (k := k) hnu0 hk1.1
    have hidx : (nu.fmod k).toNat < lf.length := by omega
    have hovl := hov.length
    k_with "call builtin:list.pop" => (k_dflt (refine popAt_strs (nu.fmod k).toNat (by k_asm) (by k_asm) hlv (by omega) hidx (by omega) (by k_upd) ?_); intro h9 t9 F9 N9 hS9)
    k_steps
    refine Hid.mk ?_; dsimp only [InvPostN]
    rename Fr _ _ _ _ => F3; rename News _ _ _ _ => N3
    simp only [List.push_toArray] at N3
    refine kst_end (_, (nu.fdiv k, lf.take (nu.fmod k).toNat ++ lf.drop ((nu.fmod k).toNat + 1), od ++ [lf[(nu.fmod k).toNat]]), ov ++ [Value.str lf[(nu.fmod k).toNat] t9], _, lv.take (nu.fmod k).toNat ++ lv.drop ((nu.fmod k).toNat + 1), _) F3 N3 sub2 own2 rfl trivial (by kst_all) (by kst_same) ⟨?_, KStt.strs_snoc hov, hS9, ?_, ?_, hd0, ?_⟩
    · dsimp only
      rw [orun_snoc, ← hst]
      unfold ostep
      dsimp only
      rw [List.getD_eq_getElem?_getD, List.getElem?_eq_getElem hidx]
      rfl
    · dsimp only
      rw [List.length_append, List.length_take, List.length_drop, List.length_append]
      simp only [List.length_cons, List.length_nil]
      omega
    · dsimp only
      rw [List.length_append, List.length_append]
      simp only [List.length_cons, List.length_nil]
      omega
    · dsimp only; omega
  case fin =>
    clear NR FR N0 F0
    rintro ⟨tk1, ⟨nu, lf, od⟩, ov, co, lv, clf⟩ u h tk hP F2 N2
    obtain ⟨hst, hov, hlv, hll, hol, hnu0, hnu1⟩ := hP
    dsimp only [kstB] at hst hov F2 N2 ⊢
    k_steps
    have e9 : od = orderF n₀ := by
      unfold orderF
      have : ((7 : Int) - 0).toNat = 7 := by decide
      rw [this] at hst
      rw [← hst]
    subst e9
    refine hret lo ov _ co _ hov (by k_asm) (kst_newsOf (by k_asm) ?_) (fun p hp => kst_ltOf hlo2 p hp)
    intro p hp
    rcases List.mem_cons.mp hp with rfl | hp
    · exact .head _
    · exact .tail _ (.tail _ hp)
end Mine
end

section
open PySem PySem.W PyProof.Rows
namespace Mine
/-- the quoted body: chunks are joined while it ends escaped -/
def gather (e q : Str) : Str → List Str → Str × List Str
  | body, [] => (body, [])
  | body, c :: r => if endsF body e = true then gather e q (body ++ (q ++ c)) r else (body, c :: r)
theorem gather_len (e q : Str) : ∀ (r : List Str) (body : Str), (gather e q body r).2.length ≤ r.length
  | [], _ => Nat.le_refl _
  | c :: r, body => by
    unfold gather
    split
    · have := gather_len e q r (body ++ (q ++ c))
      simp only [List.length_cons]
      omega
    · exact Nat.le_refl _
theorem gather_wsum {e q : Str} (hq : q.length = 1) : ∀ (r : List Str) (body : Str), (gather e q body r).1.length + wsum (gather e q body r).2 ≤ body.length + wsum r
  | [], body => Nat.le_refl _
  | c :: r, body => by
    unfold gather
    split
    · have := gather_wsum (e := e) hq r (body ++ (q ++ c))
      rw [Str.length_append, Str.length_append, hq] at this
      rw [wsum_cons]
      omega
    · exact Nat.le_refl _
/-- the parts: those ahead and the last one -/
def addParts (st : List Str × Str) : List Str → List Str × Str
  | [] => st
  | o :: os => os.foldl (fun st o => (st.1 ++ [st.2], o)) (st.1, st.2 ++ o)
def readGo (pg q e : Str) : Nat → List Str → List Str × Str → List Str × Str
  | 0, _, st => st
  | _ + 1, [], st => st
  | n + 1, c :: r, st =>
    let st := addParts st (Txt.split c pg)
    match r with
    | [] => st
    | b :: r2 =>
      let g := gather e q b r2
      let st := (st.1, st.2 ++ (q ++ bareF g.1 e))
      match g.2 with
      | [] => st
      | d :: r3 => readGo pg q e n (d :: r3) (st.1, st.2 ++ q)
theorem bareL_len {e : Str} (he : e.length = 1) : ∀ (l : List Str) (acc : Str), (bareL e l acc).length ≤ acc.length + wsum l
  | [], acc => by unfold bareL; omega
  | [p], acc => by unfold bareL; rw [Str.length_append, wsum_cons]; omega
  | p :: q :: r, acc => by
    unfold bareL
    split
    · have := bareL_len he r (acc ++ e ++ q)
      rw [Str.length_append, Str.length_append, he] at this
      rw [wsum_cons, wsum_cons]
      omega
    · have := bareL_len he (q :: r) (acc ++ p)
      rw [Str.length_append] at this
      rw [wsum_cons]
      omega
theorem bareF_len {x e : Str} (he : e.length = 1) : (bareF x e).length ≤ x.length := by
  have hw : wsum (Txt.split x e) ≤ x.length + 1 := split_weight x e (by omega)
  unfold bareF
  obtain ⟨p, r, h⟩ := split_ne x e
  rw [h] at hw ⊢
  rw [wsum_cons] at hw
  have := bareL_len he r p
  dsimp only
  omega
def readF (x pg q e : Str) : List Str × Str := readGo pg q e (Txt.split x q).length (Txt.split x q) ([], Str.ofString "")
def readParts (x pg q e : Str) (c : Nat) : List Str :=
  ((if ((readF x pg q e).2 == Str.ofString "") = true then (readF x pg q e).1 else (readF x pg q e).1 ++ [(readF x pg q e).2])).map fun p => trimF p c
end Mine
end

section
open PySem PySem.W PyProof.Rows
namespace Mine
theorem last_snoc : ∀ (p : List Value) (y : Value), kl_last (p ++ [y]) = some (p, y)
  | [], y => rfl
  | a :: p, y => by
    show (match kl_last (p ++ [y]) with | some (p, y) => some (a :: p, y) | none => some ([], a)) = _
    rw [last_snoc p y]
theorem last_at {prog : Program} {w : World} {A : Around} {E : Value → Shared → Prop} {s : Shared} {h₀ : Heap} {L D : Addr} {news : List (Addr × Obj)} {vs : List Value} {v : Value} {n : Nat} {value slice : PySem.Expr} {u : Tok} {Q : Value → Shared → Prop} (N : News h₀ L s.heap news) (hm : (D, W.listOf (vs ++ [v]).toArray n) ∈ news) (h : Q v s)
    (hs : subscripted slice false (.ref D) (.int (-1) u) = operate [.ref D, .int (-1) u] (getItem (.ref D) (.int (-1) u)) := by with_unfolding_all rfl) :
    wpAny (model prog w) A (subscriptTail value slice (.ref D) (.int (-1) u)) Q E s :=
  tail_any (N.isList hm).typeIs slot_list_getitem.lookup (last_get N hm h) hs
theorem kl_last_snoc (p : List Value) (y : Value) : kl_last (p ++ [y]).toArray.toList = some (p, y) := last_snoc p y
theorem extend_any {prog : Program} {w : World} {A : Around} {E : Value → Shared → Prop} {s : Shared} {h₀ : Heap} {L D b : Addr} {m : Str → Option Value} {news news' : List (Addr × Obj)} {pv ov : List Value} {n n2 : Nat} {Q : Value → Shared → Prop} (F : Fr h₀ L s.heap m) (N : News h₀ L s.heap news) (hb : (b, W.listOf ov.toArray n2) ∈ news)
    (U : Upd D (W.listOf pv.toArray n) (W.listOf (pv ++ ov).toArray (if ov.length = 0 then n else n + 1)) news news') (hz : pv.length + ov.length ≤ 100000)
    (h : ∀ h', Fr h₀ L h' m → News h₀ L h' news' → Q .none { s with heap := h' }) : wpAny (model prog w) A (call (.builtin "list.extend") [.ref D, .ref b]) Q E s := by
  have hd : ¬(!pv.toArray.isEmpty && Builtin.List.listTooLong (pv.toArray.size + ov.toArray.size)) = true := extend_door (by simp only [List.size_toArray]; rw [PySem.sizeLine_eq]; omega)
  by_cases h0 : ov.length = 0
  · rw [if_pos h0] at U
    have e0 : ov = [] := List.length_eq_zero_iff.mp h0
    subst e0
    rw [List.append_nil] at U
    exact kxn_extend F N hb rfl U hd (by rw [PySem.sizeLine_eq]; show pv.length ≤ _; omega) (by rw [PySem.sizeLine_eq]; simp only [List.size_toArray]; omega) h
  · rw [if_neg h0] at U
    exact kl_extend F N hb rfl h0 U hd (by rw [PySem.sizeLine_eq]; show pv.length ≤ _; omega) (by rw [PySem.sizeLine_eq]; simp only [List.size_toArray]; omega) h
theorem ext_parts : ∀ {os : List Str} {ov pv : List Value} {init : List Str} {last : Str} {tl : Tok}, StrsAre pv init → StrsAre ov os → ∃ (pv' : List Value) (tl' : Tok), pv ++ [Value.str last tl] ++ ov = pv' ++ [Value.str (os.foldl (fun st o => (st.1 ++ [st.2], o)) (init, last)).2 tl'] ∧ StrsAre pv' (os.foldl (fun st o => (st.1 ++ [st.2], o)) (init, last)).1
  | [], _, pv, init, last, tl, h, .nil => ⟨pv, tl, by rw [List.append_nil]; rfl, h⟩
  | _ :: _, _, pv, init, last, tl, h, .cons o t r => by
    obtain ⟨pv', tl', e, hS⟩ := ext_parts (last := o) (tl := t) (KStt.strs_snoc (t := tl) h) r
    refine ⟨pv', tl', ?_, hS⟩
    rw [List.foldl_cons, ← e]
    simp
theorem ext_news {h₀ h : Heap} {L lp : Addr} {a b : Addr × Obj} {rest : List (Addr × Obj)} {os : List Str} {ov pv : List Value} {init : List Str} {last : Str} {tl : Tok} {cap : Nat} (hS : StrsAre pv init) (hd : StrsAre ov os) (N : News h₀ L h (a :: b :: (lp, W.listOf (pv ++ [Value.str last tl] ++ ov).toArray cap) :: rest)) :
    ∃ (pv2 : List Value) (init2 : List Str) (last2 : Str) (tl2 : Tok) (cap2 : Nat), os.foldl (fun st o => (st.1 ++ [st.2], o)) (init, last) = (init2, last2) ∧ StrsAre pv2 init2 ∧ News h₀ L h ((lp, W.listOf (pv2 ++ [Value.str last2 tl2]).toArray cap2) :: rest) := by
  obtain ⟨pv2, tl2, e, hS2⟩ := ext_parts (last := last) (tl := tl) hS hd
  refine ⟨pv2, _, _, tl2, cap, rfl, hS2, ?_⟩
  rw [← e]
  exact kst_newsOf N fun p hp => .tail _ (.tail _ hp)
theorem addParts_len : ∀ (os : List Str) (init : List Str) (last : Str) (b : Nat), (∀ p ∈ init, p.length ≤ b) → init.length + last.length + wsum os ≤ b →
    (∀ p ∈ (os.foldl (fun st o => (st.1 ++ [st.2], o)) (init, last)).1, p.length ≤ b) ∧ (os.foldl (fun st o => (st.1 ++ [st.2], o)) (init, last)).1.length + (os.foldl (fun st o => (st.1 ++ [st.2], o)) (init, last)).2.length ≤ init.length + last.length + wsum os
  | [], init, last, b, h1, h2 => ⟨h1, by show init.length + last.length ≤ _; omega⟩
  | o :: r, init, last, b, h1, h2 => by
    rw [wsum_cons] at h2 ⊢
    obtain ⟨h3, h4⟩ := addParts_len r (init ++ [last]) o b (fun p hp => by
      rcases List.mem_append.mp hp with hp | hp
      · exact h1 p hp
      · rw [List.mem_singleton.mp hp]; omega) (by rw [List.length_append]; simp only [List.length_cons, List.length_nil]; omega)
    refine ⟨h3, ?_⟩
    rw [List.length_append] at h4
    simp only [List.length_cons, List.length_nil] at h4
    show (r.foldl (fun st o => (st.1 ++ [st.2], o)) (init ++ [last], o)).1.length + (r.foldl (fun st o => (st.1 ++ [st.2], o)) (init ++ [last], o)).2.length ≤ _
    omega
theorem gather_stop {e q body : Str} {r : List Str} (h : endsF body e = false ∨ r = []) : gather e q body r = (body, r) := by
  cases r with
  | nil => rfl
  | cons c r =>
    rcases h with h | h
    · unfold gather; rw [if_neg (by rw [h]; decide)]
    · cases h
theorem gather_go {e q body c : Str} {r : List Str} (h : endsF body e = true) : gather e q body (c :: r) = gather e q (body ++ (q ++ c)) r := by
  rw [gather, if_pos h]
set_option maxRecDepth 100000 in
set_option maxHeartbeats 8000000 in
theorem read_ok {w : World} {mean : ExcName → Option Value} {mg mb : Str → Option Value} (x : Str) (tx : Tok) (pg q e : Str) (tp tq te : Tok) (cw : Nat) (tw : Tok) (hpg : pg.length = 1) (hq : q.length = 1) (he : e.length = 1) (hx : x.length ≤ 1000) (dp un : Nat) (gd : Option (List Code)) (cn : Str) (cs : Scope) (a : Addr) (ccd : Value) (cl : List (Str × Addr)) (outer : List Env) (A₀ : Around) (base h₀ : Heap) (L : Addr) (m : Str → Option Value) (news : List (Addr × Obj)) (s : Shared)
    (Q E : Value → Shared → Prop) (B : Below A₀ base outer h₀) (F : Fr h₀ L s.heap m) (X : (Mine.hd.heap_39 w.params).In h₀) (N : News h₀ L s.heap news) (T : Top Mine.hd.view_39 (looseW Mine.hd.view_39 []) mean mg mb h₀) (hk : cs.kind = .function) (hd : dp + 2 < recursionLimit) (hu : un + 16 < cLine)
    (hret : ∀ (r : Addr) (vs : List Value) (h' : Heap) (tk' : Nat), StrsAre vs (readParts x pg q e cw) → Fr h₀ L h' m → News h₀ L h' ((r, LCg.lst vs) :: news) → LCg.Off1 r news → Q (.ref r) { s with heap := h', toks := tk' }) :
    wpAny (model PySem.Challenge.rw_mq0075_01.row.prog w) (ktrTop dp un gd cn cs L a ccd cl outer) (call (.ref 66) [.str x tx, .str pg tp, .str q tq, .str e te, .str ⟨#[cw]⟩ tw]) Q E s := by
  k_with_none
  w_top off
  have hw : wsum (Txt.split x q) ≤ x.length + 1 := split_weight x q (by omega)
  revert X T; k_fill; intro X T
  refine wpAny_call ?_
  k_dflt (refine' code_defC ?k1 ?k2 ?k3 ?k4 ?k5 ?kA ?kF ?kK ?k6 ?k7 ?k8 ?k9 ?kB ?kD ?_ ?c2 ?c3 ?c4; (case kA => exact rfl); (case kF => exact rfl); (case kK => assumption); (case k1 => k_asm); (case k2 => k_asm); (case k3 => k_asm); (case k4 => k_asm); (case k5 => k_asm); (case k6 => k_is); (case k7 => k_is); (case k8 => ktr_room); (case k9 => exact BindsTo.of_eq rfl); (case kB => exact rfl); (case kD => decide +kernel); (case c2 => exact rfl); (case c3 => exact rfl); (case c4 => exact rfl); k_whole; intro gE LE hE tkE cellsE FGE FE NE YE BE XE TE lE; k_cells YE; (try simp only [List.cons_append, List.nil_append] at NE); (try dsimp only); (try k_fold))
  k_with "call builtin:str.split" => (k_dflt (refine KSpl.split1 (by k_asm) (by k_asm) (by rw [beq_eq_false_iff_ne]; omega) ?_ (by rw [PySem.sizeLine_eq]; omega)); intro D' l' h' k' e' a' F' N' l1; rw [e'] at a')
  iterate 26 (first | (k_unfold; (try dsimp only)) | walk1 | (dsimp only; walk1))
  rename_i o1 d1 hA tk0 lp hB hlp hC hD FC NC
  have hlp1 := hlp.1
  have hlp2 := hlp.2.1
  have hlp3 := hlp.2.2
  have hD1 := ltN (l1 _ (.head _))
  have hcl := a'.length
  have hcll : (Txt.split x q).length ≤ 1001 := by unfold wsum at hw; omega
  generalize hch : Txt.split x q = ch at *
  refine' loop_while (σ := Nat × Tok × List Value × List Str × Str × Tok × Nat) (fun c => (lp, W.listOf (c.2.2.1 ++ [Value.str c.2.2.2.2.1 c.2.2.2.2.2.1]).toArray c.2.2.2.2.2.2) :: (D', W.listOf (strValues l').toArray 0) :: (LE + 1, o1) :: news) (fun c => [(Str.ofString "place", Value.int (c.1 : Int) c.2.1)]) [Str.ofString "outside", Str.ofString "body"]
    (fun c => c.1 ≤ ch.length ∧ StrsAre c.2.2.1 c.2.2.2.1 ∧ (∃ n, (ch.drop c.1).length ≤ n ∧ readGo pg q e n (ch.drop c.1) (c.2.2.2.1, c.2.2.2.2.1) = readF x pg q e) ∧ c.2.2.2.1.length + c.2.2.2.2.1.length + wsum (ch.drop c.1) ≤ x.length + 1 ∧ ∀ p ∈ c.2.2.2.1, p.length ≤ x.length + 1)
    (fun c => ch.length - c.1) (0, _, [], [], Str.ofString "", tk0, 0) ?hF ?hN ?hk ?hp ?turn ?hE
  case hF => exact FC
  case hN => exact NC
  case hE => passes_own
  case hk => kst_all
  case hp => exact ⟨Nat.zero_le _, .nil, ⟨ch.length, by rw [List.drop_zero]; exact Nat.le_refl _, by unfold readF; rw [hch]; rfl⟩, by rw [List.drop_zero]; show 0 + 0 + wsum ch ≤ _; omega, fun _ h => nomatch h⟩
  case turn =>
    clear NC FC
    rintro ⟨k, tk1, pv, init, last, tl, cap⟩ u h tk hmark hP F2 N2
    obtain ⟨hk1, hS, ⟨n, hn, hgo⟩, hwl, hil⟩ := hP
    dsimp only [kstB] at hk1 hS hn hgo hwl hil F2 N2 ⊢
    have hSl := hS.length
    cases hdr : ch.drop k with
    | nil =>
      have hke : k = ch.length := by
        have := congrArg List.length hdr
        rw [List.length_drop] at this
        simp only [List.length_nil] at this
        omega
      rw [hdr] at hgo hwl
      have hgo' : readF x pg q e = (init, last) := by
        rw [← hgo]
        cases n <;> rfl
      have hw0 : wsum [] = 0 := rfl
      rw [hw0] at hwl
      have hll : last.length ≤ 100000 := by omega
      have hl1 : ∀ p ∈ init, p.length ≤ 100000 := fun p hp => Nat.le_trans (hil p hp) (by omega)
      have hl2 : ∀ p ∈ init ++ [last], p.length ≤ 100000 := by
        intro p hp
        rcases List.mem_append.mp hp with hp | hp
        · exact hl1 p hp
        · rw [List.mem_singleton.mp hp]; exact hll
      k_with "call builtin:len" => (k_dflt (refine kst_len (k := ch.length) (by k_asm) (by k_memK) hcl (by omega) ?_))
      k_with "getItem ref int" => (k_dflt (refine last_get (by k_asm) (by first | k_memK | kst_mem) ?_))
      k_with "subscriptTail Name UnaryOp ref int" => (k_dflt (refine last_at (by k_asm) (by first | k_memK | kst_mem) ?_))
      k_with "call builtin:list.pop" => (k_dflt (refine kl_pop (p := pv) (y := Value.str last tl) (by k_asm) (by k_asm) (kl_last_snoc _ _) (by k_upd) (by simp only [List.length_append, List.length_cons, List.length_nil, PySem.sizeLine_eq]; omega) ?_); intro h6 F6 N6)
      k_with "eval ListComp" => (k_here; k_dflt (refine LCg.ListComp_U (F₀ := by k_asm) (by with_unfolding_all rfl) (by decide) (by rfl) (by decide) (by rfl) ?_))
      k_with "CompSrc" => (k_here; k_dflt (refine LCg.CompSrc.ledger (by rfl) (by k_asm) (by k_asm) (by first | k_memK | assumption) (by rw [PySem.sizeLine_eq]; simp only [List.size_toArray, Array.size_push, List.length_append, List.length_cons, List.length_nil]; omega) ?_; intro g'))
      k_steps
      k_with "call ref" => (k_dflt (refine trim_ok _ _ cw _ (by assumption) _ _ _ _ _ _ _ _ _ _ _ _ _ _ _ _ _ _ (by k_asm) (by k_asm) (by k_asm) (by k_asm) (by k_asm) rfl (by ktr_room) (by ktr_units) ?_); intro t6 h6 tk6 F6 N6)
      all_goals (try simp only [List.push_toArray] at *)
      all_goals (first
        | refine comp_strs (fun p => trimF p cw) (KStt.strs_snoc hS) (fun k' t' I' oI' C' oC' D' m' ys' h' tk' E' hk' hC' hx' F' N' off' ne' mk' => ?_) (fun ys' hys' => ?_)
        | refine comp_strs (fun p => trimF p cw) hS (fun k' t' I' oI' C' oC' D' m' ys' h' tk' E' hk' hC' hx' F' N' off' ne' mk' => ?_) (fun ys' hys' => ?_))
      all_goals (first | (unfold LCg.FinE; intro D9 h9 tk9 F9 N9 off9; dsimp only) | (first | have hkl := hl2 _ hk' | have hkl := hl1 _ hk'))
      all_goals k_steps
      all_goals (try dsimp only)
      all_goals (first
        | exact Hid.mk (LCg.CompEnd.intro (by k_asm) N6 _ (fun _ h => h) off' (.inr ⟨_, by first | k_memK | kst_mem, rfl, _, rfl⟩) ⟨rfl, _, rfl⟩)
        | (have e9 : readParts x pg q e cw = List.map (fun p => trimF p cw) init := by unfold readParts; rw [hgo']; exact congrArg _ (if_pos (by assumption))
           exact hret D9 ys' h9 tk9 (e9 ▸ hys') (by k_asm) (kst_newsOf (by k_asm) (by intro p hp; rcases List.mem_cons.mp hp with rfl | hp; exact .head _; exact .tail _ (.tail _ (.tail _ (.tail _ hp))))) off9.2.2.2)
        | (have e9 : readParts x pg q e cw = List.map (fun p => trimF p cw) (init ++ [last]) := by unfold readParts; rw [hgo']; exact congrArg _ (if_neg (by simp_all))
           exact hret D9 ys' h9 tk9 (e9 ▸ hys') (by k_asm) (kst_newsOf (by k_asm) (by intro p hp; rcases List.mem_cons.mp hp with rfl | hp; exact .head _; exact .tail _ (.tail _ (.tail _ (.tail _ hp))))) off9.2.2.2))
    | cons c r =>
      obtain ⟨hck, hdr1, hklt⟩ := drop_at hdr
      obtain ⟨t1, hg1⟩ := strs_get a' k c hck
      rw [hdr] at hn hgo
      rw [hdr, wsum_cons] at hwl
      have hcw : wsum (Txt.split c pg) ≤ c.length + 1 := split_weight c pg (by omega)
      obtain ⟨o0, os, hos⟩ := split_ne c pg
      rw [hos] at hcw
      rw [wsum_cons] at hcw
      have hosl : os.length ≤ wsum os := by unfold wsum; omega
      k_with "subscriptTail Name Name ref int" => (k_dflt (refine item_at k (News.isList (by k_asm) (by k_memK)) rfl (by omega) hg1 ?_))
      k_with "call builtin:str.split" => (k_dflt (refine KSpl.split1 (by k_asm) (by k_asm) (by rw [beq_eq_false_iff_ne]; omega) ?_ (by rw [PySem.sizeLine_eq]; omega)); intro D3 l3 h3 k3 e3 a3 F3 N3 l13; rw [e3, hos] at a3; k_dflt (have hD31 := ltN (l13 _ (.head _)); have hD32 := ltN (l13 _ (.tail _ (.head _))); have hD33 := ltN (l13 _ (.tail _ (.tail _ (.head _)))); have hal3 := a3.length); simp only [List.length_cons] at hal3)
      k_with "subscriptTail Name Constant ref int" => (obtain ⟨t0, hg0⟩ := strs_get (show StrsAre _ (o0 :: os) by assumption) 0 o0 rfl; k_dflt (refine item_at 0 (News.isList (by k_asm) (.head _)) rfl (by decide) hg0 ?_))
      k_with "getItem ref int" => (k_dflt (refine last_get (by k_asm) (by first | k_memK | kst_mem) ?_))
      k_with "setItem ref int" => (k_dflt (refine last_set (by k_asm) (by k_asm) (by k_upd) ?_); intro h9 F9 N9)
      k_with "subscriptTail Name Slice ref ref" => (k_dflt (refine kmk_slice_lit (by k_asm) (by k_asm) (News.isList (by k_asm) (.head _)) (.int _ _) .none (pick_from _ (by decide)) ?_ (by with_unfolding_all rfl) (by intro _; with_unfolding_all rfl) (by rw [List.size_toArray, PySem.sizeLine_eq]; omega)); intro D7 h7 F7 N7 l7; k_dflt (have hD71 := ltN (l7 _ (.head _)); have hD72 := ltN (l7 _ (.tail _ (.head _))); have hD73 := ltN (l7 _ (.tail _ (.tail _ (.head _))))))
      k_with "call builtin:list.extend" => (k_dflt (refine extend_any (by k_asm) (by k_asm) (.head _) (by k_upd) (by simp only [List.length_append, List.length_cons, List.length_nil, List.length_drop]; omega) ?_); intro h6 F6 N6)
      iterate 58 (first | (k_unfold; (try dsimp only)) | walk1 | (dsimp only; walk1))
      have hdS : StrsAre (List.drop 1 (strValues l3)) os := strs_drop a3 1
      obtain ⟨pv2, init2, last2, tl2, cap2, hadd, hS2, N8⟩ := ext_news hS hdS N6
      obtain ⟨hil2, hwl2⟩ := addParts_len os init (last ++ o0) (x.length + 1) hil (by rw [Str.length_append]; omega)
      rw [hadd] at hil2 hwl2
      rw [Str.length_append] at hwl2
      dsimp only at hil2 hwl2
      cases n with
      | zero => simp at hn
      | succ n =>
      unfold readGo at hgo
      rw [show addParts (init, last) (Txt.split c pg) = (init2, last2) by rw [hos]; exact hadd] at hgo
      dsimp only at hgo
      have hS2l := hS2.length
      have e1 : (k : Int) + 1 = ((k + 1 : Nat) : Int) := by omega
      k_with_none
      clear N6 N7 N9 F7 F9
      cases r with
      | nil =>
        dsimp only at hgo
        have hke1 : k + 1 = ch.length := by
          have := congrArg List.length hdr1
          rw [List.length_drop] at this
          simp only [List.length_nil] at this
          omega
        k_with "call builtin:len" => (k_dflt (refine kst_len (k := ch.length) (by k_asm) (by k_memK) hcl (by omega) ?_))
        k_steps
        refine Hid.mk ?_
        dsimp only [KswPost]
        rename Fr _ _ _ _ => F3; rename News _ _ _ _ => N3
        rw [e1] at F3
        refine ksw_end (k + 1, _, pv2, init2, last2, tl2, cap2) F3 N3 (fun _ h => h) trivial (by kst_all) (by ksw_same) ⟨by dsimp only; omega, hS2, ⟨0, by dsimp only; rw [hdr1]; exact Nat.le_refl _, by dsimp only; exact hgo⟩, by dsimp only; rw [hdr1]; unfold wsum at *; simp only [List.map_nil, List.sum_nil, List.length_nil] at *; omega, hil2⟩ (by dsimp only; omega)
      | cons b r2 =>
      obtain ⟨hbk, hdr2, hklt2⟩ := drop_at hdr1
      obtain ⟨tb, hgb⟩ := strs_get a' (k + 1) b hbk
      k_with "call builtin:len" => (k_dflt (refine kst_len (k := ch.length) (by k_asm) (by k_memK) hcl (by omega) ?_))
      k_with "subscriptTail Name Name ref int" => (k_dflt (refine item_at (k + 1) (News.isList (by k_asm) (by k_memK)) (by omega) (by omega) hgb ?_))
      iterate 29 (first | (k_unfold; (try dsimp only)) | walk1 | (dsimp only; walk1))
      k_with_none
      dsimp only at hgo
      rename Fr _ _ _ _ => F4
      rename News _ _ _ _ => N4
      rw [e1] at F4
      have hgw := gather_wsum (e := e) hq r2 b
      have hgl := gather_len e q r2 b
      rw [wsum_cons] at hwl
      refine' loop_while (σ := Nat × Tok × Str × Tok) (fun _ => (lp, W.listOf (pv2 ++ [Value.str last2 tl2]).toArray cap2) :: (D', W.listOf (strValues l').toArray 0) :: (LE + 1, o1) :: news) (fun c => [(Str.ofString "place", Value.int (c.1 : Int) c.2.1), (Str.ofString "body", Value.str c.2.2.1 c.2.2.2)]) []
        (fun c => k + 1 ≤ c.1 ∧ c.1 < ch.length ∧ gather e q c.2.2.1 (ch.drop (c.1 + 1)) = gather e q b r2 ∧ c.2.2.1.length + wsum (ch.drop (c.1 + 1)) ≤ b.length + wsum r2)
        (fun c => ch.length - c.1) (k + 1, _, b, _) ?hF2 ?hN2 ?hk2 ?hp2 ?turn2 ?hE2
      case hF2 => exact F4
      case hN2 => exact N4
      case hE2 => passes_own
      case hk2 => kst_all
      case hp2 => exact ⟨Nat.le_refl _, hklt2, by dsimp only; rw [hdr2], by dsimp only; rw [hdr2]; exact Nat.le_refl _⟩
      case turn2 =>
        clear N4 F4
        rintro ⟨j, tj, bd, tbd⟩ u2 h2 tk2 hmark2 hP2 F2 N2
        obtain ⟨hj1, hj2, hjg, hjw⟩ := hP2
        dsimp only [kstB] at hj1 hj2 hjg hjw F2 N2 ⊢
        have ej : (j : Int) + 1 = ((j + 1 : Nat) : Int) := by omega
        have hbl : bd.length ≤ 2000 := by omega
        k_with "call builtin:len" => (k_dflt (refine kst_len (k := ch.length) (by k_asm) (by k_memK) hcl (by omega) ?_))
        k_with "call ref" => (k_dflt (refine ends_ok _ _ _ _ (by omega) _ _ _ _ _ _ _ _ _ _ _ _ _ _ _ _ _ _ (by k_asm) (by k_asm) (by k_asm) (by k_asm) (by k_asm) rfl (by ktr_room) (by ktr_units) ?_); intro h5 tk5 F5 N5)
        k_with "call ref" => (k_dflt (refine bare_ok _ _ _ _ he (by omega) _ _ _ _ _ _ _ _ _ _ _ _ _ _ _ _ _ _ (by k_asm) (by k_asm) (by k_asm) (by k_asm) (by k_asm) rfl (by ktr_room) (by ktr_units) ?_); intro t6 h6 tk6 F6 N6)
        k_with "getItem ref int" => (k_dflt (refine last_get (by k_asm) (by first | k_memK | kst_mem) ?_))
        k_with "setItem ref int" => (k_dflt (refine last_set (by k_asm) (by k_asm) (by k_upd) ?_); intro h9 F9 N9)
        by_cases hge : endsF bd e = true
        · cases hdj : ch.drop (j + 1) with
          | nil =>
            have hbfl : (bareF bd e).length ≤ bd.length := bareF_len he
            rw [hdj] at hjg hjw
            rw [← hjg, gather_stop (.inr rfl)] at hgo
            dsimp only at hgo
            have hw0 : wsum [] = 0 := rfl
            rw [hw0] at hjw
            have hje : j + 1 = ch.length := by
              have := congrArg List.length hdj
              rw [List.length_drop] at this
              simp only [List.length_nil] at this
              omega
            k_steps
            refine Hid.mk ?_
            dsimp only [KswPost]
            rename Fr _ _ _ _ => F3; rename News _ _ _ _ => N3
            rw [ej] at F3
            refine ksw_end (j + 1, _, pv2, init2, last2 ++ (q ++ bareF bd e), _, _) F3 N3 (fun _ h => h) trivial (by kst_all) (by ksw_same) ⟨by dsimp only; omega, hS2, ⟨0, by dsimp only; rw [hdj]; exact Nat.le_refl _, by dsimp only; exact hgo⟩, by dsimp only; rw [hdj, hw0, Str.length_append, Str.length_append]; omega, hil2⟩ (by dsimp only; omega)
          | cons d r3 =>
            obtain ⟨hdk, hdr3, hklt3⟩ := drop_at hdj
            obtain ⟨td, hgd⟩ := strs_get a' (j + 1) d hdk
            rw [hdj, wsum_cons] at hjw
            rw [hdj, gather_go hge] at hjg
            have hdl : d.length ≤ 2000 := by omega
            k_with "subscriptTail Name Name ref int" => (k_dflt (refine item_at (j + 1) (News.isList (by k_asm) (by k_memK)) (by omega) (by omega) hgd ?_))
            k_steps
            refine Hid.mk ?_
            dsimp only [KswPost]
            rename Fr _ _ _ _ => F3; rename News _ _ _ _ => N3
            rw [ej] at F3
            refine ksw_end (j + 1, _, bd ++ (q ++ d), _) F3 N3 (fun _ h => h) trivial (by kst_all) (by ksw_same) ⟨by dsimp only; omega, hklt3, by dsimp only; rw [hdr3]; exact hjg, by dsimp only; rw [hdr3, Str.length_append, Str.length_append]; omega⟩ (by dsimp only; omega)
        · cases hdj : ch.drop (j + 1) with
          | nil =>
            have hbfl : (bareF bd e).length ≤ bd.length := bareF_len he
            rw [hdj] at hjg hjw
            rw [← hjg, gather_stop (.inr rfl)] at hgo
            dsimp only at hgo
            have hw0 : wsum [] = 0 := rfl
            rw [hw0] at hjw
            have hje : j + 1 = ch.length := by
              have := congrArg List.length hdj
              rw [List.length_drop] at this
              simp only [List.length_nil] at this
              omega
            k_steps
            refine Hid.mk ?_
            dsimp only [KswPost]
            rename Fr _ _ _ _ => F3; rename News _ _ _ _ => N3
            rw [ej] at F3
            refine ksw_end (j + 1, _, pv2, init2, last2 ++ (q ++ bareF bd e), _, _) F3 N3 (fun _ h => h) trivial (by kst_all) (by ksw_same) ⟨by dsimp only; omega, hS2, ⟨0, by dsimp only; rw [hdj]; exact Nat.le_refl _, by dsimp only; exact hgo⟩, by dsimp only; rw [hdj, hw0, Str.length_append, Str.length_append]; omega, hil2⟩ (by dsimp only; omega)
          | cons d r3 =>
            have hbfl : (bareF bd e).length ≤ bd.length := bareF_len he
            rw [hdj] at hjg hjw
            have hgl2 : (d :: r3).length ≤ r2.length := by
              rw [← hjg, gather_stop (.inl (by simpa using hge))] at hgl
              exact hgl
            rw [← hjg, gather_stop (.inl (by simpa using hge))] at hgo
            dsimp only at hgo
            rw [wsum_cons] at hjw
            obtain ⟨hdk, hdr3, hklt3⟩ := drop_at hdj
            k_steps
            refine Hid.mk ?_
            dsimp only [KswPost]
            rename Fr _ _ _ _ => F3; rename News _ _ _ _ => N3
            rw [ej] at F3
            refine ksw_end (j + 1, _, pv2, init2, last2 ++ (q ++ bareF bd e) ++ q, _, _) F3 N3 (fun _ h => h) trivial (by kst_all) (by ksw_same) ⟨by dsimp only; omega, hS2, ⟨n, by dsimp only; rw [hdj]; simp only [List.length_cons] at *; omega, by dsimp only; rw [hdj]; exact hgo⟩, by dsimp only; rw [hdj, wsum_cons, Str.length_append, Str.length_append, Str.length_append]; omega, hil2⟩ (by dsimp only; omega)
end Mine
end

section
open PySem PySem.W PyProof.Rows
namespace Mine
/-- a zip's objects are apart -/
structure ZApart (z TI TO i1 i2 : Addr) (fp1 fp2 : List Addr) : Prop where
  TIz : TI ≠ z
  TOz : TO ≠ z
  i1z : i1 ≠ z
  i2z : i2 ≠ z
  TITO : TI ≠ TO
  TIi1 : TI ≠ i1
  TIi2 : TI ≠ i2
  TOi1 : TO ≠ i1
  TOi2 : TO ≠ i2
  i12 : i1 ≠ i2
  z1 : z ∉ fp1
  z2 : z ∉ fp2
  o1 : TO ∉ fp1
  o2 : TO ∉ fp2
  f12 : i1 ∉ fp2
  f21 : i2 ∉ fp1
section
variable {prog : Program} {w : World} {A : Around} {E : Value → Shared → Prop} {s : Shared}
theorem draws_but {it : Addr} {fp : List Addr} {n : Nat} {P : Nat → Value → Prop} {St : Nat → Heap → Prop} (D : Draws prog w A it fp n P St) {k : Nat} {h h' : Heap} {c : Addr} (hs : Heap.SameBut c h h') (hc : c ∉ fp) (st : St k h) : St k h' :=
  D.frame _ _ _ st fun b hb o e => hs.extBut b o (fun q => hc (q ▸ hb)) e
theorem zipD_item {z TI TO i1 i2 : Addr} {fp1 fp2 : List Addr} {n1 n2 k : Nat} {P1 P2 : Nat → Value → Prop} {St1 St2 : Nat → Heap → Prop} {a b : Value} {Q : Value → Shared → Prop}
    (D1 : Draws prog w A i1 fp1 n1 P1 St1) (D2 : Draws prog w A i2 fp2 n2 P2 St2) (D : ZApart z TI TO i1 i2 fp1 fp2)
    (hz : IsZip s.heap z TI TO .none) (hTI : IsPair s.heap TI (.ref i1) (.ref i2)) (hTO : IsPair s.heap TO a b) (h1 : St1 k s.heap) (h2 : St2 k s.heap) (hk1 : k < n1) (hk2 : k < n2)
    (hQ : ∀ x y h' tk, P1 k x → P2 k y → IsZip h' z TI TO (rawInt s.heap.objs.size) → IsPair h' TO x y → St1 (k + 1) h' → St2 (k + 1) h' → IsPair h' s.heap.objs.size x y →
      (∀ c o, c ≠ z → c ≠ TO → c ≠ i1 → c ≠ i2 → s.heap.get? c = some o → h'.get? c = some o) → Q (.ref s.heap.objs.size) { s with heap := h', toks := tk }) :
    wpAny (model prog w) A (Builtin.«zip.__next__» ⟨[.ref z], []⟩) (fun fin s' => ∃ v, fin = .done (.ret v) ∧ Q v s') E s := by
  obtain ⟨hp, g, d, tk0, os⟩ := s
  show wpAny _ _ (field (.ref z) 2 >>= _) _ _ _
  refine wpAny_bind (wpAny_field hz rfl (x := .bool false) rfl ?_)
  show wpAny _ _ (field (.ref z) 3 >>= _) _ _ _
  refine wpAny_bind (wpAny_field hz rfl (x := .ref TI) rfl ?_)
  refine wpAny_bind (wpAny_seqItems hTI rfl ?_)
  show wpAny _ _ (Builtin.SmallTypes.ownedTupleIsFree (.ref z) >>= _) _ _ _
  refine wpAny_bind ?_
  unfold Builtin.SmallTypes.ownedTupleIsFree
  refine wpAny_bind (wpAny_field hz rfl (x := .none) rfl (wpAny_pure ?_))
  simp only [if_true]
  refine wpAny_bind (wpAny_rule ?_)
  refine wpAny_bind (wpAny_field hz rfl (x := .ref TO) rfl ?_)
  refine wpAny_bind (wpAny_setField_rec hz (by simp) fun g1 z1 s1 => ?_)
  replace z1 : IsZip g1 z TI TO .ellipsis := z1
  replace s1 : Heap.SameBut z hp g1 := s1
  refine wpAny_bind ?_
  simp only [List.zipIdx_cons, List.zipIdx_nil, List.forIn_cons, List.forIn_nil]
  refine wpAny_bind (wpAny_bind (wpAny_onRaise ?_))
  show wpAny _ _ (Builtin.SmallTypes.nextOf (.ref i1) >>= _) _ _ _
  refine wpAny_bind (D1.item k _ _ _ hk1 (draws_but D1 s1 D.z1 h1) fun x g2 tk1 hx a2 s2 => wpAny_pure ?_)
  replace s2 : Heap.SameBut i1 g1 g2 := s2
  have to2 : IsPair g2 TO a b := s2.extBut _ _ D.TOi1 (s1.extBut _ _ D.TOz hTO)
  refine wpAny_bind (wpAny_seqItems to2 rfl ?_)
  refine wpAny_bind (wpAny_updateSeq_pair to2 fun g3 to3 s3 => ?_)
  replace to3 : IsPair g3 TO x b := to3
  replace s3 : Heap.SameBut TO g2 g3 := s3
  refine wpAny_bind (wpAny_letGo (wpAny_pure ?_))
  refine wpAny_bind (wpAny_bind (wpAny_onRaise ?_))
  show wpAny _ _ (Builtin.SmallTypes.nextOf (.ref i2) >>= _) _ _ _
  refine wpAny_bind (D2.item k _ _ _ hk2 (draws_but D2 s3 D.o2 (draws_but D2 s2 D.f12 (draws_but D2 s1 D.z2 h2))) fun y g4 tk2 hy b4 s4 => wpAny_pure ?_)
  replace s4 : Heap.SameBut i2 g3 g4 := s4
  have to4 : IsPair g4 TO x b := s4.extBut _ _ D.TOi2 to3
  refine wpAny_bind (wpAny_seqItems to4 rfl ?_)
  refine wpAny_bind (wpAny_updateSeq_pair to4 fun g5 to5 s5 => ?_)
  replace to5 : IsPair g5 TO x y := to5
  replace s5 : Heap.SameBut TO g4 g5 := s5
  refine wpAny_bind (wpAny_letGo (wpAny_pure (wpAny_pure ?_)))
  refine wpAny_bind (wpAny_seqItems to5 rfl ?_)
  refine wpAny_bind (wpAny_newTuple ?_)
  have hsz : g5.objs.size = hp.objs.size := by rw [s5.1, s4.1, s3.1, s2.1, s1.1]
  have z5 : IsZip g5 z TI TO .ellipsis := s5.extBut _ _ D.TOz.symm (s4.extBut _ _ D.i2z.symm (s3.extBut _ _ D.TOz.symm (s2.extBut _ _ D.i1z.symm z1)))
  have k5 : ∀ c o, c ≠ z → c ≠ TO → c ≠ i1 → c ≠ i2 → hp.get? c = some o → g5.get? c = some o := fun c o c1 c2 c3 c4 e =>
    s5.extBut _ _ c2 (s4.extBut _ _ c4 (s3.extBut _ _ c2 (s2.extBut _ _ c3 (s1.extBut _ _ c1 e))))
  have a5 : St1 (k + 1) g5 := draws_but D1 s5 D.o1 (draws_but D1 s4 D.f21 (draws_but D1 s3 D.o1 a2))
  have b5 : St2 (k + 1) g5 := draws_but D2 s5 D.o2 b4
  have zlt : z < g5.objs.size := Heap.lt_size z5
  show wpAny _ _ (Builtin.SmallTypes.ownedTupleHandOut (.ref z) (.ref g5.objs.size) >>= _) _ _ _
  refine wpAny_bind ?_
  unfold Builtin.SmallTypes.ownedTupleHandOut
  have z6 : IsZip (g5.push { cls := .type "tuple", data := .seq #[x, y] }) z TI TO .ellipsis := Heap.get?_push_of_some _ z5
  refine wpAny_bind (wpAny_setField_rec z6 (by simp) fun g7 z7 s7 => ?_)
  replace z7 : IsZip g7 z TI TO (rawInt g5.objs.size) := z7
  refine wpAny_setField_rec z7 (by simp) fun g8 z8 s8 => ?_
  replace z8 : IsZip g8 z TI TO (rawInt g5.objs.size) := z8
  have up : ∀ c o, c ≠ z → g5.get? c = some o → g8.get? c = some o := fun c o c1 e => s8.extBut _ _ c1 (s7.extBut _ _ c1 (Heap.get?_push_of_some _ e))
  have t8 : IsPair g8 g5.objs.size x y := s8.extBut _ _ (Nat.ne_of_gt zlt) (s7.extBut _ _ (Nat.ne_of_gt zlt) (Heap.get?_push_size _ rfl))
  rw [hsz] at z8 t8
  refine wpAny_pure ⟨_, rfl, ?_⟩
  show Q (.ref g5.objs.size) _
  rw [hsz]
  exact hQ x y g8 tk2 hx hy z8 (up _ _ D.TOz to5) (D1.frame _ _ _ a5 fun c hc o e => up c o (fun q => D.z1 (q ▸ hc)) e) (D2.frame _ _ _ b5 fun c hc o e => up c o (fun q => D.z2 (q ▸ hc)) e) t8
    fun c o c1 c2 c3 c4 e => up c o c1 (k5 c o c1 c2 c3 c4 e)
/-- the first iterator is at its end -/
theorem zipD_end {z TI TO i1 i2 : Addr} {fp1 fp2 : List Addr} {n1 : Nat} {P1 : Nat → Value → Prop} {St1 : Nat → Heap → Prop} {Q : Fin → Shared → Prop}
    (D1 : Draws prog w A i1 fp1 n1 P1 St1) (D : ZApart z TI TO i1 i2 fp1 fp2)
    (hz : IsZip s.heap z TI TO .none) (hTI : IsPair s.heap TI (.ref i1) (.ref i2)) (h1 : St1 n1 s.heap)
    (hE : ∀ h' e, (∀ c o, c ≠ z → c ≠ i1 → s.heap.get? c = some o → h'.get? c = some o) → (∃ o, h'.get? e = some o ∧ o.cls = .type "StopIteration") → E (.ref e) { s with heap := h' }) :
    wpAny (model prog w) A (Builtin.«zip.__next__» ⟨[.ref z], []⟩) Q E s := by
  obtain ⟨hp, g, d, tk0, os⟩ := s
  show wpAny _ _ (field (.ref z) 2 >>= _) _ _ _
  refine wpAny_bind (wpAny_field hz rfl (x := .bool false) rfl ?_)
  show wpAny _ _ (field (.ref z) 3 >>= _) _ _ _
  refine wpAny_bind (wpAny_field hz rfl (x := .ref TI) rfl ?_)
  refine wpAny_bind (wpAny_seqItems hTI rfl ?_)
  show wpAny _ _ (Builtin.SmallTypes.ownedTupleIsFree (.ref z) >>= _) _ _ _
  refine wpAny_bind ?_
  unfold Builtin.SmallTypes.ownedTupleIsFree
  refine wpAny_bind (wpAny_field hz rfl (x := .none) rfl (wpAny_pure ?_))
  simp only [if_true]
  refine wpAny_bind (wpAny_rule ?_)
  refine wpAny_bind (wpAny_field hz rfl (x := .ref TO) rfl ?_)
  refine wpAny_bind (wpAny_setField_rec hz (by simp) fun g1 z1 s1 => ?_)
  replace z1 : IsZip g1 z TI TO .ellipsis := z1
  replace s1 : Heap.SameBut z hp g1 := s1
  refine wpAny_bind ?_
  simp only [List.zipIdx_cons, List.zipIdx_nil, List.forIn_cons, List.forIn_nil]
  refine wpAny_bind (wpAny_bind (wpAny_onRaise ?_))
  show wpAny _ _ (Builtin.SmallTypes.nextOf (.ref i1) >>= _) _ _ _
  refine wpAny_bind (D1.done _ _ _ (draws_but D1 s1 D.z1 h1) fun g2 e s2 he => ?_)
  replace s2 : Heap.ExtBut i1 g1 g2 := s2
  obtain ⟨oe, hoe, hce⟩ := he
  have z2 : IsZip g2 z TI TO .ellipsis := s2 _ _ D.i1z.symm z1
  have hez : e ≠ z := fun x => by subst x; rw [z2] at hoe; cases hoe; simp at hce
  refine wpAny_setField_rec z2 (by simp) fun g3 _ s3 => ?_
  exact hE g3 e (fun c o c1 c3 x => s3.extBut _ _ c1 (s2 _ _ c3 (s1.extBut _ _ c1 x))) ⟨oe, s3.extBut _ _ hez hoe, hce⟩
end
end Mine
end

section
open PySem PySem.W PyProof.Rows
namespace Mine
section
variable {prog : Program} {w : World} {A : Around}
theorem walksD {z TI TO i1 i2 : Addr} {fp1 fp2 : List Addr} {n : Nat} {P1 P2 : Nat → Value → Prop} {St1 St2 : Nat → Heap → Prop}
    (D1 : Draws prog w A.in1 i1 fp1 n P1 St1) (D2 : Draws prog w A.in1 i2 fp2 n P2 St2) (D : ZApart z TI TO i1 i2 fp1 fp2) :
    WalksT prog w A z (z :: TI :: TO :: i1 :: i2 :: (fp1 ++ fp2)) [z, TI, TO, i1, i2] n
      (fun i vals => ∃ x y, P1 i x ∧ P2 i y ∧ vals = #[x, y])
      (fun i h => IsZip h z TI TO .none ∧ IsPair h TI (.ref i1) (.ref i2) ∧ (∃ a b, IsPair h TO a b) ∧ St1 i h ∧ St2 i h)
      (fun i T h => IsZip h z TI TO (rawInt T) ∧ IsPair h TI (.ref i1) (.ref i2) ∧ (∃ a b, IsPair h TO a b) ∧ St1 (i + 1) h ∧ St2 (i + 1) h ∧ T ∉ [z, TI, TO, i1, i2]) where
  sub := fun c hc => by simp at hc ⊢; rcases hc with rfl | rfl | rfl | rfl | rfl <;> simp
  frame := fun i h h' hst hk => by
    obtain ⟨hz, hTI, ⟨a, b, hTO⟩, h1, h2⟩ := hst
    exact ⟨hk z (by simp) _ hz, hk TI (by simp) _ hTI, ⟨a, b, hk TO (by simp) _ hTO⟩, D1.frame _ _ _ h1 fun c hc o e => hk c (by simp [hc]) o e, D2.frame _ _ _ h2 fun c hc o e => hk c (by simp [hc]) o e⟩
  item := fun i s Q E hi hst hQ => by
    obtain ⟨hz, hTI, ⟨a, b, hTO⟩, h1, h2⟩ := hst
    have hT : s.TypeIs (.ref z) "zip" := ⟨_, hz, rfl⟩
    unfold pyNext
    refine wpAny_bind (wpAny_attempt (wpAny_callSpecial?_slot (name := Str.ofString "__next__") hT F.slot_zip_next
      (wpAny_call_entry F.slot_zip_next hT F.entry_zip_next
        (zipD_item D1 D2 D hz hTI hTO h1 h2 hi hi fun x y h' tk px py a1 a2 a3 a4 a5 hk => wpAny_pure ?_) (F.args_zip_next_1 _))))
    have lt : ∀ {c o}, s.heap.get? c = some o → s.heap.objs.size ≠ c := fun e => Nat.ne_of_gt (Heap.lt_size e)
    obtain ⟨o1, e1⟩ := D1.live _ _ h1
    obtain ⟨o2, e2⟩ := D2.live _ _ h2
    refine hQ s.heap.objs.size #[x, y] h' tk ⟨x, y, px, py, rfl⟩ (Nat.le_refl _) ⟨_, a5, rfl, _, rfl⟩
      ⟨a1, hk _ _ D.TIz D.TITO D.TIi1 D.TIi2 hTI, ⟨_, _, a2⟩, a3, a4, ?_⟩
      fun c o hc e => hk c o (fun x => hc (by simp [x])) (fun x => hc (by simp [x])) (fun x => hc (by simp [x])) (fun x => hc (by simp [x])) e
    intro hm
    simp only [List.mem_cons, List.not_mem_nil, or_false] at hm
    rcases hm with e | e | e | e | e
    · exact lt hz e
    · exact lt hTI e
    · exact lt hTO e
    · exact lt e1 e
    · exact lt e2 e
  go := fun elts k pos i T s Q E hm hQ => by
    obtain ⟨hz, hTI, ⟨a, b, hTO⟩, h1, h2, _⟩ := hm
    refine wpAny_letOwnedTupleGo_zip hz fun h' hz' hs' => hQ h' ⟨hz', hs'.extBut _ _ D.TIz hTI, ⟨a, b, hs'.extBut _ _ D.TOz hTO⟩, ?_, ?_⟩ fun c o hc e => hs'.extBut _ _ (fun x => hc (by simp [x])) e
    · exact draws_but D1 hs' D.z1 h1
    · exact draws_but D2 hs' D.z2 h2
  apart := fun i T h hm hT => hm.2.2.2.2.2 hT
  done := fun s Q E hst hQ => by
    obtain ⟨hz, hTI, ⟨a, b, hTO⟩, h1, h2⟩ := hst
    have hT : s.TypeIs (.ref z) "zip" := ⟨_, hz, rfl⟩
    unfold pyNext
    refine wpAny_bind (wpAny_attempt (wpAny_callSpecial?_slot (name := Str.ofString "__next__") hT F.slot_zip_next
      (wpAny_call_entry F.slot_zip_next hT F.entry_zip_next (zipD_end D1 D hz hTI h1 fun h' e hk he => ?_) (F.args_zip_next_1 _))))
    obtain ⟨o, ho, hc⟩ := he
    refine wpAny_bind (wpAny_isInstance (T := "StopIteration") (b := true) ⟨o, ho, hc⟩ isSubtype_stop ?_)
    exact wpAny_pure (hQ _ s.toks fun c o hc e => hk c o (fun x => hc (by simp [x])) (fun x => hc (by simp [x])) e)
  self := fun i s Q E hst hQ => wpAny_pyIter_zip hst.1 hQ
end
abbrev sIt (x : Str) (t : Tok) : Obj := { cls := .type (strIterType x), data := .fields #[.str x t, .int 0 0] }
abbrev lIt (l : Addr) : Obj := { cls := .type "list_iterator", data := .fields #[.ref l, .int 0 0] }
/-- the heap behind zip(a, b), by its two iterators -/
abbrev zH2 (h : Heap) (a b : Obj) : Heap := (h.push a).push b
abbrev zH4 (h : Heap) (a b : Obj) : Heap := ((zH2 h a b).push { cls := .type "tuple", data := .seq #[.ref h.objs.size, .ref (h.push a).objs.size] }).push { cls := .type "tuple", data := .seq #[.none, .none] }
abbrev zH5 (h : Heap) (a b : Obj) : Heap := (zH4 h a b).push { cls := .type "zip", data := .fields #[.none, .bool false, .bool false, .ref (zH2 h a b).objs.size, .ref ((zH2 h a b).push { cls := .type "tuple", data := .seq #[.ref h.objs.size, .ref (h.push a).objs.size] }).objs.size] }
set_option maxRecDepth 100000 in
set_option maxHeartbeats 4000000 in
theorem meets_zip_sl (x : Str) (t : Tok) (l2 : Addr) (ys : Array Value) :
    Meets (Builtin.«zip.__new__» ⟨[.type "zip", .str x t, .ref l2], []⟩) (fun _ R s => s.heap.IsList l2 ys ∧
      R (.ok (.ret (.ref (zH4 s.heap (sIt x t) (lIt l2)).objs.size))) { s with heap := zH5 s.heap (sIt x t) (lIt l2) }) :=
  .of_wp fun prog w A R s h => by
    obtain ⟨hp, g, d, tk, os⟩ := s; obtain ⟨hl2, h⟩ := h
    have hsub := sub_zip
    have hL2 : Heap.IsList (Shared.heap ⟨hp.push (sIt x t), g, d, tk, os⟩) l2 ys := Heap.IsList.push hl2 _
    wp_walk using wpAny_pyIter_strU, wpAny_pyIter_list hL2
    exact ⟨_, rfl, h⟩
set_option maxRecDepth 100000 in
set_option maxHeartbeats 4000000 in
theorem meets_zip_ss (x : Str) (t : Tok) (y : Str) (u : Tok) :
    Meets (Builtin.«zip.__new__» ⟨[.type "zip", .str x t, .str y u], []⟩) (fun _ R s =>
      R (.ok (.ret (.ref (zH4 s.heap (sIt x t) (sIt y u)).objs.size))) { s with heap := zH5 s.heap (sIt x t) (sIt y u) }) :=
  .of_wp fun prog w A R s h => by
    obtain ⟨hp, g, d, tk, os⟩ := s
    have hsub := sub_zip
    wp_walk using wpAny_pyIter_strU
    exact ⟨_, rfl, h⟩
end Mine
end

section
open PySem PySem.W PyProof.Rows
namespace Mine
section
variable {prog : Program} {w : World} {A : Around} {E : Value → Shared → Prop} {s : Shared}
/-- what stands behind zip's making -/
structure ZMade (h₀ h' : Heap) (a b : Obj) : Prop where
  z : IsZip h' (h₀.objs.size + 4) (h₀.objs.size + 2) (h₀.objs.size + 3) .none
  ti : IsPair h' (h₀.objs.size + 2) (.ref h₀.objs.size) (.ref (h₀.objs.size + 1))
  to : IsPair h' (h₀.objs.size + 3) .none .none
  i1 : h'.get? h₀.objs.size = some a
  i2 : h'.get? (h₀.objs.size + 1) = some b
  keep : ∀ c o, h₀.get? c = some o → h'.get? c = some o
theorem zmade (h : Heap) (a b : Obj) (ha : a.isFreed = false) (hb : b.isFreed = false) : ZMade h (zH5 h a b) a b ∧ (zH4 h a b).objs.size = h.objs.size + 4 := by
  have z1 : (h.push a).objs.size = h.objs.size + 1 := Heap.size_push ..
  have z2 : (zH2 h a b).objs.size = h.objs.size + 2 := by rw [Heap.size_push, z1]
  have z3 : ((zH2 h a b).push { cls := .type "tuple", data := .seq #[.ref h.objs.size, .ref (h.push a).objs.size] }).objs.size = h.objs.size + 3 := by rw [Heap.size_push, z2]
  have z4 : (zH4 h a b).objs.size = h.objs.size + 4 := by rw [Heap.size_push, z3]
  have g5 : (zH5 h a b).get? (zH4 h a b).objs.size = some _ := Heap.get?_push_size _ rfl
  have g4 : (zH5 h a b).get? ((zH2 h a b).push { cls := .type "tuple", data := .seq #[.ref h.objs.size, .ref (h.push a).objs.size] }).objs.size = some _ := Heap.get?_push_of_some _ (Heap.get?_push_size _ rfl)
  have g3 : (zH5 h a b).get? (zH2 h a b).objs.size = some _ := Heap.get?_push_of_some _ (Heap.get?_push_of_some _ (Heap.get?_push_size _ rfl))
  have g2 : (zH5 h a b).get? (h.push a).objs.size = some _ := Heap.get?_push_of_some _ (Heap.get?_push_of_some _ (Heap.get?_push_of_some _ (Heap.get?_push_size _ hb)))
  have g1 : (zH5 h a b).get? h.objs.size = some _ := Heap.get?_push_of_some _ (Heap.get?_push_of_some _ (Heap.get?_push_of_some _ (Heap.get?_push_of_some _ (Heap.get?_push_size _ ha))))
  rw [z2, z3, z4] at g5
  rw [z1, z2] at g3
  rw [z3] at g4
  rw [z1] at g2
  exact ⟨⟨g5, g3, g4, g1, g2, fun c o x => Heap.get?_push_of_some _ (Heap.get?_push_of_some _ (Heap.get?_push_of_some _ (Heap.get?_push_of_some _ (Heap.get?_push_of_some _ x))))⟩, z4⟩
theorem call_zip_sl {x : Str} {t : Tok} {l2 : Addr} {ys : Array Value} {Q : Value → Shared → Prop} (hl2 : s.heap.IsList l2 ys)
    (h : ∀ h', ZMade s.heap h' (sIt x t) (lIt l2) → Q (.ref (s.heap.objs.size + 4)) { s with heap := h' }) :
    wpAny (model prog w) A (call (.type "zip") [.str x t, .ref l2]) Q E s := by
  obtain ⟨m, z4⟩ := zmade s.heap (sIt x t) (lIt l2) rfl rfl
  refine callType_new F.called_zip (by decide) (F.typeCall_zip_2 _ _) (F.newCall_zip_2 _ _) (fun obj => F.args_object_init_3 obj _ _) F.entry_zip_new
    (meets_zip_sl x t l2 ys) ⟨hl2, ?_⟩
  show _ ∧ _
  rw [z4]
  exact ⟨⟨_, m.z, rfl⟩, h _ m⟩
theorem call_zip_ss {x : Str} {t : Tok} {y : Str} {u : Tok} {Q : Value → Shared → Prop}
    (h : ∀ h', ZMade s.heap h' (sIt x t) (sIt y u) → Q (.ref (s.heap.objs.size + 4)) { s with heap := h' }) :
    wpAny (model prog w) A (call (.type "zip") [.str x t, .str y u]) Q E s := by
  obtain ⟨m, z4⟩ := zmade s.heap (sIt x t) (sIt y u) rfl rfl
  refine callType_new F.called_zip (by decide) (F.typeCall_zip_2 _ _) (F.newCall_zip_2 _ _) (fun obj => F.args_object_init_3 obj _ _) F.entry_zip_new
    (meets_zip_ss x t y u) ?_
  show _ ∧ _
  rw [z4]
  exact ⟨⟨_, m.z, rfl⟩, h _ m⟩
/-- what a text's iterator draws -/
def CharAt (x : Str) (i : Nat) (v : Value) : Prop := ∃ c u, x.cps[i]? = some c ∧ v = .str ⟨#[c]⟩ u
theorem draws_str (hh : A.handled = none) (it : Addr) (x : Str) (t : Tok) : ∃ St, Draws prog w A it [it] x.cps.size (CharAt x) St ∧ ∀ h : Heap, h.get? it = some (sIt x t) → St 0 h := by
  by_cases ha : x.cps.all (· < 128) = true
  · exact ⟨_, Draws.strAscii hh it x t, fun h e => ⟨_, e, by show Value.type (strIterType x) = _; unfold strIterType; rw [if_pos ha], rfl⟩⟩
  · exact ⟨_, Draws.strWide hh it x t, fun h e => ⟨_, e, by show Value.type (strIterType x) = _; unfold strIterType; rw [if_neg ha], rfl⟩⟩
end
section
variable {prog : Program} {w : World} {A : Around} {E : Value → Shared → Prop} {s : Shared} {env : Env} {h₀ : Heap} {target : Expr} {body : List Stmt} {Q : Flow → Shared → Prop}
/-- turns with an invariant -/
theorem turns_inv {I : Addr} {fp wr : List Addr} {n : Nat} {P Md : Nat → Value → Heap → Prop} {St : Nat → Heap → Prop} {m₀ : Str → Option Value} {news keep : List (Addr × Obj)} (W : KTurns prog w A target I fp wr n P Md St) (J : Nat → (Str → Option Value) → List (Addr × Obj) → Prop)
    (hfp : ∀ b ∈ fp, b ∈ wr ∨ ∃ o, (b, o) ∈ keep) (hL : env.locals ∉ fp) (hwr : ∀ b ∈ wr, h₀.get? b = none) (hnw : ∀ p ∈ news, p.1 ∉ wr) (hlive : ∀ i h, St i h → ∀ b ∈ wr, ∃ o, h.get? b = some o) (hst : St 0 s.heap)
    (F : Fr h₀ env.locals s.heap m₀) (N : News h₀ env.locals s.heap news) (hk : ∀ p ∈ keep, p ∈ news) (hj : J 0 m₀ news)
    (turn : ∀ i v m₁ news₁ h tk own, i < n → P i v h → OwnOff own (news₁.map (·.1)) → (∀ p ∈ keep, p ∈ news₁) → J i m₁ news₁ → Fr h₀ env.locals h m₁ → News h₀ env.locals h (news₁ ++ own) →
      wpAny (model prog w) A (assign target env v) (fun _ s₃ => wpAny (model prog w) A (execs body env) (InvPostG h₀ env.locals (fun m' nx => (∀ p ∈ keep, p ∈ nx) ∧ J (i + 1) m' nx) own { s with heap := h, toks := tk } Q) E s₃) E { s with heap := h, toks := tk })
    (done : ∀ m₁ news₁ h tk, J n m₁ news₁ → Fr h₀ env.locals h m₁ → News h₀ env.locals h news₁ → Q .next { s with heap := h, toks := tk }) :
    TurnsAt prog w A h₀ env target body Q E (.ref I) s := by
  refine ⟨I, fp, wr, n, P, Md, St, m₀, news, (fun i m nx => (∀ p ∈ keep, p ∈ nx) ∧ J i m nx), rfl, W, hL, hwr, hnw, hst, F, N, ⟨hk, hj⟩, ?_, ?_⟩
  · intro i v m₁ news₁ h₁ tk₁ own hin hPi hJ hoff hown hget hall hst₁ F₁ N₁
    obtain ⟨hk₁, hJ⟩ := hJ
    have hsub : ∀ p ∈ own.filter (fun p => decide (p.1 ∈ wr)), p ∈ own ∧ p.1 ∈ wr := fun p hp => ⟨(List.mem_filter.mp hp).1, by simpa using (List.mem_filter.mp hp).2⟩
    have hsep : OwnOff (own.filter fun p => decide (p.1 ∈ wr)) (news₁.map (·.1)) := by
      intro p hp b hb e
      obtain ⟨q, hq, rfl⟩ := List.mem_map.mp hb
      exact hoff q hq (e ▸ (hsub p hp).2)
    have N₂ : News h₀ env.locals h₁ (news₁ ++ own.filter fun p => decide (p.1 ∈ wr)) := fun p hp => N₁ p ((List.mem_append.mp hp).elim (fun h => List.mem_append.mpr (.inr h)) fun h => List.mem_append.mpr (.inl (hsub p h).1))
    have fin : ∀ s₃, InvEndG h₀ env.locals (fun m' nx => (∀ p ∈ keep, p ∈ nx) ∧ J (i + 1) m' nx) (own.filter fun p => decide (p.1 ∈ wr)) { s with heap := h₁, toks := tk₁ } s₃ →
        LoopStepU h₀ env.locals wr own (fun m nx => (∀ p ∈ keep, p ∈ nx) ∧ J (i + 1) m nx) { s with heap := h₁, toks := tk₁ } .next s₃ := by
      rintro s₃ ⟨h', tk, m', news', nx, e, F', N', hn, ho, ha, hm⟩
      refine ⟨rfl, h', tk, m', nx, e, F', fun p hp => ?_, fun p hp hq => ?_, hm⟩
      · rcases List.mem_append.mp hp with h | h
        · by_cases hw : p.1 ∈ wr
          · exact N' p (ho p (List.mem_filter.mpr ⟨h, by simpa using hw⟩))
          · rcases hfp p.1 (hown p h) with h1 | ⟨o, h1⟩
            · exact absurd h1 hw
            · have h2 : h₁.get? p.1 = some p.2 := hget p h
              have h3 : h₁.get? p.1 = some o := (N₁ _ (List.mem_append.mpr (.inr (hk₁ _ h1)))).1
              have h4 : p = (p.1, o) := Prod.ext rfl (Option.some.inj (h2.symm.trans h3))
              rw [h4]
              exact N' _ (hn _ (hm.1 _ h1))
        · exact N' p (hn p h)
      · obtain ⟨o, ho'⟩ := hlive _ _ hst₁ _ hq
        have h1 : (p.1, o) ∈ own := hall p.1 (W.sub _ hq) (hwr _ hq) o ho'
        exact ha (p.1, o) (List.mem_filter.mpr ⟨h1, by simpa using hq⟩) p.1 (List.mem_map.mpr ⟨p, hp, rfl⟩) rfl
    refine wpAny_mono (turn i v m₁ news₁ h₁ tk₁ _ hin hPi hsep hk₁ hJ F₁ N₂) (fun _ s₂ h₂ => wpAny_mono h₂ (fun f s₃ p => ?_) fun _ _ e => e) fun _ _ e => e
    cases f with
    | ret v => exact .ret p
    | brk => exact .brk p
    | next => exact .next (fin _ p)
    | cont => exact .cont (fin _ p)
  · rintro h' tk m' news' F' N' _ ⟨_, hJ⟩
    exact done m' news' h' tk hJ F' N'
end
end Mine
end

section
open PySem PySem.W PyProof.Rows
namespace Mine
section
variable {prog : Program} {w : World} {A : Around} {E : Value → Shared → Prop} {s : Shared} {env : Env} {h₀ : Heap} {body : List Stmt} {Q : Flow → Shared → Prop}
def ZSt {α σ : Type} (Led : σ → List (Addr × Obj)) (ps : σ → List (Str × Value)) (stored : List Str) (m₀ : Str → Option Value) (P : List α → σ → Prop) (pre : List α) (m : Str → Option Value) (nx : List (Addr × Obj)) : Prop :=
  ∃ c : σ, nx = Led c ∧ (∀ p ∈ ps c, m p.1 = some p.2) ∧ (∀ z, (∀ p ∈ ps c, z ≠ p.1) → stored.contains z = false → m z = m₀ z) ∧ P pre c
theorem zst_end {α σ : Type} {Led : σ → List (Addr × Obj)} {ps : σ → List (Str × Value)} {stored : List Str} {m₀ : Str → Option Value} {P : List α → σ → Prop} {pre : List α} {M : List (Addr × Obj) → Prop} (c : σ) {L : Addr} {m' : Str → Option Value} {own news' : List (Addr × Obj)} {s₁ : Shared} {h' : Heap} {tk : Nat}
    (F : Fr h₀ L h' m') (N : News h₀ L h' news') (hn : ∀ p ∈ Led c, p ∈ news') (ho : ∀ p ∈ own, p ∈ news') (ha : OwnOff own ((Led c).map (·.1))) (hk : ∀ p ∈ ps c, m' p.1 = some p.2) (hr : ∀ z, (∀ p ∈ ps c, z ≠ p.1) → stored.contains z = false → m' z = m₀ z) (hp : P pre c)
    (hM : M (Led c)) : InvEndG h₀ L (fun m nx => M nx ∧ ZSt Led ps stored m₀ P pre m nx) own s₁ { s₁ with heap := h', toks := tk } :=
  ⟨h', tk, m', news', Led c, rfl, F, N, hn, ho, ha, hM, c, rfl, hk, hr, hp⟩
theorem zip_turns {σ : Type} {elts : List Expr} {k : Nat} {pos : Pos} {o1 o2 : Obj} {fx : List Addr} {keep : List (Addr × Obj)} {P1 P2 : Nat → Value → Prop} {St1 St2 : Nat → Heap → Prop} {h' : Heap} {m₀ : Str → Option Value} (as : List (Str × Str))
    (m : ZMade s.heap h' o1 o2) (D1 : Draws prog w A.in1 s.heap.objs.size [s.heap.objs.size] as.length P1 St1) (D2 : Draws prog w A.in1 (s.heap.objs.size + 1) ((s.heap.objs.size + 1) :: fx) as.length P2 St2) (st1 : St1 0 h') (st2 : St2 0 h')
    (hP : ∀ i v0 v1, P1 i v0 → P2 i v1 → ∃ a b t u, as[i]? = some (a, b) ∧ v0 = Value.str a t ∧ v1 = Value.str b u)
    (Led : σ → List (Addr × Obj)) (ps : σ → List (Str × Value)) (stored : List Str) (P : List (Str × Str) → σ → Prop) (c₀ : σ)
    (hfx : ∀ b ∈ fx, ∃ o, (b, o) ∈ keep) (hkl : ∀ c : σ, ∀ p ∈ keep, p ∈ Led c)
    (F : Fr h₀ env.locals s.heap m₀) (N : News h₀ env.locals s.heap (Led c₀)) (hk : ∀ p ∈ ps c₀, m₀ p.1 = some p.2) (hp : P [] c₀)
    (turn : ∀ (c : σ) (pre post : List (Str × Str)) (a b : Str) (t u : Tok) (T : Addr) (uu : Str → Option Value) h tk own, as = pre ++ (a, b) :: post → KstMark → OwnOff own ((Led c).map (·.1)) → P pre c → IsTup h T #[.str a t, .str b u] →
      Fr h₀ env.locals h (kstB (fun z => if stored.contains z then uu z else m₀ z) (ps c)) → News h₀ env.locals h (Led c ++ own) →
      wpAny (model prog w) A (assign (.Tuple elts k pos) env (.ref T)) (fun _ s₃ => wpAny (model prog w) A (execs body env) (fun f s₂ => Hid (InvPostG h₀ env.locals (fun m nx => (∀ p ∈ keep, p ∈ nx) ∧ ZSt Led ps stored m₀ P (pre ++ [(a, b)]) m nx) own { s with heap := h, toks := tk } Q f s₂)) E s₃) E { s with heap := h, toks := tk })
    (fin : ∀ (c : σ) (u : Str → Option Value) h tk, KstMark → P as c → Fr h₀ env.locals h (kstB (fun z => if stored.contains z then u z else m₀ z) (ps c)) → News h₀ env.locals h (Led c) → Q .next { s with heap := h, toks := tk }) :
    wpAny (model prog w) A (pyIter (.ref (s.heap.objs.size + 4))) (fun it s₂ => TurnsAt prog w A h₀ env (.Tuple elts k pos) body Q E it s₂) E { s with heap := h' } := by
  refine wpAny_pyIter_zip m.z ?_
  have hlt : ∀ p ∈ Led c₀, p.1 < s.heap.objs.size := fun p hp => Heap.lt_size (N p hp).1
  have hLs : env.locals < s.heap.objs.size := F.ns.lt
  have hfl : ∀ b ∈ fx, b < s.heap.objs.size := fun b hb => by
    obtain ⟨o, ho⟩ := hfx b hb
    exact hlt _ (hkl c₀ _ ho)
  have neA : ∀ {b : Addr} (j : Nat), b < s.heap.objs.size → b ≠ s.heap.objs.size + j := fun {b} j h => ktu_ne j h
  have D : ZApart (s.heap.objs.size + 4) (s.heap.objs.size + 2) (s.heap.objs.size + 3) s.heap.objs.size (s.heap.objs.size + 1) [s.heap.objs.size] ((s.heap.objs.size + 1) :: fx) := by
    have hnf : ∀ j : Nat, s.heap.objs.size + j ∉ fx := fun j hm => neA j (hfl _ hm) rfl
    have hnf0 : s.heap.objs.size ∉ fx := fun hm => Nat.lt_irrefl _ (hfl _ hm)
    generalize s.heap.objs.size = I at *
    constructor
    all_goals (try simp only [List.mem_cons, List.not_mem_nil, or_false, not_or])
    all_goals (first
      | exact ⟨by intro e; exact absurd (show (_ : Nat) = _ from e) (by omega), by first | exact hnf _ | exact hnf0⟩
      | (intro e; exact absurd (show (_ : Nat) = _ from e) (by omega)))
  have W := (walksD D1 D2 D).toU
  refine turns_inv (keep := keep) (KTurns.ofWalksU W) (fun i m nx => ZSt Led ps stored m₀ P (as.take i) m nx) ?_ ?_ ?_ ?_ ?_ ⟨m.z, m.ti, ⟨_, _, m.to⟩, st1, st2⟩ (F.keeps m.keep) (N.grown m.keep) (hkl c₀) ⟨c₀, rfl, hk, fun _ _ _ => rfl, by simpa using hp⟩ ?_ ?_
  · intro b hb
    simp only [List.mem_cons, List.mem_append, List.not_mem_nil, or_false] at hb ⊢
    rcases hb with e | e | e | e | e | e | e | e
    · exact .inl (.inl e)
    · exact .inl (.inr (.inl e))
    · exact .inl (.inr (.inr (.inl e)))
    · exact .inl (.inr (.inr (.inr (.inl e))))
    · exact .inl (.inr (.inr (.inr (.inr e))))
    · exact .inl (.inr (.inr (.inr (.inl e))))
    · exact .inl (.inr (.inr (.inr (.inr e))))
    · exact .inr (hfx b e)
  · intro hm
    simp only [List.mem_cons, List.mem_append, List.not_mem_nil, or_false] at hm
    rcases hm with e | e | e | e | e | e | e | e
    · exact neA 4 hLs e
    · exact neA 2 hLs e
    · exact neA 3 hLs e
    · exact Nat.ne_of_lt hLs e
    · exact neA 1 hLs e
    · exact Nat.ne_of_lt hLs e
    · exact neA 1 hLs e
    · obtain ⟨o, ho⟩ := hfx _ e
      exact (N _ (hkl c₀ _ ho)).2.1 rfl
  · intro b hb
    simp only [List.mem_cons, List.not_mem_nil, or_false] at hb
    rcases hb with rfl | rfl | rfl | rfl | rfl
    · exact ktu_new F (Nat.le_add_right _ _)
    · exact ktu_new F (Nat.le_add_right _ _)
    · exact ktu_new F (Nat.le_add_right _ _)
    · exact ktu_new F (Nat.le_refl _)
    · exact ktu_new F (Nat.le_add_right _ _)
  · intro p hp hm
    have hlp := hlt p hp
    simp only [List.mem_cons, List.not_mem_nil, or_false] at hm
    rcases hm with e | e | e | e | e
    · exact neA 4 hlp e
    · exact neA 2 hlp e
    · exact neA 3 hlp e
    · exact Nat.ne_of_lt hlp e
    · exact neA 1 hlp e
  · rintro i h ⟨hz, hTI, ⟨a, b, hTO⟩, h1, h2⟩ c hc
    simp only [List.mem_cons, List.not_mem_nil, or_false] at hc
    rcases hc with rfl | rfl | rfl | rfl | rfl
    · exact ⟨_, hz⟩
    · exact ⟨_, hTI⟩
    · exact ⟨_, hTO⟩
    · exact D1.live _ _ h1
    · exact D2.live _ _ h2
  · rintro i v m₁ nx h tk own hin ⟨T, vals, rfl, ⟨v0, v1, p1, p2, rfl⟩, hT⟩ hoff _ ⟨c, rfl, h1, h2, hp'⟩ F₁ N₁
    obtain ⟨a, b, t, u, ha, rfl, rfl⟩ := hP i v0 v1 p1 p2
    have hs : as.take (i + 1) = as.take i ++ [(a, b)] := by simp [List.take_add_one, ha]
    have e : as = as.take i ++ (a, b) :: as.drop (i + 1) := by
      have ht := List.take_append_drop (i + 1) as
      rw [hs, List.append_assoc] at ht
      exact ht.symm
    rw [hs]
    exact wpAny_mono (turn c _ _ a b t u T m₁ h tk own e kstMark hoff hp' hT (ksw_fr h1 h2 F₁) N₁) (fun _ s₂ p => wpAny_mono p (fun f s₃ q => q.out) fun _ _ e => e) fun _ _ e => e
  · rintro m₁ nx h tk ⟨c, rfl, h1, h2, hp'⟩ F₁ N₁
    rw [List.take_length] at hp'
    exact fin c m₁ h tk kstMark hp' (ksw_fr h1 h2 F₁) N₁
/-- the pairs of zip(text, texts) -/
def zipC (x : Str) (ss : List Str) : List (Str × Str) := ((x.cps.toList).map fun n => (⟨#[n]⟩ : Str)).zip ss
theorem zipC_get {x : Str} {ss : List Str} {i : Nat} {c : Nat} {b : Str} (h : x.cps[i]? = some c) (h' : ss[i]? = some b) : (zipC x ss)[i]? = some ((⟨#[c]⟩ : Str), b) := by
  unfold zipC
  rw [List.getElem?_zip_eq_some]
  exact ⟨by rw [List.getElem?_map, Array.getElem?_toList, h]; rfl, h'⟩
theorem zipC_len {x : Str} {ss : List Str} (h : x.cps.size = ss.length) : (zipC x ss).length = x.cps.size := by
  unfold zipC
  simp [h]
theorem loop_zip_sl {σ : Type} {elts : List Expr} {k : Nat} {pos : Pos} {x : Str} {tx : Tok} {l : Addr} {vs : List Value} {ss : List Str} {nn : Nat} {m₀ : Str → Option Value}
    (Led : σ → List (Addr × Obj)) (ps : σ → List (Str × Value)) (stored : List Str) (P : List (Str × Str) → σ → Prop) (c₀ : σ) (hh : A.handled = none) (hi : StrsAre vs ss) (hn : x.cps.size = ss.length) (hl : ∀ c : σ, (l, W.listOf vs.toArray nn) ∈ Led c)
    (F : Fr h₀ env.locals s.heap m₀) (N : News h₀ env.locals s.heap (Led c₀)) (hk : ∀ p ∈ ps c₀, m₀ p.1 = some p.2) (hp : P [] c₀)
    (turn : ∀ (c : σ) (pre post : List (Str × Str)) (a b : Str) (t u : Tok) (T : Addr) (uu : Str → Option Value) h tk own, zipC x ss = pre ++ (a, b) :: post → KstMark → OwnOff own ((Led c).map (·.1)) → P pre c → IsTup h T #[.str a t, .str b u] →
      Fr h₀ env.locals h (kstB (fun z => if stored.contains z then uu z else m₀ z) (ps c)) → News h₀ env.locals h (Led c ++ own) →
      wpAny (model prog w) A (assign (.Tuple elts k pos) env (.ref T)) (fun _ s₃ => wpAny (model prog w) A (execs body env) (fun f s₂ => Hid (InvPostG h₀ env.locals (fun m nx => (∀ p ∈ [(l, W.listOf vs.toArray nn)], p ∈ nx) ∧ ZSt Led ps stored m₀ P (pre ++ [(a, b)]) m nx) own { s with heap := h, toks := tk } Q f s₂)) E s₃) E { s with heap := h, toks := tk })
    (fin : ∀ (c : σ) (u : Str → Option Value) h tk, KstMark → P (zipC x ss) c → Fr h₀ env.locals h (kstB (fun z => if stored.contains z then u z else m₀ z) (ps c)) → News h₀ env.locals h (Led c) → Q .next { s with heap := h, toks := tk }) :
    wpAny (model prog w) A (call (.type "zip") [.str x tx, .ref l]) (fun xv s₁ => wpAny (model prog w) A (pyIter xv) (fun it s₂ => TurnsAt prog w A h₀ env (.Tuple elts k pos) body Q E it s₂) E s₁) E s := by
  have hls : s.heap.IsList l vs.toArray := N.isList (hl c₀)
  have hlt : l < s.heap.objs.size := Heap.lt_size (N _ (hl c₀)).1
  refine call_zip_sl hls fun h' m => ?_
  obtain ⟨St1, D1, g1⟩ := draws_str (prog := prog) (w := w) (A := A.in1) hh s.heap.objs.size x tx
  have hz := zipC_len hn
  have D2 := Draws.list (prog := prog) (w := w) (A := A.in1) hh (s.heap.objs.size + 1) l (ktu_ne 1 hlt) vs.toArray
  have hvl : vs.toArray.size = (zipC x ss).length := by rw [hz, hn, List.size_toArray, hi.length]
  rw [hvl] at D2
  rw [← hz] at D1
  refine zip_turns (keep := [(l, W.listOf vs.toArray nn)]) (zipC x ss) m D1 D2 (g1 _ m.i1) ⟨⟨_, m.i2, rfl, rfl⟩, hls.at fun o e => m.keep _ o e⟩ ?_ Led ps stored P c₀ ?_ ?_ F N hk hp turn fin
  · rintro i v0 v1 ⟨c, u, hc, rfl⟩ hv
    obtain ⟨b, hb, t, rfl⟩ := strs_at hi i v1 (by simpa using hv)
    exact ⟨_, b, u, t, zipC_get hc hb, rfl, rfl⟩
  · intro b hb
    rw [List.mem_singleton.mp hb]
    exact ⟨_, .head _⟩
  · intro c p hp
    rw [List.mem_singleton.mp hp]
    exact hl c
theorem loop_zip_ss {σ : Type} {elts : List Expr} {k : Nat} {pos : Pos} {x y : Str} {tx ty : Tok} {m₀ : Str → Option Value}
    (Led : σ → List (Addr × Obj)) (ps : σ → List (Str × Value)) (stored : List Str) (P : List (Str × Str) → σ → Prop) (c₀ : σ) (hh : A.handled = none) (hn : x.cps.size = y.cps.size)
    (F : Fr h₀ env.locals s.heap m₀) (N : News h₀ env.locals s.heap (Led c₀)) (hk : ∀ p ∈ ps c₀, m₀ p.1 = some p.2) (hp : P [] c₀)
    (turn : ∀ (c : σ) (pre post : List (Str × Str)) (a b : Str) (t u : Tok) (T : Addr) (uu : Str → Option Value) h tk own, zipC x (signs y) = pre ++ (a, b) :: post → KstMark → OwnOff own ((Led c).map (·.1)) → P pre c → IsTup h T #[.str a t, .str b u] →
      Fr h₀ env.locals h (kstB (fun z => if stored.contains z then uu z else m₀ z) (ps c)) → News h₀ env.locals h (Led c ++ own) →
      wpAny (model prog w) A (assign (.Tuple elts k pos) env (.ref T)) (fun _ s₃ => wpAny (model prog w) A (execs body env) (fun f s₂ => Hid (InvPostG h₀ env.locals (fun m nx => (∀ p ∈ [], p ∈ nx) ∧ ZSt Led ps stored m₀ P (pre ++ [(a, b)]) m nx) own { s with heap := h, toks := tk } Q f s₂)) E s₃) E { s with heap := h, toks := tk })
    (fin : ∀ (c : σ) (u : Str → Option Value) h tk, KstMark → P (zipC x (signs y)) c → Fr h₀ env.locals h (kstB (fun z => if stored.contains z then u z else m₀ z) (ps c)) → News h₀ env.locals h (Led c) → Q .next { s with heap := h, toks := tk }) :
    wpAny (model prog w) A (call (.type "zip") [.str x tx, .str y ty]) (fun xv s₁ => wpAny (model prog w) A (pyIter xv) (fun it s₂ => TurnsAt prog w A h₀ env (.Tuple elts k pos) body Q E it s₂) E s₁) E s := by
  refine call_zip_ss fun h' m => ?_
  obtain ⟨St1, D1, g1⟩ := draws_str (prog := prog) (w := w) (A := A.in1) hh s.heap.objs.size x tx
  obtain ⟨St2, D2, g2⟩ := draws_str (prog := prog) (w := w) (A := A.in1) hh (s.heap.objs.size + 1) y ty
  have hsl : (signs y).length = y.cps.size := by unfold signs; simp
  have hz := zipC_len (x := x) (ss := signs y) (by rw [hsl]; exact hn)
  rw [← hn, ← hz] at D2
  rw [← hz] at D1
  refine zip_turns (keep := []) (zipC x (signs y)) m D1 D2 (g1 _ m.i1) (g2 _ m.i2) ?_ Led ps stored P c₀ (fun _ h => nomatch h) (fun _ _ h => nomatch h) F N hk hp turn fin
  rintro i v0 v1 ⟨c, u, hc, rfl⟩ ⟨d, t, hd, rfl⟩
  exact ⟨_, ⟨#[d]⟩, u, t, zipC_get hc (by unfold signs; rw [List.getElem?_map, Array.getElem?_toList, hd]; rfl), rfl, rfl⟩
end
end Mine
end

section
open PySem PySem.W PyProof.Rows
namespace Mine
theorem flatP_append : ∀ a b : List (Str × Str), flatP (a ++ b) = flatP a ++ flatP b
  | [], _ => rfl
  | (p, q) :: a, b => by
    show p :: q :: flatP (a ++ b) = p :: q :: (flatP a ++ flatP b)
    rw [flatP_append a b]
/-- the signs of urllib.request, and the marks -/
abbrev sgS : List Str := signs (Str.ofString ",\"\\ ;'a")
abbrev mkS : Str := Str.ofString "0123456"
/-- _law_turned of a list and the signs, of the signs and a list -/
def turnA (x : Str) (o : List Str) : Str := replF x (((zipC mkS o).map fun p => (p.2, p.1)) ++ zipC mkS sgS)
def turnB (x : Str) (o : List Str) : Str := replF x (((zipC mkS sgS).map fun p => (p.2, p.1)) ++ zipC mkS o)
theorem sub_own {a b : Addr × Obj} {l own : List (Addr × Obj)} : ∀ p ∈ b :: l, p ∈ a :: b :: (l ++ own) := by
  intro p hp
  rcases List.mem_cons.mp hp with rfl | hp
  · exact .tail _ (.head _)
  · exact .tail _ (.tail _ (List.mem_append.mpr (.inl hp)))
theorem own_own {a b : Addr × Obj} {l own : List (Addr × Obj)} : ∀ p ∈ own, p ∈ a :: b :: (l ++ own) := fun p hp => .tail _ (.tail _ (List.mem_append.mpr (.inr hp)))
theorem zipC_mem {x : Str} {ss : List Str} {p : Str × Str} (h : p ∈ zipC x ss) : p.1.length = 1 ∧ p.2 ∈ ss := by
  unfold zipC at h
  obtain ⟨h1, h2⟩ := List.of_mem_zip (show (p.1, p.2) ∈ _ from h)
  obtain ⟨n, _, e⟩ := List.mem_map.mp h1
  exact ⟨by rw [← e]; rfl, h2⟩
theorem sgS_one : ∀ p ∈ sgS, p.length = 1 := by
  intro p hp
  unfold sgS signs at hp
  obtain ⟨n, _, rfl⟩ := List.mem_map.mp hp
  rfl
theorem pairs_ok {x : Str} {o1 o2 : List Str} (h1 : ∀ p ∈ o1, p.length = 1) (h2 : ∀ p ∈ o2, p.length = 1) : ∀ q ∈ ((zipC x o1).map fun p => (p.2, p.1)) ++ zipC x o2, q.1.length = 1 ∧ q.2.length ≤ 2 := by
  intro q hq
  rcases List.mem_append.mp hq with hq | hq
  · obtain ⟨p, hp, rfl⟩ := List.mem_map.mp hq
    obtain ⟨a, b⟩ := zipC_mem hp
    exact ⟨h1 _ b, by dsimp only; omega⟩
  · obtain ⟨a, b⟩ := zipC_mem hq
    exact ⟨a, by have := h2 _ b; omega⟩
theorem pairsA_ok {o : List Str} (ho7 : o.length = 7) (ho1 : ∀ p ∈ o, p.length = 1) : ∀ q ∈ ((zipC mkS o).map fun p => (p.2, p.1)) ++ zipC mkS sgS, q.1.length = 1 ∧ q.2.length ≤ 2 := pairs_ok ho1 sgS_one
theorem pairsB_ok {o : List Str} (ho7 : o.length = 7) (ho1 : ∀ p ∈ o, p.length = 1) : ∀ q ∈ ((zipC mkS sgS).map fun p => (p.2, p.1)) ++ zipC mkS o, q.1.length = 1 ∧ q.2.length ≤ 2 := pairs_ok sgS_one ho1
set_option maxRecDepth 100000 in
set_option maxHeartbeats 8000000 in
theorem turned_ok1 {w : World} {mean : ExcName → Option Value} {mg mb : Str → Option Value} (x : Str) (tx : Tok) (lo : Addr) (ov : List Value) (oc : Nat) (o : List Str) (tn : Tok) (hx : x.length ≤ 40) (ho : StrsAre ov o) (ho7 : o.length = 7) (ho1 : ∀ p ∈ o, p.length = 1) (dp un : Nat) (gd : Option (List Code)) (cn : Str) (cs : Scope) (a : Addr) (ccd : Value) (cl : List (Str × Addr)) (outer : List Env) (A₀ : Around) (base h₀ : Heap) (L : Addr) (m : Str → Option Value) (news : List (Addr × Obj)) (s : Shared)
    (Q E : Value → Shared → Prop) (B : Below A₀ base outer h₀) (F : Fr h₀ L s.heap m) (X : (Mine.hd.heap_39 w.params).In h₀) (N : News h₀ L s.heap news) (T : Top Mine.hd.view_39 (looseW Mine.hd.view_39 []) mean mg mb h₀) (hk : cs.kind = .function) (hd : dp + 2 < recursionLimit) (hu : un + 16 < cLine) (hl : (lo, W.listOf ov.toArray oc) ∈ news)
    (hret : ∀ (t : Tok) (h' : Heap) (tk' : Nat), Fr h₀ L h' m → News h₀ L h' news → Q (.str (turnA x o) t) { s with heap := h', toks := tk' }) :
    wpAny (model PySem.Challenge.rw_mq0075_01.row.prog w) (ktrTop dp un gd cn cs L a ccd cl outer) (call (.ref 40) [.str x tx, .ref lo, .str (Str.ofString ",\"\\ ;'a") tn]) Q E s := by
  k_with_none
  w_top off
  have hn7 : (Str.ofString "0123456").cps.size = o.length := by rw [ho7]; decide +kernel
  have hn7' : (Str.ofString "0123456").cps.size = (Str.ofString ",\"\\ ;'a").cps.size := by decide +kernel
  revert X T; k_fill; intro X T
  refine wpAny_call ?_
  k_dflt ktr_enter
  iterate 9 (first | (k_unfold; (try dsimp only)) | walk1 | (dsimp only; walk1))
  (rename Fr _ _ _ _ => lF'; with_unfolding_all refine' For_turns lF' ?_; k_whole)
  iterate 8 (first | (k_unfold; (try dsimp only)) | walk1 | (dsimp only; walk1))
  rename_i tk00 lp hB hlt0 hC lN'
  have hlt := allLt_of hlt0
  refine' loop_zip_sl (vs := ov) (ss := o) (nn := oc) (σ := List Value × Nat) (fun c => (lp, W.listOf c.1.toArray c.2) :: news) (fun _ => []) [Str.ofString "mark", Str.ofString "old"] (fun pre c => StrsAre c.1 (flatP (pre.map fun p => (p.2, p.1)))) ([], 0) (by rfl) ho hn7 (fun _ => .tail _ hl) lF' lN' ?hk ?hp ?turn ?fin
  case hk => exact fun _ h => nomatch h
  case hp => exact .nil
  case turn =>
    clear lN' lF'
    rintro ⟨pv, cap⟩ pre post mk old t1 t2 T1 uu h1 tk1 own e1 hmark hoff hP hT F2 N2
    dsimp only [kstB] at hP F2 N2 hoff ⊢
    simp only [List.cons_append] at N2
    simp only [List.map_cons] at hoff
    have hpl := congrArg List.length e1
    have hpvl := hP.length
    rw [List.length_append, zipC_len hn7, List.length_cons] at hpl
    rw [flatP_len, List.length_map] at hpvl
    have h7 : (Str.ofString "0123456").cps.size = 7 := by decide +kernel
    have hpl2 : pv.length ≤ 26 := by omega
    k_with "call builtin:list.extend" => (k_dflt (refine kl_extend (by k_asm) (by k_asm) (.head _) rfl (by exact Nat.succ_ne_zero _) (by k_upd) (extend_door (by simp only [List.size_toArray, List.length_cons, List.length_nil]; rw [PySem.sizeLine_eq]; omega)) (by simp only [List.length_cons, List.length_nil]; rw [PySem.sizeLine_eq]; omega) (by simp only [List.size_toArray, List.length_cons, List.length_nil]; rw [PySem.sizeLine_eq]; omega) ?_); intro h6 F6 N6)
    k_steps
    refine Hid.mk ?_; dsimp only [InvPostG]
    rename Fr _ _ _ _ => F3; rename News _ _ _ _ => N3
    refine zst_end (pv ++ [_, _], _) F3 N3 sub_own own_own hoff (fun _ h => nomatch h) (by ksw_same) ?_ (fun p hp => by rw [List.mem_singleton.mp hp]; exact .tail _ hl)
    dsimp only
    rw [List.map_append, flatP_append]
    exact hP.append' (.cons _ _ (.cons _ _ .nil))
  case fin =>
    clear lN' lF'
    rintro ⟨pv, cap⟩ u h tk hmark hP F2 N2
    dsimp only [kstB] at hP F2 N2 ⊢
    iterate 1 (first | (k_unfold; (try dsimp only)) | walk1 | (dsimp only; walk1))
    (rename Fr _ _ _ _ => lF'; with_unfolding_all refine' For_turns lF' ?_; k_whole)
    iterate 8 (first | (k_unfold; (try dsimp only)) | walk1 | (dsimp only; walk1))
    refine' loop_zip_ss (σ := List Value × Nat) (fun c => (lp, W.listOf c.1.toArray c.2) :: news) (fun _ => []) [Str.ofString "mark", Str.ofString "new"] (fun pre c => StrsAre c.1 (flatP (((zipC (Str.ofString "0123456") o).map fun p => (p.2, p.1)) ++ pre))) (pv, cap) (by rfl) hn7' lF' N2 ?hk2 ?hp2 ?turn2 ?fin2
    case hk2 => exact fun _ h => nomatch h
    case hp2 => dsimp only; rw [List.append_nil]; exact hP
    case turn2 =>
      clear N2 lF' hP pv cap
      rintro ⟨pv, cap⟩ pre post mk old t1 t2 T1 uu h1 tk1 own e1 hmark hoff hP hT F2 N2
      dsimp only [kstB] at hP F2 N2 hoff ⊢
      simp only [List.cons_append] at N2
      simp only [List.map_cons] at hoff
      have hpl := congrArg List.length e1
      have hpvl := hP.length
      rw [List.length_append, zipC_len (by rw [signs_length]; exact hn7'), List.length_cons] at hpl
      rw [flatP_len, List.length_append, List.length_map, zipC_len hn7] at hpvl
      have h7 : (Str.ofString "0123456").cps.size = 7 := by decide +kernel
      have hpl2 : pv.length ≤ 26 := by omega
      k_with "call builtin:list.extend" => (k_dflt (refine kl_extend (by k_asm) (by k_asm) (.head _) rfl (by exact Nat.succ_ne_zero _) (by k_upd) (extend_door (by simp only [List.size_toArray, List.length_cons, List.length_nil]; rw [PySem.sizeLine_eq]; omega)) (by simp only [List.length_cons, List.length_nil]; rw [PySem.sizeLine_eq]; omega) (by simp only [List.size_toArray, List.length_cons, List.length_nil]; rw [PySem.sizeLine_eq]; omega) ?_); intro h6 F6 N6)
      k_steps
      refine Hid.mk ?_; dsimp only [InvPostG]
      rename Fr _ _ _ _ => F3; rename News _ _ _ _ => N3
      refine zst_end (pv ++ [_, _], _) F3 N3 sub_own own_own hoff (fun _ h => nomatch h) (by ksw_same) ?_ (fun _ h => nomatch h)
      dsimp only
      rw [← List.append_assoc, flatP_append]
      exact hP.append' (.cons _ _ (.cons _ _ .nil))
    case fin2 =>
      clear N2 lF' hP
      rintro ⟨pv, cap⟩ u h tk hmark hP F2 N2
      dsimp only [kstB] at hP F2 N2 ⊢
      have hpvl := hP.length
      have h7 : (Str.ofString "0123456").cps.size = 7 := by decide +kernel
      rw [flatP_len, List.length_append, List.length_map, zipC_len hn7, zipC_len (by rw [signs_length]; exact hn7'), h7] at hpvl
      have hps := pairsA_ok ho7 ho1
      have hpl : (((zipC (Str.ofString "0123456") o).map fun p => (p.2, p.1)) ++ zipC (Str.ofString "0123456") (signs (Str.ofString ",\"\\ ;'a"))).length ≤ 20 := by rw [List.length_append, List.length_map, zipC_len hn7, zipC_len (by rw [signs_length]; exact hn7'), h7]; decide
      have hxp : x.length * 2 ^ (((zipC (Str.ofString "0123456") o).map fun p => (p.2, p.1)) ++ zipC (Str.ofString "0123456") (signs (Str.ofString ",\"\\ ;'a"))).length ≤ 1000000 := by rw [List.length_append, List.length_map, zipC_len hn7, zipC_len (by rw [signs_length]; exact hn7'), h7]; omega
      k_with "StarOf" => (k_dflt (refine star_seq (by k_asm) (by k_asm) (.head _) rfl rfl (.inl rfl) rfl (by rw [List.size_toArray, PySem.sizeLine_eq]; omega) ?_); intro h6 F6 N6)
      k_with "call ref" => ((try simp only [List.append_nil]); k_dflt (refine repl_ok x _ (((zipC (Str.ofString "0123456") o).map fun p => (p.2, p.1)) ++ zipC (Str.ofString "0123456") (signs (Str.ofString ",\"\\ ;'a"))) _ hP hps hpl hxp _ _ _ _ _ _ _ _ _ _ _ _ _ _ _ _ _ _ (by k_asm) (by k_asm) (by k_asm) (by k_asm) (by k_asm) rfl (by ktr_room) (by ktr_units) ?_); intro t5 h5 tk5 F5 N5)
      k_steps
      exact hret _ _ _ (by k_asm) (kst_newsOf (by k_asm) fun p hp => .tail _ hp)
set_option maxRecDepth 100000 in
set_option maxHeartbeats 8000000 in
theorem turned_ok2 {w : World} {mean : ExcName → Option Value} {mg mb : Str → Option Value} (x : Str) (tx : Tok) (lo : Addr) (ov : List Value) (oc : Nat) (o : List Str) (tn : Tok) (hx : x.length ≤ 40) (ho : StrsAre ov o) (ho7 : o.length = 7) (ho1 : ∀ p ∈ o, p.length = 1) (dp un : Nat) (gd : Option (List Code)) (cn : Str) (cs : Scope) (a : Addr) (ccd : Value) (cl : List (Str × Addr)) (outer : List Env) (A₀ : Around) (base h₀ : Heap) (L : Addr) (m : Str → Option Value) (news : List (Addr × Obj)) (s : Shared)
    (Q E : Value → Shared → Prop) (B : Below A₀ base outer h₀) (F : Fr h₀ L s.heap m) (X : (Mine.hd.heap_39 w.params).In h₀) (N : News h₀ L s.heap news) (T : Top Mine.hd.view_39 (looseW Mine.hd.view_39 []) mean mg mb h₀) (hk : cs.kind = .function) (hd : dp + 2 < recursionLimit) (hu : un + 16 < cLine) (hl : (lo, W.listOf ov.toArray oc) ∈ news)
    (hret : ∀ (t : Tok) (h' : Heap) (tk' : Nat), Fr h₀ L h' m → News h₀ L h' news → Q (.str (turnB x o) t) { s with heap := h', toks := tk' }) :
    wpAny (model PySem.Challenge.rw_mq0075_01.row.prog w) (ktrTop dp un gd cn cs L a ccd cl outer) (call (.ref 40) [.str x tx, .str (Str.ofString ",\"\\ ;'a") tn, .ref lo]) Q E s := by
  k_with_none
  w_top off
  have hn7 : (Str.ofString "0123456").cps.size = o.length := by rw [ho7]; decide +kernel
  have hn7' : (Str.ofString "0123456").cps.size = (Str.ofString ",\"\\ ;'a").cps.size := by decide +kernel
  revert X T; k_fill; intro X T
  refine wpAny_call ?_
  k_dflt ktr_enter
  iterate 9 (first | (k_unfold; (try dsimp only)) | walk1 | (dsimp only; walk1))
  (rename Fr _ _ _ _ => lF'; with_unfolding_all refine' For_turns lF' ?_; k_whole)
  iterate 8 (first | (k_unfold; (try dsimp only)) | walk1 | (dsimp only; walk1))
  rename_i tk00 lp hB hlt0 hC lN'
  have hlt := allLt_of hlt0
  refine' loop_zip_ss (σ := List Value × Nat) (fun c => (lp, W.listOf c.1.toArray c.2) :: news) (fun _ => []) [Str.ofString "mark", Str.ofString "old"] (fun pre c => StrsAre c.1 (flatP (pre.map fun p => (p.2, p.1)))) ([], 0) (by rfl) hn7' lF' lN' ?hk ?hp ?turn ?fin
  case hk => exact fun _ h => nomatch h
  case hp => exact .nil
  case turn =>
    clear lN' lF'
    rintro ⟨pv, cap⟩ pre post mk old t1 t2 T1 uu h1 tk1 own e1 hmark hoff hP hT F2 N2
    dsimp only [kstB] at hP F2 N2 hoff ⊢
    simp only [List.cons_append] at N2
    simp only [List.map_cons] at hoff
    have hpl := congrArg List.length e1
    have hpvl := hP.length
    rw [List.length_append, zipC_len (by rw [signs_length]; exact hn7'), List.length_cons] at hpl
    rw [flatP_len, List.length_map] at hpvl
    have h7 : (Str.ofString "0123456").cps.size = 7 := by decide +kernel
    have hpl2 : pv.length ≤ 26 := by omega
    k_with "call builtin:list.extend" => (k_dflt (refine kl_extend (by k_asm) (by k_asm) (.head _) rfl (by exact Nat.succ_ne_zero _) (by k_upd) (extend_door (by simp only [List.size_toArray, List.length_cons, List.length_nil]; rw [PySem.sizeLine_eq]; omega)) (by simp only [List.length_cons, List.length_nil]; rw [PySem.sizeLine_eq]; omega) (by simp only [List.size_toArray, List.length_cons, List.length_nil]; rw [PySem.sizeLine_eq]; omega) ?_); intro h6 F6 N6)
    k_steps
    refine Hid.mk ?_; dsimp only [InvPostG]
    rename Fr _ _ _ _ => F3; rename News _ _ _ _ => N3
    refine zst_end (pv ++ [_, _], _) F3 N3 sub_own own_own hoff (fun _ h => nomatch h) (by ksw_same) ?_ (fun _ h => nomatch h)
    dsimp only
    rw [List.map_append, flatP_append]
    exact hP.append' (.cons _ _ (.cons _ _ .nil))
  case fin =>
    clear lN' lF'
    rintro ⟨pv, cap⟩ u h tk hmark hP F2 N2
    dsimp only [kstB] at hP F2 N2 ⊢
    iterate 1 (first | (k_unfold; (try dsimp only)) | walk1 | (dsimp only; walk1))
    (rename Fr _ _ _ _ => lF'; with_unfolding_all refine' For_turns lF' ?_; k_whole)
    iterate 8 (first | (k_unfold; (try dsimp only)) | walk1 | (dsimp only; walk1))
    refine' loop_zip_sl (vs := ov) (ss := o) (nn := oc) (σ := List Value × Nat) (fun c => (lp, W.listOf c.1.toArray c.2) :: news) (fun _ => []) [Str.ofString "mark", Str.ofString "new"] (fun pre c => StrsAre c.1 (flatP (((zipC (Str.ofString "0123456") (signs (Str.ofString ",\"\\ ;'a"))).map fun p => (p.2, p.1)) ++ pre))) (pv, cap) (by rfl) ho hn7 (fun _ => .tail _ hl) lF' N2 ?hk2 ?hp2 ?turn2 ?fin2
    case hk2 => exact fun _ h => nomatch h
    case hp2 => dsimp only; rw [List.append_nil]; exact hP
    case turn2 =>
      clear N2 lF' hP pv cap
      rintro ⟨pv, cap⟩ pre post mk old t1 t2 T1 uu h1 tk1 own e1 hmark hoff hP hT F2 N2
      dsimp only [kstB] at hP F2 N2 hoff ⊢
      simp only [List.cons_append] at N2
      simp only [List.map_cons] at hoff
      have hpl := congrArg List.length e1
      have hpvl := hP.length
      rw [List.length_append, zipC_len hn7, List.length_cons] at hpl
      rw [flatP_len, List.length_append, List.length_map, zipC_len (by rw [signs_length]; exact hn7')] at hpvl
      have h7 : (Str.ofString "0123456").cps.size = 7 := by decide +kernel
      have hpl2 : pv.length ≤ 26 := by omega
      k_with "call builtin:list.extend" => (k_dflt (refine kl_extend (by k_asm) (by k_asm) (.head _) rfl (by exact Nat.succ_ne_zero _) (by k_upd) (extend_door (by simp only [List.size_toArray, List.length_cons, List.length_nil]; rw [PySem.sizeLine_eq]; omega)) (by simp only [List.length_cons, List.length_nil]; rw [PySem.sizeLine_eq]; omega) (by simp only [List.size_toArray, List.length_cons, List.length_nil]; rw [PySem.sizeLine_eq]; omega) ?_); intro h6 F6 N6)
      k_steps
      refine Hid.mk ?_; dsimp only [InvPostG]
      rename Fr _ _ _ _ => F3; rename News _ _ _ _ => N3
      refine zst_end (pv ++ [_, _], _) F3 N3 sub_own own_own hoff (fun _ h => nomatch h) (by ksw_same) ?_ (fun p hp => by rw [List.mem_singleton.mp hp]; exact .tail _ hl)
      dsimp only
      rw [← List.append_assoc, flatP_append]
      exact hP.append' (.cons _ _ (.cons _ _ .nil))
    case fin2 =>
      clear N2 lF' hP
      rintro ⟨pv, cap⟩ u h tk hmark hP F2 N2
      dsimp only [kstB] at hP F2 N2 ⊢
      have hpvl := hP.length
      have h7 : (Str.ofString "0123456").cps.size = 7 := by decide +kernel
      rw [flatP_len, List.length_append, List.length_map, zipC_len (by rw [signs_length]; exact hn7'), zipC_len hn7, h7] at hpvl
      have hps := pairsB_ok ho7 ho1
      have hpl : (((zipC (Str.ofString "0123456") (signs (Str.ofString ",\"\\ ;'a"))).map fun p => (p.2, p.1)) ++ zipC (Str.ofString "0123456") o).length ≤ 20 := by rw [List.length_append, List.length_map, zipC_len (by rw [signs_length]; exact hn7'), zipC_len hn7, h7]; decide
      have hxp : x.length * 2 ^ (((zipC (Str.ofString "0123456") (signs (Str.ofString ",\"\\ ;'a"))).map fun p => (p.2, p.1)) ++ zipC (Str.ofString "0123456") o).length ≤ 1000000 := by rw [List.length_append, List.length_map, zipC_len (by rw [signs_length]; exact hn7'), zipC_len hn7, h7]; omega
      k_with "StarOf" => (k_dflt (refine star_seq (by k_asm) (by k_asm) (.head _) rfl rfl (.inl rfl) rfl (by rw [List.size_toArray, PySem.sizeLine_eq]; omega) ?_); intro h6 F6 N6)
      k_with "call ref" => ((try simp only [List.append_nil]); k_dflt (refine repl_ok x _ (((zipC (Str.ofString "0123456") (signs (Str.ofString ",\"\\ ;'a"))).map fun p => (p.2, p.1)) ++ zipC (Str.ofString "0123456") o) _ hP hps hpl hxp _ _ _ _ _ _ _ _ _ _ _ _ _ _ _ _ _ _ (by k_asm) (by k_asm) (by k_asm) (by k_asm) (by k_asm) rfl (by ktr_room) (by ktr_units) ?_); intro t5 h5 tk5 F5 N5)
      k_steps
      exact hret _ _ _ (by k_asm) (kst_newsOf (by k_asm) fun p hp => .tail _ hp)
end Mine
end

section
open PySem PySem.W PyProof.Rows
namespace Mine
/-- texts by their codes -/
abbrev txt (l : List Nat) : Str := ⟨l.toArray⟩
theorem txt_list (l : List Nat) : (txt l).cps.toList = l := rfl
theorem txt_of (x : Str) : txt x.cps.toList = x := rfl
theorem txt_append (a b : List Nat) : txt a ++ txt b = txt (a ++ b) := by
  apply Str.ext'
  apply Array.toList_inj.mp
  rw [Str.cps_append, Array.toList_append]
theorem txt_inj {a b : List Nat} (h : txt a = txt b) : a = b := by
  have := congrArg (fun x : Str => x.cps.toList) h
  exact this
theorem txt_beq (a b : List Nat) : (txt a == txt b) = decide (a = b) := by
  by_cases h : a = b
  · subst h; simp
  · have : txt a ≠ txt b := fun e => h (txt_inj e)
    rw [beq_eq_false_iff_ne.mpr this, decide_eq_false h]
theorem e92 : Str.ofString "\\" = txt [92] := by decide +kernel
theorem e34 : Str.ofString "\"" = txt [34] := by decide +kernel
theorem e44 : Str.ofString "," = txt [44] := by decide +kernel
theorem e0 : Str.ofString "" = txt [] := by decide +kernel
/-- replacing one sign -/
def sub1 (c : Nat) (r : List Nat) (l : List Nat) : List Nat := l.flatMap fun n => if n = c then r else [n]
theorem sub1_free {c : Nat} {r : List Nat} : ∀ {l : List Nat}, c ∉ l → sub1 c r l = l
  | [], _ => rfl
  | a :: l, h => by
    have h1 : a ≠ c := fun e => h (e ▸ .head _)
    have h2 : c ∉ l := fun e => h (.tail _ e)
    show (if a = c then r else [a]) ++ sub1 c r l = _
    rw [if_neg h1, sub1_free h2]
    rfl
theorem join_list (sep : List Nat) : ∀ (a : Str) (l : List Str), (Str.join (txt sep) (a :: l)).cps.toList = a.cps.toList ++ l.flatMap fun b => sep ++ b.cps.toList
  | a, [] => by simp [Str.join]
  | a, b :: l => by
    show (a ++ txt sep ++ Str.join (txt sep) (b :: l)).cps.toList = _
    rw [Str.cps_append, Array.toList_append, join_list sep b l, Str.cps_append, Array.toList_append]
    simp
theorem sub1_join {c : Nat} {r : List Nat} : ∀ (l : List Str), (∀ p ∈ l, c ∉ p.cps.toList) → ∀ a : Str, c ∉ a.cps.toList →
    sub1 c r (a.cps.toList ++ l.flatMap fun b => [c] ++ b.cps.toList) = a.cps.toList ++ l.flatMap fun b => r ++ b.cps.toList
  | [], _, a, ha => by simp [sub1_free ha]
  | b :: l, h, a, ha => by
    have ih := sub1_join (r := r) l (fun p hp => h p (.tail _ hp)) b (h b (.head _))
    rw [List.flatMap_cons, List.flatMap_cons]
    have hs : ∀ x y : List Nat, sub1 c r (x ++ y) = sub1 c r x ++ sub1 c r y := fun x y => by unfold sub1; rw [List.flatMap_append]
    rw [hs, sub1_free ha, List.append_assoc, hs, ih]
    have : sub1 c r [c] = r := by simp [sub1]
    rw [this, List.append_assoc]
theorem rstep_codes (x : Str) (c : Nat) (r : List Nat) : (rstep x ⟨#[c]⟩ (txt r)).cps.toList = sub1 c r x.cps.toList := by
  unfold rstep Txt.join
  rw [StrLaws.glued_eq_join]
  have hf := StrLaws.split_free x c
  have hj := StrLaws.join_split x ⟨#[c]⟩
  generalize Txt.split x ⟨#[c]⟩ = ys at hf hj
  cases ys with
  | nil =>
    rw [← hj]
    rfl
  | cons a l =>
    rw [join_list]
    have e : x.cps.toList = a.cps.toList ++ l.flatMap fun b => [c] ++ b.cps.toList := by
      rw [← hj]
      exact join_list [c] a l
    rw [e, sub1_join l (fun p hp => hf p (.tail _ hp)) a (hf a (.head _))]

/-- the seven signs' codes; the marks' -/
def SC : List Nat := [44, 34, 92, 32, 59, 39, 97]
def MK : List Nat := [48, 49, 50, 51, 52, 53, 54]
abbrev sc (c : Nat) : Str := ⟨#[c]⟩
def overS (x : Str) : Prop := ∀ c ∈ x.cps.toList, c ∈ SC
theorem sub1_one (c d : Nat) (l : List Nat) : sub1 c [d] l = l.map fun n => if n = c then d else n := by
  unfold sub1
  induction l with
  | nil => rfl
  | cons a l ih =>
    rw [List.flatMap_cons, ih, List.map_cons]
    by_cases h : a = c
    · rw [if_pos h, if_pos h]; rfl
    · rw [if_neg h, if_neg h]; rfl
/-- one sign through a row of pairs -/
def mapP (ps : List (Nat × Nat)) (n : Nat) : Nat := ps.foldl (fun n p => if n = p.1 then p.2 else n) n
theorem mapP_cons (p : Nat × Nat) (ps : List (Nat × Nat)) (n : Nat) : mapP (p :: ps) n = mapP ps (if n = p.1 then p.2 else n) := rfl
theorem mapP_append (a b : List (Nat × Nat)) (n : Nat) : mapP (a ++ b) n = mapP b (mapP a n) := by unfold mapP; rw [List.foldl_append]
theorem replF_codes : ∀ (ps : List (Nat × Nat)) (x : Str), (replF x (ps.map fun p => (sc p.1, sc p.2))).cps.toList = x.cps.toList.map (mapP ps)
  | [], x => by
    show x.cps.toList = _
    exact (List.map_id _).symm
  | (c, d) :: ps, x => by
    show (replF (rstep x (sc c) (sc d)) (ps.map fun p => (sc p.1, sc p.2))).cps.toList = _
    rw [replF_codes ps, show rstep x (sc c) (sc d) = rstep x ⟨#[c]⟩ (txt [d]) from rfl, rstep_codes, sub1_one, List.map_map]
    rfl
theorem skip_zip {n : Nat} : ∀ (xs ys : List Nat), n ∉ xs → mapP (xs.zip ys) n = n
  | [], _, _ => rfl
  | _ :: _, [], _ => rfl
  | x :: xs, y :: ys, h => by
    have hx : ¬ (n = (x, y).1) := fun e => h (by rw [show n = x from e]; exact .head _)
    rw [List.zip_cons_cons, mapP_cons, if_neg hx]
    exact skip_zip xs ys fun hm => h (.tail _ hm)
theorem map_zip : ∀ (xs ys : List Nat), xs.Nodup → (∀ y ∈ ys, y ∉ xs) → ∀ (i a b : Nat), xs[i]? = some a → ys[i]? = some b → mapP (xs.zip ys) a = b
  | [], _, _, _, i, a, b, h, _ => by simp at h
  | _ :: _, [], _, _, i, a, b, _, h => by simp at h
  | x :: xs, y :: ys, hn, hd, 0, a, b, h, h' => by
    have e1 : x = a := by simpa using h
    have e2 : y = b := by simpa using h'
    subst e1 e2
    rw [List.zip_cons_cons, mapP_cons, if_pos rfl]
    exact skip_zip xs ys fun hm => hd y (.head _) (.tail _ hm)
  | x :: xs, y :: ys, hn, hd, i + 1, a, b, h, h' => by
    have h1 : xs[i]? = some a := by simpa using h
    have h2 : ys[i]? = some b := by simpa using h'
    obtain ⟨n1, n2⟩ := List.nodup_cons.mp hn
    have hax : a ≠ x := fun e => n1 (e ▸ List.mem_of_getElem? h1)
    rw [List.zip_cons_cons, mapP_cons, if_neg hax]
    exact map_zip xs ys n2 (fun z hz hm => hd z (.tail _ hz) (.tail _ hm)) i a b h1 h2
theorem mkS_eq : mkS = txt MK := by decide +kernel
theorem sgS_eq : sgS = SC.map sc := by
  have : Str.ofString ",\"\\ ;'a" = txt SC := by decide +kernel
  unfold sgS
  rw [this]
  rfl
/-- the pairs of the two turnings -/
def pA (cs : List Nat) : List (Nat × Nat) := cs.zip MK ++ MK.zip SC
def pB (cs : List Nat) : List (Nat × Nat) := SC.zip MK ++ MK.zip cs
theorem zipC_codes (xs cs : List Nat) : zipC (txt xs) (cs.map sc) = (xs.zip cs).map fun p => (sc p.1, sc p.2) := by
  unfold zipC
  rw [List.zip_map]
  rfl
theorem zip_swap : ∀ (a b : List Nat), (a.zip b).map (fun p => (sc p.2, sc p.1)) = (b.zip a).map fun p => (sc p.1, sc p.2)
  | [], [] => rfl
  | [], _ :: _ => rfl
  | _ :: _, [] => rfl
  | x :: a, y :: b => by
    rw [List.zip_cons_cons, List.zip_cons_cons, List.map_cons, List.map_cons, zip_swap a b]
theorem turnA_codes (x : Str) (cs : List Nat) : (turnA x (cs.map sc)).cps.toList = x.cps.toList.map (mapP (pA cs)) := by
  have e : ((zipC mkS (cs.map sc)).map fun p => (p.2, p.1)) ++ zipC mkS sgS = (pA cs).map fun p => (sc p.1, sc p.2) := by
    rw [mkS_eq, sgS_eq, zipC_codes, zipC_codes, List.map_map]
    unfold pA
    rw [List.map_append, ← zip_swap MK cs]
    rfl
  unfold turnA
  rw [e, replF_codes]
theorem turnB_codes (x : Str) (cs : List Nat) : (turnB x (cs.map sc)).cps.toList = x.cps.toList.map (mapP (pB cs)) := by
  have e : ((zipC mkS sgS).map fun p => (p.2, p.1)) ++ zipC mkS (cs.map sc) = (pB cs).map fun p => (sc p.1, sc p.2) := by
    rw [mkS_eq, sgS_eq, zipC_codes, zipC_codes, List.map_map]
    unfold pB
    rw [List.map_append, ← zip_swap MK SC]
    rfl
  unfold turnB
  rw [e, replF_codes]
/-- a permutation of the signs, there and back -/
structure Dial (cs : List Nat) (f g : Nat → Nat) : Prop where
  at_ : ∀ (i a b : Nat), cs[i]? = some a → SC[i]? = some b → f a = b
  back : ∀ c ∈ SC, g (f c) = c
  into : ∀ c ∈ SC, f c ∈ SC
  nl : g 10 = 10
theorem dial {cs : List Nat} (hp : cs.Perm SC) : Dial cs (mapP (pA cs)) (mapP (pB cs)) := by
  have hn : cs.Nodup := hp.nodup_iff.mpr (by decide)
  have hl : cs.length = 7 := hp.length_eq
  have hm : ∀ c, c ∈ cs ↔ c ∈ SC := fun c => hp.mem_iff
  have d1 : ∀ y ∈ MK, y ∉ SC := by decide
  have d2 : ∀ y ∈ SC, y ∉ MK := by decide
  have dm : ∀ y ∈ MK, y ∉ cs := fun y hy h => d1 y hy ((hm y).mp h)
  have dc : ∀ y ∈ cs, y ∉ MK := fun y hy => d2 y ((hm y).mp hy)
  have mk : ∀ i < 7, ∃ k, MK[i]? = some k := fun i hi => ⟨_, List.getElem?_eq_getElem (show i < MK.length from hi)⟩
  have sk : ∀ i < 7, ∃ k, SC[i]? = some k := fun i hi => ⟨_, List.getElem?_eq_getElem (show i < SC.length from hi)⟩
  have fa : ∀ (i a b : Nat), cs[i]? = some a → SC[i]? = some b → mapP (pA cs) a = b := by
    intro i a b ha hb
    obtain ⟨hi, _⟩ := List.getElem?_eq_some_iff.mp ha
    obtain ⟨k, hk⟩ := mk i (by omega)
    unfold pA
    rw [mapP_append, map_zip cs MK hn dm i a k ha hk, map_zip MK SC (by decide) d2 i k b hk hb]
  have ga : ∀ (i a b : Nat), cs[i]? = some a → SC[i]? = some b → mapP (pB cs) b = a := by
    intro i a b ha hb
    obtain ⟨hi, _⟩ := List.getElem?_eq_some_iff.mp ha
    obtain ⟨k, hk⟩ := mk i (by omega)
    unfold pB
    rw [mapP_append, map_zip SC MK (by decide) d1 i b k hb hk, map_zip MK cs (by decide) dc i k a hk ha]
  have idx : ∀ c ∈ SC, ∃ (i b : Nat), cs[i]? = some c ∧ SC[i]? = some b := by
    intro c hc
    obtain ⟨i, hi⟩ := List.getElem?_of_mem ((hm c).mpr hc)
    obtain ⟨hi', _⟩ := List.getElem?_eq_some_iff.mp hi
    obtain ⟨b, hb⟩ := sk i (by omega)
    exact ⟨i, b, hi, hb⟩
  refine ⟨fa, ?_, ?_, ?_⟩
  · intro c hc
    obtain ⟨i, b, h1, h2⟩ := idx c hc
    rw [fa i c b h1 h2, ga i c b h1 h2]
  · intro c hc
    obtain ⟨i, b, h1, h2⟩ := idx c hc
    rw [fa i c b h1 h2]
    exact List.mem_of_getElem? h2
  · unfold pB
    rw [mapP_append, skip_zip SC MK (by decide), skip_zip MK cs (by decide)]
theorem str_len (x : Str) : x.length = x.cps.toList.length := by simp [Str.length]
theorem turnA_len {x : Str} {c0 c1 c2 c3 c4 c5 c6 : Nat} : (turnA x [sc c0, sc c1, sc c2, sc c3, sc c4, sc c5, sc c6]).length = x.length := by
  rw [str_len, str_len, show [sc c0, sc c1, sc c2, sc c3, sc c4, sc c5, sc c6] = [c0, c1, c2, c3, c4, c5, c6].map sc from rfl, turnA_codes, List.length_map]
theorem turnB_len {x : Str} {c0 c1 c2 c3 c4 c5 c6 : Nat} : (turnB x [sc c0, sc c1, sc c2, sc c3, sc c4, sc c5, sc c6]).length = x.length := by
  rw [str_len, str_len, show [sc c0, sc c1, sc c2, sc c3, sc c4, sc c5, sc c6] = [c0, c1, c2, c3, c4, c5, c6].map sc from rfl, turnB_codes, List.length_map]
theorem sc_over {l : List Nat} {c : Nat} (hp : l.Perm SC) (h : c ∈ l) : overS (sc c) := by
  intro d hd
  have : d = c := by simpa using hd
  rw [this]
  exact hp.mem_iff.mp h
end Mine
end

section
open PySem PySem.W PyProof.Rows
namespace Mine
/-- the reader in a dialect: parting, quoting, escaping -/
def gstep (p q e : Nat) (s : PSt) (c : Nat) : PSt :=
  if s.esc = true then { s with part := s.part ++ sc c, esc := false }
  else if s.quo = true then
    if c = e then { s with esc := true }
    else if c = q then { s with part := s.part ++ sc c, quo := false }
    else { s with part := s.part ++ sc c }
  else if c = p then { s with res := s.res ++ [s.part], part := txt [] }
  else if c = q then { s with part := s.part ++ sc c, quo := true }
  else { s with part := s.part ++ sc c }
def gfold (p q e : Nat) (s : PSt) (l : List Nat) : PSt := l.foldl (gstep p q e) s
section
variable {p q e : Nat}
theorem gfold_append (s : PSt) (a b : List Nat) : gfold p q e s (a ++ b) = gfold p q e (gfold p q e s a) b := by unfold gfold; rw [List.foldl_append]
theorem gfold_cons (s : PSt) (a : Nat) (b : List Nat) : gfold p q e s (a :: b) = gfold p q e (gstep p q e s a) b := rfl
theorem gfold_nil (s : PSt) : gfold p q e s [] = s := rfl
theorem str_nil (x : Str) : x ++ txt [] = x := by
  show x ++ Str.empty = x
  exact Str.append_empty x
theorem str_snoc (x : Str) (c : Nat) (l : List Nat) : x ++ sc c ++ txt l = x ++ txt (c :: l) := by
  rw [Str.append_assoc, show sc c ++ txt l = txt ([c] ++ l) from txt_append [c] l]
  rfl
/-- outside, no parting and no quoting sign -/
theorem out_free (res : List Str) : ∀ (l : List Nat) (part : Str), p ∉ l → q ∉ l → gfold p q e ⟨res, part, false, false⟩ l = ⟨res, part ++ txt l, false, false⟩
  | [], part, _, _ => by rw [str_nil]; rfl
  | c :: l, part, hp, hq => by
    have h1 : c ≠ p := fun e => hp (e ▸ .head _)
    have h2 : c ≠ q := fun e => hq (e ▸ .head _)
    rw [gfold_cons]
    have hs : gstep p q e ⟨res, part, false, false⟩ c = ⟨res, part ++ sc c, false, false⟩ := by
      unfold gstep
      simp [h1, h2]
    rw [hs, out_free res l _ (fun h => hp (.tail _ h)) (fun h => hq (.tail _ h)), str_snoc]
/-- what stands behind the first piece -/
def tailI (c : Nat) (l : List Str) : List Nat := l.flatMap fun b => c :: b.cps.toList
theorem tailI_cons (c : Nat) (b : Str) (l : List Str) : tailI c (b :: l) = c :: (b.cps.toList ++ tailI c l) := by
  unfold tailI
  rw [List.flatMap_cons]
  rfl
theorem split_codes (x : Str) (c : Nat) {a : Str} {l : List Str} (h : Txt.split x (sc c) = a :: l) : x.cps.toList = a.cps.toList ++ tailI c l := by
  rw [← StrLaws.join_split x (sc c), h]
  exact join_list [c] a l
theorem out_tail : ∀ (l : List Str) (res : List Str) (part : Str), (∀ b ∈ l, p ∉ b.cps.toList ∧ q ∉ b.cps.toList) →
    gfold p q e ⟨res, part, false, false⟩ (tailI p l) = ⟨(l.foldl (fun st o => (st.1 ++ [st.2], o)) (res, part)).1, (l.foldl (fun st o => (st.1 ++ [st.2], o)) (res, part)).2, false, false⟩
  | [], res, part, _ => rfl
  | b :: l, res, part, h => by
    obtain ⟨h1, h2⟩ := h b (.head _)
    rw [tailI_cons, gfold_cons, gfold_append]
    have hs : gstep p q e ⟨res, part, false, false⟩ p = ⟨res ++ [part], txt [], false, false⟩ := by
      unfold gstep
      simp
    rw [hs, out_free _ _ _ h1 h2, out_tail l _ _ (fun c hc => h c (.tail _ hc)), List.foldl_cons]
    have : txt [] ++ txt b.cps.toList = b := by rw [txt_append]; rfl
    rw [this]
/-- a chunk outside -/
theorem out_chunk (res : List Str) (part : Str) (c : Str) (hq : q ∉ c.cps.toList) :
    gfold p q e ⟨res, part, false, false⟩ c.cps.toList = ⟨(addParts (res, part) (Txt.split c (sc p))).1, (addParts (res, part) (Txt.split c (sc p))).2, false, false⟩ := by
  have hf := StrLaws.split_free c p
  obtain ⟨a, l, hs⟩ := split_ne c (sc p)
  rw [show Txt.split c ⟨#[p]⟩ = Txt.split c (sc p) from rfl, hs] at hf
  have hc := split_codes c p hs
  have hm : ∀ b ∈ l, ∀ n ∈ b.cps.toList, n ∈ c.cps.toList := by
    intro b hb n hn
    rw [hc]
    refine List.mem_append.mpr (.inr ?_)
    unfold tailI
    exact List.mem_flatMap.mpr ⟨b, hb, .tail _ hn⟩
  have ha : ∀ n ∈ a.cps.toList, n ∈ c.cps.toList := fun n hn => by rw [hc]; exact List.mem_append.mpr (.inl hn)
  rw [hs]
  rw [hc, gfold_append, out_free res _ _ (hf a (.head _)) (fun h => hq (ha _ h)), out_tail l _ _ (fun b hb => ⟨hf b (.tail _ hb), fun h => hq (hm b hb _ h)⟩)]
  rfl
end
/-- in quotes: what is left, what is pending -/
def bareC (e : Nat) : Bool → List Nat → List Nat
  | _, [] => []
  | true, c :: r => c :: bareC e false r
  | false, c :: r => if c = e then bareC e true r else c :: bareC e false r
def pendC (e : Nat) : Bool → List Nat → Bool
  | b, [] => b
  | true, _ :: r => pendC e false r
  | false, c :: r => if c = e then pendC e true r else pendC e false r
theorem bareC_append (e : Nat) : ∀ (x y : List Nat) (b : Bool), bareC e b (x ++ y) = bareC e b x ++ bareC e (pendC e b x) y
  | [], y, b => by cases b <;> simp [bareC, pendC]
  | c :: x, y, true => by
    show c :: bareC e false (x ++ y) = _
    rw [bareC_append e x y false]
    rfl
  | c :: x, y, false => by
    show (if c = e then bareC e true (x ++ y) else c :: bareC e false (x ++ y)) = _
    by_cases h : c = e
    · rw [if_pos h, bareC_append e x y true]
      simp [bareC, pendC, h]
    · rw [if_neg h, bareC_append e x y false]
      simp [bareC, pendC, h]
theorem pendC_append (e : Nat) : ∀ (x y : List Nat) (b : Bool), pendC e b (x ++ y) = pendC e (pendC e b x) y
  | [], y, b => by cases b <;> rfl
  | c :: x, y, true => by
    show pendC e false (x ++ y) = _
    rw [pendC_append e x y false]
    rfl
  | c :: x, y, false => by
    show (if c = e then pendC e true (x ++ y) else pendC e false (x ++ y)) = _
    by_cases h : c = e
    · rw [if_pos h, pendC_append e x y true]
      simp [pendC, h]
    · rw [if_neg h, pendC_append e x y false]
      simp [pendC, h]
theorem bareC_free {e : Nat} : ∀ {l : List Nat}, e ∉ l → bareC e false l = l ∧ pendC e false l = false
  | [], _ => ⟨rfl, rfl⟩
  | c :: l, h => by
    have h1 : c ≠ e := fun q => h (q ▸ .head _)
    obtain ⟨a, b⟩ := bareC_free (l := l) fun q => h (.tail _ q)
    exact ⟨by simp [bareC, h1, a], by simp [pendC, h1, b]⟩
section
variable {p q e : Nat}
/-- inside, no quoting sign -/
theorem in_free (res : List Str) : ∀ (l : List Nat) (part : Str) (b : Bool), q ∉ l → gfold p q e ⟨res, part, b, true⟩ l = ⟨res, part ++ txt (bareC e b l), pendC e b l, true⟩
  | [], part, b, _ => by
    have : bareC e b [] = [] := by cases b <;> rfl
    rw [this, str_nil]
    cases b <;> rfl
  | c :: l, part, true, hq => by
    have hs : gstep p q e ⟨res, part, true, true⟩ c = ⟨res, part ++ sc c, false, true⟩ := by
      unfold gstep
      simp
    rw [gfold_cons, hs, in_free res l _ false (fun h => hq (.tail _ h)), str_snoc]
    rfl
  | c :: l, part, false, hq => by
    have h2 : c ≠ q := fun e => hq (e ▸ .head _)
    rw [gfold_cons]
    by_cases h : c = e
    · have hs : gstep p q e ⟨res, part, false, true⟩ c = ⟨res, part, true, true⟩ := by
        unfold gstep
        simp [h]
      rw [hs, in_free res l _ true (fun h => hq (.tail _ h))]
      simp [bareC, pendC, h]
    · have hs : gstep p q e ⟨res, part, false, true⟩ c = ⟨res, part ++ sc c, false, true⟩ := by
        unfold gstep
        simp [h, h2]
      rw [hs, in_free res l _ false (fun h => hq (.tail _ h)), str_snoc]
      simp [bareC, pendC, h]
/-- a body that is read inside to its end -/
def InV (p q e : Nat) (body : Str) : Prop := ∀ (res : List Str) (part : Str), gfold p q e ⟨res, part, false, true⟩ body.cps.toList = ⟨res, part ++ txt (bareC e false body.cps.toList), pendC e false body.cps.toList, true⟩
theorem InV.free {b : Str} (h : q ∉ b.cps.toList) : InV p q e b := fun res part => in_free res _ part false h
theorem app3 (a b c : Str) : (a ++ (b ++ c)).cps.toList = a.cps.toList ++ (b.cps.toList ++ c.cps.toList) := by
  rw [Str.cps_append, Array.toList_append, Str.cps_append, Array.toList_append]
theorem InV.more {b c : Str} (hb : InV p q e b) (hp : pendC e false b.cps.toList = true) (hc : q ∉ c.cps.toList) : InV p q e (b ++ (sc q ++ c)) := by
  intro res part
  have e1 : (sc q).cps.toList ++ c.cps.toList = q :: c.cps.toList := rfl
  have hs : ∀ x, gstep p q e ⟨res, x, true, true⟩ q = ⟨res, x ++ sc q, false, true⟩ := fun x => by
    unfold gstep
    simp
  rw [app3, e1, gfold_append, hb res part, hp, gfold_cons, hs, in_free res _ _ false hc, bareC_append, hp, pendC_append, hp, str_snoc, Str.append_assoc, txt_append (bareC e false b.cps.toList)]
  rfl
end
end Mine
end

section
open PySem PySem.W PyProof.Rows
namespace Mine
theorem one_dec (n k : Nat) : decide ([n] = [k]) = decide (n = k) := by simp
theorem item_code (x : Str) (i : Nat) (h : i < x.cps.toList.length) (c : Nat) : (Txt.item x (i : Int) == sc c) = decide (x.cps.toList[i] = c) := by
  have hl : i < x.length := by rw [str_len]; exact h
  have e : Txt.item x (i : Int) = sc (x.cps.toList[i]) := by
    unfold Txt.item Txt.charAt
    rw [seqIdx_nat hl]
    have : x.cps[i]? = some (x.cps.toList[i]) := by
      rw [← Array.getElem?_toList]
      exact List.getElem?_eq_getElem h
    simp only [Option.bind_some, this, Option.getD_some]
  rw [e]
  exact (txt_beq [x.cps.toList[i]] [c]).trans (one_dec _ _)
theorem pend_snoc (e : Nat) (l : List Nat) (c : Nat) : pendC e false (l ++ [c]) = (!pendC e false l && decide (c = e)) := by
  rw [pendC_append]
  cases pendC e false l
  · by_cases h : c = e <;> simp [pendC, h]
  · simp [pendC]
theorem trail_pend (x : Str) (e : Nat) : ∀ n, n ≤ x.cps.toList.length → trailP x (sc e) n ≤ n ∧ pendC e false (x.cps.toList.take n) = decide ((n - trailP x (sc e) n) % 2 = 1)
  | 0, _ => ⟨Nat.le_refl _, rfl⟩
  | n + 1, h => by
    obtain ⟨h1, h2⟩ := trail_pend x e n (by omega)
    have ht : trailP x (sc e) (n + 1) = if (Txt.item x (n : Int) == sc e) = true then trailP x (sc e) n else n + 1 := rfl
    rw [List.take_succ_eq_append_getElem (by omega), pend_snoc, h2, ht, item_code x n (by omega) e]
    clear ht
    generalize trailP x (sc e) n = t at h1
    by_cases hc : x.cps.toList[n] = e
    · simp only [hc, decide_true, if_true, Bool.and_true]
      refine ⟨by omega, ?_⟩
      rw [← decide_not]
      exact decide_eq_decide.mpr (by omega)
    · simp only [hc, decide_false, Bool.and_false, Bool.false_eq_true, if_false]
      refine ⟨Nat.le_refl _, ?_⟩
      simp
theorem ends_pend (x : Str) (e : Nat) : endsF x (sc e) = pendC e false x.cps.toList := by
  obtain ⟨h1, h2⟩ := trail_pend x e x.cps.toList.length (Nat.le_refl _)
  rw [List.take_length] at h2
  rw [h2]
  unfold endsF
  rw [str_len]
  have e1 : ((x.cps.toList.length : Int) - (trailP x (sc e) x.cps.toList.length : Int)) = ((x.cps.toList.length - trailP x (sc e) x.cps.toList.length : Nat) : Int) := by omega
  rw [e1, Int.fmod_eq_emod_of_nonneg _ (by decide)]
  generalize x.cps.toList.length - trailP x (sc e) x.cps.toList.length = n
  by_cases h : n % 2 = 1
  · rw [decide_eq_true h]
    have : ((n : Int) % 2) = 1 := by omega
    rw [this]
    rfl
  · rw [decide_eq_false h]
    have : ((n : Int) % 2) = 0 := by omega
    rw [this]
    rfl
theorem bareL_codes (e : Nat) : ∀ (l : List Str) (acc : Str), (∀ b ∈ l, e ∉ b.cps.toList) → bareL (sc e) l acc = acc ++ txt (bareC e false (tailI e l))
  | [], acc, _ => by
    show acc = acc ++ txt []
    rw [str_nil]
  | [b], acc, h => by
    have hb := bareC_free (h b (.head _))
    show acc ++ b = acc ++ txt (bareC e false (e :: (b.cps.toList ++ [])))
    rw [List.append_nil]
    show acc ++ b = acc ++ txt (if e = e then bareC e true b.cps.toList else e :: bareC e false b.cps.toList)
    rw [if_pos rfl]
    cases hc : b.cps.toList with
    | nil =>
      rw [show b = txt [] from by rw [← txt_of b, hc]]
      rfl
    | cons c r =>
      have hn : e ∉ r := fun q => h b (.head _) (by rw [hc]; exact .tail _ q)
      show acc ++ b = acc ++ txt (c :: bareC e false r)
      rw [(bareC_free hn).1, ← hc]
  | b :: d :: r, acc, h => by
    have hd := h d (.tail _ (.head _))
    have hr : ∀ x ∈ r, e ∉ x.cps.toList := fun x hx => h x (.tail _ (.tail _ hx))
    have hdr : ∀ x ∈ d :: r, e ∉ x.cps.toList := fun x hx => h x (.tail _ hx)
    rw [bareL]
    have e0' : (b == Str.ofString "") = decide (b.cps.toList = []) := by
      rw [e0, ← txt_of b, txt_beq]
    rw [e0']
    have hcons : bareC e false (tailI e (b :: d :: r)) = bareC e true (b.cps.toList ++ tailI e (d :: r)) := by
      rw [tailI_cons]
      simp [bareC]
    by_cases hb : b.cps.toList = []
    · rw [decide_eq_true hb, if_pos rfl, bareL_codes e r _ hr, hcons, hb, List.nil_append, tailI_cons]
      show _ = acc ++ txt (e :: bareC e false (d.cps.toList ++ tailI e r))
      rw [bareC_append, (bareC_free hd).1, (bareC_free hd).2, ← str_snoc acc e (d.cps.toList ++ bareC e false (tailI e r)), ← txt_append d.cps.toList, ← Str.append_assoc]
    · rw [decide_eq_false hb, if_neg (by decide), bareL_codes e (d :: r) _ hdr, hcons]
      have hbf := h b (.head _)
      cases hc : b.cps.toList with
      | nil => exact absurd hc hb
      | cons c s =>
        have hn : e ∉ s := fun q => hbf (by rw [hc]; exact .tail _ q)
        show _ = acc ++ txt (c :: bareC e false (s ++ tailI e (d :: r)))
        rw [bareC_append, (bareC_free hn).1, (bareC_free hn).2, ← List.cons_append, ← txt_append, ← hc, Str.append_assoc]
theorem bareF_codes (x : Str) (e : Nat) : bareF x (sc e) = txt (bareC e false x.cps.toList) := by
  have hf := StrLaws.split_free x e
  obtain ⟨a, l, hs⟩ := split_ne x (sc e)
  rw [show Txt.split x ⟨#[e]⟩ = Txt.split x (sc e) from rfl, hs] at hf
  unfold bareF
  rw [hs]
  show bareL (sc e) l a = _
  have ha := bareC_free (hf a (.head _))
  rw [bareL_codes e l a (fun b hb => hf b (.tail _ hb)), split_codes x e hs, bareC_append, ha.1, ha.2, ← txt_append]
section
variable {p q e : Nat}
/-- the gathered body is read inside; where more stands behind it, it has ended -/
theorem gather_read : ∀ (r : List Str) (body : Str), InV p q e body → (∀ c ∈ r, q ∉ c.cps.toList) →
    InV p q e (gather (sc e) (sc q) body r).1 ∧ body.cps.toList ++ tailI q r = (gather (sc e) (sc q) body r).1.cps.toList ++ tailI q (gather (sc e) (sc q) body r).2 ∧
      ((gather (sc e) (sc q) body r).2 ≠ [] → pendC e false (gather (sc e) (sc q) body r).1.cps.toList = false) ∧ ∀ c ∈ (gather (sc e) (sc q) body r).2, q ∉ c.cps.toList
  | [], body, hb, _ => ⟨hb, rfl, fun h => absurd rfl h, fun _ h => nomatch h⟩
  | c :: r, body, hb, hr => by
    unfold gather
    rw [ends_pend]
    by_cases h : pendC e false body.cps.toList = true
    · rw [if_pos h]
      obtain ⟨h1, h2, h3, h4⟩ := gather_read r (body ++ (sc q ++ c)) (hb.more h (hr c (.head _))) (fun d hd => hr d (.tail _ hd))
      refine ⟨h1, ?_, h3, h4⟩
      rw [← h2, app3, tailI_cons]
      show _ = body.cps.toList ++ ([q] ++ c.cps.toList) ++ tailI q r
      simp
    · rw [if_neg h]
      exact ⟨hb, rfl, fun _ => by simpa using h, hr⟩
/-- the reader of chunks is the reader of signs -/
theorem read_go (hqp : q ≠ p) (hqe : q ≠ e) : ∀ (n : Nat) (c : Str) (r : List Str) (init : List Str) (last : Str), (c :: r).length ≤ n → (∀ d ∈ c :: r, q ∉ d.cps.toList) →
    ∃ b b', gfold p q e ⟨init, last, false, false⟩ (c.cps.toList ++ tailI q r) = ⟨(readGo (sc p) (sc q) (sc e) n (c :: r) (init, last)).1, (readGo (sc p) (sc q) (sc e) n (c :: r) (init, last)).2, b, b'⟩ := by
  intro n
  induction n with
  | zero => intro c r init last h _; simp at h
  | succ n ih =>
    intro c r init last hn hf
    rw [gfold_append, out_chunk init last c (hf c (.head _))]
    unfold readGo
    dsimp only
    generalize addParts (init, last) (Txt.split c (sc p)) = st
    cases r with
    | nil => exact ⟨false, false, rfl⟩
    | cons d r =>
      have hq : ∀ x, gstep p q e ⟨st.1, x, false, false⟩ q = ⟨st.1, x ++ sc q, false, true⟩ := fun x => by
        unfold gstep
        simp [hqp]
      obtain ⟨h1, h2, h3, h4⟩ := gather_read (p := p) r d (InV.free (hf d (.tail _ (.head _)))) (fun x hx => hf x (.tail _ (.tail _ hx)))
      rw [tailI_cons, gfold_cons, hq, h2]
      have hgl := gather_len (sc e) (sc q) r d
      dsimp only
      generalize gather (sc e) (sc q) d r = g at h1 h2 h3 h4 hgl
      obtain ⟨g1, g2⟩ := g
      dsimp only at h1 h2 h3 h4 hgl ⊢
      rw [gfold_append, h1, ← bareF_codes, Str.append_assoc]
      cases g2 with
      | nil => exact ⟨_, _, rfl⟩
      | cons d3 r3 =>
        have hp := h3 (fun h => nomatch h)
        have hc : ∀ x, gstep p q e ⟨st.1, x, false, true⟩ q = ⟨st.1, x ++ sc q, false, false⟩ := fun x => by
          unfold gstep
          simp [hqe]
        rw [hp, tailI_cons, gfold_cons, hc]
        dsimp only
        exact ih d3 r3 st.1 _ (by simp only [List.length_cons] at *; omega) h4
theorem read_codes (hqp : q ≠ p) (hqe : q ≠ e) (x : Str) : ∃ b b', gfold p q e ⟨[], txt [], false, false⟩ x.cps.toList = ⟨(readF x (sc p) (sc q) (sc e)).1, (readF x (sc p) (sc q) (sc e)).2, b, b'⟩ := by
  have hf := StrLaws.split_free x q
  obtain ⟨a, l, hs⟩ := split_ne x (sc q)
  rw [show Txt.split x ⟨#[q]⟩ = Txt.split x (sc q) from rfl, hs] at hf
  rw [split_codes x q hs]
  unfold readF
  rw [hs, e0]
  exact read_go hqp hqe _ a l [] (txt []) (Nat.le_refl _) hf
end
end Mine
end

section
open PySem PySem.W PyProof.Rows
namespace Mine
/-- the reader by codes -/
def pfold (s : PSt) (l : List Nat) : PSt := l.foldl (fun (s : PSt) (n : Nat) => pstep s (n : Int)) s
theorem prun_codes (x : Str) : prun (KStt.codes x) = pfold pinit x.cps.toList := by
  unfold prun KStt.codes pfold
  rw [List.foldl_map]
theorem pfold_append (s : PSt) (a b : List Nat) : pfold s (a ++ b) = pfold (pfold s a) b := by unfold pfold; rw [List.foldl_append]
theorem pfold_cons (s : PSt) (a : Nat) (b : List Nat) : pfold s (a :: b) = pfold (pstep s (a : Int)) b := rfl
theorem pfold_nil (s : PSt) : pfold s [] = s := rfl
theorem chr_txt (n : Nat) : chr1 (n : Int) = txt [n] := rfl
theorem pstep_code (s : PSt) (n : Nat) : pstep s (n : Int) =
    if s.esc = true then { s with part := s.part ++ txt [n], esc := false }
    else if s.quo = true then
      if n = 92 then { s with esc := true }
      else if n = 34 then { s with part := s.part ++ txt [n], quo := false }
      else { s with part := s.part ++ txt [n] }
    else if n = 44 then { s with res := s.res ++ [s.part], part := txt [] }
    else if n = 34 then { s with part := s.part ++ txt [n], quo := true }
    else { s with part := s.part ++ txt [n] } := by
  unfold pstep
  rw [chr_txt, e92, e34, e44, e0]
  simp only [txt_beq, one_dec, decide_eq_true_eq]

/-- a text, a state, with each sign turned -/
def mapStr (f : Nat → Nat) (x : Str) : Str := txt (x.cps.toList.map f)
def mapS (f : Nat → Nat) (s : PSt) : PSt := ⟨s.res.map (mapStr f), mapStr f s.part, s.esc, s.quo⟩
theorem mapStr_snoc (f : Nat → Nat) (x : Str) (c : Nat) : mapStr f (x ++ sc c) = mapStr f x ++ txt [f c] := by
  unfold mapStr
  rw [Str.cps_append, Array.toList_append, List.map_append, ← txt_append]
  rfl
theorem mapStr_nil (f : Nat → Nat) : mapStr f (txt []) = txt [] := rfl
theorem sim_step {f : Nat → Nat} {p q e c : Nat} (h1 : f c = 44 ↔ c = p) (h2 : f c = 34 ↔ c = q) (h3 : f c = 92 ↔ c = e) (s : PSt) : pstep (mapS f s) ((f c : Nat) : Int) = mapS f (gstep p q e s c) := by
  obtain ⟨res, part, esc, quo⟩ := s
  rw [pstep_code]
  unfold gstep mapS
  dsimp only
  simp only [h1, h2, h3]
  cases esc with
  | true => simp only [if_true, mapStr_snoc]
  | false =>
    cases quo with
    | true =>
      simp only [if_true, if_false, Bool.false_eq_true]
      split
      · rfl
      · split <;> simp only [mapStr_snoc]
    | false =>
      simp only [if_true, if_false, Bool.false_eq_true]
      split
      · simp only [List.map_append, List.map_cons, List.map_nil, mapStr_nil]
      · split <;> simp only [mapStr_snoc]
theorem sim_fold {f : Nat → Nat} {p q e : Nat} (h : ∀ c ∈ SC, (f c = 44 ↔ c = p) ∧ (f c = 34 ↔ c = q) ∧ (f c = 92 ↔ c = e)) : ∀ (l : List Nat) (s : PSt), (∀ c ∈ l, c ∈ SC) → pfold (mapS f s) (l.map f) = mapS f (gfold p q e s l)
  | [], s, _ => rfl
  | c :: l, s, hl => by
    obtain ⟨h1, h2, h3⟩ := h c (hl c (.head _))
    rw [List.map_cons, pfold_cons, sim_step h1 h2 h3, sim_fold h l _ (fun d hd => hl d (.tail _ hd)), gfold_cons]
/-- the reader keeps to the text's signs -/
def overP (s : PSt) : Prop := overS s.part ∧ ∀ r ∈ s.res, overS r
theorem over_nil : overS (txt []) := fun _ h => nomatch h
theorem over_app {a b : Str} (ha : overS a) (hb : overS b) : overS (a ++ b) := by
  intro c hc
  rw [Str.cps_append, Array.toList_append] at hc
  exact (List.mem_append.mp hc).elim (ha c) (hb c)
theorem over_sc {c : Nat} (h : c ∈ SC) : overS (sc c) := by
  intro d hd
  have : d = c := by simpa using hd
  rw [this]
  exact h
theorem gstep_over {p q e : Nat} {s : PSt} {c : Nat} (h : overP s) (hc : c ∈ SC) : overP (gstep p q e s c) := by
  obtain ⟨h1, h2⟩ := h
  have h3 := over_app h1 (over_sc hc)
  unfold gstep
  repeat' split
  all_goals (first
    | exact ⟨h3, h2⟩
    | exact ⟨h1, h2⟩
    | (refine ⟨over_nil, fun r hr => ?_⟩
       rcases List.mem_append.mp hr with hr | hr
       · exact h2 r hr
       · rw [List.mem_singleton.mp hr]; exact h1))
theorem gfold_over {p q e : Nat} : ∀ (l : List Nat) (s : PSt), overP s → (∀ c ∈ l, c ∈ SC) → overP (gfold p q e s l)
  | [], s, h, _ => h
  | c :: l, s, h, hl => gfold_over l _ (gstep_over h (hl c (.head _))) fun d hd => hl d (.tail _ hd)
/-- something has been read -/
def got (s : PSt) : Prop := s.res ≠ [] ∨ s.part ≠ txt []
theorem snoc_ne (x : Str) (c : Nat) : x ++ sc c ≠ txt [] := by
  intro h
  have := congrArg Str.length h
  rw [Str.length_append] at this
  have h1 : (sc c).length = 1 := rfl
  have h2 : (txt []).length = 0 := rfl
  omega
theorem gstep_got {p q e : Nat} {s : PSt} {c : Nat} (h : got s) : got (gstep p q e s c) := by
  unfold gstep
  repeat' split
  all_goals (first
    | exact .inr (snoc_ne _ _)
    | exact h
    | exact .inl (by simp))
theorem gfold_got {p q e : Nat} : ∀ (l : List Nat) (s : PSt), got s → got (gfold p q e s l)
  | [], s, h => h
  | c :: l, s, h => gfold_got l _ (gstep_got h)
theorem first_got {p q e c : Nat} : got (gstep p q e ⟨[], txt [], false, false⟩ c) := by
  unfold gstep
  repeat' split
  all_goals (first
    | exact .inr (snoc_ne _ _)
    | exact .inl (by simp)
    | (rename_i h; exact absurd h (by decide)))
/-- strip takes the blank alone -/
theorem drop_takeWhile (p : Nat → Bool) : ∀ l : List Nat, l.drop (l.takeWhile p).length = l.dropWhile p
  | [] => rfl
  | a :: l => by
    by_cases h : p a = true
    · rw [List.takeWhile_cons, if_pos h, List.dropWhile_cons, if_pos h, List.length_cons, List.drop_succ_cons, drop_takeWhile p l]
    · rw [List.takeWhile_cons, if_neg h, List.dropWhile_cons, if_neg h]
      rfl
theorem dropWhile_congr {p q : Nat → Bool} : ∀ {l : List Nat}, (∀ a ∈ l, p a = q a) → l.dropWhile p = l.dropWhile q
  | [], _ => rfl
  | a :: l, h => by
    rw [List.dropWhile_cons, List.dropWhile_cons, h a (.head _), dropWhile_congr fun b hb => h b (.tail _ hb)]
theorem mem_dropWhile {p : Nat → Bool} {l : List Nat} {a : Nat} (h : a ∈ l.dropWhile p) : a ∈ l := by
  rw [← drop_takeWhile] at h
  exact List.mem_of_mem_drop h
theorem strip_codes (x : Str) : (Txt.strip x).cps.toList = ((x.cps.toList.dropWhile Unicode.isSpace).reverse.dropWhile Unicode.isSpace).reverse := by
  unfold Txt.strip
  rw [PyProof.Rows.stripBy_eq, StrLaws.strSub_toList]
  have hlo : stripLo Unicode.isSpace true x = (x.cps.toList.takeWhile Unicode.isSpace).length := by simp only [stripLo, if_true]
  rw [hlo]
  have hhi : stripHi Unicode.isSpace true x (x.cps.toList.takeWhile Unicode.isSpace).length = x.length - ((x.cps.toList.drop (x.cps.toList.takeWhile Unicode.isSpace).length).reverse.takeWhile Unicode.isSpace).length := by simp only [stripHi, if_true]
  rw [hhi, drop_takeWhile]
  have hM : (x.cps.toList.dropWhile Unicode.isSpace).length = x.length - (x.cps.toList.takeWhile Unicode.isSpace).length := by
    rw [← drop_takeWhile, List.length_drop, str_len]
  have e : x.length - ((x.cps.toList.dropWhile Unicode.isSpace).reverse.takeWhile Unicode.isSpace).length - (x.cps.toList.takeWhile Unicode.isSpace).length = (x.cps.toList.dropWhile Unicode.isSpace).length - ((x.cps.toList.dropWhile Unicode.isSpace).reverse.takeWhile Unicode.isSpace).length := by omega
  rw [e]
  generalize x.cps.toList.dropWhile Unicode.isSpace = M
  rw [← drop_takeWhile Unicode.isSpace M.reverse, List.drop_reverse, List.reverse_reverse]
theorem space_is : ∀ c ∈ SC, Unicode.isSpace c = (c == 32) := by decide +kernel
theorem map_dropWhile {f : Nat → Nat} {w : Nat} : ∀ {l : List Nat}, (∀ c ∈ l, (f c = 32 ↔ c = w)) → (l.map f).dropWhile (· == 32) = (l.dropWhile (· == w)).map f
  | [], _ => rfl
  | a :: l, h => by
    have ih := map_dropWhile (l := l) fun b hb => h b (.tail _ hb)
    rw [List.map_cons, List.dropWhile_cons, List.dropWhile_cons]
    by_cases ha : a = w
    · rw [if_pos (by simpa using (h a (.head _)).mpr ha), if_pos (by simpa using ha)]
      exact ih
    · rw [if_neg (by simpa using fun e => ha ((h a (.head _)).mp e)), if_neg (by simpa using ha)]
      rfl
theorem strip_map {f : Nat → Nat} {w : Nat} {l : Str} (hl : overS l) (hi : ∀ c ∈ SC, f c ∈ SC) (hw : ∀ c ∈ SC, (f c = 32 ↔ c = w)) : Txt.strip (mapStr f l) = mapStr f (trimF l w) := by
  apply Str.ext'
  apply Array.toList_inj.mp
  rw [strip_codes]
  show ((List.dropWhile Unicode.isSpace (l.cps.toList.map f)).reverse.dropWhile Unicode.isSpace).reverse = (rtrim w (ltrim w l.cps.toList)).map f
  have h1 : ∀ a ∈ l.cps.toList.map f, Unicode.isSpace a = (a == 32) := by
    intro a ha
    obtain ⟨c, hc, rfl⟩ := List.mem_map.mp ha
    exact space_is _ (hi c (hl c hc))
  rw [dropWhile_congr h1, map_dropWhile (w := w) (fun c hc => hw c (hl c hc))]
  have hm : ∀ c ∈ (l.cps.toList.dropWhile (· == w)).reverse, c ∈ SC := fun c hc => hl c (mem_dropWhile (List.mem_reverse.mp hc))
  have h2 : ∀ a ∈ ((l.cps.toList.dropWhile (· == w)).map f).reverse, Unicode.isSpace a = (a == 32) := by
    intro a ha
    rw [← List.map_reverse] at ha
    obtain ⟨c, hc, rfl⟩ := List.mem_map.mp ha
    exact space_is _ (hi c (hm c hc))
  rw [dropWhile_congr h2, ← List.map_reverse, map_dropWhile (w := w) (fun c hc => hw c (hm c hc)), ← List.map_reverse]
  rfl
theorem trim_over {l : Str} {w : Nat} (h : overS l) : overS (trimF l w) := by
  intro c hc
  have hc' : c ∈ rtrim w (ltrim w l.cps.toList) := hc
  unfold rtrim ltrim at hc'
  exact h c (mem_dropWhile (List.mem_reverse.mp (mem_dropWhile (List.mem_reverse.mp hc'))))
end Mine
end

section
open PySem PySem.W PyProof.Rows
namespace Mine
/-- cutting is one-to-one -/
theorem cut_eq {c : Nat} : ∀ (a b x y : List Nat), c ∉ a → c ∉ b → a ++ c :: x = b ++ c :: y → a = b ∧ x = y
  | [], [], x, y, _, _, h => ⟨rfl, (List.cons.inj h).2⟩
  | [], d :: b, x, y, _, hb, h => absurd (by rw [← (List.cons.inj h).1]; exact .head _) hb
  | d :: a, [], x, y, ha, _, h => absurd (by rw [(List.cons.inj h).1]; exact .head _) ha
  | d :: a, d' :: b, x, y, ha, hb, h => by
    obtain ⟨h1, h2⟩ := List.cons.inj h
    obtain ⟨h3, h4⟩ := cut_eq a b x y (fun q => ha (.tail _ q)) (fun q => hb (.tail _ q)) h2
    exact ⟨by rw [h1, h3], h4⟩
theorem str_of {a b : Str} (h : a.cps.toList = b.cps.toList) : a = b := by rw [← txt_of a, h]
theorem pieces_eq {c : Nat} : ∀ (l m : List Str) (a b : Str), (∀ p ∈ a :: l, c ∉ p.cps.toList) → (∀ p ∈ b :: m, c ∉ p.cps.toList) → a.cps.toList ++ tailI c l = b.cps.toList ++ tailI c m → a :: l = b :: m
  | [], [], a, b, _, _, h => by
    have : tailI c [] = [] := rfl
    rw [this, List.append_nil, List.append_nil] at h
    rw [str_of h]
  | [], d :: m, a, b, ha, _, h => by
    have : tailI c [] = [] := rfl
    rw [this, List.append_nil, tailI_cons] at h
    exact absurd (by rw [h]; exact List.mem_append.mpr (.inr (.head _))) (ha a (.head _))
  | d :: l, [], a, b, _, hb, h => by
    have : tailI c [] = [] := rfl
    rw [this, List.append_nil, tailI_cons] at h
    exact absurd (by rw [← h]; exact List.mem_append.mpr (.inr (.head _))) (hb b (.head _))
  | d :: l, d' :: m, a, b, ha, hb, h => by
    rw [tailI_cons, tailI_cons] at h
    obtain ⟨h1, h2⟩ := cut_eq _ _ _ _ (ha a (.head _)) (hb b (.head _)) h
    rw [str_of h1, pieces_eq l m d d' (fun p hp => ha p (.tail _ hp)) (fun p hp => hb p (.tail _ hp)) h2]
theorem join_codes (c : Nat) (a : Str) (l : List Str) : (Str.join (sc c) (a :: l)).cps.toList = a.cps.toList ++ tailI c l := join_list [c] a l
theorem split_of {c : Nat} {y a : Str} {l : List Str} (hf : ∀ p ∈ a :: l, c ∉ p.cps.toList) (h : y.cps.toList = a.cps.toList ++ tailI c l) : Txt.split y (sc c) = a :: l := by
  obtain ⟨b, m, hs⟩ := split_ne y (sc c)
  have hg := StrLaws.split_free y c
  rw [show Txt.split y ⟨#[c]⟩ = Txt.split y (sc c) from rfl, hs] at hg
  rw [hs]
  refine pieces_eq m l b a hg hf ?_
  rw [← h, split_codes y c hs]
/-- turned back, the joined items -/
theorem map_tail {f g : Nat → Nat} {c : Nat} (hc : g c = c) (hb : ∀ d ∈ SC, g (f d) = d) : ∀ (l : List Str), (∀ p ∈ l, overS p) → (tailI c (l.map (mapStr f))).map g = tailI c l
  | [], _ => rfl
  | a :: l, h => by
    rw [List.map_cons, tailI_cons, tailI_cons, List.map_cons, List.map_append, map_tail hc hb l (fun p hp => h p (.tail _ hp)), hc]
    have : (mapStr f a).cps.toList.map g = a.cps.toList := by
      show (a.cps.toList.map f).map g = _
      rw [List.map_map]
      refine (List.map_congr_left fun d hd => ?_).trans (List.map_id _)
      exact hb d (h a (.head _) d hd)
    rw [this]
theorem back_one {f g : Nat → Nat} (hb : ∀ d ∈ SC, g (f d) = d) {a : Str} (h : overS a) : (mapStr f a).cps.toList.map g = a.cps.toList := by
  show (a.cps.toList.map f).map g = _
  rw [List.map_map]
  refine (List.map_congr_left fun d hd => ?_).trans (List.map_id _)
  exact hb d (h d hd)
theorem eNL : Str.ofString "\n" = txt [10] := by decide +kernel
/-- the items of the dialect -/
def items (R : List Str) (L : Str) : List Str := if (L == Str.ofString "") = true then R else R ++ [L]
theorem items_over {R : List Str} {L : Str} (hR : ∀ r ∈ R, overS r) (hL : overS L) : ∀ p ∈ items R L, overS p := by
  unfold items
  split
  · exact hR
  · intro p hp
    rcases List.mem_append.mp hp with hp | hp
    · exact hR p hp
    · rw [List.mem_singleton.mp hp]; exact hL
theorem items_ne {R : List Str} {L : Str} (h : R ≠ [] ∨ L ≠ txt []) : items R L ≠ [] := by
  unfold items
  split
  · rename_i hl
    rcases h with h | h
    · exact h
    · rw [e0, beq_iff_eq] at hl
      exact absurd hl h
  · simp
theorem pitems_map (f : Nat → Nat) (R : List Str) (L : Str) (b b' : Bool) : pitems (mapS f ⟨R, L, b, b'⟩) = (items R L).map (mapStr f) := by
  unfold pitems items mapS
  dsimp only
  have hl : ((mapStr f L).length : Int) = (L.cps.toList.length : Int) := by
    rw [str_len]
    show (((L.cps.toList.map f).length : Nat) : Int) = _
    rw [List.length_map]
  have hb : (L == Str.ofString "") = decide (L.cps.toList = []) := by rw [e0, ← txt_of L, txt_beq]
  rw [hl, hb]
  cases hc : L.cps.toList with
  | nil => simp
  | cons c r =>
    have h1 : (((c :: r).length : Nat) : Int) ≠ 0 := by simp only [List.length_cons]; omega
    rw [if_pos h1, if_neg (by simp), List.map_append]
    rfl
theorem law_core {x : Str} {cs : List Nat} {f g : Nat → Nat} {p q e w : Nat} (hx : overS x) (h1 : 1 ≤ x.length) (D : Dial cs f g)
    (hp : ∀ c ∈ SC, (f c = 44 ↔ c = p) ∧ (f c = 34 ↔ c = q) ∧ (f c = 92 ↔ c = e)) (hw : ∀ c ∈ SC, (f c = 32 ↔ c = w)) (hqp : q ≠ p) (hqe : q ≠ e)
    (ta tb : Str → Str) (hta : ∀ x, (ta x).cps.toList = x.cps.toList.map f) (htb : ∀ x, (tb x).cps.toList = x.cps.toList.map g) :
    Txt.split (tb (Txt.join (Str.ofString "\n") (parseF (ta x)))) (Str.ofString "\n") = readParts x (sc p) (sc q) (sc e) w ∧ ∀ y ∈ readParts x (sc p) (sc q) (sc e) w, overS y := by
  obtain ⟨b, b', hr⟩ := read_codes hqp hqe x
  have hov := gfold_over (p := p) (q := q) (e := e) x.cps.toList ⟨[], txt [], false, false⟩ ⟨over_nil, fun _ h => nomatch h⟩ hx
  have hgot : got (gfold p q e ⟨[], txt [], false, false⟩ x.cps.toList) := by
    cases hc : x.cps.toList with
    | nil => rw [str_len, hc] at h1; exact absurd h1 (by decide)
    | cons c r =>
      rw [gfold_cons]
      exact gfold_got _ _ first_got
  have hrp : readParts x (sc p) (sc q) (sc e) w = (items (readF x (sc p) (sc q) (sc e)).1 (readF x (sc p) (sc q) (sc e)).2).map fun y => trimF y w := rfl
  have hpr : parseF (ta x) = ((items (readF x (sc p) (sc q) (sc e)).1 (readF x (sc p) (sc q) (sc e)).2).map fun y => trimF y w).map (mapStr f) := by
    have hi : pinit = mapS f ⟨[], txt [], false, false⟩ := by
      unfold pinit
      rw [e0]
      rfl
    unfold parseF
    rw [prun_codes, hta, hi, sim_fold hp _ _ hx, hr, pitems_map, List.map_map, List.map_map]
    rw [hr] at hov
    have ho := items_over hov.2 hov.1
    dsimp only at ho
    refine List.map_congr_left fun y hy => ?_
    exact strip_map (ho y hy) D.into hw
  rw [hr] at hov hgot
  have ho := items_over hov.2 hov.1
  have hne := items_ne hgot
  dsimp only at ho hne
  have ho2 : ∀ y ∈ readParts x (sc p) (sc q) (sc e) w, overS y := by
    rw [hrp]
    intro y hy
    obtain ⟨z, hz, rfl⟩ := List.mem_map.mp hy
    exact trim_over (ho z hz)
  refine ⟨?_, ho2⟩
  rw [hpr, ← hrp]
  cases hl : readParts x (sc p) (sc q) (sc e) w with
  | nil =>
    rw [hrp] at hl
    exact absurd (List.map_eq_nil_iff.mp hl) hne
  | cons a l =>
    rw [hl] at ho2
    rw [eNL]
    refine split_of (c := 10) (fun y hy hm => absurd (ho2 y hy 10 hm) (by decide)) ?_
    rw [htb]
    unfold Txt.join
    rw [StrLaws.glued_eq_join, List.map_cons, show txt [10] = sc 10 from rfl, join_codes, List.map_append, back_one D.back (ho2 a (.head _)), map_tail D.nl D.back l (fun y hy => ho2 y (.tail _ hy))]
theorem dial_iff {cs : List Nat} {f g : Nat → Nat} (D : Dial cs f g) {i a b : Nat} (ha : cs[i]? = some a) (hb : SC[i]? = some b) (hm : a ∈ SC) : ∀ c ∈ SC, (f c = b ↔ c = a) := by
  intro c hc
  have e1 := D.at_ i a b ha hb
  constructor
  · intro h
    rw [← D.back c hc, h, ← e1, D.back a hm]
  · intro h
    rw [h, e1]
theorem law_both {x : Str} {c0 c1 c2 c3 c4 c5 c6 : Nat} (hx : overS x) (h1 : 1 ≤ x.length) (hp : [c0, c1, c2, c3, c4, c5, c6].Perm SC) :
    Txt.split (turnB (Txt.join (Str.ofString "\n") (parseF (turnA x [sc c0, sc c1, sc c2, sc c3, sc c4, sc c5, sc c6]))) [sc c0, sc c1, sc c2, sc c3, sc c4, sc c5, sc c6]) (Str.ofString "\n") = readParts x (sc c0) (sc c1) (sc c2) c3 ∧
      ∀ y ∈ readParts x (sc c0) (sc c1) (sc c2) c3, overS y := by
  have D := dial hp
  have hm : ∀ {c}, c ∈ [c0, c1, c2, c3, c4, c5, c6] → c ∈ SC := fun h => hp.mem_iff.mp h
  have m0 : c0 ∈ SC := hm (.head _)
  have m1 : c1 ∈ SC := hm (.tail _ (.head _))
  have m2 : c2 ∈ SC := hm (.tail _ (.tail _ (.head _)))
  have m3 : c3 ∈ SC := hm (.tail _ (.tail _ (.tail _ (.head _))))
  have a0 := D.at_ 0 c0 44 rfl rfl
  have a1 := D.at_ 1 c1 34 rfl rfl
  have a2 := D.at_ 2 c2 92 rfl rfl
  refine law_core hx h1 D (fun c hc => ⟨dial_iff D (i := 0) rfl rfl m0 c hc, dial_iff D (i := 1) rfl rfl m1 c hc, dial_iff D (i := 2) rfl rfl m2 c hc⟩) (dial_iff D (i := 3) rfl rfl m3) ?_ ?_
    (fun x => turnA x [sc c0, sc c1, sc c2, sc c3, sc c4, sc c5, sc c6]) (fun x => turnB x [sc c0, sc c1, sc c2, sc c3, sc c4, sc c5, sc c6]) (fun x => turnA_codes x [c0, c1, c2, c3, c4, c5, c6]) (fun x => turnB_codes x [c0, c1, c2, c3, c4, c5, c6])
  · intro h
    exact absurd (a1.symm.trans ((congrArg (mapP (pA [c0, c1, c2, c3, c4, c5, c6])) h).trans a0)) (by decide)
  · intro h
    exact absurd (a1.symm.trans ((congrArg (mapP (pA [c0, c1, c2, c3, c4, c5, c6])) h).trans a2)) (by decide)
theorem law_plain {x : Str} {c0 c1 c2 c3 c4 c5 c6 : Nat} (hx : overS x) (h1 : 1 ≤ x.length) (hp : [c0, c1, c2, c3, c4, c5, c6].Perm SC) :
    Txt.split (turnB (Txt.join (Str.ofString "\n") (parseF (turnA x [sc c0, sc c1, sc c2, sc c3, sc c4, sc c5, sc c6]))) [sc c0, sc c1, sc c2, sc c3, sc c4, sc c5, sc c6]) (Str.ofString "\n") = readParts x (sc c0) (sc c1) (sc c2) c3 := (law_both hx h1 hp).1
theorem over_ok {y : Str} (h : overS y) : PyData.strOk y = true := by
  unfold PyData.strOk
  rw [Array.all_eq_true']
  intro c hc
  have hs : ∀ d ∈ SC, d < 0x110000 := by decide
  exact decide_eq_true (hs c (h c (by simpa using hc)))
theorem read_strOk {x : Str} {c0 c1 c2 c3 c4 c5 c6 : Nat} (hx : overS x) (h1 : 1 ≤ x.length) (hp : [c0, c1, c2, c3, c4, c5, c6].Perm SC) : ∀ y ∈ readParts x (sc c0) (sc c1) (sc c2) c3, PyData.strOk y = true :=
  fun y hy => over_ok ((law_both hx h1 hp).2 y hy)
end Mine
end

section
open PySem PySem.W PyProof.Rows
namespace Mine
/-- k, k - 1 .. 1 -/
def downL : Nat → List Int
  | 0 => []
  | k + 1 => ((k + 1 : Nat) : Int) :: downL k
theorem pick_perm {α : Type} (d : α) : ∀ (l : List α) (i : Nat), i < l.length → (l.getD i d :: (l.take i ++ l.drop (i + 1))).Perm l
  | [], i, h => absurd h (Nat.not_lt_zero _)
  | a :: l, 0, _ => List.Perm.refl _
  | a :: l, i + 1, h => by
    have ih := pick_perm d l i (by simpa using h)
    show (l.getD i d :: (a :: (l.take i ++ l.drop (i + 1)))).Perm (a :: l)
    exact (List.Perm.swap _ _ _).trans (ih.cons a)
theorem order_run : ∀ (k : Nat) (nu : Int) (lf od : List Str), lf.length = k → 0 ≤ nu → ((downL k).foldl ostep (nu, lf, od)).2.2.Perm (od ++ lf)
  | 0, nu, lf, od, hl, _ => by
    rw [List.eq_nil_of_length_eq_zero hl, List.append_nil]
    exact List.Perm.refl _
  | k + 1, nu, lf, od, hl, h0 => by
    have hk : (1 : Int) ≤ ((k + 1 : Nat) : Int) := by omega
    obtain ⟨m0, m1⟩ := fmod_ok (n := nu) hk
    obtain ⟨d0, _⟩ := fdiv_ok (k := ((k + 1 : Nat) : Int)) h0 hk
    show ((downL k).foldl ostep (ostep (nu, lf, od) ((k + 1 : Nat) : Int))).2.2.Perm _
    unfold ostep
    dsimp only
    have hi : (nu.fmod ((k + 1 : Nat) : Int)).toNat < lf.length := by omega
    generalize (nu.fmod ((k + 1 : Nat) : Int)).toNat = i at hi
    have hp := pick_perm (Str.ofString "") lf i hi
    have hlen : (lf.take i ++ lf.drop (i + 1)).length = k := by
      have := hp.length_eq
      rw [List.length_cons] at this
      omega
    refine (order_run k _ _ _ hlen d0).trans ?_
    rw [List.append_assoc]
    exact List.Perm.append_left od hp
theorem order_perm {n : Int} (h0 : 0 ≤ n) : (orderF n).Perm (SC.map sc) := by
  have hs : signs (Str.ofString ",\"\\ ;'a") = SC.map sc := sgS_eq
  have hd : downKs 7 7 = downL 7 := by decide
  unfold orderF orun
  rw [hs, hd]
  exact order_run 7 n (SC.map sc) [] rfl h0
theorem order_codes {n : Int} (h0 : 0 ≤ n) : ∃ c0 c1 c2 c3 c4 c5 c6 : Nat, orderF n = [sc c0, sc c1, sc c2, sc c3, sc c4, sc c5, sc c6] ∧ [c0, c1, c2, c3, c4, c5, c6].Perm SC := by
  have hp := order_perm h0
  generalize orderF n = o at hp
  have hm : ∀ s ∈ o, s = sc (s.cps.getD 0 0) := by
    intro s hs
    obtain ⟨c, _, rfl⟩ := List.mem_map.mp (hp.mem_iff.mp hs)
    rfl
  have hq : (o.map fun s => s.cps.getD 0 0).Perm SC := by
    have := hp.map (fun s : Str => s.cps.getD 0 0)
    rw [List.map_map] at this
    exact this
  have hl : o.length = 7 := hp.length_eq
  match o, hl, hm, hq with
  | [s0, s1, s2, s3, s4, s5, s6], _, hm, hq =>
    refine ⟨s0.cps.getD 0 0, s1.cps.getD 0 0, s2.cps.getD 0 0, s3.cps.getD 0 0, s4.cps.getD 0 0, s5.cps.getD 0 0, s6.cps.getD 0 0, ?_, hq⟩
    rw [← hm s0 (by simp), ← hm s1 (by simp), ← hm s2 (by simp), ← hm s3 (by simp), ← hm s4 (by simp), ← hm s5 (by simp), ← hm s6 (by simp)]
theorem wsum_append (a b : List Str) : wsum (a ++ b) = wsum a + wsum b := by
  unfold wsum
  rw [List.map_append, List.sum_append, List.length_append]
  omega
theorem wsum_one (a : Str) : wsum [a] = a.length + 1 := by
  rw [wsum_cons]
  rfl
theorem pstep_wsum (s : PSt) (c : Int) : wsum (pstep s c).res + (pstep s c).part.length ≤ wsum s.res + s.part.length + 1 := by
  have h1 : (chr1 c).length = 1 := rfl
  have h0 : (Str.ofString "").length = 0 := by decide +kernel
  unfold pstep
  repeat' split
  all_goals (dsimp only; (try rw [wsum_append, wsum_one]); (try rw [Str.length_append]); omega)
theorem prun_wsum : ∀ (l : List Int) (s : PSt), wsum (l.foldl pstep s).res + (l.foldl pstep s).part.length ≤ wsum s.res + s.part.length + l.length
  | [], s => Nat.le_refl _
  | c :: l, s => by
    have h1 := pstep_wsum s c
    have h2 := prun_wsum l (pstep s c)
    rw [List.foldl_cons, List.length_cons]
    omega
theorem wsum_map {f : Str → Str} (h : ∀ x, (f x).length ≤ x.length) : ∀ l : List Str, wsum (l.map f) ≤ wsum l
  | [] => Nat.le_refl _
  | a :: l => by
    have := wsum_map h l
    have := h a
    rw [List.map_cons, wsum_cons, wsum_cons]
    omega
theorem parse_wsum (x : Str) : wsum (parseF x) ≤ x.length + 1 := by
  refine Nat.le_trans (wsum_map len_strip _) ?_
  have h := prun_wsum (KStt.codes x) pinit
  rw [KStt.codes_length] at h
  have hp : wsum pinit.res + pinit.part.length = 0 := by decide +kernel
  rw [hp] at h
  show wsum (pitems ((KStt.codes x).foldl pstep pinit)) ≤ _
  unfold pitems
  split
  · rw [wsum_append, wsum_one]
    omega
  · omega
theorem join_wsum (p : Str) (hp : p.length = 1) : ∀ (l : List Str), (Txt.join p l).length + 1 ≤ wsum l + 1
  | [] => by
    unfold Txt.join
    rw [StrLaws.glued_eq_join]
    exact Nat.le_refl _
  | a :: l => by
    unfold Txt.join
    rw [StrLaws.glued_eq_join, len_join_cons, hp]
    unfold wsum
    rw [List.length_cons]
    omega
end Mine
end

section
open PySem PySem.W PyProof.Rows
namespace Mine
def sgn (x : Int) : Str := Txt.item (Str.ofString ",\"\\ ;'a") (x.fmod 7)
theorem sgn_len (x : Int) : (sgn x).length = 1 := rfl
theorem one_weight {α : Type} (f : α → Str) (hf : ∀ a, (f a).length = 1) : ∀ l : List α, ((l.map f).map (·.length)).sum + (l.map f).length = 2 * l.length
  | [] => rfl
  | a :: r => by
    have := one_weight f hf r
    simp only [List.map_cons, List.sum_cons, List.length_cons, hf] at this ⊢
    omega
theorem join_nil_eq {α : Type} (f : α → Str) : ∀ l : List α, Txt.join (Str.ofString "") (l.map f) = ⟨(l.flatMap fun a => (f a).cps.toList).toArray⟩ := by
  intro l
  unfold Txt.join
  rw [StrLaws.glued_eq_join]
  have e0 : Str.ofString "" = Str.empty := by decide +kernel
  rw [e0]
  induction l with
  | nil => rfl
  | cons a r ih =>
    cases r with
    | nil =>
      show f a = _
      apply Str.ext'
      apply Array.toList_inj.mp
      simp
    | cons b r =>
      show f a ++ Str.empty ++ Str.join Str.empty (List.map f (b :: r)) = _
      rw [ih, Str.append_empty]
      apply Str.ext'
      apply Array.toList_inj.mp
      rw [Str.cps_append, Array.toList_append]
      simp
theorem join_nil_len {α : Type} (f : α → Str) (hf : ∀ a, (f a).length = 1) (l : List α) : (Txt.join (Str.ofString "") (l.map f)).length = l.length := by
  rw [join_nil_eq]
  show ((l.flatMap fun a => (f a).cps.toList).toArray).size = _
  rw [List.size_toArray]
  induction l with
  | nil => rfl
  | cons a r ih =>
    have := hf a
    have h1 : (f a).cps.toList.length = 1 := by simpa [Str.length] using this
    rw [List.flatMap_cons, List.length_append, h1, ih, List.length_cons]
    omega
theorem item_over {i : Int} (h0 : 0 ≤ i) (h1 : i < 7) : overS (Txt.item (Str.ofString ",\"\\ ;'a") i) := by
  have hs : Str.ofString ",\"\\ ;'a" = txt SC := by decide +kernel
  rw [hs]
  have e : ∀ k < 7, Txt.item (txt SC) ((k : Nat) : Int) = sc (SC.getD k 0) := by decide +kernel
  obtain ⟨k, rfl⟩ := Int.eq_ofNat_of_zero_le h0
  have hk : k < 7 := by omega
  rw [e k hk]
  refine over_sc ?_
  have : ∀ k < 7, SC.getD k 0 ∈ SC := by decide
  exact this k hk
theorem text_over (cs : List Int) : overS (Txt.join (Str.ofString "") (cs.map sgn) ++ Str.ofString "\"\\\",\", a'a';';, \"") := by
  refine over_app ?_ ?_
  · rw [join_nil_eq]
    intro c hc
    obtain ⟨x, _, hx⟩ := List.mem_flatMap.mp hc
    obtain ⟨m0, m1⟩ := fmod_ok (n := x) (k := 7) (by decide)
    exact item_over m0 m1 c hx
  · have e : Str.ofString "\"\\\",\", a'a';';, \"" = txt [34, 92, 34, 44, 34, 44, 32, 97, 39, 97, 39, 59, 39, 59, 44, 32, 34] := by decide +kernel
    rw [e]
    have : ∀ c ∈ [34, 92, 34, 44, 34, 44, 32, 97, 39, 97, 39, 59, 39, 59, 44, 32, 34], c ∈ SC := by decide
    exact this
end Mine
open Mine
set_option maxRecDepth 100000 in
set_option maxHeartbeats 8000000 in
theorem PySem.Challenge.cw_mq0075_01_holds : PySem.Challenge.rw_mq0075_01.Holds :=
  Mine.hd (by
    k_with_none
    k_go0
    all_goals try k_fold
    iterate 24 (first | (k_unfold; (try dsimp only)) | walk1 | (dsimp only; walk1))
    rename IntsAre _ (List.map _ _) => hI0
    obtain ⟨cs, hI1, hcl, hcb⟩ : ∃ cs : List Int, IntsAre ys cs ∧ cs.length ≤ 6 ∧ ∀ x ∈ cs, 0 ≤ x ∧ x < 1000000 := ⟨_, hI0, by rw [List.length_map, List.length_take]; omega, by
      intro x hx
      obtain ⟨k, _, rfl⟩ := List.mem_map.mp hx
      exact fmod_ok (by decide)⟩
    clear hI0
    have hyl := hI1.length
    k_with "eval ListComp" => (k_here; k_dflt (refine LCg.ListComp_U (F₀ := by k_asm) (by with_unfolding_all rfl) (by decide) (by rfl) (by decide) (by rfl) ?_))
    k_with "CompSrc" => (k_here; k_dflt (refine LCg.CompSrc.ledger (by rfl) (by k_asm) (by k_asm) (by first | k_memK | assumption) ?_ ?_); rotate_left; intro g')
    k_steps
    rotate_left
    · rw [List.size_toArray, PySem.sizeLine_eq]; omega
    refine comp_ints sgn hI1 (fun k' t' I' oI' C' oC' D' m' ys' h' tk' E' hk' hC' hx' F' N' off' ne' mk' => ?_) (fun ys' hys' => ?_)
    · k_steps
      exact Hid.mk (LCg.CompEnd.intro (by k_asm) N' _ (fun _ h => h) off' (.inr ⟨_, by k_memK, rfl, _, rfl⟩) ⟨rfl, _, rfl⟩)
    unfold LCg.FinE; intro D9 h9 tk9 F9 N9 off9; dsimp only
    simp only [LCg.Off1, and_true] at off9
    k_with "call builtin:str.join" => (k_dflt (refine join_listW (News.isList (by k_asm) (by k_memK)) hys' (by decide +kernel) (by rw [one_weight sgn sgn_len]; omega) ?_); intro tj kj; (have hXl := join_nil_len sgn sgn_len cs); generalize hX : Txt.join (Str.ofString "") (List.map sgn cs) = X at hXl ⊢)
    iterate 7 (first | (k_unfold; (try dsimp only)) | walk1 | (dsimp only; walk1))
    k_with_none
    (rename Fr _ _ _ _ => lF'; with_unfolding_all refine' For_invVF lF' ?k1 ?k2 ?_; (case k1 => exact rfl); (case k2 => exact rfl); k_whole)
    iterate 19 (first | (k_unfold; (try dsimp only)) | walk1 | (dsimp only; walk1))
    rename IntsAre _ (_ ++ [0, 200]) => hI9
    rename Fr _ _ _ _ => FL
    rename News _ _ _ _ => NL
    obtain ⟨NW, nv, ns, NL1, hmem, hcell, hns, hnb⟩ : ∃ (NW : List (Addr × Obj)) (nv : List Value) (ns : List Int), News _ _ _ NW ∧ (_, W.listOf nv.toArray 0) ∈ NW ∧ (_, _) ∈ NW ∧ IntsAre nv ns ∧ ∀ n ∈ ns, 0 ≤ n ∧ n ≤ 1000000 :=
      ⟨_, _, _, NL, .head _, .tail _ (.tail _ (.tail _ (.tail _ (.tail _ (.tail _ (.tail _ (.head _))))))), hI9, by
        intro n hn
        rcases List.mem_append.mp hn with hn | hn
        · obtain ⟨x, hx, rfl⟩ := List.mem_map.mp hn
          obtain ⟨x0, x1⟩ := hcb x (List.mem_of_mem_take hx)
          obtain ⟨d0, d1⟩ := fdiv_ok (k := 7) x0 (by decide)
          exact ⟨d0, by omega⟩
        · rcases List.mem_cons.mp hn with rfl | hn
          · decide
          · rw [List.mem_singleton.mp hn]; decide⟩
    k_with_none
    have hT17 : (Str.ofString "\"\\\",\", a'a';';, \"").length = 17 := by decide +kernel
    have hTl : (X ++ Str.ofString "\"\\\",\", a'a';';, \"").length ≤ 23 := by rw [Str.length_append]; omega
    have hT1 : 1 ≤ (X ++ Str.ofString "\"\\\",\", a'a';';, \"").length := by rw [Str.length_append]; omega
    have hTo : overS (X ++ Str.ofString "\"\\\",\", a'a';';, \"") := by rw [← hX]; exact text_over cs
    generalize hT : X ++ Str.ofString "\"\\\",\", a'a';';, \""  = T at *
    refine' loop_ints (ns := ns) (vs := nv) (σ := Unit) (fun _ => NW) (fun _ => []) [Str.ofString "order", Str.ofString "told", Str.ofString "due"] (fun _ _ => True) () hns (by rfl) (fun _ => hmem) ?hF ?hN ?hk trivial ?turn ?fin
    case hF => exact FL
    case hN => exact NL1
    case hk => exact fun _ h => nomatch h
    case turn =>
      clear NL NL1 FL
      rintro ⟨⟩ pre post n tn u h tk own e hmark hoff _ F2 N2
      obtain ⟨hn0, hn1⟩ := hnb n (by rw [e]; exact List.mem_append.mpr (.inr (.head _)))
      dsimp only [kstB] at F2 N2 hoff ⊢
      obtain ⟨c0, c1, c2, c3, c4, c5, c6, hord, hperm⟩ := order_codes hn0
      have hLaw := law_plain hTo hT1 hperm
      have hOk := read_strOk hTo hT1 hperm
      have ho1 : ∀ p ∈ [sc c0, sc c1, sc c2, sc c3, sc c4, sc c5, sc c6], p.length = 1 := by intro p hp; simp only [List.mem_cons, List.not_mem_nil, or_false] at hp; rcases hp with rfl | rfl | rfl | rfl | rfl | rfl | rfl <;> rfl
      have hA := turnA_len (x := T) (c0 := c0) (c1 := c1) (c2 := c2) (c3 := c3) (c4 := c4) (c5 := c5) (c6 := c6)
      have hAl : (turnA T [sc c0, sc c1, sc c2, sc c3, sc c4, sc c5, sc c6]).length ≤ 100000 := by omega
      have hPw := parse_wsum (turnA T [sc c0, sc c1, sc c2, sc c3, sc c4, sc c5, sc c6])
      have hJw := join_wsum (Str.ofString "\n") (by decide +kernel) (parseF (turnA T [sc c0, sc c1, sc c2, sc c3, sc c4, sc c5, sc c6]))
      have hJl : (Txt.join (Str.ofString "\n") (parseF (turnA T [sc c0, sc c1, sc c2, sc c3, sc c4, sc c5, sc c6]))).length ≤ 40 := by omega
      have hB := turnB_len (x := Txt.join (Str.ofString "\n") (parseF (turnA T [sc c0, sc c1, sc c2, sc c3, sc c4, sc c5, sc c6]))) (c0 := c0) (c1 := c1) (c2 := c2) (c3 := c3) (c4 := c4) (c5 := c5) (c6 := c6)
      k_with "eval Name" => (k_dflt (refine nameX_C (by k_asm) (by rfl) (by repeat (first | exact List.mem_append.mpr (.inl hcell) | refine .tail _ ?_)) (by with_reducible assumption) ?_ (by rfl) (by rfl)))
      k_with "call ref" => ((with_reducible show wpAny _ _ (call (Value.ref 33) _) _ _ _); k_dflt (refine order_ok n _ hn0 hn1 _ _ _ _ _ _ _ _ _ _ _ _ _ _ _ _ _ _ (by k_asm) (by k_asm) (by k_asm) (by k_asm) (by k_asm) rfl (by ktr_room) (by ktr_units) ?_); intro ro vo ho co tko hSo Fo No lto; rw [hord] at hSo)
      k_with "call ref" => ((try simp only [List.append_nil]); (with_reducible show wpAny _ _ (call (Value.ref 40) [Value.str _ _, Value.ref _, Value.str _ _]) _ _ _); k_dflt (refine turned_ok1 T _ _ _ _ [sc c0, sc c1, sc c2, sc c3, sc c4, sc c5, sc c6] _ (by omega) (by with_reducible assumption) rfl ho1 _ _ _ _ _ _ _ _ _ _ _ _ _ _ _ _ _ _ (by k_asm) (by k_asm) (by k_asm) (by k_asm) (by k_asm) rfl (by ktr_room) (by ktr_units) (.head _) ?_); intro t5 h5 tk5 F5 N5)
      k_with "call ref" => ((with_reducible show wpAny _ _ (call (Value.ref 19) _) _ _ _); k_dflt (refine parse_ok _ _ hAl _ _ _ _ _ _ _ _ _ _ _ _ _ _ _ _ _ _ (by k_asm) (by k_asm) (by k_asm) (by k_asm) (by k_asm) rfl (by ktr_room) (by ktr_units) ?_); intro q4 vs4 h4 tk4 hS4 F4 N4 off4)
      k_with "subscriptTail Name Constant ref int" => (obtain ⟨t0, hg0⟩ := strs_get (show StrsAre _ [sc c0, sc c1, sc c2, sc c3, sc c4, sc c5, sc c6] by with_reducible assumption) 0 _ rfl; obtain ⟨t1, hg1⟩ := strs_get (show StrsAre _ [sc c0, sc c1, sc c2, sc c3, sc c4, sc c5, sc c6] by with_reducible assumption) 1 _ rfl; obtain ⟨t2, hg2⟩ := strs_get (show StrsAre _ [sc c0, sc c1, sc c2, sc c3, sc c4, sc c5, sc c6] by with_reducible assumption) 2 _ rfl; obtain ⟨t3, hg3⟩ := strs_get (show StrsAre _ [sc c0, sc c1, sc c2, sc c3, sc c4, sc c5, sc c6] by with_reducible assumption) 3 _ rfl; k_dflt (first
        | refine item_at 0 (News.isList (by k_asm) (.tail _ (.head _))) rfl (by decide) hg0 ?_
        | refine item_at 1 (News.isList (by k_asm) (.tail _ (.head _))) rfl (by decide) hg1 ?_
        | refine item_at 2 (News.isList (by k_asm) (.tail _ (.head _))) rfl (by decide) hg2 ?_
        | refine item_at 3 (News.isList (by k_asm) (.tail _ (.head _))) rfl (by decide) hg3 ?_))
      k_with "call ref" => ((with_reducible show wpAny _ _ (call (Value.ref 66) _) _ _ _); k_dflt (refine read_ok T _ (sc c0) (sc c1) (sc c2) _ _ _ c3 _ rfl rfl rfl (by omega) _ _ _ _ _ _ _ _ _ _ _ _ _ _ _ _ _ _ (by k_asm) (by k_asm) (by k_asm) (by k_asm) (by k_asm) rfl (by ktr_room) (by ktr_units) ?_); intro q3 vs3 h3 tk3 hS3 F3 N3 off3)
      have hnl : (Str.ofString "\n").length = 1 := by decide +kernel
      have hJb : ((parseF (turnA T [sc c0, sc c1, sc c2, sc c3, sc c4, sc c5, sc c6])).map (·.length)).sum + (parseF (turnA T [sc c0, sc c1, sc c2, sc c3, sc c4, sc c5, sc c6])).length ≤ 1048576 := by unfold wsum at hPw; omega
      k_with "call builtin:str.join" => (k_dflt (refine join_listW (News.isList (by k_asm) (.tail _ (.head _))) hS4 (by rw [hnl]; decide) hJb ?_); intro tj kj)
      k_with "call ref" => ((with_reducible show wpAny _ _ (call (Value.ref 40) [Value.str _ _, Value.str _ _, Value.ref _]) _ _ _); k_dflt (refine turned_ok2 (Txt.join (Str.ofString "\n") (parseF (turnA T [sc c0, sc c1, sc c2, sc c3, sc c4, sc c5, sc c6]))) _ _ _ _ [sc c0, sc c1, sc c2, sc c3, sc c4, sc c5, sc c6] _ hJl (by with_reducible assumption) rfl ho1 _ _ _ _ _ _ _ _ _ _ _ _ _ _ _ _ _ _ (by k_asm) (by k_asm) (by k_asm) (by k_asm) (by k_asm) rfl (by ktr_room) (by ktr_units) (.tail _ (.tail _ (.head _))) ?_); intro t8 h8 tk8 F8 N8)
      k_with "call builtin:str.split" => (k_dflt (refine KSpl.split1 (by k_asm) (by k_asm) (by rw [beq_eq_false_iff_ne]; omega) ?_ (by rw [PySem.sizeLine_eq]; omega)); intro D1 lS hS kS eS aS FS NS ltS; rw [eS, hLaw] at aS)
      k_with "compareOp NotEq ref ref" => (k_dflt (refine ne_strs (News.isList (by k_asm) (.head _)) (News.isList (by k_asm) (.tail _ (.head _))) aS hS3 (by ke_room) hOk hOk ?_); simp only [decide_true, Bool.not_true])
      k_steps
      refine Hid.mk ?_; dsimp only [InvPostG]
      rename Fr _ _ _ _ => F3; rename News _ _ _ _ => N3
      refine lst_end () F3 N3 (fun p hp => .tail _ (.tail _ (.tail _ (.tail _ (List.mem_append.mpr (.inl hp)))))) (fun p hp => .tail _ (.tail _ (.tail _ (.tail _ (List.mem_append.mpr (.inr hp)))))) hoff (fun _ h => nomatch h) (by kst_same) trivial hmem
    case fin =>
      clear NL NL1 FL
      rintro ⟨⟩ u h tk hmark _ F2 N2
      dsimp only [kstB] at F2 N2 ⊢
      k_with_none
      k_steps
      all_goals (try k_data)
      all_goals w_report)
end

