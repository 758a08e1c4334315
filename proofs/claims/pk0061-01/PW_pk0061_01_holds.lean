import PyProof.Rows.All
import Wide.All
import OpenK.AllK
import Wide.FinOn
import Lean
import PySem.Challenge.RW_pk0061_01
set_option Elab.async false
set_option maxRecDepth 100000
set_option maxHeartbeats 8000000
set_option linter.all false
open PySem PySem.W PyProof.Rows
namespace Mine
open_top hd for PySem.Challenge.rw_pk0061_01
end Mine
open PySem.Calls PySem.Spec
namespace Mine
/- the program -/
noncomputable abbrev PR : Program := PySem.Challenge.rw_pk0061_01.row.prog
noncomputable abbrev LO : List Str := looseW Mine.hd.view_39 [Str.ofString "EXACT_TOKEN_TYPES"]
/- what a call has made: it lies in h, and not in g -/
noncomputable def Fresh (g h : Heap) (new : List (Addr × Obj)) : Prop := ∀ p ∈ new, h.get? p.1 = some p.2 ∧ g.get? p.1 = none
theorem Fresh.of {g h : Heap} {L : Addr} {news : List (Addr × Obj)} (N : News g L h news) : Fresh g h news := fun p hp => ⟨(N p hp).1, (N p hp).2.2⟩
/- a place where the walk is to stop -/
noncomputable def Stop (P : Prop) : Prop := P
theorem stop {P : Prop} (h : Stop P) : P := h
/- the way out of a def -/
noncomputable def Ret (R : Result → Shared → Prop) (v : Value) (s' : Shared) : Prop := R (.ok (.ret v)) s'
section
variable {prog : Program} {w : World} {A₀ A : Around} {s : Shared} {base h₀ : Heap} {L : Addr} {m : Str → Option Value} {env : Env} {K : Frag} {p : Program} {loose : List Str} {mean : ExcName → Option Value} {mg mb : Str → Option Value}
theorem enterP {outer : List Env} {R : Result → Shared → Prop} {name qual : Str} {params : Arguments} {body : List Stmt} {scope : Scope} {dV kV doc pm cdv ct oc : Value} {an od : Option Addr} {osl : Array (Option Value)} {f : Addr} {args : Args} {binds : List (Str × Value)}
    (B : Below A₀ base outer h₀) (F : Fr h₀ L s.heap m) (X₀ : K.In h₀) (T : Top p loose mean mg mb h₀) (hA : A.frames = some (env :: outer)) (hf : env.frame = some L) (hke : env.scope.kind = .function)
    (ho : K.lookup f = some ⟨oc, od, .func (fnOf name qual params body scope dV kV doc pm an cdv ct), osl⟩) (hcd : codeIn K cdv qual = true) (hroom : A.depth < recursionLimit)
    (hbind : BindsTo s (fnOf name qual params body scope dV kV doc pm an cdv ct) args binds) (hloc : ∀ y ∈ binds, scope.names.lookup y.1 = some .local)
    (h : ∀ L' h₁, Fr s.heap L' h₁ (fun y => binds.reverse.lookup y) → News s.heap L' h₁ [] → Below A base (env :: outer) s.heap → K.In s.heap → Top p loose mean mg mb s.heap →
      wpAny (model prog w) (A.deeper (envOf qual scope L' f cdv)) (execs body (envOf qual scope L' f cdv))
        (fun fl s' => Ret R (match fl with | .ret v => v | _ => .none) s') (fun _ _ => False) { s with heap := h₁, toks := s.toks + binds.length })
    (hco : scope.isCoroutine = false) (hgen : scope.isGenerator = false) (hk : scope.kind = .function)
    (hcell : ∀ x ∈ scope.names, x.2 ≠ .cell) : codeAny (model prog w) A (.call (.ref f) args) R s := by
  have X : K.In s.heap := X₀.keeps F.keep
  refine codeAny_call_def (fd := fnOf name qual params body scope dV kV doc pm an cdv ct) (body := body) (binds := binds) hroom (X _ _ ho) rfl (T.nolimit.keeps F.keep) (codeRec_of X hcd) rfl hbind hcell hloc (fun h₁ hns hk₁ => ?_) hco hgen hk
  have B' := pushX B F hf hke
  refine wpAny_mono (h s.heap.objs.size h₁ ⟨hns, hk₁, Nat.le_refl _⟩ News.nil ⟨hA, B'.stays, B'.frames⟩ X (T.keeps F.keep)) (fun _ _ x => x) (fun _ _ x => x.elim)
end
/- the contract of a def that changes nothing that stood before: what it hands back reads as d -/
noncomputable def Fn (w : World) (mean : ExcName → Option Value) (mg mb : Str → Option Value) (f : Addr) (vs : List Value) (Pre : Heap → Prop) (D : Dat → Prop) (dn un' : Nat) : Prop :=
  ∀ (dp un : Nat) (gd : Option (List Code)) (cn : Str) (cs : Scope) (a : Addr) (ccd : Value) (cl : List (Str × Addr)) (outer : List Env) (A₀ : Around) (base h₀ : Heap) (L : Addr) (m : Str → Option Value) (s : Shared) (Q E : Value → Shared → Prop),
    Below A₀ base outer h₀ → Fr h₀ L s.heap m → (Mine.hd.heap_39 w.params).In h₀ → Top Mine.hd.view_39 LO mean mg mb h₀ → cs.kind = .function → Pre s.heap → dp + dn < recursionLimit → un + un' < cLine →
    (∀ r new h' tk' d, s.heap.StaysIn h' → Fresh s.heap h' new → D d → DatIn new r d → Q r { s with heap := h', toks := tk' }) →
    wpAny (model PR w) (ktrTop dp un gd cn cs L a ccd cl outer) (call (.ref f) vs) Q E s
section
variable {w : World} {mean : ExcName → Option Value} {mg mb : Str → Option Value} {f : Addr} {vs : List Value} {Pre : Heap → Prop} {D : Dat → Prop} {dn un' : Nat}
  {dp un : Nat} {gd : Option (List Code)} {cn : Str} {cs : Scope} {a : Addr} {ccd : Value} {cl : List (Str × Addr)} {outer : List Env} {A₀ : Around} {base h₀ : Heap} {L : Addr} {m : Str → Option Value} {s : Shared} {Q E : Value → Shared → Prop} {news : List (Addr × Obj)}
theorem Fn.use (C : Fn w mean mg mb f vs Pre D dn un') (B : Below A₀ base outer h₀) (F : Fr h₀ L s.heap m) (X : (Mine.hd.heap_39 w.params).In h₀) (N : News h₀ L s.heap news) (T : Top Mine.hd.view_39 LO mean mg mb h₀) (hk : cs.kind = .function)
    (pre : Pre s.heap) (hd : dp + dn < recursionLimit) (hu : un + un' < cLine)
    (ret : ∀ r new h' tk' d, Fr h₀ L h' m → News h₀ L h' (new ++ news) → (∀ q ∈ new, ∀ p ∈ news, p.1 ≠ q.1) → D d → DatIn new r d → Q r { s with heap := h', toks := tk' }) :
    wpAny (model PR w) (ktrTop dp un gd cn cs L a ccd cl outer) (call (.ref f) vs) Q E s := by
  refine C _ _ _ _ _ _ _ _ _ _ _ _ _ _ _ _ _ B F X T hk pre hd hu fun r new h' tk' d st fr hD dt => ret r new h' tk' d (F.after st) (fun q hq => ?_) (fun q hq p hp e => ?_) hD dt
  · rcases List.mem_append.mp hq with hq | hq
    · obtain ⟨h1, h2⟩ := fr q hq
      refine ⟨h1, fun e => ?_, ?_⟩
      · obtain ⟨oL, _, _, hL, _⟩ := F.ns
        rw [e, hL] at h2; cases h2
      · cases hq' : h₀.get? q.1 with
        | none => rfl
        | some o => rw [F.keep _ _ hq'] at h2; cases h2
    · exact ⟨st _ _ (N q hq).1, (N q hq).2⟩
  · have := (fr q hq).2
    rw [← e, (N p hp).1] at this; cases this
theorem Fn.useS {x : Str} (C : Fn w mean mg mb f vs Pre (fun d => d = Dat.str x) dn un') (B : Below A₀ base outer h₀) (F : Fr h₀ L s.heap m) (X : (Mine.hd.heap_39 w.params).In h₀) (N : News h₀ L s.heap news) (T : Top Mine.hd.view_39 LO mean mg mb h₀) (hk : cs.kind = .function)
    (pre : Pre s.heap) (hd : dp + dn < recursionLimit) (hu : un + un' < cLine)
    (ret : ∀ t h' tk', Fr h₀ L h' m → News h₀ L h' news → Q (.str x t) { s with heap := h', toks := tk' }) :
    wpAny (model PR w) (ktrTop dp un gd cn cs L a ccd cl outer) (call (.ref f) vs) Q E s :=
  C.use B F X N T hk pre hd hu fun r new h' tk' d F' N' _ hD dt => by
    subst hD
    cases dt with
    | str _ t => exact ret t h' tk' F' (fun p hp => N' p (List.mem_append.mpr (.inr hp)))
theorem Fn.useB {x : Array UInt8} (C : Fn w mean mg mb f vs Pre (fun d => d = Dat.bytes x) dn un') (B : Below A₀ base outer h₀) (F : Fr h₀ L s.heap m) (X : (Mine.hd.heap_39 w.params).In h₀) (N : News h₀ L s.heap news) (T : Top Mine.hd.view_39 LO mean mg mb h₀) (hk : cs.kind = .function)
    (pre : Pre s.heap) (hd : dp + dn < recursionLimit) (hu : un + un' < cLine)
    (ret : ∀ t h' tk', Fr h₀ L h' m → News h₀ L h' news → Q (.bytes x t) { s with heap := h', toks := tk' }) :
    wpAny (model PR w) (ktrTop dp un gd cn cs L a ccd cl outer) (call (.ref f) vs) Q E s :=
  C.use B F X N T hk pre hd hu fun r new h' tk' d F' N' _ hD dt => by
    subst hD
    cases dt with
    | bytes _ t => exact ret t h' tk' F' (fun p hp => N' p (List.mem_append.mpr (.inr hp)))
end
end Mine
namespace Mine
/- the names of ps hold their values in m -/
noncomputable def Has (m : Str → Option Value) : List (Str × Value) → Prop
  | [] => True
  | p :: r => m p.1 = some p.2 ∧ Has m r
theorem Has.nil {m : Str → Option Value} : Has m [] := trivial
theorem Has.cons {m : Str → Option Value} {x : Str} {v : Value} {r : List (Str × Value)} (h : m x = some v) (k : Has m r) : Has m ((x, v) :: r) := ⟨h, k⟩
theorem Has.all {m : Str → Option Value} : ∀ {ps : List (Str × Value)}, Has m ps → ∀ p ∈ ps, m p.1 = some p.2
  | [], _, _, h => nomatch h
  | _ :: _, h, p, hp => by
    rcases List.mem_cons.mp hp with rfl | hp
    · exact h.1
    · exact h.2.all p hp
theorem Has.of {m : Str → Option Value} : ∀ {ps : List (Str × Value)}, (∀ p ∈ ps, m p.1 = some p.2) → Has m ps
  | [], _ => trivial
  | p :: _, h => ⟨h p (.head _), Has.of fun q hq => h q (.tail _ hq)⟩
/- m' is m₀ but for the names of xs -/
noncomputable def Same (m' m₀ : Str → Option Value) (xs : List Str) : Prop := ∀ z, xs.contains z = false → m' z = m₀ z
theorem Same.refl (m : Str → Option Value) (xs : List Str) : Same m m xs := fun _ _ => rfl
theorem Same.set {m' m₀ : Str → Option Value} {xs : List Str} {x : Str} {v : Value} (hx : xs.contains x = true) (h : Same m' m₀ xs) : Same (fun y => if y = x then some v else m' y) m₀ xs := by
  intro z hz
  have : z ≠ x := fun e => by rw [e, hx] at hz; cases hz
  show (if z = x then some v else m' z) = m₀ z
  rw [if_neg this]; exact h z hz
theorem Same.sub {u m' m₀ : Str → Option Value} {xs ys : List Str} (hx : ys.all (fun y => xs.contains y) = true) (h : Same m' m₀ xs) : Same (fun z => if ys.contains z then u z else m' z) m₀ xs := by
  intro z hz
  show (if ys.contains z = true then u z else m' z) = m₀ z
  have : ¬ ys.contains z = true := fun e => by
    have := List.all_eq_true.mp hx z (by simpa using e)
    rw [this] at hz; cases hz
  rw [if_neg this]; exact h z hz
theorem Same.base {u m₀ : Str → Option Value} {xs : List Str} : Same (fun z => if xs.contains z then u z else m₀ z) m₀ xs := fun z hz => by show (if xs.contains z = true then u z else m₀ z) = m₀ z; rw [hz]; rfl
theorem Same.kst {u m₀ : Str → Option Value} {xs : List Str} : ∀ {ps : List (Str × Value)}, ps.all (fun p => xs.contains p.1) = true → Same (kstB (fun z => if xs.contains z then u z else m₀ z) ps) m₀ xs
  | [], _ => fun z hz => by show (if xs.contains z = true then u z else m₀ z) = m₀ z; rw [hz]; rfl
  | p :: r, h => by
    rw [List.all_cons, Bool.and_eq_true] at h
    exact Same.set (x := p.1) (v := p.2) h.1 (Same.kst (ps := r) h.2)
section
variable {prog : Program} {w : World} {A : Around} {E : Value → Shared → Prop} {Q : Flow → Shared → Prop} {s : Shared} {env : Env} {h₀ : Heap} {L : Addr}
/- a turn's end: the state is one of σ's again -/
noncomputable def TEnd {σ : Type} (h₀ : Heap) (L : Addr) (s : Shared) (Led : σ → List (Addr × Obj)) (ps : σ → List (Str × Value)) (stored : List Str) (m₀ : Str → Option Value) (P : σ → Prop) (s₂ : Shared) : Prop :=
  ∃ (c' : σ) (h' : Heap) (tk : Nat) (m' : Str → Option Value) (news' : List (Addr × Obj)), s₂ = { s with heap := h', toks := tk } ∧ Fr h₀ L h' m' ∧ News h₀ L h' news' ∧ (∀ p ∈ Led c', p ∈ news') ∧ Has m' (ps c') ∧ Same m' m₀ stored ∧ P c'
noncomputable def TPost {σ : Type} (h₀ : Heap) (L : Addr) (s : Shared) (Led : σ → List (Addr × Obj)) (ps : σ → List (Str × Value)) (stored : List Str) (m₀ : Str → Option Value) (P : σ → Prop) (Q : Flow → Shared → Prop) (f : Flow) (s₂ : Shared) : Prop :=
  match f with
  | .ret v => Q (.ret v) s₂
  | .brk => Q .next s₂
  | _ => TEnd h₀ L s Led ps stored m₀ P s₂
theorem TEnd.intro {σ : Type} {Led : σ → List (Addr × Obj)} {ps : σ → List (Str × Value)} {stored : List Str} {m₀ m' : Str → Option Value} {P : σ → Prop} {h' : Heap} {tk : Nat} {news' : List (Addr × Obj)} (c' : σ)
    (F : Fr h₀ L h' m') (N : News h₀ L h' news') (hk : Has m' (ps c')) (hr : Same m' m₀ stored) (hn : ∀ p ∈ Led c', p ∈ news') (hp : P c') :
    TEnd h₀ L s Led ps stored m₀ P { s with heap := h', toks := tk } := ⟨c', h', tk, m', news', rfl, F, N, hn, hk, hr, hp⟩
theorem TPost.next {σ : Type} {Led : σ → List (Addr × Obj)} {ps : σ → List (Str × Value)} {stored : List Str} {m₀ m' : Str → Option Value} {P : σ → Prop} {h' : Heap} {tk : Nat} {news' : List (Addr × Obj)} (c' : σ)
    (F : Fr h₀ L h' m') (N : News h₀ L h' news') (hk : Has m' (ps c')) (hr : Same m' m₀ stored) (hn : ∀ p ∈ Led c', p ∈ news') (hp : P c') :
    TPost h₀ L s Led ps stored m₀ P Q .next { s with heap := h', toks := tk } := ⟨c', h', tk, m', news', rfl, F, N, hn, hk, hr, hp⟩
theorem kst_fr2 {h : Heap} {ps : List (Str × Value)} {stored : List Str} {m₀ m₁ : Str → Option Value} (h1 : Has m₁ ps) (h2 : Same m₁ m₀ stored)
    (F : Fr h₀ L h m₁) : Fr h₀ L h (kstB (fun z => if stored.contains z then m₁ z else m₀ z) ps) :=
  ksw_fr h1.all (fun z _ hz => h2 z hz) F
theorem whileT {σ : Type} {test : Expr} {body : List Stmt} {pos : Pos} {m₀ : Str → Option Value} {news : List (Addr × Obj)} (Led : σ → List (Addr × Obj)) (ps : σ → List (Str × Value)) (stored : List Str) (P : σ → Prop) (μ : σ → Nat) (c₀ : σ)
    (F : Fr h₀ L s.heap m₀) (N : News h₀ L s.heap news) (hk : Has m₀ (ps c₀)) (hn : ∀ p ∈ Led c₀, p ∈ news) (hp : P c₀)
    (turn : ∀ (c : σ) (u : Str → Option Value) h tk, P c → Fr h₀ L h (kstB (fun z => if stored.contains z then u z else m₀ z) (ps c)) → News h₀ L h (Led c) →
      wpAny (model prog w) A (isTrue test env (eval test env)) (fun b s₂ =>
        if b = true then wpAny (model prog w) A (execs body env) (TPost h₀ L s Led ps stored m₀ (fun c' => P c' ∧ μ c' < μ c) Q) E s₂ else Q .next s₂) E { s with heap := h, toks := tk })
    (hE : PassesOwn (model prog w) A env E) :
    wpAny (model prog w) A (exec (.While test body [] pos) env) Q E s := by
  refine While_inv2 (fun n m nx => ∃ c : σ, nx = Led c ∧ μ c = n ∧ Has m (ps c) ∧ Same m m₀ stored ∧ P c) (news := Led c₀) F (fun p hp => N p (hn p hp)) ⟨c₀, rfl, rfl, hk, Same.refl _ _, hp⟩ ?_ hE
  rintro n m₁ nx h tk F₁ N₁ ⟨c, hnx, hsz, h1, h2, hp'⟩
  rw [hnx] at N₁
  rw [← hsz]
  refine wpAny_mono (turn c m₁ h tk hp' (kst_fr2 h1 h2 F₁) N₁) (fun b s₂ p => ?_) fun _ _ x => x
  cases b with
  | false => simpa using p
  | true =>
    simp only [if_true] at p ⊢
    refine wpAny_mono p (fun f s₃ q => ?_) fun _ _ x => x
    cases f with
    | ret v => exact q
    | brk => exact q
    | next =>
      obtain ⟨c', h', tk', m', news', rfl, F', N', hn, hk9, hr9, hp9, hm9⟩ := q
      exact ⟨h', tk', m', Led c', μ c', rfl, F', fun p hp => N' p (hn p hp), hm9, c', rfl, rfl, hk9, hr9, hp9⟩
    | cont =>
      obtain ⟨c', h', tk', m', news', rfl, F', N', hn, hk9, hr9, hp9, hm9⟩ := q
      exact ⟨h', tk', m', Led c', μ c', rfl, F', fun p hp => N' p (hn p hp), hm9, c', rfl, rfl, hk9, hr9, hp9⟩
end
section
variable {prog : Program} {w : World} {A : Around} {E : Value → Shared → Prop} {Q : Flow → Shared → Prop} {s : Shared} {env : Env} {h₀ : Heap} {L : Addr}
/- a while by what holds between its turns (P) and behind it (R) -/
theorem whileD {σ : Type} {test : Expr} {body : List Stmt} {pos : Pos} {m₀ : Str → Option Value} {news : List (Addr × Obj)} (Led : σ → List (Addr × Obj)) (ps : σ → List (Str × Value)) (stored : List Str) (P R : σ → Prop) (μ : σ → Nat) (c₀ : σ)
    (F : Fr h₀ L s.heap m₀) (N : News h₀ L s.heap news) (hk : Has m₀ (ps c₀)) (hn : ∀ p ∈ Led c₀, p ∈ news) (hp : P c₀)
    (turn : ∀ (c : σ) (u : Str → Option Value) h tk, P c → Fr h₀ L h (kstB (fun z => if stored.contains z then u z else m₀ z) (ps c)) → News h₀ L h (Led c) →
      wpAny (model prog w) A (isTrue test env (eval test env)) (fun b s₂ =>
        if b = true then wpAny (model prog w) A (execs body env) (TPost h₀ L s Led ps stored m₀ (fun c' => P c' ∧ μ c' < μ c) (fun _ _ => False)) E s₂ else TEnd h₀ L s Led ps stored m₀ R s₂) E { s with heap := h, toks := tk })
    (done : ∀ (c : σ) (u : Str → Option Value) h tk, R c → Fr h₀ L h (kstB (fun z => if stored.contains z then u z else m₀ z) (ps c)) → News h₀ L h (Led c) → Q .next { s with heap := h, toks := tk })
    (hE : PassesOwn (model prog w) A env E) :
    wpAny (model prog w) A (exec (.While test body [] pos) env) Q E s := by
  refine whileT Led ps stored P μ c₀ F N hk hn hp (fun c u h tk hP F' N' => ?_) hE
  refine wpAny_mono (turn c u h tk hP F' N') (fun b s₂ p => ?_) fun _ _ e => e
  cases b with
  | true =>
    simp only [if_true] at p ⊢
    refine wpAny_mono p (fun f s₃ q => ?_) fun _ _ e => e
    cases f with
    | ret v => exact q.elim
    | brk => exact q.elim
    | next => exact q
    | cont => exact q
  | false =>
    simp only [Bool.false_eq_true, if_false] at p ⊢
    obtain ⟨c', h', tk', m', news', rfl, F₁, N₁, hn₁, h1, h2, hR⟩ := p
    exact done c' m' h' tk' hR (kst_fr2 h1 h2 F₁) fun p hp => N₁ p (hn₁ p hp)
end
section
variable {prog : Program} {w : World} {A : Around} {E : Value → Shared → Prop} {s : Shared} {h₀ : Heap} {L : Addr}
theorem cut {α : Type} {M : Model} {t : Sem α} {Q Q' : α → Shared → Prop} (h1 : wpAny M A t Q' E s) (h2 : ∀ a s', Q' a s' → Q a s') : wpAny M A t Q E s := wpAny_mono h1 h2 fun _ _ e => e
/- a statement that sets the one name x to the text y -/
noncomputable def SetS (h₀ : Heap) (L : Addr) (s : Shared) (m : Str → Option Value) (news : List (Addr × Obj)) (x y : Str) (f : Flow) (s' : Shared) : Prop :=
  f = .next ∧ ∃ h tk t, s' = { s with heap := h, toks := tk } ∧ Fr h₀ L h (fun z => if z = x then some (.str y t) else m z) ∧ News h₀ L h news
theorem if_set {M : Model} {t : Sem Flow} {Q : Flow → Shared → Prop} {m : Str → Option Value} {news : List (Addr × Obj)} (_F : Fr h₀ L s.heap m) (_N : News h₀ L s.heap news) (x y : Str) (h1 : wpAny M A t (SetS h₀ L s m news x y) E s)
    (h2 : ∀ h tk t, Fr h₀ L h (fun z => if z = x then some (.str y t) else m z) → News h₀ L h news → Q .next { s with heap := h, toks := tk }) : wpAny M A t Q E s :=
  cut h1 fun f s' ⟨e, h, tk, t, es, F', N'⟩ => by subst e es; exact h2 h tk t F' N'
theorem SetS.kept {m : Str → Option Value} {news news' : List (Addr × Obj)} {x y : Str} {t : Tok} {h : Heap} {tk : Nat} (F : Fr h₀ L h m) (N : News h₀ L h news') (hn : ∀ p ∈ news, p ∈ news') (hx : m x = some (.str y t)) : SetS h₀ L s m news x y .next { s with heap := h, toks := tk } := by
  refine ⟨rfl, h, tk, t, rfl, ?_, fun p hp => N p (hn p hp)⟩
  have e : (fun z => if z = x then some (Value.str y t) else m z) = m := by
    funext z
    by_cases hz : z = x
    · subst hz; rw [if_pos rfl, hx]
    · rw [if_neg hz]
  rw [e]; exact F
theorem SetS.set {m : Str → Option Value} {news news' : List (Addr × Obj)} {x y y' : Str} {t : Tok} {h : Heap} {tk : Nat} (F : Fr h₀ L h (fun z => if z = x then some (.str y' t) else m z)) (N : News h₀ L h news') (hn : ∀ p ∈ news, p ∈ news') (e : y' = y) : SetS h₀ L s m news x y .next { s with heap := h, toks := tk } := by
  subst e
  exact ⟨rfl, h, tk, t, rfl, F, fun p hp => N p (hn p hp)⟩
end
section
variable {prog : Program} {w : World} {A : Around} {E : Value → Shared → Prop} {s : Shared} {h₀ : Heap} {L D : Addr} {m : Str → Option Value} {news : List (Addr × Obj)} {vs : List Value} {n : Nat} {x : Value} {Q : Value → Shared → Prop}
theorem appendN (F : Fr h₀ L s.heap m) (N : News h₀ L s.heap news) (hm : (D, listOf vs.toArray n) ∈ news) (keep : List (Addr × Obj)) (hk : ∀ q ∈ keep, q ∈ news) (hoff : ∀ q ∈ keep, q.1 ≠ D) (hsz : vs.length ≤ sizeLine)
    (h : ∀ h', Fr h₀ L h' m → News h₀ L h' ((D, listOf (vs ++ [x]).toArray (n + 1)) :: keep) → Q .none { s with heap := h' }) : wpAny (model prog w) A (call (.builtin "list.append") [.ref D, x]) Q E s := by
  refine append_K (n := n) (news := (D, listOf vs.toArray n) :: keep) (news' := (D, listOf (vs ++ [x]).toArray (n + 1)) :: keep) F (fun q hq => ?_) ?_ h (by rw [List.size_toArray]; exact hsz)
  · rcases List.mem_cons.mp hq with rfl | hq
    · exact N _ hm
    · exact N _ (hk q hq)
  · rw [← List.push_toArray]; exact Upd.head hoff
theorem popN (F : Fr h₀ L s.heap m) (N : News h₀ L s.heap news) (hm : (D, listOf (vs ++ [x]).toArray n) ∈ news) (keep : List (Addr × Obj)) (hk : ∀ q ∈ keep, q ∈ news) (hoff : ∀ q ∈ keep, q.1 ≠ D) (hsz : vs.length + 1 ≤ sizeLine)
    (h : ∀ h', Fr h₀ L h' m → News h₀ L h' ((D, listOf vs.toArray (n + 1)) :: keep) → Q x { s with heap := h' }) : wpAny (model prog w) A (call (.builtin "list.pop") [.ref D]) Q E s := by
  have e : kl_last (vs ++ [x]) = some (vs, x) := by
    clear hm h hsz
    induction vs with
    | nil => rfl
    | cons v vs ih => rw [List.cons_append, kl_last, ih]
  refine kl_pop (news := (D, listOf (vs ++ [x]).toArray n) :: keep) (news' := (D, listOf vs.toArray (n + 1)) :: keep) F (fun q hq => ?_) (by simpa using e) (Upd.head hoff) (by simpa using hsz) h
  rcases List.mem_cons.mp hq with rfl | hq
  · exact N _ hm
  · exact N _ (hk q hq)
end
end Mine
namespace Mine
section
variable {prog : Program} {w : World} {A : Around} {E : Value → Shared → Prop} {s : Shared} {h₀ : Heap} {L : Addr} {m : Str → Option Value} {env : Env}
/- an element's value, the heap grown -/
noncomputable def CEl (G : Value → Prop) (h : Heap) (s : Shared) (y : Value) (s₂ : Shared) : Prop := G y ∧ ∃ h' tk', s₂ = { s with heap := h', toks := tk' } ∧ h.StaysIn h'
/- a comprehension whose elements leave the ledger as it is: item i comes out as G i -/
theorem compRest {elt : Expr} {x : Str} {scope : Scope} {cl : List (Str × Addr)} {S : List (Addr × Obj) → Prop} {P : Nat → Value → Prop} {Fin : List Value → List (Addr × Obj) → Prop} {news : List (Addr × Obj)} {n : Nat} (G : Nat → Value → Prop) (hS : S news)
    (turn : ∀ i v I oI C oC D m₂ ys h tk (E' : Value → Shared → Prop), i < n → P i v → LCg.NsObj oC m₂ → m₂ x = some v → Fr h₀ L h m → News h₀ L h ((I, oI) :: (C, oC) :: (D, LCg.lst ys) :: news) →
      wpAny (model prog w) A (eval elt (compEnvC scope cl C env)) (CEl (G i) h s) E' { s with heap := h, toks := tk })
    (fin : ∀ ys, ys.length = n → (∀ i y, ys[i]? = some y → G i y) → Fin ys news) : LCg.CompRest prog w A h₀ L m env elt x scope cl s S P Fin n 0 [] news := by
  have key : ∀ (j i : Nat) (ys : List Value), i + j = n → ys.length = i → (∀ k y, ys[k]? = some y → G k y) → LCg.CompRest prog w A h₀ L m env elt x scope cl s S P Fin j i ys news := by
    intro j
    induction j with
    | zero => intro i ys hi hl hy; exact LCg.CompRest.zero (fin ys (by (first | lia | omega)) hy)
    | succ j ih =>
      intro i ys hi hl hy
      refine LCg.CompRest.succ ?_
      intro v I oI C oC D m₂ h tk E' hv hC hx F N off ne
      refine wpAny_mono (turn i v I oI C oC D m₂ ys h tk E' (by (first | lia | omega)) hv hC hx F N) (fun y s₂ hq => ?_) fun _ _ e => e
      obtain ⟨hg, h', tk', rfl, st⟩ := hq
      refine ⟨h', tk', news, rfl, F.after st, fun p hp => ⟨st _ _ (N p hp).1, (N p hp).2⟩, off, hS, ih (i + 1) _ (by (first | lia | omega)) (by simp [hl]) ?_⟩
      intro k z hz
      rw [List.getElem?_append] at hz
      split at hz
      · exact hy k z hz
      · rename_i hk
        have : k = i := by
          have := (List.getElem?_eq_some_iff.mp hz).1
          simp only [List.length_singleton] at this
          (first | lia | omega)
        subst this
        simp only [hl, Nat.sub_self, List.getElem?_cons_zero, Option.some.injEq] at hz
        exact hz ▸ hg
  exact key n 0 [] (by (first | lia | omega)) rfl (fun k y h => by simp at h)
theorem bytes_st {b : Array UInt8} {t : Tok} {I : Addr} : ∀ i (h h' : Heap) (o : Obj) (nw : List (Addr × Obj)), KBw.IsBytesIter h I b t i → h.get? I = some o → h'.get? I = some o → (∀ b o, h₀.get? b = some o → h'.get? b = some o) → News h₀ L h' nw → True → KBw.IsBytesIter h' I b t i :=
  fun i h h' o nw st e e' _ _ _ => by
    obtain ⟨o', q, r⟩ := st
    rw [e] at q; cases q
    exact ⟨o, e', r⟩
/- a list comprehension over bytes -/
theorem ListComp_B {elt iter : Expr} {x : Str} {px : Pos} {scope : Scope} {cl : List (Str × Addr)} {pos : Pos} {Q : Value → Shared → Prop} (F₀ : Fr h₀ L s.heap m)
    (hclos : closureFor scope env = pure cl) (hcell : ∀ y ∈ scope.names, y.2 ≠ .cell) (hkind : scope.kind = .function)
    (hnames : ∀ y ∈ scope.names, y.2 = .local → scope.names.lookup y.1 = some .local) (hx : scope.names.lookup x = some .local)
    (h : wpAny (model prog w) A (eval iter env) (fun xv s₁ => ∃ b t news, xv = .bytes b t ∧ A.handled = none ∧ Fr h₀ L s₁.heap m ∧ News h₀ L s₁.heap news ∧ b.size ≤ sizeLine ∧
      ∀ s₂ : Shared, (∃ g, s₂ = { s₁ with heap := g }) → LCg.CompRest prog w A h₀ L m env elt x scope cl s₂ (fun _ => True) (fun i v => ∃ c u, b[i]? = some c ∧ v = .int (c.toNat : Int) u) (LCg.FinE h₀ L m s₂ Q) b.size 0 [] news) E s)
    (hs : ∀ x, foldedSetIterable iter env x = pure x := by intro _; rfl) :
    wpAny (model prog w) A (eval (.ListComp elt [⟨.Name x px, iter, [], 0⟩] scope pos) env) Q E s := by
  rw [eval_ListComp]
  refine wpAny_comprehension_free (use := none) rfl hs hclos hkind hnames (wpAny_mono h (fun xv s₁ h₁ => ?_) fun _ _ e => e)
  obtain ⟨b, t, news, rfl, hh, F, N, hsz, R⟩ := h₁
  refine KBw.pyIter_bytes ?_
  refine LCg.block_U (KBw.walks hh s₁.heap.objs.size b t) hsz (fun i h st => by obtain ⟨o, e, _⟩ := st; exact ⟨o, e⟩) bytes_st hcell hkind hx ⟨_, Heap.get?_push_size _ rfl, rfl, rfl⟩ (fun b hb => ?_)
    (F.keeps fun _ _ e => Heap.get?_push_of_some _ e) (N.grown fun _ _ e => Heap.get?_push_of_some _ e) (Nat.ne_of_lt F.ns.lt) (next_is_new F) (fun p hp => Nat.ne_of_lt (Heap.lt_size (N p hp).1)) trivial (R _ ⟨_, rfl⟩) ?_
  · rw [List.mem_singleton.mp hb]
    show s₁.heap.objs.size < (s₁.heap.push _).objs.size
    rw [Heap.size_push]; exact Nat.lt_succ_self _
  · intro D C h tk m' ys news' F' N' o1 hn hC₀ hD₀ hCL hDL hCD offC fin
    refine ⟨m', hn, fun h'' hs'' => fin D h'' tk (F'.change hs'' hCL hC₀) (fun p hp => ?_) o1⟩
    refine ⟨hs''.extBut _ _ ?_ (N' p hp).1, (N' p hp).2⟩
    rcases List.mem_cons.mp hp with rfl | hp
    · exact Ne.symm hCD
    · exact offC p hp
end
end Mine
namespace Mine
section
variable {prog : Program} {w : World} {A : Around} {E : Value → Shared → Prop} {Q : Flow → Shared → Prop} {s : Shared} {env : Env} {h₀ : Heap} {L : Addr} {x : Str} {body : List Stmt}
/- a for's turn's end: the state is one of σ's again, the iterator's own objects stand -/
noncomputable def FEnd {σ : Type} (h₀ : Heap) (L : Addr) (s : Shared) (Led : σ → List (Addr × Obj)) (ps : σ → List (Str × Value)) (stored : List Str) (m₀ : Str → Option Value) (P : σ → Prop) (own : List (Addr × Obj)) (s₂ : Shared) : Prop :=
  ∃ (c' : σ) (h' : Heap) (tk : Nat) (m' : Str → Option Value) (news' : List (Addr × Obj)), s₂ = { s with heap := h', toks := tk } ∧ Fr h₀ L h' m' ∧ News h₀ L h' news' ∧ (∀ p ∈ Led c', p ∈ news') ∧ (∀ p ∈ own, p ∈ news') ∧ OwnOff own ((Led c').map (·.1)) ∧ Has m' (ps c') ∧ Same m' m₀ stored ∧ P c'
noncomputable def FPost {σ : Type} (h₀ : Heap) (L : Addr) (s : Shared) (Led : σ → List (Addr × Obj)) (ps : σ → List (Str × Value)) (stored : List Str) (m₀ : Str → Option Value) (P : σ → Prop) (own : List (Addr × Obj)) (Q : Flow → Shared → Prop) (f : Flow) (s₂ : Shared) : Prop :=
  match f with
  | .ret v => Q (.ret v) s₂
  | .brk => Q .next s₂
  | _ => FEnd h₀ L s Led ps stored m₀ P own s₂
theorem FPost.next {σ : Type} {Led : σ → List (Addr × Obj)} {ps : σ → List (Str × Value)} {stored : List Str} {m₀ m' : Str → Option Value} {P : σ → Prop} {own : List (Addr × Obj)} {h' : Heap} {tk : Nat} {news' : List (Addr × Obj)} (c' : σ)
    (F : Fr h₀ L h' m') (N : News h₀ L h' news') (hk : Has m' (ps c')) (hr : Same m' m₀ stored) (hn : ∀ p ∈ Led c', p ∈ news') (ho : ∀ p ∈ own, p ∈ news') (ha : OwnOff own ((Led c').map (·.1))) (hp : P c') :
    FPost h₀ L s Led ps stored m₀ P own Q .next { s with heap := h', toks := tk } := ⟨c', h', tk, m', news', rfl, F, N, hn, ho, ha, hk, hr, hp⟩
theorem FPost.inv {σ : Type} {Led : σ → List (Addr × Obj)} {ps : σ → List (Str × Value)} {stored : List Str} {m₀ : Str → Option Value} {P : σ → Prop} {own : List (Addr × Obj)} {f : Flow} {s₁ s₂ : Shared} {K : List (Addr × Obj) → Prop} (hK : ∀ c, K (Led c))
    (h : FPost h₀ L s₁ Led ps stored m₀ P own Q f s₂) : InvPostG h₀ L (fun m nx => K nx ∧ ∃ c : σ, nx = Led c ∧ Has m (ps c) ∧ Same m m₀ stored ∧ P c) own s₁ Q f s₂ := by
  have go : FEnd h₀ L s₁ Led ps stored m₀ P own s₂ → InvEndG h₀ L (fun m nx => K nx ∧ ∃ c : σ, nx = Led c ∧ Has m (ps c) ∧ Same m m₀ stored ∧ P c) own s₁ s₂ := by
    rintro ⟨c', h', tk, m', news', rfl, F, N, hn, ho, ha, hk, hr, hp⟩
    exact ⟨h', tk, m', news', Led c', rfl, F, N, hn, ho, ha, hK c', c', rfl, hk, hr, hp⟩
  cases f with
  | ret v => exact h
  | brk => exact h
  | next => exact go h
  | cont => exact go h
/- the frame of a for's turn -/
theorem for_fr {h : Heap} {ps : List (Str × Value)} {stored : List Str} {m₀ m₁ : Str → Option Value} {v : Value} (h1 : Has m₁ ps) (h2 : Same m₁ m₀ stored) (F : Fr h₀ L h (fun y => if y = x then some v else m₁ y)) :
    Fr h₀ L h (fun y => if y = x then some v else kstB (fun z => if stored.contains z then m₁ z else m₀ z) ps y) := by
  have e : (fun y => if y = x then some v else kstB (fun z => if stored.contains z then m₁ z else m₀ z) ps y) = fun y => if y = x then some v else m₁ y := by
    funext y
    by_cases hy : y = x
    · simp [hy]
    · simp only [if_neg hy]
      refine kstB_eq h1.all fun _ => ?_
      show (if stored.contains y = true then m₁ y else m₀ y) = m₁ y
      cases h3 : stored.contains y with
      | true => simp
      | false => simp only [Bool.false_eq_true, if_false]; exact (h2 y h3).symm
  rw [e]; exact F
theorem rangeT {σ : Type} {r : Addr} {a₀ b₀ : Int} {t₀ u₀ v₀ : Tok} {m₀ : Str → Option Value} {news : List (Addr × Obj)} (n : Nat) (Led : σ → List (Addr × Obj)) (ps : σ → List (Str × Value)) (stored : List Str) (P : Nat → σ → Prop) (c₀ : σ)
    (hh : A.handled = none) (hr : IsRange s.heap r a₀ b₀ 1 t₀ u₀ v₀) (hsmall : Builtin.Range.small a₀ b₀ 1 = true) (hsz : Builtin.Range.rangeSize a₀ b₀ 1 = (n : Int)) (F : Fr h₀ env.locals s.heap m₀) (N : News h₀ env.locals s.heap news)
    (hk : Has m₀ (ps c₀)) (hn : ∀ p ∈ Led c₀, p ∈ news) (hp : P 0 c₀)
    (turn : ∀ (i : Nat) (c : σ) t (u : Str → Option Value) h tk own, i < n → P i c → OwnOff own ((Led c).map (·.1)) →
      Fr h₀ env.locals h (fun y => if y = x then some (.int (a₀ + (i : Int)) t) else kstB (fun z => if stored.contains z then u z else m₀ z) (ps c) y) → News h₀ env.locals h (Led c ++ own) →
      wpAny (model prog w) A (execs body env) (FPost h₀ env.locals { s with heap := h, toks := tk } Led ps stored m₀ (P (i + 1)) own Q) E { s with heap := h, toks := tk })
    (done : ∀ (c : σ) (u : Str → Option Value) h tk, P n c → Fr h₀ env.locals h (kstB (fun z => if stored.contains z then u z else m₀ z) (ps c)) → News h₀ env.locals h (Led c) → Q .next { s with heap := h, toks := tk }) :
    wpAny (model prog w) A (pyIter (.ref r)) (fun it s₂ => LoopAtV prog w A h₀ env x body Q E it s₂) E s := by
  refine wpAny_pyIter_range hr hsmall ?_
  have W : Walks prog w A s.heap.objs.size [s.heap.objs.size] [s.heap.objs.size] n (fun i v => i < n ∧ ∃ t, v = .int (a₀ + i * 1) t)
      (fun i h => IsRangeIter h s.heap.objs.size (a₀ + (i : Nat) * 1) ((n : Int) - (i : Nat)) 1) := (Walks.range hh _ a₀ 1 n).bound
  refine kdr_loop (news := Led c₀) (fun i m nx => True ∧ ∃ c : σ, nx = Led c ∧ Has m (ps c) ∧ Same m m₀ stored ∧ P i c) W (fun _ h => h) (fun _ h => h) ?_ ?_ ?_ ?_ (by show IsRangeIter _ _ _ _ _; rw [hsz]; simpa using Heap.get?_push_size _ rfl) (F.push _) (fun p hp => ⟨Heap.get?_push_of_some _ (N p (hn p hp)).1, (N p (hn p hp)).2⟩) ⟨trivial, c₀, rfl, hk, Same.refl _ _, hp⟩ ?_ ?_
  · intro i h hi b hb
    rw [List.mem_singleton.mp hb]
    exact ⟨_, hi⟩
  · intro hm
    exact absurd F.ns.lt ((List.mem_singleton.mp hm) ▸ Nat.lt_irrefl _)
  · intro b hb
    rw [List.mem_singleton.mp hb]
    exact next_is_new F
  · intro p hp hI
    exact absurd (Heap.lt_size (N p (hn p hp)).1) ((List.mem_singleton.mp hI) ▸ Nat.lt_irrefl _)
  · rintro i v m₁ nx h tk own hi ⟨_, t, rfl⟩ hoff ⟨_, c, rfl, h1, h2, hp'⟩ F₁ N₁
    have e1 : a₀ + (i : Int) * 1 = a₀ + (i : Int) := by (first | lia | omega)
    rw [e1] at F₁
    exact wpAny_mono (turn i c t m₁ h tk own hi hp' hoff (for_fr h1 h2 F₁) N₁) (fun f s₂ q => FPost.inv (K := fun _ => True) (fun _ => trivial) q) fun _ _ e => e
  · rintro m₁ nx h tk ⟨_, c, rfl, h1, h2, hp'⟩ F₁ N₁
    exact done c m₁ h tk hp' (kst_fr2 h1 h2 F₁) N₁
/- a for over a list of the ledger -/
theorem listT {σ : Type} {l : Addr} {vs : List Value} {nn : Nat} {m₀ : Str → Option Value} {news : List (Addr × Obj)} (Led : σ → List (Addr × Obj)) (ps : σ → List (Str × Value)) (stored : List Str) (P : Nat → σ → Prop) (c₀ : σ)
    (hh : A.handled = none) (hl : ∀ c, (l, listOf vs.toArray nn) ∈ Led c) (F : Fr h₀ env.locals s.heap m₀) (N : News h₀ env.locals s.heap news)
    (hk : Has m₀ (ps c₀)) (hn : ∀ p ∈ Led c₀, p ∈ news) (hp : P 0 c₀)
    (turn : ∀ (i : Nat) v (c : σ) (u : Str → Option Value) h tk own, vs[i]? = some v → P i c → OwnOff own ((Led c).map (·.1)) →
      Fr h₀ env.locals h (fun y => if y = x then some v else kstB (fun z => if stored.contains z then u z else m₀ z) (ps c) y) → News h₀ env.locals h (Led c ++ own) →
      wpAny (model prog w) A (execs body env) (FPost h₀ env.locals { s with heap := h, toks := tk } Led ps stored m₀ (P (i + 1)) own Q) E { s with heap := h, toks := tk })
    (done : ∀ (c : σ) (u : Str → Option Value) h tk, P vs.length c → Fr h₀ env.locals h (kstB (fun z => if stored.contains z then u z else m₀ z) (ps c)) → News h₀ env.locals h (Led c) → Q .next { s with heap := h, toks := tk }) :
    wpAny (model prog w) A (pyIter (.ref l)) (fun it s₂ => LoopAtV prog w A h₀ env x body Q E it s₂) E s := by
  refine kdl_iter (news := Led c₀) (fun i m nx => ∃ c : σ, nx = Led c ∧ Has m (ps c) ∧ Same m m₀ stored ∧ P i c) hh (hl c₀) F (fun p hp => N p (hn p hp)) ⟨c₀, rfl, hk, Same.refl _ _, hp⟩ ?_ ?_
  · rintro i v m₁ nx h tk own hv hoff _ ⟨c, rfl, h1, h2, hp'⟩ F₁ N₁
    exact wpAny_mono (turn i v c m₁ h tk own hv hp' hoff (for_fr h1 h2 F₁) N₁) (fun f s₂ q => FPost.inv (K := fun nx => (l, listOf vs.toArray nn) ∈ nx) hl q) fun _ _ e => e
  · rintro m₁ nx h tk ⟨c, rfl, h1, h2, hp'⟩ F₁ N₁
    exact done c m₁ h tk hp' (kst_fr2 h1 h2 F₁) N₁
end
theorem tupleI {new : List (Addr × Obj)} {v : Value} {ds : List Dat} (h : DatIn new v (.tuple ds)) : ∃ a vs n, v = .ref a ∧ (a, ({ cls := .type "tuple", data := .seq vs.toArray n } : Obj)) ∈ new ∧ DatAll new vs ds := by
  cases h with
  | tuple a b => exact ⟨_, _, _, rfl, a, b⟩
theorem listI {new : List (Addr × Obj)} {v : Value} {ds : List Dat} (h : DatIn new v (.list ds)) : ∃ a vs n, v = .ref a ∧ (a, listOf vs.toArray n) ∈ new ∧ DatAll new vs ds := by
  cases h with
  | list a b => exact ⟨_, _, _, rfl, a, b⟩
theorem consI {new : List (Addr × Obj)} {vs : List Value} {d : Dat} {ds : List Dat} (h : DatAll new vs (d :: ds)) : ∃ v r, vs = v :: r ∧ DatIn new v d ∧ DatAll new r ds := by
  cases h with
  | cons a b => exact ⟨_, _, rfl, a, b⟩
theorem nilI {new : List (Addr × Obj)} {vs : List Value} (h : DatAll new vs []) : vs = [] := by
  cases h
  rfl
theorem strI {new : List (Addr × Obj)} {v : Value} {x : Str} (h : DatIn new v (.str x)) : ∃ t, v = .str x t := by
  cases h with
  | str _ t => exact ⟨t, rfl⟩
theorem intI {new : List (Addr × Obj)} {v : Value} {x : Int} (h : DatIn new v (.int x)) : ∃ t, v = .int x t := by
  cases h with
  | int _ t => exact ⟨t, rfl⟩
end Mine
namespace Mine
theorem words_W1 : True := by
  w_top off
  k_with_none
  trivial
noncomputable def apL (n : Nat) : List UInt8 := if n = 0 then [] else apL (n / 16) ++ [UInt8.ofNat (65 + n % 16)]
termination_by n
decreasing_by (first | lia | omega)
theorem apL_zero : apL 0 = [] := by rw [apL]; rfl
theorem apL_step {n : Nat} (h : n ≠ 0) : apL n = apL (n / 16) ++ [UInt8.ofNat (65 + n % 16)] := by rw [apL, if_neg h]
theorem apL_len (k : Nat) : ∀ n : Nat, n < 16 ^ k → (apL n).length ≤ k := by
  induction k with
  | zero => intro n h; have : n = 0 := by simpa using h
            subst this; rw [apL_zero]; simp
  | succ k ih =>
    intro n h
    by_cases h0 : n = 0
    · subst h0; rw [apL_zero]; simp
    · rw [apL_step h0, List.length_append, List.length_singleton]
      have := ih (n / 16) (by rw [Nat.pow_succ] at h; (first | lia | omega))
      (first | lia | omega)
set_option genSizeOf false in
set_option genSizeOfSpec false in
set_option genInjectivity false in
structure S1 where
  num : Int
  tn : Tok
  val : Array UInt8
  tv : Tok
/- what holds between the turns -/
noncomputable def S1.ok (n : Nat) (c : S1) : Prop := 0 ≤ c.num ∧ apL n = apL c.num.natAbs ++ c.val.toList
theorem fd16 (m : Nat) : (m : Int).fdiv 16 = ((m / 16 : Nat) : Int) := by rw [Int.fdiv_eq_ediv_of_nonneg _ (by decide)]; rfl
theorem fm16 (m : Nat) : (m : Int).fmod 16 = ((m % 16 : Nat) : Int) := by rw [Int.fmod_eq_emod_of_nonneg _ (by decide)]; rfl
theorem S1.step {n : Nat} {c : S1} {t t' : Tok} (h : S1.ok n c) (h0 : c.num ≠ 0) :
    S1.ok n ⟨c.num.fdiv 16, t, #[UInt8.ofNat (65 + (c.num.fmod 16).natAbs)] ++ c.val, t'⟩ ∧ (c.num.fdiv 16).natAbs < c.num.natAbs := by
  obtain ⟨num, tn, val, tv⟩ := c
  obtain ⟨h1, h2⟩ := h
  obtain ⟨m, rfl⟩ := Int.eq_ofNat_of_zero_le (show 0 ≤ num from h1)
  have hm : m ≠ 0 := fun e => h0 (by rw [e]; rfl)
  have h2' : apL n = apL m ++ val.toList := h2
  refine ⟨⟨?_, ?_⟩, ?_⟩
  · show 0 ≤ (m : Int).fdiv 16
    rw [fd16]; exact Int.natCast_nonneg _
  · show apL n = apL ((m : Int).fdiv 16).natAbs ++ (#[UInt8.ofNat (65 + ((m : Int).fmod 16).natAbs)] ++ val).toList
    rw [fd16, fm16, Int.natAbs_natCast, Int.natAbs_natCast, h2', apL_step hm, Array.toList_append, List.append_assoc]
  · show ((m : Int).fdiv 16).natAbs < m
    rw [fd16, Int.natAbs_natCast]
    exact Nat.div_lt_self (Nat.pos_of_ne_zero hm) (by decide)
theorem S1.fin {n : Nat} {c : S1} (h : S1.ok n c) (h0 : c.num = 0) : c.val = (apL n).toArray := by
  have h2 := h.2
  rw [h0, Int.natAbs_zero, apL_zero, List.nil_append] at h2
  rw [h2]
theorem apPick (k : Nat) (h : k < 16) : KBy.picked #[65, 66, 67, 68, 69, 70, 71, 72, 73, 74, 75, 76, 77, 78, 79, 80] (some (k : Int)) (some ((k : Int) + 1)) = #[UInt8.ofNat (65 + k)] := by
  have : ∀ k : Nat, k < 16 → KBy.picked #[65, 66, 67, 68, 69, 70, 71, 72, 73, 74, 75, 76, 77, 78, 79, 80] (some (k : Int)) (some ((k : Int) + 1)) = #[UInt8.ofNat (65 + k)] := by decide +kernel
  exact this k h
section
variable {prog : Program} {w : World} {A : Around} {E : Value → Shared → Prop} {s : Shared} {value slice : PySem.Expr} {t : Tok} {h₀ : Heap} {L : Addr} {m : PySem.Str → Option Value} {news : List (Addr × Obj)} {tl tu : Tok} {Q : Value → Shared → Prop} {k : Int}
theorem ap_slice (hF : Fr h₀ L s.heap m) (hN : News h₀ L s.heap news) (h0 : 0 ≤ k) (h1 : k < 16)
    (h : ∀ h' t' j, Fr h₀ L h' m → News h₀ L h' news → Q (.bytes #[UInt8.ofNat (65 + k.natAbs)] t') { s with heap := h', toks := j })
    (hs : subscripted slice false (.bytes #[65, 66, 67, 68, 69, 70, 71, 72, 73, 74, 75, 76, 77, 78, 79, 80] t) (.ref s.heap.objs.size) = operate [.ref s.heap.objs.size, .bytes #[65, 66, 67, 68, 69, 70, 71, 72, 73, 74, 75, 76, 77, 78, 79, 80] t] (getItem (.bytes #[65, 66, 67, 68, 69, 70, 71, 72, 73, 74, 75, 76, 77, 78, 79, 80] t) (.ref s.heap.objs.size)) := by with_unfolding_all rfl)
    (ht : ∀ r, letTemporaryGo value (.bytes #[65, 66, 67, 68, 69, 70, 71, 72, 73, 74, 75, 76, 77, 78, 79, 80] t) r = pure () := by intro _; with_unfolding_all rfl) :
    wpAny (model prog w) A (subscriptTail value slice (.bytes #[65, 66, 67, 68, 69, 70, 71, 72, 73, 74, 75, 76, 77, 78, 79, 80] t) (.ref s.heap.objs.size)) Q E { s with heap := s.heap.push { cls := .type "slice", data := .fields #[.int k tl, .int (k + 1) tu, .none] } } := by
  refine KBc.slice_K hF hN rfl (IsPart.int _ _) (IsPart.int _ _) (by decide) (fun h' t' j F' N' _ => ?_) hs ht
  have e : k = ((k.natAbs : Nat) : Int) := by (first | lia | omega)
  have e2 := apPick k.natAbs (by (first | lia | omega))
  rw [← e] at e2
  rw [e2]
  exact h h' t' j F' N'
end
local macro_rules | `(tactic| walk_at "subscriptTail Name Slice bytes ref") => `(tactic| (k_here; (with_reducible rename Fr _ _ _ _ => F'); (with_reducible rename News _ _ _ _ => N'); (refine ap_slice (s := ⟨_, _, _, _, _⟩) F' N' ?_ ?_ ?_; (omega); (omega)); intro _ _ _ _ _))
local macro_rules | `(tactic| walk_at "binaryOp Add bytes bytes") => `(tactic| (k_here; (refine KBy.add_bytes (by (simp only [List.size_toArray, List.length_cons, List.length_nil]; omega)) ?_); intro _ _))
theorem int2ap_fn {w : World} {mean : ExcName → Option Value} {mg mb : Str → Option Value} (n : Int) (tk : Tok) (hn : n.natAbs < 16 ^ 64) :
    Fn w mean mg mb 21 [.int n tk] (fun _ => True) (fun d => d = Dat.bytes (apL n.natAbs).toArray) 2 40 := by
  unfold Fn PR
  k_fill
  intro dp un gd cn cs a ccd cl outer A₀ base h₀ L m s Q E B F X T hk pre hd hu hret
  refine wpAny_call ?_
  k_dflt (refine' enterP (binds := [(Str.ofString "num", Value.int n tk)]) ?k1 ?k2 ?k3 ?k5 ?kA ?kF ?kK ?k6 ?k7 ?k8 ?k9 ?kB ?_ ?c2 ?c3 ?c4 ?c5; (case kA => exact rfl); (case kF => exact rfl); (case kK => assumption); (case k1 => k_asm); (case k2 => k_asm); (case k3 => k_asm); (case k5 => k_asm); (case k6 => k_is); (case k7 => k_is); (case k8 => ktr_room); (case k9 => exact BindsTo.of_eq rfl); (case c5 => decide); (case kB => exact locs rfl); (case c2 => exact rfl); (case c3 => exact rfl); (case c4 => exact rfl); k_whole; intro L' h' F' N' B' X' T'; (try dsimp only); (try k_fold))
  clear B F X T
  (k_with "exec While Name cons nil" => refine stop ?_)
  k_steps
  unfold Stop
  refine' whileT (σ := S1) (fun _ => []) (fun c => [(Str.ofString "num", Value.int c.num c.tn), (Str.ofString "val", Value.bytes c.val c.tv)]) [Str.ofString "num", Str.ofString "val", Str.ofString "mod"] (S1.ok n.natAbs) (fun c => c.num.natAbs) ⟨if n < 0 then -n else n, _, #[], _⟩ ?wF ?wN ?wk ?wn ?wp ?_ ?wE
  case wF => k_asm
  case wN => k_asm
  case wk => (repeat (refine Has.cons ?_ ?_; rfl)); exact Has.nil
  case wn => exact fun _ h => nomatch h
  case wE => exact PassesOwn.never
  case wp =>
    refine ⟨?_, ?_⟩
    · show 0 ≤ (if n < 0 then -n else n); split <;> (first | lia | omega)
    · show apL n.natAbs = apL (if n < 0 then -n else n).natAbs ++ []
      rw [List.append_nil]; congr 1; split <;> (first | lia | omega)
  intro c u h9 tk9 hP9 F9 N9
  dsimp only [kstB] at F9
  try dsimp only
  k_fold
  have hc0 := hP9.1
  have hlen : c.val.size ≤ 64 := by
    have := apL_len 64 n.natAbs hn
    have e := congrArg List.length hP9.2
    simp only [List.length_append, Array.length_toList] at e
    (first | lia | omega)
  have hfd := fdiv_fmod_facts c.num 16
  k_steps
  all_goals (try dsimp only)
  all_goals (try (k_unfold; try dsimp only))
  · refine' TPost.next ⟨c.num.fdiv 16, _, #[UInt8.ofNat (65 + (c.num.fmod 16).natAbs)] ++ c.val, _⟩ ?wF ?wN ?wk ?wr ?wn ?wp
    case wF => k_asm
    case wN => k_asm
    case wk => (repeat (refine Has.cons ?_ ?_; rfl)); exact Has.nil
    case wr => (repeat (refine Same.set rfl ?_)); exact Same.base
    case wn => exact fun _ h => nomatch h
    case wp => exact S1.step hP9 (by (first | lia | omega))
  · have e := S1.fin hP9 (by (first | lia | omega))
    rw [e]
    exact hret _ [] _ _ _ F9.keep (fun _ h => nomatch h) rfl (DatIn.bytes _ _)
end Mine
namespace Mine
theorem words_W2 : True := by
  w_top off
  k_with_none
  trivial
noncomputable def signsT : List String := ["(", ")", "[", "]", ":", ",", ";", "+", "-", "*", "/", "|", "&", "<", ">", "=", ".", "%", "{", "}", "==", "!=", "<=", ">=", "~", "^", "<<", ">>", "**", "+=", "-=", "*=", "/=", "%=", "&=", "|=", "^=", "<<=", ">>=", "**=", "//", "//=", "@", "@=", "->", "...", ":=", "!"]
noncomputable def signsL : List Str := signsT.map Str.ofString
noncomputable def piece (own : Int) : Str := if own > 63 then ⟨#[65 + (own / 16).toNat, 65 + (own % 16).toNat]⟩ else signsL.getD (own - 7).toNat Str.empty
theorem ap_item (k : Nat) (h : k < 16) : Txt.item (Str.ofString "ABCDEFGHIJKLMNOP") (k : Int) = ⟨#[65 + k]⟩ := by
  have : ∀ k : Nat, k < 16 → Txt.item (Str.ofString "ABCDEFGHIJKLMNOP") (k : Int) = ⟨#[65 + k]⟩ := by decide +kernel
  exact this k h
theorem words_signs : Txt.words (Str.ofString "( ) [ ] : , ; + - * / | & < > = . % { } == != <= >= ~ ^ << >> ** " ++ Str.ofString "+= -= *= /= %= &= |= ^= <<= >>= **= // //= @ @= -> ... := !") = signsL := by decide +kernel
section
variable {prog : Program} {w : World} {A : Around} {E : Value → Shared → Prop} {s : Shared} {value slice : PySem.Expr} {h₀ : Heap} {L a : Addr} {news : List (Addr × Obj)} {Q : Value → Shared → Prop} {k : Int}
theorem strs_item {vs : List Value} {ss : List Str} {n : Nat} {u : Tok} (N : News h₀ L s.heap news) (hm : (a, listOf vs.toArray n) ∈ news) (hS : StrsAre vs ss) (h0 : 0 ≤ k) (h1 : k < (ss.length : Int)) (hl : ss.length < 2 ^ 40)
    (h : ∀ t, Q (.str (ss.getD k.toNat Str.empty) t) s)
    (hs : subscripted slice false (.ref a) (.int k u) = operate [.ref a, .int k u] (getItem (.ref a) (.int k u)) := by with_unfolding_all rfl) (hg : ∀ r, letTemporaryGo value (.ref a) r = pure () := by intro _; with_unfolding_all rfl) :
    wpAny (model prog w) A (subscriptTail value slice (.ref a) (.int k u)) Q E s := by
  have hk : k.toNat < ss.length := by (first | lia | omega)
  obtain ⟨t, ht⟩ := hS.get k.toNat (ss[k.toNat]) (by simp [hk])
  refine item_listL ⟨_, (N _ hm).1, rfl, n, rfl⟩ h0 (by (first | lia | omega)) ht ?_ hs hg
  have := h t
  simpa [List.getD_eq_getElem?_getD, hk] using this
end
theorem piece_fn {w : World} {mean : ExcName → Option Value} {mg mb : Str → Option Value} (n : Int) (tk : Tok) (hn : 7 ≤ n ∧ n ≤ 54 ∨ 64 ≤ n ∧ n ≤ 255) :
    Fn w mean mg mb 38 [.int n tk] (fun _ => True) (fun d => d = Dat.str (piece n)) 2 40 := by
  unfold Fn PR
  k_fill
  intro dp un gd cn cs a ccd cl outer A₀ base h₀ L m s Q E B F X T hk pre hd hu hret
  refine wpAny_call ?_
  k_dflt (refine' enterP (binds := [(Str.ofString "own", Value.int n tk)]) ?k1 ?k2 ?k3 ?k5 ?kA ?kF ?kK ?k6 ?k7 ?k8 ?k9 ?kB ?_ ?c2 ?c3 ?c4 ?c5; (case kA => exact rfl); (case kF => exact rfl); (case kK => assumption); (case k1 => k_asm); (case k2 => k_asm); (case k3 => k_asm); (case k5 => k_asm); (case k6 => k_is); (case k7 => k_is); (case k8 => ktr_room); (case k9 => exact BindsTo.of_eq rfl); (case c5 => decide); (case kB => exact locs rfl); (case c2 => exact rfl); (case c3 => exact rfl); (case c4 => exact rfl); k_whole; intro L' h' F' N' B' X' T'; (try dsimp only); (try k_fold))
  clear B F X T
  k_steps
  all_goals (try dsimp only)
  all_goals (try (k_unfold; try dsimp only))
  · obtain ⟨k, rfl⟩ : ∃ k : Nat, n = k := Int.eq_ofNat_of_zero_le (by omega)
    have e1 : ((k : Int) / 16).toNat = k / 16 := rfl
    have e2 : ((k : Int) % 16).toNat = k % 16 := rfl
    rw [fd16, fm16, ap_item _ (Nat.div_lt_of_lt_mul (by omega)), ap_item _ (Nat.mod_lt _ (by decide)), ← e1, ← e2]
    have e : piece (k : Int) = ⟨#[65 + ((k : Int) / 16).toNat]⟩ ++ ⟨#[65 + ((k : Int) % 16).toNat]⟩ := by unfold piece; rw [if_pos (by omega)]; rfl
    rw [← e]
    exact hret _ [] _ _ _ (Fr.keep (by assumption)) (fun _ h => nomatch h) rfl (DatIn.str _ _)
  · rename_i eW aS F9 N9 _
    rw [words_signs] at eW
    rw [eW] at aS
    have hlen : signsL.length = 48 := by decide +kernel
    refine strs_item N9 (by k_mem) aS (by omega) (by rw [hlen]; omega) (by rw [hlen]; omega) ?_
    intro t
    have e : piece n = signsL.getD (n - 7).toNat Str.empty := by unfold piece; rw [if_neg (by omega)]
    rw [← e]
    exact hret _ [] _ _ _ (Fr.keep (by assumption)) (fun _ h => nomatch h) rfl (DatIn.str _ _)
end Mine
namespace Mine
theorem words_W3 : True := by
  w_top off
  k_with_none
  trivial
/- the trees that the law writes -/
inductive Tr where
  | leaf (n : Int)
  | node (k : Int) (l r : Tr)
namespace Tr
noncomputable def ops : Tr → Nat
  | .leaf _ => 0
  | .node _ l r => l.ops + r.ops + 1
noncomputable def bind : Tr → Int
  | .leaf _ => 99
  | .node k _ _ => k
noncomputable def row : Tr → List Int
  | .leaf n => [n]
  | .node k l r => [k] ++ l.row ++ r.row
noncomputable def par (b : Bool) (x : Str) : Str := if b then Str.ofString "(" ++ x ++ Str.ofString ")" else x
noncomputable def text : Tr → Str
  | .leaf n => piece n
  | .node k l r => par (decide (l.bind < k)) l.text ++ piece k ++ par (decide (r.bind ≤ k)) r.text
noncomputable def good : Tr → Prop
  | .leaf n => 64 ≤ n ∧ n ≤ 255
  | .node k l r => (9 ≤ k ∧ k ≤ 54) ∧ l.good ∧ r.good
noncomputable def dat (t : Tr) : Dat := .tuple [.str t.text, .int t.bind, .list (t.row.map Dat.int)]
end Tr
/- the three lists that the law hands down -/
structure Lists (h : Heap) (ka ra na : Addr) (ks rs ns : List Int) : Prop where
  k : ∃ vs : List Value, h.IsList ka vs.toArray ∧ IntsAre vs ks
  r : ∃ vs : List Value, h.IsList ra vs.toArray ∧ IntsAre vs rs
  n : ∃ vs : List Value, h.IsList na vs.toArray ∧ IntsAre vs ns
  lr : rs.length = ks.length
  ln : ns.length = ks.length + 1
  le : ks.length ≤ 7
  gk : ∀ k ∈ ks, 9 ≤ k ∧ k ≤ 54
  gn : ∀ k ∈ ns, 64 ≤ k ∧ k ≤ 255
theorem ap2 {n : Int} (h : 64 ≤ n ∧ n ≤ 255) : (apL n.natAbs).toArray = #[UInt8.ofNat (65 + (n / 16).toNat), UInt8.ofNat (65 + (n % 16).toNat)] := by
  obtain ⟨m, rfl⟩ := Int.eq_ofNat_of_zero_le (Int.le_trans (by decide) h.1)
  have h1 : 64 ≤ m := Int.ofNat_le.mp h.1
  have h2 : m < 16 * 16 := Nat.lt_of_le_of_lt (Int.ofNat_le.mp h.2) (by decide)
  have h3 : m / 16 < 16 := Nat.div_lt_of_lt_mul h2
  have h4 : 1 ≤ m / 16 := (Nat.le_div_iff_mul_le (by decide)).mpr (Nat.le_trans (by decide) h1)
  rw [Int.natAbs_natCast, apL_step (Nat.ne_of_gt (Nat.lt_of_lt_of_le (by decide) h1)), apL_step (Nat.ne_of_gt h4), Nat.div_eq_of_lt h3, apL_zero, Nat.mod_eq_of_lt h3]
  rfl
theorem int2ap_fn2 {w : World} {mean : ExcName → Option Value} {mg mb : Str → Option Value} (n : Int) (tk : Tok) (hn : 64 ≤ n ∧ n ≤ 255) :
    Fn w mean mg mb 21 [.int n tk] (fun _ => True) (fun d => d = Dat.bytes #[UInt8.ofNat (65 + (n / 16).toNat), UInt8.ofNat (65 + (n % 16).toNat)]) 2 40 := by
  have h := int2ap_fn (w := w) (mean := mean) (mg := mg) (mb := mb) n tk (by have : n.natAbs < 256 := by (first | lia | omega)
                                                                             exact Nat.lt_of_lt_of_le this (by decide))
  rw [ap2 hn] at h
  exact h
theorem ints_of_dat {new : List (Addr × Obj)} : ∀ {vs : List Value} {ns : List Int}, DatAll new vs (ns.map Dat.int) → IntsAre vs ns
  | _, [], h => by cases h; exact .nil
  | _, n :: ns, h => by
    cases h with
    | cons h r =>
      cases h with
      | int _ t => exact .cons n t (ints_of_dat r)
theorem dat_of_ints {new : List (Addr × Obj)} : ∀ {vs : List Value} {ns : List Int}, IntsAre vs ns → DatAll new vs (ns.map Dat.int)
  | _, _, .nil => .nil
  | _, _, .cons n t r => .cons (.int n t) (dat_of_ints r)
theorem Fn.useT {w : World} {mean : ExcName → Option Value} {mg mb : Str → Option Value} {f : Addr} {vs : List Value} {Pre : Heap → Prop} {dn un' : Nat}
    {dp un : Nat} {gd : Option (List Code)} {cn : Str} {cs : Scope} {a : Addr} {ccd : Value} {cl : List (Str × Addr)} {outer : List Env} {A₀ : Around} {base h₀ : Heap} {L : Addr} {m : Str → Option Value} {s : Shared} {Q E : Value → Shared → Prop} {news : List (Addr × Obj)} {n : Nat}
    (C : Fn w mean mg mb f vs Pre (fun d => ∃ t : Tr, t.good ∧ t.ops = n ∧ d = t.dat) dn un') (B : Below A₀ base outer h₀) (F : Fr h₀ L s.heap m) (X : (Mine.hd.heap_39 w.params).In h₀) (N : News h₀ L s.heap news) (T : Top Mine.hd.view_39 LO mean mg mb h₀) (hk : cs.kind = .function)
    (pre : Pre s.heap) (hd : dp + dn < recursionLimit) (hu : un + un' < cLine)
    (ret : ∀ (t : Tr) tp l t1 t2 zs k k2 h' tk', t.good → t.ops = n → IntsAre zs t.row → Fr h₀ L h' m → News h₀ L h' ((tp, ({ cls := .type "tuple", data := .seq #[.str t.text t1, .int t.bind t2, .ref l] k } : Obj)) :: (l, listOf zs.toArray k2) :: news) → Q (.ref tp) { s with heap := h', toks := tk' }) :
    wpAny (model PR w) (ktrTop dp un gd cn cs L a ccd cl outer) (call (.ref f) vs) Q E s :=
  C.use B F X N T hk pre hd hu fun r new h' tk' d F' N' _ hD dt => by
    obtain ⟨t, h1, h2, rfl⟩ := hD
    obtain ⟨tp, vs, k1, rfl, hm, q0⟩ := tupleI dt
    obtain ⟨x1, r1, rfl, y1, q1⟩ := consI q0
    obtain ⟨t1, rfl⟩ := strI y1
    obtain ⟨x2, r2, rfl, y2, q2⟩ := consI q1
    obtain ⟨t2, rfl⟩ := intI y2
    obtain ⟨x3, r3, rfl, y3, q3⟩ := consI q2
    obtain rfl := nilI q3
    obtain ⟨l3, zs3, k3, rfl, hm2, r2⟩ := listI y3
    refine ret t tp l3 t1 t2 zs3 k1 k3 h' tk' h1 h2 (ints_of_dat r2) F' ?_
    intro p hp
    refine N' p ?_
    cases hp with
    | head => exact List.mem_append.mpr (.inl hm)
    | tail _ hp =>
      cases hp with
      | head => exact List.mem_append.mpr (.inl hm2)
      | tail _ hp => exact List.mem_append.mpr (.inr hp)
theorem piece_len {k : Int} (h : 7 ≤ k ∧ k ≤ 54 ∨ 64 ≤ k ∧ k ≤ 255) : (piece k).length ≤ 3 := by
  unfold piece
  split
  · show 2 ≤ 3; decide
  · have : ∀ i : Nat, i < 48 → (signsL.getD i Str.empty).length ≤ 3 := by decide +kernel
    exact this _ (by (first | lia | omega))
theorem Tr.text_len : ∀ {t : Tr}, t.good → t.text.length ≤ 2 + 9 * t.ops
  | .leaf n, h => by
    have h' : 64 ≤ n ∧ n ≤ 255 := h
    show (piece n).length ≤ 2
    unfold piece; rw [if_pos (by (first | lia | omega))]; exact Nat.le_refl 2
  | .node k l r, h => by
    have h1 := Tr.text_len h.2.1
    have h2 := Tr.text_len h.2.2
    have h3 := piece_len (k := k) (by have h9 := h.1; (first | lia | omega))
    have hp : ∀ b x, (Tr.par b x).length ≤ x.length + 2 := fun b x => by
      unfold Tr.par
      split
      · rw [Str.length_append, Str.length_append]
        have e1 : (Str.ofString "(").length = 1 := rfl
        have e2 : (Str.ofString ")").length = 1 := rfl
        (first | lia | omega)
      · (first | lia | omega)
    show (Tr.par _ l.text ++ piece k ++ Tr.par _ r.text).length ≤ 2 + 9 * (l.ops + r.ops + 1)
    rw [Str.length_append, Str.length_append]
    have := hp (decide (l.bind < k)) l.text
    have := hp (decide (r.bind ≤ k)) r.text
    (first | lia | omega)
theorem one_op : (Str.ofString "(").length = 1 := rfl
theorem one_cl : (Str.ofString ")").length = 1 := rfl
local macro_rules | `(tactic| walk_at "binaryOp Add str str") => `(tactic| (k_here; refine PyProof.Rows.add_str (hsz := ?_) ?_; (simp only [Str.length_append, one_op, one_cl, sizeLine_eq]; omega); intro _ _))
local macro_rules | `(tactic| walk_at "binaryOp Add ref ref") => `(tactic| (k_here; (with_reducible rename News _ _ _ _ => nN); k_dflt (refine PyProof.Rows.add_lists (hsz := ?_) (by k_asm) nN ⟨_, (nN (_, _) (by k_mem)).1, rfl, _, rfl⟩ ⟨_, (nN (_, _) (by k_mem)).1, rfl, _, rfl⟩ ?_; (simp only [List.length_append, List.length_cons, List.length_nil, sizeLine_eq]; omega)); intro _ _ _))
theorem Tr.row_len : ∀ t : Tr, t.row.length = 2 * t.ops + 1
  | .leaf _ => rfl
  | .node k l r => by
    have h1 := Tr.row_len l
    have h2 := Tr.row_len r
    show ([k] ++ l.row ++ r.row).length = 2 * (l.ops + r.ops + 1) + 1
    simp only [List.length_append, List.length_cons, List.length_nil]
    (first | lia | omega)
local macro_rules | `(tactic| walk_at $s:str) => `(tactic| k_extra $s)
theorem tree_fn {w : World} {mean : ExcName → Option Value} {mg mb : Str → Option Value} (ka ra na : Addr) (ks rs ns : List Int) (n : Nat) : ∀ (low high : Int) (t1 t2 : Tok), 0 ≤ low → high ≤ ks.length → high = low + n →
    Fn w mean mg mb 43 [.ref ka, .ref ra, .ref na, .int low t1, .int high t2] (fun h => Lists h ka ra na ks rs ns) (fun d => ∃ t : Tr, t.good ∧ t.ops = n ∧ d = t.dat) (n + 4) (8 * n + 60) := by
  induction n using Nat.strongRecOn with
  | ind n IH =>
  intro low high t1 t2 hlo hhi hnn
  unfold Fn PR
  k_fill
  intro dp un gd cn cs a ccd cl outer A₀ base h₀ L m s Q E B F X T hk pre hd hu hret
  obtain ⟨⟨vk, hlk, hik⟩, ⟨vr, hlr, hir⟩, ⟨vn, hln, hin⟩, elr0, eln0, hle, gk, gn⟩ := pre
  have elr : Stop (rs.length = ks.length) := elr0
  have eln : Stop (ns.length = ks.length + 1) := eln0
  have hr1 : ks.length ≤ rs.length := Nat.le_of_eq elr0.symm
  have hr2 : rs.length ≤ 7 := Nat.le_trans (Nat.le_of_eq elr0) hle
  have hn1 : ks.length + 1 ≤ ns.length := Nat.le_of_eq eln0.symm
  have hn2 : ns.length ≤ 8 := Nat.le_trans (Nat.le_of_eq eln0) (Nat.succ_le_succ hle)
  have hh1 : high ≤ low + n := Int.le_of_eq hnn
  have hh2 : low + n ≤ high := Int.le_of_eq hnn.symm
  have hn7 : n ≤ 7 := by (first | lia | omega)
  clear elr0 eln0 hnn
  refine wpAny_call ?_
  k_dflt (refine' enterP (binds := [(Str.ofString "kinds", Value.ref ka), (Str.ofString "ranks", Value.ref ra), (Str.ofString "numbers", Value.ref na), (Str.ofString "low", Value.int low t1), (Str.ofString "high", Value.int high t2)]) ?k1 ?k2 ?k3 ?k5 ?kA ?kF ?kK ?k6 ?k7 ?k8 ?k9 ?kB ?_ ?c2 ?c3 ?c4 ?c5; (case kA => exact rfl); (case kF => exact rfl); (case kK => assumption); (case k1 => k_asm); (case k2 => k_asm); (case k3 => k_asm); (case k5 => k_asm); (case k6 => k_is); (case k7 => k_is); (case k8 => ktr_room); (case k9 => exact BindsTo.of_eq rfl); (case c5 => decide); (case kB => exact locs rfl); (case c2 => exact rfl); (case c3 => exact rfl); (case c4 => exact rfl); k_whole; intro L' h' F' N' B' X' T'; (try dsimp only); (try k_fold))
  clear B F X T
  k_with_none
  (k_with "eval ListComp" => refine stop ?_)
  (k_with "pyIter ref" => refine stop ?_)
  (k_with "call ref" => refine stop ?_)
  k_steps
  all_goals (try dsimp only)
  all_goals (try (k_unfold; try dsimp only))
  · unfold Stop
    have hg : 64 ≤ ns.getD low.toNat 0 ∧ ns.getD low.toNat 0 ≤ 255 := gn _ (PyProof.Rows.getD_mem (by (first | lia | omega)) (by (first | lia | omega)))
    generalize hv : ns.getD low.toNat 0 = v at hg
    k_dflt (refine ListComp_B (F₀ := by k_asm) (by rfl) (by decide) (by rfl) (by decide) (by rfl) ?_)
    k_steps
    rw [hv]
    unfold Stop
    k_dflt (refine' Fn.useB (int2ap_fn2 _ _ hg) ?c1 ?c2 ?c3 ?c4 ?c5 ?c6 trivial ?c8 ?c9 ?_; (case c1 => k_asm); (case c2 => k_asm); (case c3 => k_asm); (case c4 => k_asm); (case c5 => k_asm); (case c6 => first | exact rfl | assumption); (case c8 => ktr_room); (case c9 => ktr_units))
    intro t9 h9 tk9 F9 N9
    refine ⟨_, _, _, rfl, rfl, F9, N9, by (show (2 : Nat) ≤ sizeLine; decide), ?_⟩
    rintro s₂ ⟨g, rfl⟩
    refine compRest (fun i y => ∃ t, y = .str ⟨#[if i = 0 then 65 + (v / 16).toNat else 65 + (v % 16).toNat]⟩ t) trivial ?_ ?_
    · rintro i x I oI C oC D m₂ ys h tk E' hi ⟨c, u, hc, rfl⟩ hC hx F N
      dsimp only
      have hcb := c.toNat_lt
      k_steps
      have hsz : #[UInt8.ofNat (65 + (v / 16).toNat), UInt8.ofNat (65 + (v % 16).toNat)].size = 2 := rfl
      rw [hsz] at hi
      have h16 : (65 + (v / 16).toNat) < 256 := by (first | lia | omega)
      have h17 : (65 + (v % 16).toNat) < 256 := by (first | lia | omega)
      refine ⟨⟨tk, ?_⟩, _, _, rfl, fun _ _ e => e⟩
      rcases i with _ | i
      · cases hc
        simp [UInt8.toNat_ofNat', Nat.mod_eq_of_lt h16]; (first | lia | omega)
      · obtain rfl : i = 0 := by (first | lia | omega)
        cases hc
        simp [UInt8.toNat_ofNat', Nat.mod_eq_of_lt h17]; (first | lia | omega)
    · intro ys hlen hG
      rcases ys with _ | ⟨y0, _ | ⟨y1, _ | ⟨_, _⟩⟩⟩
      · cases hlen
      · cases hlen
      · obtain ⟨u0, rfl⟩ := hG 0 _ rfl
        obtain ⟨u1, rfl⟩ := hG 1 _ rfl
        intro D h tk F N off
        dsimp only
        k_steps
        have ej : Txt.join (Str.ofString "") [⟨#[65 + (v / 16).toNat]⟩, ⟨#[65 + (v % 16).toNat]⟩] = piece v := by
          unfold piece; rw [if_pos (by (first | lia | omega))]; rfl
        k_dflt (refine SC.join (l := [(_, _), (_, _)]) (texts := [⟨#[65 + (v / 16).toNat]⟩, ⟨#[65 + (v % 16).toNat]⟩]) ⟨_, (N _ (.head _)).1, rfl, _, rfl⟩ rfl rfl ?_)
        rw [ej]
        intro t3 k3
        dsimp only
        k_steps
        show Ret _ _ _
        rw [hv] at *
        rename News _ _ _ _ => Nl
        rename Fr _ _ _ _ => Fl
        refine hret _ _ _ _ _ Fl.keep (Fresh.of Nl) ⟨.leaf v, hg, ?_, rfl⟩ ?_
        · show 0 = n; (first | lia | omega)
        · exact DatIn.tuple (by k_mem) (.cons (.str _ _) (.cons (.int _ _) (.cons (DatIn.list (by k_mem) (.cons (.int _ _) .nil)) .nil)))
      · cases hlen
  · unfold Stop
    refine' rangeT (σ := Int × Tok) n (fun _ => []) (fun c => [(Str.ofString "top", Value.int c.1 c.2)]) [Str.ofString "top", Str.ofString "place"] (fun _ c => low ≤ c.1 ∧ c.1 < high) (low, _) ?wh ?wr ?ws ?wz ?wF ?wN ?wk ?wn ?wp ?_ ?_
    case wh => rfl
    case wr => assumption
    case ws => exact small_one (by (first | lia | omega)) (by (first | lia | omega)) (by (first | lia | omega)) (by (first | lia | omega))
    case wz => (unfold Builtin.Range.rangeSize; rw [if_pos (by decide), if_pos (by (first | lia | omega))]; (first | lia | omega))
    case wF => k_asm
    case wN => k_asm
    case wk => (repeat (refine Has.cons ?_ ?_; rfl)); exact Has.nil
    case wn => exact fun _ h => nomatch h
    case wp => exact ⟨by (show low ≤ low; (first | lia | omega)), by (show low < high; (first | lia | omega))⟩
    · intro i c t u h tk own hi hP hoff F9 N9
      dsimp only [kstB] at F9
      k_fold
      obtain ⟨hP1, hP2⟩ := hP
      k_steps
      · refine' FPost.next (low + (i : Int), _) ?wF ?wN ?wk ?wr ?wn ?wo ?wa ?wp
        case wF => k_asm
        case wN => k_asm
        case wk => (repeat (refine Has.cons ?_ ?_; rfl)); exact Has.nil
        case wr => (repeat (refine Same.set rfl ?_)); exact Same.base
        case wn => exact fun _ h => nomatch h
        case wo => exact fun _ h => h
        case wa => exact fun _ _ _ h => nomatch h
        case wp => exact ⟨by (show low ≤ low + (i : Int); (first | lia | omega)), by (show low + (i : Int) < high; (first | lia | omega))⟩
      · refine' FPost.next c ?wF ?wN ?wk ?wr ?wn ?wo ?wa ?wp
        case wF => k_asm
        case wN => k_asm
        case wk => (repeat (refine Has.cons ?_ ?_; rfl)); exact Has.nil
        case wr => (repeat (refine Same.set rfl ?_)); exact Same.base
        case wn => exact fun _ h => nomatch h
        case wo => exact fun _ h => h
        case wa => exact fun _ _ _ h => nomatch h
        case wp => exact ⟨hP1, hP2⟩
    · intro c u h tk hP F9 N9
      dsimp only [kstB] at F9
      obtain ⟨hP1, hP2⟩ := hP
      dsimp only
      k_steps
      unfold Stop
      have hk9 := gk _ (PyProof.Rows.getD_mem (ns := ks) (i := c.1) (by (first | lia | omega)) (by (first | lia | omega)))
      k_dflt (refine' Fn.useT (IH (c.1 - low).toNat (by (first | lia | omega)) low c.1 _ _ hlo (by (first | lia | omega)) (by (first | lia | omega))) ?c1 ?c2 ?c3 ?c4 ?c5 ?c6 ?c7 ?c8 ?c9 ?_; (case c1 => k_asm); (case c2 => k_asm); (case c3 => k_asm); (case c4 => k_asm); (case c5 => k_asm); (case c6 => first | exact rfl | assumption); (case c7 => exact ⟨⟨vk, F9.lst hlk, hik⟩, ⟨vr, F9.lst hlr, hir⟩, ⟨vn, F9.lst hln, hin⟩, stop elr, stop eln, hle, gk, gn⟩); (case c8 => ktr_room); (case c9 => ktr_units))
      intro tl al ll u1 u2 zl e1 e2 hl9 tkl gl ol il Fl Nl
      dsimp only
      have hol : tl.ops ≤ 7 := by (first | lia | omega)
      have hlen1 : tl.text.length ≤ 65 := Nat.le_trans (Tr.text_len gl) (by (first | lia | omega))
      have olS : Stop (tl.ops = (c.1 - low).toNat) := ol
      have hzl : zl.length ≤ 15 := by (have h := il.length; rw [Tr.row_len] at h; (first | lia | omega))
      clear ol hol
      (k_with "exec If" => refine stop ?_)
      (k_with "exec If Compare cons nil" => refine stop ?_)
      k_steps
      unfold Stop
      refine if_set (by k_asm) (by k_asm) (Str.ofString "ahead") (Tr.par (decide (tl.bind < ks.getD c.1.toNat 0)) tl.text) ?_ ?_
      · k_with_none
        k_steps
        · exact SetS.set (by assumption) (by assumption) (fun _ h => h) (by unfold Tr.par; rw [decide_eq_true (by assumption)]; rfl)
        · exact SetS.kept (by assumption) (by assumption) (fun _ h => h) (by unfold Tr.par; rw [decide_eq_false (by assumption)]; rfl)
      intro h6 tk6 t6 F6 N6
      dsimp only
      have hpar1 : (Tr.par (decide (tl.bind < ks.getD c.1.toNat 0)) tl.text).length ≤ 100 := by
        unfold Tr.par; split <;> ((try simp only [Str.length_append, one_op, one_cl]); (first | lia | omega))
      generalize hx1 : Tr.par (decide (tl.bind < ks.getD c.1.toNat 0)) tl.text = x1 at *
      (k_with "call ref" => refine stop ?_)
      (k_with "exec If" => refine stop ?_)
      (k_with "exec If Compare cons nil" => refine stop ?_)
      k_steps
      unfold Stop
      k_dflt (refine' Fn.useT (IH (high - (c.1 + 1)).toNat (by (first | lia | omega)) (c.1 + 1) high _ _ (by (first | lia | omega)) hhi (by (first | lia | omega))) ?c1 ?c2 ?c3 ?c4 ?c5 ?c6 ?c7 ?c8 ?c9 ?_; (case c1 => k_asm); (case c2 => k_asm); (case c3 => k_asm); (case c4 => k_asm); (case c5 => k_asm); (case c6 => first | exact rfl | assumption); (case c7 => exact ⟨⟨vk, Fr.lst (by assumption) hlk, hik⟩, ⟨vr, Fr.lst (by assumption) hlr, hir⟩, ⟨vn, Fr.lst (by assumption) hln, hin⟩, stop elr, stop eln, hle, gk, gn⟩); (case c8 => ktr_room); (case c9 => ktr_units))
      intro tr ar lr v1 v2 zr f1 f2 hr9 tkr gr or ir Fr9 Nr9
      dsimp only
      have hor : tr.ops ≤ 7 := by (first | lia | omega)
      have hlen2 : tr.text.length ≤ 65 := Nat.le_trans (Tr.text_len gr) (by (first | lia | omega))
      have orS : Stop (tr.ops = (high - (c.1 + 1)).toNat) := or
      have hzr : zr.length ≤ 15 := by (have h := ir.length; rw [Tr.row_len] at h; (first | lia | omega))
      clear or hor
      k_steps
      unfold Stop
      refine if_set (by k_asm) (by k_asm) (Str.ofString "behind") (Tr.par (decide (tr.bind ≤ ks.getD c.1.toNat 0)) tr.text) ?_ ?_
      · k_with_none
        k_steps
        · exact SetS.set (by assumption) (by assumption) (fun _ h => h) (by unfold Tr.par; rw [decide_eq_true (by assumption)]; rfl)
        · exact SetS.kept (by assumption) (by assumption) (fun _ h => h) (by unfold Tr.par; rw [decide_eq_false (by assumption)]; rfl)
      intro h7 tk7 t7 F7 N7
      dsimp only
      have hpar2 : (Tr.par (decide (tr.bind ≤ ks.getD c.1.toNat 0)) tr.text).length ≤ 100 := by
        unfold Tr.par; split <;> ((try simp only [Str.length_append, one_op, one_cl]); (first | lia | omega))
      generalize hx2 : Tr.par (decide (tr.bind ≤ ks.getD c.1.toNat 0)) tr.text = x2 at *
      (k_with "call ref" => refine stop ?_)
      k_steps
      unfold Stop
      have hpl := piece_len (k := ks.getD c.1.toNat 0) (by (first | lia | omega))
      k_dflt (refine' Fn.useS (piece_fn (ks.getD c.1.toNat 0) _ (by (first | lia | omega))) ?c1 ?c2 ?c3 ?c4 ?c5 ?c6 trivial ?c8 ?c9 ?_; (case c1 => k_asm); (case c2 => k_asm); (case c3 => k_asm); (case c4 => k_asm); (case c5 => k_asm); (case c6 => first | exact rfl | assumption); (case c8 => ktr_room); (case c9 => ktr_units))
      intro t8 h8 tk8 F8 N8
      dsimp only
      k_steps
      show Ret _ _ _
      rename News _ _ _ _ => Ne
      rename Fr _ _ _ _ => Fe
      dsimp only at Ne
      have et : (Tr.node (ks.getD c.1.toNat 0) tl tr).text = x1 ++ piece (ks.getD c.1.toNat 0) ++ x2 := by
        show Tr.par _ _ ++ _ ++ Tr.par _ _ = _
        rw [hx1, hx2]
      refine hret _ _ _ _ _ Fe.keep (Fresh.of Ne) ⟨.node (ks.getD c.1.toNat 0) tl tr, ⟨hk9, gl, gr⟩, ?_, rfl⟩ ?_
      · show tl.ops + tr.ops + 1 = n
        rw [stop olS, stop orS]
        (first | lia | omega)
      · unfold Tr.dat
        rw [et]
        exact DatIn.tuple (by k_mem) (.cons (.str _ _) (.cons (.int _ _) (.cons (DatIn.list (by k_mem) (dat_of_ints (IntsAre.append (IntsAre.append (.cons _ _ .nil) il) ir))) .nil)))
end Mine
namespace Mine
/- the text of a row of tokens -/
noncomputable def pl (k : Int) : List Nat := (piece k).cps.toList
noncomputable def textL (ts : List Int) : List Nat := ts.flatMap pl
noncomputable def tx (ts : List Int) : Str := ⟨(textL ts).toArray⟩
noncomputable def isTok (k : Int) : Prop := 7 ≤ k ∧ k ≤ 54 ∨ 64 ≤ k ∧ k ≤ 255
/- a row that is cut as it was put together -/
noncomputable def Row : List Int → Prop
  | [] => True
  | [a] => isTok a
  | a :: b :: r => isTok a ∧ (64 ≤ a → b < 64) ∧ (9 ≤ a → a < 64 → b < 9 ∨ 64 ≤ b) ∧ Row (b :: r)
noncomputable def kindOf (k : Int) : Int := if 64 ≤ k then 1 else k
noncomputable def cutD (ts : List Int) : List Dat := ts.map (fun k => Dat.tuple [.int (kindOf k), .str (piece k)])
theorem textL_cons (a : Int) (r : List Int) : textL (a :: r) = pl a ++ textL r := rfl
theorem textL_append (a b : List Int) : textL (a ++ b) = textL a ++ textL b := by simp [textL]
theorem tok_len {k : Int} (h : isTok k) : (pl k).length ≤ 3 := by
  have := piece_len h
  unfold pl
  rw [Array.length_toList]; exact this
theorem Row.toks : ∀ {ts : List Int}, Row ts → ∀ k ∈ ts, isTok k
  | [], _, _, h => nomatch h
  | [a], h, k, hk => by rw [List.mem_singleton.mp hk]; exact h
  | a :: b :: r, h, k, hk => by
    rcases List.mem_cons.mp hk with rfl | hk
    · exact h.1
    · exact Row.toks h.2.2.2 k hk
theorem Row.tail {a : Int} : ∀ {r : List Int}, Row (a :: r) → Row r
  | [], _ => trivial
  | _ :: _, h => h.2.2.2
theorem Row.drop {ts : List Int} (h : Row ts) : ∀ i, Row (ts.drop i) := by
  intro i
  induction i generalizing ts with
  | zero => exact h
  | succ i ih =>
    cases ts with
    | nil => exact trivial
    | cons a r => exact ih h.tail
theorem textL_len : ∀ {ts : List Int}, (∀ k ∈ ts, isTok k) → (textL ts).length ≤ 3 * ts.length
  | [], _ => Nat.le_refl _
  | a :: r, h => by
    have h1 := tok_len (h a (.head _))
    have h2 := textL_len (ts := r) fun k hk => h k (.tail _ hk)
    show (textL (a :: r)).length ≤ 3 * (r.length + 1)
    rw [textL_cons, List.length_append]; (first | lia | omega)
/- letters, brackets -/
noncomputable def isLet (c : Nat) : Prop := 65 ≤ c ∧ c ≤ 80
noncomputable def isStop (c : Nat) : Prop := isLet c ∨ c = 40 ∨ c = 41
noncomputable def signsLL : List (List Nat) := signsL.map (·.cps.toList)
theorem pl_word {k : Int} (h : 64 ≤ k ∧ k ≤ 255) : pl k = [65 + (k / 16).toNat, 65 + (k % 16).toNat] := by
  unfold pl piece; rw [if_pos (by (first | lia | omega))]
theorem pl_op {k : Int} (h : k ≤ 63) : pl k = (signsL.getD (k - 7).toNat Str.empty).cps.toList := by
  unfold pl piece; rw [if_neg (by (first | lia | omega))]
theorem signs_facts : ∀ i : Nat, i < 48 → (signsL.getD i Str.empty).cps.toList ∈ signsLL ∧ (signsL.getD i Str.empty).cps.toList ≠ [] ∧ (signsL.getD i Str.empty).cps.toList.all (fun c => !(65 ≤ c && c ≤ 80) && c < 128) = true := by decide +kernel
theorem signs_stop : ∀ y ∈ signsLL, 2 ≤ y.length → y.all (fun c => !(65 ≤ c && c ≤ 80) && c != 40 && c != 41) = true := by decide +kernel
theorem signs_len : ∀ y ∈ signsLL, y.length ≤ 3 := by decide +kernel
theorem pl_lp : pl 7 = [40] := by decide +kernel
theorem pl_rp : pl 8 = [41] := by decide +kernel
theorem op_facts {k : Int} (h : 7 ≤ k ∧ k ≤ 54) : pl k ∈ signsLL ∧ pl k ≠ [] ∧ ∀ c ∈ pl k, ¬ isLet c ∧ c < 128 := by
  rw [pl_op (by (first | lia | omega))]
  obtain ⟨h1, h2, h3⟩ := signs_facts (k - 7).toNat (by (first | lia | omega))
  refine ⟨h1, h2, fun c hc => ?_⟩
  have := List.all_eq_true.mp h3 c hc
  simp only [Bool.and_eq_true, Bool.not_eq_true', Bool.and_eq_false_iff, decide_eq_false_iff_not, decide_eq_true_eq] at this
  unfold isLet; (first | lia | omega)
theorem tok_ne {k : Int} (h : isTok k) : pl k ≠ [] := by
  rcases h with h | h
  · exact (op_facts h).2.1
  · rw [pl_word h]; simp
theorem tok_small {k : Int} (h : isTok k) : ∀ c ∈ pl k, c < 128 := by
  rcases h with h | h
  · exact fun c hc => ((op_facts h).2.2 c hc).2
  · rw [pl_word h]
    intro c hc
    simp only [List.mem_cons, List.not_mem_nil, or_false] at hc
    (first | lia | omega)
theorem text_small {ts : List Int} (h : ∀ k ∈ ts, isTok k) : ∀ c ∈ textL ts, c < 128 := by
  intro c hc
  obtain ⟨k, hk, hc⟩ := List.mem_flatMap.mp hc
  exact tok_small (h k hk) c hc
/- what stands behind a token -/
theorem behind {k : Int} {r : List Int} (h : Row (k :: r)) : textL r = [] ∨ ∃ c rest, textL r = c :: rest ∧ (64 ≤ k → ¬ isLet c) ∧ (9 ≤ k → k < 64 → isStop c) := by
  cases r with
  | nil => exact .inl rfl
  | cons b r =>
    right
    obtain ⟨h1, h2, h3, h4⟩ := h
    have hb : isTok b := h4.toks b (.head _)
    rw [textL_cons]
    cases hp : pl b with
    | nil => exact absurd hp (tok_ne hb)
    | cons c q =>
      refine ⟨c, q ++ textL r, rfl, fun hk => ?_, fun hk hk2 => ?_⟩
      · have := h2 hk
        rcases hb with hb | hb
        · exact ((op_facts hb).2.2 c (by rw [hp]; exact .head _)).1
        · (first | lia | omega)
      · rcases hb with hb | hb
        · rcases h3 hk hk2 with q | q
          · have : b = 7 ∨ b = 8 := by (first | lia | omega)
            rcases this with rfl | rfl
            · rw [pl_lp] at hp; cases hp; exact .inr (.inl rfl)
            · rw [pl_rp] at hp; cases hp; exact .inr (.inr rfl)
          · (first | lia | omega)
        · rw [pl_word hb] at hp
          cases hp
          left; unfold isLet; (first | lia | omega)
/- the longest piece of the table is the token -/
theorem longest {k : Int} {r : List Int} (h : Row (k :: r)) (hk : 7 ≤ k ∧ k ≤ 54) {size : Nat} (h1 : 1 ≤ size) (h3 : size ≤ 3) (hno : ∀ j, size < j → j ≤ 3 → (pl k ++ textL r).take j ∉ signsLL)
    (hyes : size = 1 ∨ (pl k ++ textL r).take size ∈ signsLL) : (pl k ++ textL r).take size = pl k ∧ (size = (pl k).length ∨ textL r = []) := by
  obtain ⟨hs, hne, hc⟩ := op_facts hk
  have hn3 := signs_len _ hs
  have hn1 : 1 ≤ (pl k).length := by
    cases hp : pl k with
    | nil => exact absurd hp hne
    | cons _ _ => simp
  rcases behind h with e | ⟨c, rest, e, _, hst⟩
  · rw [e, List.append_nil] at hno hyes ⊢
    by_cases h33 : size = 3
    · subst h33
      exact ⟨List.take_of_length_le hn3, .inr rfl⟩
    · exact absurd (by rw [List.take_of_length_le hn3]; exact hs) (hno 3 (by (first | lia | omega)) (by (first | lia | omega)))
  · have big : ∀ j, (pl k).length < j → (pl k ++ textL r).take j ∉ signsLL := by
      intro j hj hm
      have hall := signs_stop _ hm (by rw [e]; simp; (first | lia | omega))
      have hall' : ∀ x ∈ (pl k ++ textL r).take j, ¬ isStop x := fun x hx => by
        have := List.all_eq_true.mp hall x hx
        simp only [Bool.and_eq_true, Bool.not_eq_true', Bool.and_eq_false_iff, decide_eq_false_iff_not, bne_iff_ne, ne_eq] at this
        unfold isStop isLet; (first | lia | omega)
      by_cases h9 : 9 ≤ k
      · refine hall' c ?_ (hst h9 (by (first | lia | omega)))
        rw [e, List.mem_take_iff_getElem]
        refine ⟨(pl k).length, by simp; (first | lia | omega), by simp⟩
      · have : k = 7 ∨ k = 8 := by (first | lia | omega)
        rcases this with rfl | rfl
        · refine hall' 40 ?_ (.inr (.inl rfl))
          rw [pl_lp] at hj ⊢
          rw [List.mem_take_iff_getElem]
          exact ⟨0, by simp at hj ⊢; (first | lia | omega), rfl⟩
        · refine hall' 41 ?_ (.inr (.inr rfl))
          rw [pl_rp] at hj ⊢
          rw [List.mem_take_iff_getElem]
          exact ⟨0, by simp at hj ⊢; (first | lia | omega), rfl⟩
    have hle : size ≤ (pl k).length := by
      by_cases q : size ≤ (pl k).length
      · exact q
      · exfalso
        rcases hyes with q2 | q2
        · (first | lia | omega)
        · exact big size (by (first | lia | omega)) q2
    have hge : (pl k).length ≤ size := by
      by_cases q : (pl k).length ≤ size
      · exact q
      · exfalso
        refine hno (pl k).length (by (first | lia | omega)) hn3 ?_
        rw [List.take_left' rfl]; exact hs
    have heq : size = (pl k).length := by (first | lia | omega)
    exact ⟨by rw [heq, List.take_left' rfl], .inl heq⟩
end Mine
namespace Mine
noncomputable def wlen (k : Int) : Nat := if 64 ≤ k then 2 else 0
theorem lets {k : Int} {r : List Int} (h : Row (k :: r)) : (∀ j, j < wlen k → isLet ((pl k ++ textL r).getD j 0)) ∧ (wlen k < (pl k ++ textL r).length → ¬ isLet ((pl k ++ textL r).getD (wlen k) 0)) ∧ wlen k ≤ (pl k ++ textL r).length := by
  have hk := h.toks k (.head _)
  unfold wlen
  rcases hk with hk | hk
  · rw [if_neg (by (first | lia | omega))]
    refine ⟨fun j hj => absurd hj (Nat.not_lt_zero _), fun _ => ?_, Nat.zero_le _⟩
    cases hp : pl k with
    | nil => exact absurd hp (tok_ne (.inl hk))
    | cons c q => exact ((op_facts hk).2.2 c (by rw [hp]; exact .head _)).1
  · rw [if_pos hk.1, pl_word hk]
    refine ⟨fun j hj => ?_, fun hl => ?_, by simp⟩
    · have : j = 0 ∨ j = 1 := by (first | lia | omega)
      rcases this with rfl | rfl
      · show isLet (65 + (k / 16).toNat); unfold isLet; (first | lia | omega)
      · show isLet (65 + (k % 16).toNat); unfold isLet; (first | lia | omega)
    · rcases behind h with e | ⟨c, rest, e, hc, _⟩
      · rw [e] at hl; simp at hl
      · rw [e]; exact hc hk.1
theorem getD_drop' (l : List Nat) (p j : Nat) : (l.drop p).getD j 0 = l.getD (p + j) 0 := by
  simp [List.getD_eq_getElem?_getD, List.getElem?_drop]
theorem item_tx {ts : List Int} {j : Int} (h0 : 0 ≤ j) (h1 : j < ((textL ts).length : Int)) : Txt.item (tx ts) j = ⟨#[(textL ts).getD j.toNat 0]⟩ := by
  unfold Txt.item Txt.charAt seqIndex?
  have e : (tx ts).length = (textL ts).length := by show (textL ts).toArray.size = _; simp
  have hj : ¬ j < 0 := by (first | lia | omega)
  simp only [hj, if_false, e]
  have c : (decide (0 ≤ j) && decide (j < ((textL ts).length : Int))) = true := by simp [h0, h1]
  rw [if_pos c]
  show (⟨#[((textL ts).toArray[j.toNat]?).getD 0]⟩ : Str) = _
  simp [List.getD_eq_getElem?_getD]
theorem occ_let : ∀ c : Nat, c < 128 → (Builtin.Str.occurrences (Str.ofString "ABCDEFGHIJKLMNOP") ⟨#[c]⟩ 0 (Str.ofString "ABCDEFGHIJKLMNOP").length 1).isEmpty = !(65 ≤ c && c ≤ 80) := by decide +kernel
theorem occ_tx {ts : List Int} (h : ∀ k ∈ ts, isTok k) {j : Int} (h0 : 0 ≤ j) (h1 : j < ((textL ts).length : Int)) :
    ((Builtin.Str.occurrences (Str.ofString "ABCDEFGHIJKLMNOP") (Txt.item (tx ts) j) 0 (Str.ofString "ABCDEFGHIJKLMNOP").length 1).isEmpty = true ↔ ¬ isLet ((textL ts).getD j.toNat 0)) := by
  rw [item_tx h0 h1, occ_let _ (by
    refine text_small h _ ?_
    have hj : j.toNat < (textL ts).length := by (first | lia | omega)
    simp [List.getD_eq_getElem?_getD, hj])]
  unfold isLet
  simp only [Bool.not_eq_true', Bool.and_eq_false_iff, decide_eq_false_iff_not]
  (first | lia | omega)
/- token i begins at place p -/
structure Here (ts : List Int) (p i : Nat) (k : Int) (r : List Int) : Prop where
  row : Row (k :: r)
  lt : i < ts.length
  take : ts.take (i + 1) = ts.take i ++ [k]
  at_ : p = (textL (ts.take i)).length
  drop : (textL ts).drop p = pl k ++ textL r
  rest : ts.drop (i + 1) = r
theorem here_of {ts : List Int} (hr : Row ts) {p i : Nat} (hi : i ≤ ts.length) (hp : p = (textL (ts.take i)).length) (hlt : p < (textL ts).length) : ∃ k r, Here ts p i k r := by
  have hlt' : i < ts.length := by
    by_cases q : i < ts.length
    · exact q
    · have : i = ts.length := by (first | lia | omega)
      subst this
      rw [List.take_length] at hp
      (first | lia | omega)
  have hd := List.drop_eq_getElem_cons hlt'
  refine ⟨ts[i], ts.drop (i + 1), ?_, hlt', ?_, hp, ?_, rfl⟩
  · rw [← hd]; exact hr.drop i
  · rw [List.take_append_getElem hlt']
  · have e : textL ts = textL (ts.take i) ++ textL (ts.drop i) := by rw [← textL_append, List.take_append_drop]
    rw [hp, e, List.drop_left' rfl, hd, textL_cons]
theorem Here.len {ts : List Int} {p i : Nat} {k : Int} {r : List Int} (h : Here ts p i k r) : (textL ts).length = p + (pl k).length + (textL r).length := by
  have e := congrArg List.length h.drop
  rw [List.length_drop, List.length_append] at e
  have hle : p ≤ (textL ts).length := by
    rw [h.at_]
    conv => rhs; rw [← List.take_append_drop i ts, textL_append]
    rw [List.length_append]; (first | lia | omega)
  (first | lia | omega)
/- the letters from p on -/
theorem Here.exit {ts : List Int} {p i : Nat} {k : Int} {r : List Int} (h : Here ts p i k r) {j : Int} (h0 : (p : Int) ≤ j) (h1 : j ≤ p + wlen k) (hx : ((textL ts).length : Int) ≤ j ∨ (j < ((textL ts).length : Int) ∧ ¬ isLet ((textL ts).getD j.toNat 0))) : j = p + wlen k := by
  obtain ⟨l1, l2, l3⟩ := lets h.row
  rw [List.length_append] at l3
  have hl := h.len
  by_cases q : j = p + wlen k
  · exact q
  · exfalso
    rcases hx with hx | hx
    · (first | lia | omega)
    · have := l1 (j.toNat - p) (by (first | lia | omega))
      rw [← h.drop, getD_drop', show p + (j.toNat - p) = j.toNat by (first | lia | omega)] at this
      exact hx.2 this
theorem Here.goes {ts : List Int} {p i : Nat} {k : Int} {r : List Int} (h : Here ts p i k r) {j : Int} (h0 : (p : Int) ≤ j) (h1 : j ≤ p + wlen k) (hx : j < ((textL ts).length : Int)) (hy : isLet ((textL ts).getD j.toNat 0)) : j < p + wlen k := by
  obtain ⟨l1, l2, l3⟩ := lets h.row
  by_cases q : j < p + wlen k
  · exact q
  · exfalso
    have e : j.toNat = p + wlen k := by (first | lia | omega)
    refine l2 ?_ ?_
    · rw [List.length_append]; have := h.len; (first | lia | omega)
    · rw [← h.drop, getD_drop', ← e]; exact hy
end Mine
namespace Mine
open Builtin.Str in
theorem slice_nat (x : Str) (a b : Nat) (l u : Option Int) (e : strSliceIndices l u 1 x.length = sliceRange (a : Int) (b : Int) 1) (ha : a ≤ x.length) (hb : b ≤ x.length) : Txt.slice x l u = ⟨((x.cps.toList.drop a).take (b - a)).toArray⟩ := by
  unfold Txt.slice
  rw [e, sliceRange_one, pick_run]
  have hl : x.length = x.cps.toList.length := by rw [Array.length_toList]; rfl
  split
  · rename_i h
    simp only [List.length_map, List.length_range, beq_self_eq_true, Bool.true_and, beq_iff_eq] at h
    have h0 : x.length = 0 ∨ (a = 0 ∧ b = x.length) := by (first | lia | omega)
    rcases h0 with h0 | ⟨h0, h1⟩
    · have : x.cps.toList = [] := List.length_eq_zero_iff.mp (by (first | lia | omega))
      rw [this, List.drop_nil, List.take_nil]
      have e2 : x.cps = #[] := Array.toList_eq_nil_iff.mp this
      obtain ⟨c⟩ := x
      simp only at e2
      rw [e2]
    · subst h0
      rw [h1, List.drop_zero, Nat.sub_zero, hl, List.take_length, Array.toArray_toList]
  · rfl
open Builtin.Str in
theorem slice_ss (x : Str) {a b : Int} (ha : 0 ≤ a) (hb : 0 ≤ b) : Txt.slice x (some a) (some b) = ⟨((x.cps.toList.drop a.toNat).take (b.toNat - a.toNat)).toArray⟩ := by
  have hl : x.length = x.cps.toList.length := by rw [Array.length_toList]; rfl
  rw [slice_nat x (min a.toNat x.length) (min b.toNat x.length) (some a) (some b) ?_ (Nat.min_le_right _ _) (Nat.min_le_right _ _)]
  · congr 2
    generalize x.cps.toList = q at hl
    rw [hl]
    by_cases h1 : a.toNat ≤ q.length
    · rw [Nat.min_eq_left h1]
      by_cases h2 : b.toNat ≤ q.length
      · rw [Nat.min_eq_left h2]
      · rw [Nat.min_eq_right (by (first | lia | omega)), List.take_of_length_le (by simp), List.take_of_length_le (by simp; (first | lia | omega))]
    · have m1 : min a.toNat q.length = q.length := Nat.min_eq_right (by (first | lia | omega))
      rw [m1, List.drop_eq_nil_of_le (Nat.le_refl q.length), List.drop_eq_nil_of_le (show q.length ≤ a.toNat by (first | lia | omega))]
      simp
  · unfold strSliceIndices
    have h1 : ¬ a < 0 := by (first | lia | omega)
    have h2 : ¬ b < 0 := by (first | lia | omega)
    simp only [show (1 : Int) > 0 by decide, if_true, h1, h2, if_false]
    congr 1 <;> (first | lia | omega)
open Builtin.Str in
theorem slice_ns (x : Str) {b : Int} (hb : 0 ≤ b) : Txt.slice x none (some b) = ⟨(x.cps.toList.take b.toNat).toArray⟩ := by
  have h := slice_ss x (a := 0) (Int.le_refl _) hb
  have e : Txt.slice x none (some b) = Txt.slice x (some 0) (some b) := by
    unfold Txt.slice
    have : strSliceIndices none (some b) 1 x.length = strSliceIndices (some 0) (some b) 1 x.length := by
      unfold strSliceIndices
      simp only [show (1 : Int) > 0 by decide, if_true, show ¬ (0 : Int) < 0 by decide, if_false]
      congr 1
    rw [this]
  rw [e, h]; simp
open Builtin.Str in
theorem slice_sn (x : Str) {a : Int} (ha : 0 ≤ a) : Txt.slice x (some a) none = ⟨(x.cps.toList.drop a.toNat).toArray⟩ := by
  have hl : x.length = x.cps.toList.length := by rw [Array.length_toList]; rfl
  have h := slice_ss x (a := a) (b := (x.length : Int)) ha (by (first | lia | omega))
  have e : Txt.slice x (some a) none = Txt.slice x (some a) (some (x.length : Int)) := by
    unfold Txt.slice
    have : strSliceIndices (some a) none 1 x.length = strSliceIndices (some a) (some (x.length : Int)) 1 x.length := by
      unfold strSliceIndices
      have h1 : ¬ a < 0 := by (first | lia | omega)
      have h2 : ¬ (x.length : Int) < 0 := by (first | lia | omega)
      simp only [show (1 : Int) > 0 by decide, if_true, h1, h2, if_false]
      congr 1; (first | lia | omega)
    rw [this]
  rw [e, h, List.take_of_length_le (by rw [List.length_drop, ← hl]; (first | lia | omega))]
theorem tx_list (ts : List Int) : (tx ts).cps.toList = textL ts := rfl
theorem piece_eq (k : Int) : piece k = ⟨(pl k).toArray⟩ := by unfold pl; rw [Array.toArray_toList]
theorem Here.word {ts : List Int} {p i : Nat} {k : Int} {r : List Int} (h : Here ts p i k r) (hk : 64 ≤ k) {a b : Int} (ea : a = p) (eb : b = p + wlen k) : Txt.slice (tx ts) (some a) (some b) = piece k := by
  rw [slice_ss _ (by (first | lia | omega)) (by (first | lia | omega)), tx_list, piece_eq]
  have hb := h.row.toks k (.head _)
  have h2 : 64 ≤ k ∧ k ≤ 255 := by rcases hb with hb | hb <;> (first | lia | omega)
  have hw : wlen k = 2 := by unfold wlen; rw [if_pos hk]
  have e1 : a.toNat = p := by (first | lia | omega)
  have e2 : b.toNat - a.toNat = (pl k).length := by rw [pl_word h2]; show _ = 2; (first | lia | omega)
  rw [e2, e1, h.drop, List.take_left' rfl]
theorem Here.cut {ts : List Int} {p i : Nat} {k : Int} {r : List Int} (h : Here ts p i k r) {a b : Int} {n : Nat} (ea : a = p) (eb : b = p + n) : Txt.slice (tx ts) (some a) (some b) = ⟨((pl k ++ textL r).take n).toArray⟩ := by
  rw [slice_ss _ (by (first | lia | omega)) (by (first | lia | omega)), tx_list]
  have e1 : a.toNat = p := by (first | lia | omega)
  have e2 : b.toNat - a.toNat = n := by (first | lia | omega)
  rw [e2, e1, h.drop]
end Mine
namespace Mine
noncomputable def tabL : List (String × Int) := [("!", 54), ("!=", 28), ("%", 24), ("%=", 40), ("&", 19), ("&=", 41), ("(", 7), (")", 8), ("*", 16), ("**", 35), ("**=", 46), ("*=", 38), ("+", 14), ("+=", 36), (",", 12), ("-", 15), ("-=", 37), ("->", 51), (".", 23), ("...", 52), ("/", 17), ("//", 47), ("//=", 48), ("/=", 39), (":", 11), (":=", 53), (";", 13), ("<", 20), ("<<", 33), ("<<=", 44), ("<=", 29), ("=", 22), ("==", 27), (">", 21), (">=", 30), (">>", 34), (">>=", 45), ("@", 49), ("@=", 50), ("[", 9), ("]", 10), ("^", 32), ("^=", 43), ("{", 25), ("|", 18), ("|=", 42), ("}", 26), ("~", 31)]
noncomputable def tabD : List (Str × KTD.Dat) := tabL.map fun p => (Str.ofString p.1, .flat (.int p.2))
theorem tab_K {w : World} {h : Heap} (X : (Mine.hd.heap_39 w.params).In h) : KTD.TextTab h 22 tabD := KTD.text_of_look X (by kernel_rfl)
theorem tab_k1 : ∀ p ∈ tabD.map (·.1.cps.toList), p ∈ signsLL := by decide +kernel
theorem tab_k2 : ∀ y ∈ signsLL, y ∈ tabD.map (·.1.cps.toList) := by decide +kernel
theorem inKeys_iff {y : Str} : ∀ {D : List (Str × KTD.Dat)}, KTD.inKeys y D = true ↔ y ∈ D.map (·.1)
  | [] => by simp [KTD.inKeys]
  | (x, d) :: D => by
    show (decide (y = x) || KTD.inKeys y D) = true ↔ _
    rw [Bool.or_eq_true, decide_eq_true_eq, inKeys_iff (D := D), List.map_cons, List.mem_cons]
theorem str_eq_of {x y : Str} (h : x.cps.toList = y.cps.toList) : x = y := by
  obtain ⟨x⟩ := x
  obtain ⟨y⟩ := y
  congr 1
  exact Array.toList_inj.mp h
theorem in_tab {y : Str} : KTD.inKeys y tabD = true ↔ y.cps.toList ∈ signsLL := by
  rw [inKeys_iff]
  constructor
  · intro h
    obtain ⟨p, hp, rfl⟩ := List.mem_map.mp h
    exact tab_k1 _ (List.mem_map.mpr ⟨p, hp, rfl⟩)
  · intro h
    obtain ⟨p, hp, e⟩ := List.mem_map.mp (tab_k2 _ h)
    exact List.mem_map.mpr ⟨p, hp, str_eq_of e⟩
noncomputable def isInt : Option KTD.Dat → Option Int
  | some (.flat (.int j)) => some j
  | _ => none
theorem tab_at' : ∀ i : Nat, i < 48 → isInt (KTD.datumAt (signsL.getD i Str.empty) tabD) = some (i + 7 : Int) := by decide +kernel
theorem tab_at {k : Int} (h : 7 ≤ k ∧ k ≤ 54) : KTD.datumAt (piece k) tabD = some (.flat (.int k)) := by
  have e := tab_at' (k - 7).toNat (by omega)
  have ep : piece k = signsL.getD (k - 7).toNat Str.empty := by unfold piece; rw [if_neg (by omega)]
  rw [← ep] at e
  generalize KTD.datumAt (piece k) tabD = o at e
  unfold isInt at e
  split at e
  · simp only [Option.some.injEq] at e
    subst e
    congr 3; omega
  · cases e
theorem eachL_of {h : Heap} {y : Str} {P : Value → Prop} : ∀ {D : List (Str × KTD.Dat)}, (∀ d, KTD.datumAt y D = some d → KTD.Opened h P d) → KTD.EachL h y P D
  | [], _ => trivial
  | [(x, d)], H => fun e => H d (by subst e; simp [KTD.datumAt])
  | (x, d) :: p :: D, H => by
    refine KTD.eachL_ite ?_
    by_cases e : y = x
    · rw [if_pos (decide_eq_true e)]
      exact H d (by subst e; simp [KTD.datumAt])
    · rw [if_neg (by simp [e])]
      refine eachL_of fun d' hd' => H d' ?_
      show (if decide (y = x) = true then some d else KTD.datumAt y (p :: D)) = some d'
      rw [if_neg (by simp [e])]; exact hd'
section
variable {prog : Program} {w : World} {A : Around} {E : Value → Shared → Prop} {s : Shared} {h₀ : Heap}
theorem item_tab {value slice : Expr} {k : Int} {tk : Tok} {Q : Value → Shared → Prop} (T : KTD.TextTab h₀ 22 tabD) (hkeep : ∀ b o, h₀.get? b = some o → s.heap.get? b = some o) (hk : 7 ≤ k ∧ k ≤ 54) (h : ∀ t, Q (.int k t) { s with toks := s.toks + 1 })
    (hs : subscripted slice false (.ref 22) (.str (piece k) tk) = operate [.ref 22, .str (piece k) tk] (getItem (.ref 22) (.str (piece k) tk)) := by with_unfolding_all rfl) :
    wpAny (model prog w) A (subscriptTail value slice (.ref 22) (.str (piece k) tk)) Q E s := by
  refine KTD.item_textA (h₀ := h₀) (D := tabD) ⟨T, hkeep⟩ (by decide +kernel) (in_tab.mpr (op_facts hk).1) (eachL_of fun d hd => ?_) hs
  rw [tab_at hk] at hd
  cases hd
  exact KTD.opened_int h
end
end Mine
namespace Mine
theorem words_W4 : True := by
  w_top off
  k_with_none
  trivial
section
local macro_rules | `(tactic| walk_at $s:str) => `(tactic| k_extra $s)
local macro_rules | `(tactic| walk_at "compareOp NotIn str ref") => `(tactic| (k_here; (with_reducible rename Fr _ _ _ _ => nF); refine KTD.notin_text (D := tabD) ⟨by assumption, nF.keep⟩ ?_))
set_option genSizeOf false in
set_option genSizeOfSpec false in
set_option genInjectivity false in
structure S4 where
  place : Int
  tp : Tok
  vs : List Value
  nl : Nat
  rest : List (Addr × Obj)
  i : Nat
/- i tokens are cut -/
structure S4.ok (ts : List Int) (pa : Addr) (c : S4) : Prop where
  le : c.i ≤ ts.length
  at_ : c.place = ((textL (ts.take c.i)).length : Int) ∨ (c.i = ts.length ∧ ((textL ts).length : Int) ≤ c.place)
  lo : 0 ≤ c.place
  hi : c.place ≤ (textL ts).length + 3
  dat : DatAll c.rest c.vs (cutD (ts.take c.i))
  off : ∀ q ∈ c.rest, q.1 ≠ pa
theorem S4.len {ts : List Int} {pa : Addr} {c : S4} (h : S4.ok ts pa c) : c.vs.length ≤ ts.length := by
  have e := h.dat.length
  unfold cutD at e
  rw [List.length_map, List.length_take] at e
  have := h.le
  (first | lia | omega)
structure Siz4 (k : Int) (r : List Int) (n : Int) : Prop where
  lo : 1 ≤ n
  hi : n ≤ 3
  no : ∀ j : Nat, n < j → j ≤ 3 → (pl k ++ textL r).take j ∉ signsLL
/- one more token is cut -/
theorem S4.step {ts : List Int} {pa : Addr} {c : S4} {k : Int} {r : List Int} (h : S4.ok ts pa c) (H : Here ts c.place.toNat c.i k r) {D : Addr} {place : Int} {t t1 t2 : Tok} (hD : D ≠ pa) (hp : (place = c.place + (pl k).length) ∨ (textL r = [] ∧ place = c.place + 3)) :
    S4.ok ts pa ⟨place, t, c.vs ++ [.ref D], c.nl + 1, (D, ({ cls := .type "tuple", data := .seq #[.int (kindOf k) t1, .str (piece k) t2] } : Obj)) :: c.rest, c.i + 1⟩ := by
  have hlo := h.lo
  have hlen := H.len
  have h3 := tok_len (H.row.toks k (.head _))
  have hlt := H.lt
  have hat := H.at_
  have et : (textL (ts.take (c.i + 1))).length = c.place.toNat + (pl k).length := by
    rw [H.take, textL_append, List.length_append, ← hat]
    show _ + (textL [k]).length = _
    rw [textL_cons]; simp [textL]
  refine ⟨hlt, ?_, ?_, ?_, ?_, ?_⟩
  · show place = ((textL (ts.take (c.i + 1))).length : Int) ∨ (c.i + 1 = ts.length ∧ ((textL ts).length : Int) ≤ place)
    rcases hp with hp | ⟨hp, hp2⟩
    · left; rw [et]; (first | lia | omega)
    · right
      have hr0 : r = [] := by
        cases r with
        | nil => rfl
        | cons b q =>
          rw [textL_cons] at hp
          exact absurd (List.append_eq_nil_iff.mp hp).1 (tok_ne (H.row.toks b (.tail _ (.head _))))
      have hd := congrArg List.length H.rest
      rw [List.length_drop, hr0] at hd
      rw [hp] at hlen
      simp only [List.length_nil] at hd hlen
      (first | lia | omega)
  · show 0 ≤ place; (first | lia | omega)
  · show place ≤ (textL ts).length + 3; (first | lia | omega)
  · show DatAll (_ :: c.rest) (c.vs ++ [.ref D]) (cutD (ts.take (c.i + 1)))
    rw [H.take]
    unfold cutD
    rw [List.map_append]
    refine DatAll.append (h.dat.mono fun p hp => .tail _ hp) (DatAll.one ?_)
    exact DatIn.tuple (vs := [.int (kindOf k) t1, .str (piece k) t2]) (.head _) (.cons (.int _ _) (.cons (.str _ _) .nil))
  · intro q hq
    rcases List.mem_cons.mp hq with rfl | hq
    · exact hD
    · exact h.off q hq
theorem S4.fin {ts : List Int} {pa : Addr} {c : S4} (h : S4.ok ts pa c) (hr : Row ts) (hx : ¬ c.place < ((textL ts).length : Int)) : c.i = ts.length := by
  rcases h.at_ with q | q
  · by_cases hi : c.i < ts.length
    · exfalso
      have hd := List.drop_eq_getElem_cons hi
      have e : textL ts = textL (ts.take c.i) ++ textL (ts.drop c.i) := by rw [← textL_append, List.take_append_drop]
      have el := congrArg List.length e
      rw [hd, textL_cons, List.length_append, List.length_append] at el
      have hne := tok_ne (hr.toks ts[c.i] (List.getElem_mem hi))
      have : 0 < (pl ts[c.i]).length := List.length_pos_iff.mpr hne
      (first | lia | omega)
    · have := h.le; (first | lia | omega)
  · exact q.1
theorem pieces_fn {w : World} {mean : ExcName → Option Value} {mg mb : Str → Option Value} (ts : List Int) (tk : Tok) (hr : Row ts) (hl : ts.length ≤ 64) :
    Fn w mean mg mb 50 [.str (tx ts) tk] (fun _ => True) (fun d => d = Dat.list (cutD ts ++ [Dat.tuple [.int 0, .str Str.empty]])) 3 60 := by
  unfold Fn PR
  k_fill
  intro dp un gd cn cs a ccd cl outer A₀ base h₀ L m s Q E B F X T hk pre hd hu hret
  refine wpAny_call ?_
  k_dflt (refine' enterP (binds := [(Str.ofString "text", Value.str (tx ts) tk)]) ?k1 ?k2 ?k3 ?k5 ?kA ?kF ?kK ?k6 ?k7 ?k8 ?k9 ?kB ?_ ?c2 ?c3 ?c4 ?c5; (case kA => exact rfl); (case kF => exact rfl); (case kK => assumption); (case k1 => k_asm); (case k2 => k_asm); (case k3 => k_asm); (case k5 => k_asm); (case k6 => k_is); (case k7 => k_is); (case k8 => ktr_room); (case k9 => exact BindsTo.of_eq rfl); (case c5 => decide); (case kB => exact locs rfl); (case c2 => exact rfl); (case c3 => exact rfl); (case c4 => exact rfl); k_whole; intro L' h' F' N' B' X' T'; (try dsimp only); (try k_fold))
  clear B F X T
  have TT := tab_K X'
  have hxl : (tx ts).length = (textL ts).length := by show (textL ts).toArray.size = _; simp
  have hT192 : (textL ts).length ≤ 192 := Nat.le_trans (textL_len hr.toks) (Nat.mul_le_mul_left 3 hl)
  generalize hX : tx ts = x at *
  k_with_none
  (k_with "exec While Compare cons nil" => refine stop ?_)
  (k_with "exec While BoolOp cons nil" => refine stop ?_)
  (k_with "call builtin:list.append" => refine stop ?_)
  k_steps
  unfold Stop
  rename_i tkA pa hA l1 hB hC F1 N1
  refine' whileT (σ := S4) (fun c => (pa, listOf c.vs.toArray c.nl) :: c.rest) (fun c => [(Str.ofString "place", Value.int c.place c.tp)]) [Str.ofString "place", Str.ofString "start", Str.ofString "size"] (fun c => S4.ok ts pa c) (fun c => ts.length - c.i) ⟨0, _, [], 0, [], 0⟩ ?wF ?wN ?wk ?wn ?wp ?_ ?wE
  case wF => k_asm
  case wN => k_asm
  case wk => (repeat (refine Has.cons ?_ ?_; rfl)); exact Has.nil
  case wn => exact fun _ h => h
  case wE => exact PassesOwn.never
  case wp => exact ⟨Nat.zero_le _, .inl rfl, Int.le_refl _, by (show (0 : Int) ≤ _; (first | lia | omega)), .nil, fun _ h => nomatch h⟩
  intro c u h9 tk9 hP9 F9 N9
  dsimp only [kstB] at F9
  try dsimp only
  k_fold
  k_steps
  · unfold Stop
    have hlo := hP9.lo
    have hplt : c.place < ((textL ts).length : Int) := by (first | lia | omega)
    obtain ⟨k, r, H⟩ := here_of hr (p := c.place.toNat) hP9.le (by rcases hP9.at_ with q | q <;> (first | lia | omega)) (by (first | lia | omega))
    refine' whileD (σ := Int × Tok) (fun _ => (pa, listOf c.vs.toArray c.nl) :: c.rest) (fun d => [(Str.ofString "place", Value.int d.1 d.2)]) [Str.ofString "place"] (fun d => (c.place.toNat : Int) ≤ d.1 ∧ d.1 ≤ c.place.toNat + wlen k) (fun d => d.1 = c.place.toNat + wlen k) (fun d => (c.place.toNat + wlen k - d.1).toNat) (c.place, _) ?wF ?wN ?wk ?wn ?wp ?_ ?_ ?wE
    case wF => k_asm
    case wN => k_asm
    case wk => (repeat (refine Has.cons ?_ ?_; rfl)); exact Has.nil
    case wn => exact fun _ h => h
    case wE => exact PassesOwn.never
    case wp => exact ⟨by (show _ ≤ c.place; (first | lia | omega)), by (show c.place ≤ _; (first | lia | omega))⟩
    · intro d u2 h8 tk8 hP8 F8 N8
      dsimp only [kstB] at F8
      try dsimp only
      k_fold
      obtain ⟨hd1, hd2⟩ := hP8
      have hwl : wlen k ≤ 2 := by unfold wlen; split <;> (first | lia | omega)
      k_steps
      · rename_i _ _ hcc
        rw [← hX] at hcc
        refine' TEnd.intro (d.1, _) ?wF ?wN ?wk ?wr ?wn ?wp
        case wF => k_asm
        case wN => k_asm
        case wk => (repeat (refine Has.cons ?_ ?_; rfl)); exact Has.nil
        case wr => (repeat (refine Same.set rfl ?_)); exact Same.base
        case wn => exact fun _ h => h
        case wp => exact H.exit hd1 hd2 (.inr ⟨by (first | lia | omega), (occ_tx hr.toks (by (first | lia | omega)) (by (first | lia | omega))).mp hcc⟩)
      · rename_i hcc h7 F7 N7
        rw [← hX] at hcc
        have hgo := H.goes hd1 hd2 (by (first | lia | omega)) (by
          by_cases q : isLet ((textL ts).getD d.1.toNat 0)
          · exact q
          · rw [(occ_tx hr.toks (by (first | lia | omega)) (by (first | lia | omega))).mpr q] at hcc; cases hcc)
        refine' TPost.next (d.1 + 1, _) ?wF ?wN ?wk ?wr ?wn ?wp
        case wF => k_asm
        case wN => k_asm
        case wk => (repeat (refine Has.cons ?_ ?_; rfl)); exact Has.nil
        case wr => (repeat (refine Same.set rfl ?_)); exact Same.base
        case wn => exact fun _ h => h
        case wp => exact ⟨⟨by (show _ ≤ d.1 + 1; (first | lia | omega)), by (show d.1 + 1 ≤ _; (first | lia | omega))⟩, by (show (c.place.toNat + wlen k - (d.1 + 1)).toNat < (c.place.toNat + wlen k - d.1).toNat; (first | lia | omega))⟩
      · refine' TEnd.intro (d.1, _) ?wF ?wN ?wk ?wr ?wn ?wp
        case wF => k_asm
        case wN => k_asm
        case wk => (repeat (refine Has.cons ?_ ?_; rfl)); exact Has.nil
        case wr => (repeat (refine Same.set rfl ?_)); exact Same.base
        case wn => exact fun _ h => h
        case wp => exact H.exit hd1 hd2 (.inl (by (first | lia | omega)))
    · intro d u2 h8 tk8 hR8 F8 N8
      dsimp only [kstB] at F8
      try dsimp only
      have hR8' : d.1 = c.place.toNat + wlen k := hR8
      have hwl : wlen k ≤ 2 := by unfold wlen; split <;> (first | lia | omega)
      k_steps
      · unfold Stop
        rename_i hgt hE tS kS hsl D1 hD FD ND lD
        have hk64 : 64 ≤ k := by
          by_cases q : 64 ≤ k
          · exact q
          · have : wlen k = 0 := by unfold wlen; rw [if_neg q]
            (first | lia | omega)
        have es : Txt.slice x (some c.place) (some d.1) = piece k := by rw [← hX]; exact H.word hk64 (by (first | lia | omega)) hR8'
        have ek : kindOf k = 1 := by unfold kindOf; rw [if_pos hk64]
        rw [es, ← ek] at ND
        have hsz := S4.len hP9
        refine appendN FD ND (.tail _ (.head _)) ((D1, ({ cls := .type "tuple", data := .seq #[.int (kindOf k) tk8, .str (piece k) tS] } : Obj)) :: c.rest) ?_ ?_ (by rw [sizeLine_eq]; (first | lia | omega)) ?_
        · intro q hq
          rcases List.mem_cons.mp hq with rfl | hq
          · exact .head _
          · exact .tail _ (.tail _ hq)
        · intro q hq
          rcases List.mem_cons.mp hq with rfl | hq
          · exact Nat.ne_of_gt lD.1
          · exact hP9.off q hq
        intro h6 F6 N6
        dsimp only
        k_steps
        have hpl : (pl k).length = 2 := by
          have hb := H.row.toks k (.head _)
          rw [pl_word (by rcases hb with hb | hb <;> (first | lia | omega))]; rfl
        have hw2 : wlen k = 2 := by unfold wlen; rw [if_pos hk64]
        refine' TPost.next ⟨d.1, _, c.vs ++ [.ref D1], c.nl + 1, (D1, ({ cls := .type "tuple", data := .seq #[.int (kindOf k) tk8, .str (piece k) tS] } : Obj)) :: c.rest, c.i + 1⟩ ?wF ?wN ?wk ?wr ?wn ?wp
        case wF => k_asm
        case wN => k_asm
        case wk => (repeat (refine Has.cons ?_ ?_; rfl)); exact Has.nil
        case wr => repeat' (first | exact Same.base | exact Same.refl _ _ | refine Same.set rfl ?_ | refine Same.sub rfl ?_)
        case wn => exact fun _ h => h
        case wp => exact ⟨S4.step hP9 H (Nat.ne_of_gt lD.1) (.inl (by (first | lia | omega))), Nat.sub_lt_sub_left H.lt (Nat.lt_succ_self _)⟩
      · unfold Stop
        have hk54 : k < 64 := by
          by_cases q : 64 ≤ k
          · have : wlen k = 2 := by unfold wlen; rw [if_pos q]
            (first | lia | omega)
          · (first | lia | omega)
        have hw0 : wlen k = 0 := by unfold wlen; rw [if_neg (by (first | lia | omega))]
        have hkk : 7 ≤ k ∧ k ≤ 54 := by
          have hb := H.row.toks k (.head _)
          rcases hb with hb | hb <;> (first | lia | omega)
        have hdp : d.1 = c.place.toNat := by (first | lia | omega)
        refine' whileD (σ := Int × Tok) (fun _ => (pa, listOf c.vs.toArray c.nl) :: c.rest) (fun e => [(Str.ofString "size", Value.int e.1 e.2)]) [Str.ofString "size"] (fun e => Siz4 k r e.1) (fun e => Siz4 k r e.1 ∧ (e.1 = 1 ∨ (pl k ++ textL r).take e.1.toNat ∈ signsLL)) (fun e => e.1.toNat) (3, _) ?wF ?wN ?wk ?wn ?wp ?_ ?_ ?wE
        case wF => k_asm
        case wN => k_asm
        case wk => (repeat (refine Has.cons ?_ ?_; rfl)); exact Has.nil
        case wn => exact fun _ h => h
        case wE => exact PassesOwn.never
        case wp => exact ⟨by (show (1 : Int) ≤ 3; decide), by (show (3 : Int) ≤ 3; decide), fun j h1 h2 => by (have h1' : (3 : Int) < j := h1; (first | lia | omega))⟩
        · intro e u3 h7 tk7 hP7 F7 N7
          dsimp only [kstB] at F7
          try dsimp only
          k_fold
          obtain ⟨he1, he2, he3⟩ := hP7
          k_steps
          · rename_i hcc
            have hcut := H.cut (a := d.1) (b := d.1 + e.1) (n := e.1.toNat) hdp (by (first | lia | omega))
            rw [hX] at hcut
            rw [hcut] at hcc
            refine' TEnd.intro e ?wF ?wN ?wk ?wr ?wn ?wp
            case wF => k_asm
            case wN => k_asm
            case wk => (repeat (refine Has.cons ?_ ?_; rfl)); exact Has.nil
            case wr => repeat' (first | exact Same.base | exact Same.refl _ _ | refine Same.set rfl ?_ | refine Same.sub rfl ?_)
            case wn => exact fun _ h => h
            case wp => exact ⟨⟨he1, he2, he3⟩, .inr (in_tab.mp hcc)⟩
          · rename_i hcc h6 F6 N6
            have hcut := H.cut (a := d.1) (b := d.1 + e.1) (n := e.1.toNat) hdp (by (first | lia | omega))
            rw [hX] at hcut
            rw [hcut] at hcc
            have hnot : (pl k ++ textL r).take e.1.toNat ∉ signsLL := fun q => by
              rw [in_tab.mpr q] at hcc; cases hcc
            refine' TPost.next (e.1 - 1, _) ?wF ?wN ?wk ?wr ?wn ?wp
            case wF => k_asm
            case wN => k_asm
            case wk => (repeat (refine Has.cons ?_ ?_; rfl)); exact Has.nil
            case wr => repeat' (first | exact Same.base | exact Same.refl _ _ | refine Same.set rfl ?_ | refine Same.sub rfl ?_)
            case wn => exact fun _ h => h
            case wp =>
              refine ⟨⟨?_, ?_, ?_⟩, ?_⟩
              · show 1 ≤ e.1 - 1; (first | lia | omega)
              · show e.1 - 1 ≤ 3; (first | lia | omega)
              · intro j hj1 hj2
                have hj1' : e.1 - 1 < (j : Int) := hj1
                by_cases q : e.1 < (j : Int)
                · exact he3 j q hj2
                · have : j = e.1.toNat := by (first | lia | omega)
                  rw [this]; exact hnot
              · show (e.1 - 1).toNat < e.1.toNat; (first | lia | omega)
          · refine' TEnd.intro e ?wF ?wN ?wk ?wr ?wn ?wp
            case wF => k_asm
            case wN => k_asm
            case wk => (repeat (refine Has.cons ?_ ?_; rfl)); exact Has.nil
            case wr => repeat' (first | exact Same.base | exact Same.refl _ _ | refine Same.set rfl ?_ | refine Same.sub rfl ?_)
            case wn => exact fun _ h => h
            case wp => exact ⟨⟨he1, he2, he3⟩, .inl (by (first | lia | omega))⟩
        · intro e u3 h7 tk7 hR7 F7 N7
          dsimp only [kstB] at F7
          try dsimp only
          obtain ⟨⟨he1, he2, he3⟩, he4⟩ := hR7
          have hlg := longest H.row hkk (size := e.1.toNat) (by (first | lia | omega)) (by (first | lia | omega)) (fun j h1 h2 => he3 j (by (first | lia | omega)) h2) (by rcases he4 with q | q; exact .inl (by (first | lia | omega)); exact .inr q)
          have es : Txt.slice x (some d.1) (some (d.1 + e.1)) = piece k := by
            rw [← hX, H.cut (a := d.1) (b := d.1 + e.1) (n := e.1.toNat) hdp (by (first | lia | omega)), hlg.1, piece_eq]
          (k_with "subscriptTail Name Subscript ref str" => (rw [es]; refine item_tab TT (Fr.keep (by assumption)) hkk ?_; intro tI))
          k_steps
          unfold Stop
          rename_i tS kS hsl D1 hD FD ND lD
          have ek : kindOf k = k := by unfold kindOf; rw [if_neg (by (first | lia | omega))]
          rw [es, ← ek] at ND
          have hsz := S4.len hP9
          refine appendN FD ND (.tail _ (.head _)) ((D1, ({ cls := .type "tuple", data := .seq #[.int (kindOf k) tI, .str (piece (kindOf k)) tS] } : Obj)) :: c.rest) ?_ ?_ (by rw [sizeLine_eq]; (first | lia | omega)) ?_
          · intro q hq
            rcases List.mem_cons.mp hq with rfl | hq
            · exact .head _
            · exact .tail _ (.tail _ hq)
          · intro q hq
            rcases List.mem_cons.mp hq with rfl | hq
            · exact Nat.ne_of_gt lD.1
            · exact hP9.off q hq
          intro h6 F6 N6
          dsimp only
          k_steps
          refine' TPost.next ⟨d.1 + e.1, _, c.vs ++ [.ref D1], c.nl + 1, (D1, ({ cls := .type "tuple", data := .seq #[.int (kindOf k) tI, .str (piece (kindOf k)) tS] } : Obj)) :: c.rest, c.i + 1⟩ ?wF ?wN ?wk ?wr ?wn ?wp
          case wF => k_asm
          case wN => k_asm
          case wk => (repeat (refine Has.cons ?_ ?_; rfl)); exact Has.nil
          case wr => repeat' (first | exact Same.base | exact Same.refl _ _ | refine Same.set rfl ?_ | refine Same.sub rfl ?_)
          case wn => exact fun _ h => h
          case wp =>
            refine ⟨?_, Nat.sub_lt_sub_left H.lt (Nat.lt_succ_self _)⟩
            have e1 : piece (kindOf k) = piece k := by rw [ek]
            rw [e1]
            refine S4.step hP9 H (Nat.ne_of_gt lD.1) ?_
            rcases hlg.2 with q | q
            · left; (first | lia | omega)
            · by_cases q3 : e.1 = 3
              · right; exact ⟨q, by (first | lia | omega)⟩
              · left
                have h1 := congrArg List.length hlg.1
                rw [q, List.append_nil, List.length_take] at h1
                exfalso
                refine he3 3 (by (first | lia | omega)) (by (first | lia | omega)) ?_
                rw [q, List.append_nil, List.take_of_length_le (signs_len _ (op_facts hkk).1)]
                exact (op_facts hkk).1
  · rename_i hnl D1 h1 l1a l2 h2 F2 N2 l1b
    have hfin := S4.fin hP9 hr (by (first | lia | omega))
    have hdat := hP9.dat
    rw [hfin, List.take_length] at hdat
    have hsz := S4.len hP9
    refine PyProof.Rows.add_lists (vs := c.vs) (ws := [.ref D1]) (hsz := by (simp only [List.length_cons, List.length_nil, sizeLine_eq]; (first | lia | omega))) F2 N2 ⟨_, (N2 (pa, _) (.tail _ (.tail _ (.head _)))).1, rfl, _, rfl⟩ ⟨_, (N2 (l2, _) (.head _)).1, rfl, _, rfl⟩ ?_
    intro h3 F3 N3
    show Ret _ _ _
    refine hret _ _ _ _ _ F3.keep (Fresh.of N3) rfl ?_
    refine DatIn.list (.head _) (DatAll.append (hdat.mono fun p hp => .tail _ (.tail _ (.tail _ (.tail _ hp)))) (DatAll.one ?_))
    exact DatIn.tuple (vs := [.int 0 tk, .str (Str.ofString "") (tk + 1)]) (.tail _ (.tail _ (.head _))) (.cons (.int _ _) (.cons (.str _ _) .nil))
end
end Mine
namespace Mine
section
variable {prog : Program} {w : World} {A : Around} {Q : Flow → Shared → Prop} {s : Shared} {env : Env} {h₀ : Heap} {L : Addr} {target : Expr} {body : List Stmt}
/- a for's source has been reckoned -/
noncomputable def ForAt (prog : Program) (w : World) (A : Around) (env : Env) (target : Expr) (body : List Stmt) (Q : Flow → Shared → Prop) (xv : Value) (s₁ : Shared) : Prop :=
  wpAny (model prog w) A (pyIter xv) (fun it s₂ => codeAny (model prog w) A (.forLoop target it body [] env) (fun r s' => match r with | .ok f => Q f s' | .error e => cameBackBy (model prog w) A env (fun _ _ => False) e s') s₂) (fun _ _ => False) s₁
theorem for_start {iter : Expr} {pos : Pos} (h : wpAny (model prog w) A (eval iter env) (ForAt prog w A env target body Q) (fun _ _ => False) s) (hs : ∀ x, foldedSetIterable iter env x = pure x) :
    wpAny (model prog w) A (exec (.For target iter body [] pos) env) Q (fun _ _ => False) s := wpAny_For h hs
theorem forLoop2 {R : Result → Shared → Prop} {it : Value} {orelse : List Stmt} (I : Nat → Shared → Prop)
    (turn : ∀ n s, I n s → wpAny (model prog w) A (pyNext it) (fun r s₁ => match r with
      | none => wpAny (model prog w) A (execs orelse env) (fun f s₃ => R (.ok f) s₃) (fun _ _ => False) s₁
      | some v => wpAny (model prog w) A (letOwnedTupleGo target it v) (fun _ s₁' => wpAny (model prog w) A (assign target env v) (fun _ s₂ => wpAny (model prog w) A (execs body env) (fun f s₃ => match f with
          | .next | .cont => ∃ m, m < n ∧ I m s₃
          | .brk => R (.ok .next) s₃
          | .ret v => R (.ok (.ret v)) s₃) (fun _ _ => False) s₂) (fun _ _ => False) s₁') (fun _ _ => False) s₁) (fun _ _ => False) s)
    (n : Nat) (h : I n s) : codeAny (model prog w) A (.forLoop target it body orelse env) R s := by
  refine codeAny_loop' rfl I (fun n s hI => ?_) n h
  show wpAny _ _ ((forTurn target it body orelse env).onRaise (fun x => do noteFrame x env; theTreesLotGoes x)) _ _ s
  refine wpAny_noted ?_
  simp only [forTurn]
  refine wpAny_bind (wpAny_standAt (wpAny_bind (wpAny_onRaise (wpAny_mono (turn n s hI) (fun r s₁ h₁ => ?_) fun _ _ h' => h'.elim))))
  cases r with
  | none => exact wpAny_pure (.inr ⟨rfl, codeAny_block (wpAny_mono h₁ (fun _ _ x => x) fun _ _ x => x.elim)⟩)
  | some v =>
    refine wpAny_bind (wpAny_mono h₁ (fun _ s₁' h₁' => ?_) fun _ _ x => x.elim)
    refine wpAny_bind (wpAny_mono h₁' (fun _ s₂ h₂ => wpAny_bind (wpAny_mono h₂ (fun f s₃ h₃ => ?_) fun _ _ h' => h'.elim)) fun _ _ h' => h'.elim)
    cases f with
    | next => exact wpAny_pure (.inl ⟨rfl, h₃⟩)
    | cont => exact wpAny_pure (.inl ⟨rfl, h₃⟩)
    | brk => exact wpAny_pure h₃
    | ret v => exact wpAny_pure h₃
/- between two turns of forT -/
inductive TInv {σ : Type} (h₀ : Heap) (L l I : Addr) (s : Shared) (vs : List Value) (Led : σ → List (Addr × Obj)) (ps : σ → List (Str × Value)) (stored : List Str) (m₀ : Str → Option Value) (P : Nat → σ → Prop) : Nat → Shared → Prop
  | mk (h' : Heap) (tk : Nat) (m' : Str → Option Value) (c : σ) (i : Nat) (st : h'.IsListIter I l i ∧ h'.IsList l vs.toArray) (F : Fr h₀ L h' m') (N : News h₀ L h' (Led c)) (off : ∀ p ∈ Led c, p.1 ≠ I) (hk : Has m' (ps c)) (hs : Same m' m₀ stored) (hp : P i c) (hi : i ≤ vs.length) :
    TInv h₀ L l I s vs Led ps stored m₀ P (vs.length + 1 - i) { s with heap := h', toks := tk }
/- a for of a tuple of names over a list of the ledger -/
theorem forT {σ : Type} {l : Addr} {vs : List Value} {nn : Nat} {m₀ : Str → Option Value} {news : List (Addr × Obj)} (Led : σ → List (Addr × Obj)) (ps : σ → List (Str × Value)) (stored : List Str) (P : Nat → σ → Prop) (c₀ : σ)
    (hh : A.handled = none) (hl : ∀ c, (l, listOf vs.toArray nn) ∈ Led c) (F : Fr h₀ L s.heap m₀) (N : News h₀ L s.heap news)
    (hk : Has m₀ (ps c₀)) (hn : ∀ p ∈ Led c₀, p ∈ news) (hp : P 0 c₀)
    (turn : ∀ (i : Nat) v (c : σ) (u : Str → Option Value) h tk own, vs[i]? = some v → P i c → OwnOff own ((Led c).map (·.1)) →
      Fr h₀ L h (kstB (fun z => if stored.contains z then u z else m₀ z) (ps c)) → News h₀ L h (Led c ++ own) →
      wpAny (model prog w) A (assign target env v) (fun _ s₂ => wpAny (model prog w) A (execs body env) (FPost h₀ L { s with heap := h, toks := tk } Led ps stored m₀ (P (i + 1)) own (fun _ _ => False)) (fun _ _ => False) s₂) (fun _ _ => False) { s with heap := h, toks := tk })
    (done : ∀ (c : σ) (u : Str → Option Value) h tk, P vs.length c → Fr h₀ L h (kstB (fun z => if stored.contains z then u z else m₀ z) (ps c)) → News h₀ L h (Led c) → Q .next { s with heap := h, toks := tk })
    (ht : ∃ elts x1 pos, target = .Tuple elts x1 pos) (hrefs : ∀ v ∈ vs, ∃ T, v = .ref T) :
    ForAt prog w A env target body Q (.ref l) s := by
  obtain ⟨elts, x1, pos, rfl⟩ := ht
  unfold ForAt
  have hol : s.heap.get? l = some (listOf vs.toArray nn) := (N _ (hn _ (hl c₀))).1
  have hls : s.heap.IsList l vs.toArray := ⟨_, hol, rfl, nn, rfl⟩
  have hne : l ≠ s.heap.objs.size := Nat.ne_of_lt (Heap.lt_size hol)
  refine wpAny_pyIter_list hls ?_
  have W := Walks.list (prog := prog) (w := w) hh s.heap.objs.size l hne vs.toArray
  have hlen : vs.toArray.size = vs.length := by simp
  rw [hlen] at W
  have hI0 : h₀.get? s.heap.objs.size = none := next_is_new F
  have hIL : L ≠ s.heap.objs.size := Nat.ne_of_lt F.ns.lt
  refine forLoop2
    (TInv h₀ L l s.heap.objs.size s vs Led ps stored m₀ P) ?_ (vs.length + 1)
    (.mk _ _ m₀ c₀ 0 ⟨⟨_, Heap.get?_push_size _ rfl, rfl, rfl⟩, hls.at fun o e => Heap.get?_push_of_some _ e⟩ (F.push _) (fun p hp => ⟨Heap.get?_push_of_some _ (N p (hn p hp)).1, (N p (hn p hp)).2⟩) (fun p hp => Nat.ne_of_lt (Heap.lt_size (N p (hn p hp)).1)) hk (Same.refl _ _) hp (Nat.zero_le _))
  rintro k s' ⟨h', tk, m', c, i, hst, F', N', hoff, h1, h2, hP, hi⟩
  by_cases hlt : i < vs.length
  · refine W.item i _ _ _ hlt hst fun v h₁ tk₁ hPv hst₁ hk₁ => ?_
    have hkeep : ∀ b o, b ≠ s.heap.objs.size → h'.get? b = some o → h₁.get? b = some o := fun b o hb e => hk₁ b o (by simpa using hb) e
    obtain ⟨oI, hoI, hrI⟩ := hst₁.1
    have F₁ : Fr h₀ L h₁ m' := ⟨F'.ns.at' fun o e => hkeep _ o hIL e, fun b o e => hkeep b o (fun q => by rw [q, hI0] at e; cases e) (F'.keep b o e), F'.above⟩
    have N₁ : News h₀ L h₁ (Led c ++ [(s.heap.objs.size, oI)]) := by
      intro p hp
      rcases List.mem_append.mp hp with hp | hp
      · exact ⟨hkeep _ _ (hoff p hp) (N' p hp).1, (N' p hp).2⟩
      · rw [List.mem_singleton.mp hp]
        exact ⟨hoI, Ne.symm hIL, hI0⟩
    have hown : OwnOff [(s.heap.objs.size, oI)] ((Led c).map (·.1)) := by
      intro p hp b hb
      rw [List.mem_singleton.mp hp]
      obtain ⟨q, hq, rfl⟩ := List.mem_map.mp hb
      exact Ne.symm (hoff q hq)
    obtain ⟨T, rfl⟩ := hrefs v (List.mem_of_getElem? (by simpa using hPv))
    refine wpAny_letOwnedTupleGo_listiter hst₁.1 ?_
    refine wpAny_mono (turn i _ c m' h₁ tk₁ _ (by simpa using hPv) hP hown (kst_fr2 h1 h2 F₁) N₁) (fun _ s₂ q => wpAny_mono q (fun f s₃ q3 => ?_) fun _ _ e => e.elim) fun _ _ e => e.elim
    have go : FEnd h₀ L { s with heap := h₁, toks := tk₁ } Led ps stored m₀ (P (i + 1)) [(s.heap.objs.size, oI)] s₃ → ∃ m, m < vs.length + 1 - i ∧ TInv h₀ L l s.heap.objs.size s vs Led ps stored m₀ P m s₃ := by
      rintro ⟨c', h₄, tk₄, m₄, news', rfl, F₄, N₄, hn₄, ho₄, ha₄, hk₄, hr₄, hp₄⟩
      refine ⟨vs.length + 1 - (i + 1), by omega, .mk h₄ tk₄ m₄ c' (i + 1) ⟨⟨oI, (N₄ _ (ho₄ _ (.head _))).1, hrI⟩, ⟨_, (N₄ _ (hn₄ _ (hl c'))).1, rfl, nn, rfl⟩⟩ F₄ (fun p hp => N₄ p (hn₄ p hp)) (fun p hp => ?_) hk₄ hr₄ hp₄ hlt⟩
      exact Ne.symm (ha₄ _ (.head _) p.1 (List.mem_map.mpr ⟨p, hp, rfl⟩))
    cases f with
    | ret v => exact q3.elim
    | brk => exact q3.elim
    | next => exact go q3
    | cont => exact go q3
  · have hin : i = vs.length := by omega
    subst hin
    refine W.done _ _ _ hst fun h₁ tk₁ hk₁ => wpAny_execs_nil ?_
    have hkeep : ∀ b o, b ≠ s.heap.objs.size → h'.get? b = some o → h₁.get? b = some o := fun b o hb e => hk₁ b o (by simpa using hb) e
    have F₁ : Fr h₀ L h₁ m' := ⟨F'.ns.at' fun o e => hkeep _ o hIL e, fun b o e => hkeep b o (fun q => by rw [q, hI0] at e; cases e) (F'.keep b o e), F'.above⟩
    exact done c m' h₁ tk₁ hP (kst_fr2 h1 h2 F₁) fun p hp => ⟨hkeep _ _ (hoff p hp) (N' p hp).1, (N' p hp).2⟩
end
end Mine
namespace Mine
theorem words_W5a : True := by
  w_top off
  k_with_none
  trivial
theorem iseof_fn {w : World} {mean : ExcName → Option Value} {mg mb : Str → Option Value} (n : Int) (tk : Tok) :
    Fn w mean mg mb 31 [.int n tk] (fun _ => True) (fun d => d = Dat.bool (decide (n = 0))) 2 40 := by
  unfold Fn PR
  k_fill
  intro dp un gd cn cs a ccd cl outer A₀ base h₀ L m s Q E B F X T hk pre hd hu hret
  refine wpAny_call ?_
  k_dflt (refine' enterP (binds := [(Str.ofString "x", Value.int n tk)]) ?k1 ?k2 ?k3 ?k5 ?kA ?kF ?kK ?k6 ?k7 ?k8 ?k9 ?kB ?_ ?c2 ?c3 ?c4 ?c5; (case kA => exact rfl); (case kF => exact rfl); (case kK => assumption); (case k1 => k_asm); (case k2 => k_asm); (case k3 => k_asm); (case k5 => k_asm); (case k6 => k_is); (case k7 => k_is); (case k8 => ktr_room); (case k9 => exact BindsTo.of_eq rfl); (case c5 => decide); (case kB => exact locs rfl); (case c2 => exact rfl); (case c3 => exact rfl); (case c4 => exact rfl); k_whole; intro L' h' F' N' B' X' T'; (try dsimp only); (try k_fold))
  clear B F X T
  k_with_none
  k_steps
  show Ret _ _ _
  exact hret _ [] _ _ _ (Fr.keep (by assumption)) (fun _ h => nomatch h) rfl (DatIn.bool _)
theorem Fn.useO {w : World} {mean : ExcName → Option Value} {mg mb : Str → Option Value} {f : Addr} {vs : List Value} {Pre : Heap → Prop} {dn un' : Nat}
    {dp un : Nat} {gd : Option (List Code)} {cn : Str} {cs : Scope} {a : Addr} {ccd : Value} {cl : List (Str × Addr)} {outer : List Env} {A₀ : Around} {base h₀ : Heap} {L : Addr} {m : Str → Option Value} {s : Shared} {Q E : Value → Shared → Prop} {news : List (Addr × Obj)} {b : Bool}
    (C : Fn w mean mg mb f vs Pre (fun d => d = Dat.bool b) dn un') (B : Below A₀ base outer h₀) (F : Fr h₀ L s.heap m) (X : (Mine.hd.heap_39 w.params).In h₀) (N : News h₀ L s.heap news) (T : Top Mine.hd.view_39 LO mean mg mb h₀) (hk : cs.kind = .function)
    (pre : Pre s.heap) (hd : dp + dn < recursionLimit) (hu : un + un' < cLine)
    (ret : ∀ h' tk', Fr h₀ L h' m → News h₀ L h' news → Q (.bool b) { s with heap := h', toks := tk' }) :
    wpAny (model PR w) (ktrTop dp un gd cn cs L a ccd cl outer) (call (.ref f) vs) Q E s :=
  C.use B F X N T hk pre hd hu fun r new h' tk' d F' N' _ hD dt => by
    subst hD
    cases dt with
    | bool _ => exact ret h' tk' F' (fun p hp => N' p (List.mem_append.mpr (.inr hp)))
end Mine
namespace Mine
/- the reader's state: the pile and what waits, the top first -/
abbrev Sta := List (List Int) × List Int
noncomputable def red (k : Int) : List (List Int) → List Int → Option Sta
  | pile, [] => some (pile, [])
  | pile, w :: ws => if k ≤ w then (match pile with
      | b :: a :: p => red k (([w] ++ a ++ b) :: p) ws
      | _ => none) else some (pile, w :: ws)
noncomputable def stepR (st : Sta) (t : Int) : Option Sta :=
  if 64 ≤ t then some ([t] :: st.1, st.2)
  else if t = 7 then some (st.1, 7 :: st.2)
  else match red t st.1 st.2 with
    | none => none
    | some (p, w) => if t = 8 then (match w with
        | _ :: w' => some (p, w')
        | [] => none) else some (p, t :: w)
noncomputable def runR : Sta → List Int → Option Sta
  | st, [] => some st
  | st, t :: ts => match stepR st t with
    | none => none
    | some st' => runR st' ts
noncomputable def readR (ts : List Int) : Option Sta := match runR ([], []) ts with
  | none => none
  | some st => red 0 st.1 st.2
noncomputable def weight (st : Sta) : Nat := (st.1.map fun a => a.length + 1).sum + st.2.length
theorem red_weight {k : Int} : ∀ {ws : List Int} {pile : List (List Int)} {st : Sta}, red k pile ws = some st → weight st ≤ weight (pile, ws)
  | [], pile, st, h => by simp only [red, Option.some.injEq] at h; rw [← h]; exact Nat.le_refl _
  | w :: ws, pile, st, h => by
    unfold red at h
    split at h
    · split at h
      · rename_i b a p
        have := red_weight h
        refine Nat.le_trans this ?_
        simp [weight]; (first | lia | omega)
      · cases h
    · simp only [Option.some.injEq] at h; rw [← h]; exact Nat.le_refl _
theorem step_weight {st st' : Sta} {t : Int} (h : stepR st t = some st') : weight st' ≤ weight st + 2 := by
  unfold stepR at h
  split at h
  · simp only [Option.some.injEq] at h; rw [← h]; simp [weight]; (first | lia | omega)
  · split at h
    · simp only [Option.some.injEq] at h; rw [← h]; simp [weight]; (first | lia | omega)
    · split at h
      · cases h
      · rename_i p w hr
        have hw := red_weight hr
        split at h
        · split at h
          · rename_i w0 w'
            simp only [Option.some.injEq] at h
            rw [← h]
            simp only [weight, List.length_cons] at hw ⊢; (first | lia | omega)
          · cases h
        · simp only [Option.some.injEq] at h
          rw [← h]
          simp only [weight, List.length_cons] at hw ⊢; (first | lia | omega)
theorem wait_le_weight (st : Sta) : st.2.length ≤ weight st := by unfold weight; (first | lia | omega)
theorem sum_len_ge : ∀ (p : List (List Int)), p.length ≤ (p.map fun a => a.length + 1).sum
  | [] => Nat.le_refl _
  | a :: p => by have := sum_len_ge p; simp only [List.length_cons, List.map_cons, List.sum_cons]; (first | lia | omega)
theorem pile_le_weight (st : Sta) : st.1.length ≤ weight st := by have := sum_len_ge st.1; unfold weight; (first | lia | omega)
theorem item_le_weight (st : Sta) : ∀ a ∈ st.1, a.length ≤ weight st := by
  have key : ∀ (p : List (List Int)), ∀ a ∈ p, a.length ≤ (p.map fun a => a.length + 1).sum := by
    intro p
    induction p with
    | nil => intro a h; cases h
    | cons b p ih =>
      intro a h
      simp only [List.map_cons, List.sum_cons]
      rcases List.mem_cons.mp h with rfl | h
      · (first | lia | omega)
      · have := ih a h; (first | lia | omega)
  intro a h
  have := key st.1 a h
  unfold weight; (first | lia | omega)
theorem runR_append : ∀ (ts us : List Int) (st : Sta), runR st (ts ++ us) = match runR st ts with | none => none | some st' => runR st' us
  | [], us, st => rfl
  | t :: ts, us, st => by
    show (match stepR st t with | none => none | some st' => runR st' (ts ++ us)) = match (match stepR st t with | none => none | some st' => runR st' ts) with | none => none | some st' => runR st' us
    cases stepR st t with
    | none => rfl
    | some st' => exact runR_append ts us st'
/- how the pile and what waits read as data -/
noncomputable def toksD (ks : List Int) : Dat := .list (ks.map fun k => .str (piece k))
noncomputable def pileD (p : List (List Int)) : List Dat := p.reverse.map toksD
noncomputable def waitD (w : List Int) : List Dat := w.reverse.map fun k => .tuple [.int k, .str (piece k)]
end Mine
namespace Mine
theorem run_next {ts : List Int} {i : Nat} {st st0 : Sta} (h : runR st0 (ts.take i) = some st) (hi : i < ts.length) : runR st0 (ts.take (i + 1)) = stepR st ts[i] := by
  rw [← List.take_append_getElem hi, runR_append, h]
  show (match stepR st ts[i] with | none => none | some st' => runR st' []) = _
  cases stepR st ts[i] <;> rfl
theorem run_ok {ts : List Int} {fin st : Sta} (hfin : readR ts = some fin) {i : Nat} (h : runR ([], []) (ts.take i) = some st) (hi : i < ts.length) : ∃ st', stepR st ts[i] = some st' := by
  cases e : stepR st ts[i] with
  | some st' => exact ⟨st', rfl⟩
  | none =>
    exfalso
    have h2 := run_next h hi
    rw [e] at h2
    have h3 := runR_append (ts.take (i + 1)) (ts.drop (i + 1)) ([], [])
    rw [List.take_append_drop, h2] at h3
    unfold readR at hfin
    rw [h3] at hfin
    cases hfin
theorem run_end {ts : List Int} {fin st : Sta} (hfin : readR ts = some fin) (h : runR ([], []) (ts.take ts.length) = some st) : red 0 st.1 st.2 = some fin := by
  rw [List.take_length] at h
  unfold readR at hfin
  rw [h] at hfin
  exact hfin
theorem step_word {st : Sta} {t : Int} (h : 64 ≤ t) : stepR st t = some ([t] :: st.1, st.2) := by unfold stepR; rw [if_pos h]
theorem step_lp {st : Sta} : stepR st 7 = some (st.1, 7 :: st.2) := by unfold stepR; rw [if_neg (by decide), if_pos rfl]
theorem step_rp {st st' : Sta} (h : stepR st 8 = some st') : ∃ p w0 w', red 8 st.1 st.2 = some (p, w0 :: w') ∧ st' = (p, w') := by
  unfold stepR at h
  rw [if_neg (by decide), if_neg (by decide)] at h
  cases hr : red 8 st.1 st.2 with
  | none => rw [hr] at h; cases h
  | some q =>
    obtain ⟨p, w⟩ := q
    rw [hr] at h
    simp only [if_true] at h
    cases w with
    | nil => cases h
    | cons w0 w' => exact ⟨p, w0, w', rfl, (Option.some.inj h).symm⟩
theorem step_op {st st' : Sta} {t : Int} (h9 : 9 ≤ t) (h : t < 64) (hs : stepR st t = some st') : ∃ p w, red t st.1 st.2 = some (p, w) ∧ st' = (p, t :: w) := by
  unfold stepR at hs
  rw [if_neg (by (first | lia | omega)), if_neg (by (first | lia | omega))] at hs
  cases hr : red t st.1 st.2 with
  | none => rw [hr] at hs; cases hs
  | some q =>
    obtain ⟨p, w⟩ := q
    rw [hr] at hs
    simp only [if_neg (show ¬ t = 8 by (first | lia | omega))] at hs
    exact ⟨p, w, rfl, (Option.some.inj hs).symm⟩
theorem pileD_cons (a : List Int) (p : List (List Int)) : pileD (a :: p) = pileD p ++ [toksD a] := by simp [pileD]
theorem waitD_cons (k : Int) (w : List Int) : waitD (k :: w) = waitD w ++ [.tuple [.int k, .str (piece k)]] := by simp [waitD]
theorem pileD_len (p : List (List Int)) : (pileD p).length = p.length := by simp [pileD]
theorem waitD_len (p : List Int) : (waitD p).length = p.length := by simp [waitD]
theorem piece7 : piece 7 = Str.ofString "(" := by decide +kernel
theorem piece8 : piece 8 = Str.ofString ")" := by decide +kernel
theorem piece_ne_lp {k : Int} (h : isTok k) (h7 : k ≠ 7) : piece k ≠ Str.ofString "(" := by
  rcases h with h | h
  · have : ∀ i : Nat, i < 48 → i ≠ 0 → signsL.getD i Str.empty ≠ Str.ofString "(" := by decide +kernel
    have ep : piece k = signsL.getD (k - 7).toNat Str.empty := by unfold piece; rw [if_neg (by (first | lia | omega))]
    rw [ep]; exact this _ (by (first | lia | omega)) (by (first | lia | omega))
  · unfold piece; rw [if_pos (by (first | lia | omega))]
    intro e
    have h2 : (2 : Nat) = 1 := congrArg (fun x : Str => x.cps.size) e
    exact absurd h2 (by decide)
theorem piece_ne_rp {k : Int} (h : isTok k) (h7 : k ≠ 8) : piece k ≠ Str.ofString ")" := by
  rcases h with h | h
  · have : ∀ i : Nat, i < 48 → i ≠ 1 → signsL.getD i Str.empty ≠ Str.ofString ")" := by decide +kernel
    have ep : piece k = signsL.getD (k - 7).toNat Str.empty := by unfold piece; rw [if_neg (by (first | lia | omega))]
    rw [ep]; exact this _ (by (first | lia | omega)) (by (first | lia | omega))
  · unfold piece; rw [if_pos (by (first | lia | omega))]
    intro e
    have h2 : (2 : Nat) = 1 := congrArg (fun x : Str => x.cps.size) e
    exact absurd h2 (by decide)
end Mine
namespace Mine
theorem strOk_piece {k : Int} (h : isTok k) : PyData.strOk (piece k) = true := by
  rcases h with h | h
  · have : ∀ i : Nat, i < 48 → PyData.strOk (signsL.getD i Str.empty) = true := by decide +kernel
    have ep : piece k = signsL.getD (k - 7).toNat Str.empty := by unfold piece; rw [if_neg (by (first | lia | omega))]
    rw [ep]; exact this _ (by (first | lia | omega))
  · have : ∀ i : Nat, i < 16 → ∀ j : Nat, j < 16 → PyData.strOk ⟨#[65 + i, 65 + j]⟩ = true := by decide +kernel
    unfold piece; rw [if_pos (by (first | lia | omega))]
    exact this _ (by (first | lia | omega)) _ (by (first | lia | omega))
theorem kqd_wait {k : Int} (h : isTok k) : kqdOk 8 (.tuple [.int k, .str (piece k)]) = true := by
  have := strOk_piece h
  simp [kqdOk, this]
theorem kqd_waits {w : List Int} (h : ∀ k ∈ w, isTok k) : ∀ d ∈ waitD w, kqdOk 8 d = true := by
  intro d hd
  obtain ⟨k, hk, rfl⟩ := List.mem_map.mp hd
  exact kqd_wait (h k (List.mem_reverse.mp hk))
section
variable {prog : Program} {w : World} {A : Around} {E : Value → Shared → Prop} {s : Shared} {h₀ : Heap} {L a b : Addr} {news n₁ : List (Addr × Obj)} {xs : List Value} {ka kb : Nat} {ds : List Dat} {Q : Value → Shared → Prop}
theorem ne_nil (N : News h₀ L s.heap news) (ma : (a, listOf xs.toArray ka) ∈ news) (Da : DatAll n₁ xs ds) (sa : ∀ p ∈ n₁, p ∈ news) (mb : (b, listOf #[] kb) ∈ news) (ha : ∀ d ∈ ds, kqdOk 8 d = true) (hu : A.units + 64 < cLine)
    (h : Q (.bool (!ds.isEmpty)) s) : wpAny (model prog w) A (compareOp .NotEq (.ref a) (.ref b)) Q E s := by
  refine kqd_ne (n₂ := []) (ys := []) (es := []) N ma rfl rfl Da sa mb rfl rfl .nil (fun _ h => nomatch h) ha (fun _ h => nomatch h) hu ?_
  cases ds with
  | nil => simpa using h
  | cons d ds => simpa using h
end
end Mine
namespace Mine
section
variable {prog : Program} {w : World} {A : Around} {E : Value → Shared → Prop} {s : Shared} {h₀ : Heap} {L a : Addr} {news : List (Addr × Obj)} {value slice : Expr} {Q : Value → Shared → Prop}
theorem last_item {vs : List Value} {v : Value} {n : Nat} {t : Tok} (N : News h₀ L s.heap news) (hm : (a, listOf (vs ++ [v]).toArray n) ∈ news) (h : Q v s)
    (hs : subscripted slice false (.ref a) (.int (-1) t) = operate [.ref a, .int (-1) t] (getItem (.ref a) (.int (-1) t)) := by with_unfolding_all rfl) :
    wpAny (model prog w) A (subscriptTail value slice (.ref a) (.int (-1) t)) Q E s := by
  have hl : s.heap.IsList a (vs ++ [v]).toArray := ⟨_, (N _ hm).1, rfl, n, rfl⟩
  refine tail_any hl.typeIs slot_list_getitem.lookup (wpAny_getItem_list_neg hl (by decide) ?_ (by decide) ?_ h) hs
  · rw [List.size_toArray, List.length_append, List.length_singleton]; (first | lia | omega)
  · have e : ((-1 : Int) + ((vs ++ [v]).toArray.size : Int)).toNat = vs.length := by
      rw [List.size_toArray, List.length_append, List.length_singleton]; (first | lia | omega)
    rw [e]; simp
end
end Mine
namespace Mine
theorem words_W5 : True := by
  w_top off
  k_with_none
  trivial
section
local macro_rules | `(tactic| walk_at $s:str) => `(tactic| k_extra $s)
set_option genSizeOf false in
set_option genSizeOfSpec false in
set_option genInjectivity false in
structure S5 where
  pv : List Value
  pn : Nat
  wv : List Value
  wn : Nat
  rest : List (Addr × Obj)
  st : Sta
noncomputable def endD : Dat := Dat.tuple [.int 0, .str Str.empty]
structure S5.ok (ts : List Int) (fin : Sta) (vs : List Value) (pa wa : Addr) (i : Nat) (c : S5) : Prop where
  at_ : (i ≤ ts.length ∧ runR ([], []) (ts.take i) = some c.st) ∨ (i = ts.length + 1 ∧ c.st = fin)
  pile : DatAll c.rest c.pv (pileD c.st.1)
  wait : DatAll c.rest c.wv (waitD c.st.2)
  src : DatAll c.rest vs (cutD ts ++ [endD])
  off : ∀ q ∈ c.rest, q.1 ≠ pa ∧ q.1 ≠ wa
  wt : weight c.st ≤ 2 * i
  tok : ∀ k ∈ c.st.2, isTok k
abbrev tup2 (k : Int) (p : Str) (t1 t2 : Tok) (n : Nat) : Obj := { cls := .type "tuple", data := .seq #[.int k t1, .str p t2] n }
theorem tup_of {new : List (Addr × Obj)} {v : Value} {k : Int} {p : Str} (h : DatIn new v (.tuple [.int k, .str p])) : ∃ a t1 t2 n, v = .ref a ∧ (a, tup2 k p t1 t2 n) ∈ new := by
  obtain ⟨a, vs, n, rfl, hm, q0⟩ := tupleI h
  obtain ⟨x1, r1, rfl, y1, q1⟩ := consI q0
  obtain ⟨t1, rfl⟩ := intI y1
  obtain ⟨x2, r2, rfl, y2, q2⟩ := consI q1
  obtain ⟨t2, rfl⟩ := strI y2
  obtain rfl := nilI q2
  exact ⟨_, t1, t2, _, rfl, hm⟩
theorem dat_refs {ts : List Int} {rest : List (Addr × Obj)} {vs : List Value} (h : DatAll rest vs (cutD ts ++ [endD])) : ∀ v ∈ vs, ∃ T, v = .ref T := by
  have key : ∀ {ds : List Dat} {vs : List Value}, DatAll rest vs ds → (∀ d ∈ ds, ∃ es, d = Dat.tuple es) → ∀ v ∈ vs, ∃ T, v = .ref T := by
    intro ds
    induction ds with
    | nil => intro vs h _ v hv; rw [nilI h] at hv; cases hv
    | cons d ds ih =>
      intro vs h hd v hv
      obtain ⟨x, r, rfl, h1, h2⟩ := consI h
      rcases List.mem_cons.mp hv with rfl | hv
      · obtain ⟨es, rfl⟩ := hd d (.head _)
        obtain ⟨a, _, _, e, _⟩ := tupleI h1
        exact ⟨a, e⟩
      · exact ih h2 (fun d hd' => hd d (.tail _ hd')) v hv
  refine key h fun d hd => ?_
  rcases List.mem_append.mp hd with hd | hd
  · obtain ⟨k, _, rfl⟩ := List.mem_map.mp hd; exact ⟨_, rfl⟩
  · rw [List.mem_singleton.mp hd]; exact ⟨_, rfl⟩
theorem S5.item {ts : List Int} {rest : List (Addr × Obj)} {vs : List Value} (h : DatAll rest vs (cutD ts ++ [endD])) {i : Nat} {v : Value} (hv : vs[i]? = some v) :
    ∃ k p a t1 t2 n, v = .ref a ∧ (a, tup2 k p t1 t2 n) ∈ rest ∧ ((∃ hi : i < ts.length, k = kindOf ts[i] ∧ p = piece ts[i]) ∨ (i = ts.length ∧ k = 0 ∧ p = Str.empty)) := by
  have hlen := h.length
  have hi := (List.getElem?_eq_some_iff.mp hv).1
  rw [hlen] at hi
  obtain ⟨v', e, hd⟩ := h.get hi
  rw [hv] at e
  cases e
  simp only [cutD, List.length_append, List.length_map, List.length_singleton] at hi
  by_cases q : i < ts.length
  · rw [List.getElem_append_left (by simpa [cutD] using q)] at hd
    simp only [cutD, List.getElem_map] at hd
    obtain ⟨a, t1, t2, n, rfl, hm⟩ := tup_of hd
    exact ⟨_, _, a, t1, t2, n, rfl, hm, .inl ⟨q, rfl, rfl⟩⟩
  · have e2 : i = ts.length := by (first | lia | omega)
    rw [List.getElem_append_right (by simp [cutD]; (first | lia | omega))] at hd
    simp only [List.getElem_singleton, endD] at hd
    obtain ⟨a, t1, t2, n, rfl, hm⟩ := tup_of hd
    exact ⟨_, _, a, t1, t2, n, rfl, hm, .inr ⟨e2, rfl, rfl⟩⟩
abbrev led5 (src : Addr) (vs : List Value) (nn : Nat) (pa wa : Addr) (c : S5) : List (Addr × Obj) := (src, listOf vs.toArray nn) :: (pa, listOf c.pv.toArray c.pn) :: (wa, listOf c.wv.toArray c.wn) :: c.rest
theorem fin5 {h₀ : Heap} {L : Addr} {s : Shared} {src : Addr} {vs : List Value} {nn : Nat} {pa wa : Addr} {stored : List Str} {m₀ m' : Str → Option Value} {P : S5 → Prop} {own news' : List (Addr × Obj)} {Q : Flow → Shared → Prop} {h' : Heap} {tk : Nat} (c' : S5)
    (F : Fr h₀ L h' m') (N : News h₀ L h' news') (hr : Same m' m₀ stored) (hn : ∀ p ∈ led5 src vs nn pa wa c', p ∈ news') (ho : ∀ p ∈ own, p ∈ news') (h1 : OwnOff own [src, pa, wa]) (h2 : ∀ q ∈ own, ∀ p ∈ c'.rest, q.1 ≠ p.1) (hp : P c') :
    FPost h₀ L s (led5 src vs nn pa wa) (fun _ => []) stored m₀ P own Q .next { s with heap := h', toks := tk } := by
  refine FPost.next c' F N Has.nil hr hn ho ?_ hp
  intro q hq b hb
  obtain ⟨p, hp, rfl⟩ := List.mem_map.mp hb
  rcases List.mem_cons.mp hp with rfl | hp
  · exact h1 q hq _ (.head _)
  · rcases List.mem_cons.mp hp with rfl | hp
    · exact h1 q hq _ (.tail _ (.head _))
    · rcases List.mem_cons.mp hp with rfl | hp
      · exact h1 q hq _ (.tail _ (.tail _ (.head _)))
      · exact h2 q hq p hp
theorem off5 {own : List (Addr × Obj)} {src : Addr} {vs : List Value} {nn : Nat} {pa wa : Addr} {c : S5} (h : OwnOff own ((led5 src vs nn pa wa c).map (·.1))) : OwnOff own [src, pa, wa] ∧ ∀ q ∈ own, ∀ p ∈ c.rest, q.1 ≠ p.1 := by
  refine ⟨fun q hq b hb => h q hq b ?_, fun q hq p hp => h q hq p.1 ?_⟩
  · simp only [List.mem_cons, List.not_mem_nil, or_false] at hb
    simp only [List.map_cons, List.mem_cons]
    rcases hb with hb | hb | hb
    · exact .inl hb
    · exact .inr (.inl hb)
    · exact .inr (.inr (.inl hb))
  · exact List.mem_map.mpr ⟨p, .tail _ (.tail _ (.tail _ hp)), rfl⟩
theorem S5.plen {ts : List Int} {fin : Sta} {vs : List Value} {pa wa : Addr} {i : Nat} {c : S5} (h : S5.ok ts fin vs pa wa i c) : c.pv.length ≤ 2 * i := by
  rw [h.pile.length, pileD_len]
  exact Nat.le_trans (pile_le_weight _) h.wt
theorem S5.wlen {ts : List Int} {fin : Sta} {vs : List Value} {pa wa : Addr} {i : Nat} {c : S5} (h : S5.ok ts fin vs pa wa i c) : c.wv.length ≤ 2 * i := by
  rw [h.wait.length, waitD_len]
  exact Nat.le_trans (wait_le_weight _) h.wt
theorem dat_last {new : List (Addr × Obj)} {d : Dat} : ∀ {ds : List Dat} {vs : List Value}, DatAll new vs (ds ++ [d]) → ∃ vs' v, vs = vs' ++ [v] ∧ DatAll new vs' ds ∧ DatIn new v d
  | [], vs, h => by
    cases h with
    | cons h1 h2 => cases h2; exact ⟨[], _, rfl, .nil, h1⟩
  | e :: ds, vs, h => by
    cases h with
    | cons h1 h2 =>
      obtain ⟨vs', v, rfl, h3, h4⟩ := dat_last h2
      exact ⟨_ :: vs', v, rfl, .cons h1 h3, h4⟩
structure W5 (ts : List Int) (vs : List Value) (pa wa : Addr) (own : List (Addr × Obj)) (i : Nat) (k : Int) (st' : Sta) (d : S5) : Prop where
  pile : DatAll d.rest d.pv (pileD d.st.1)
  wait : DatAll d.rest d.wv (waitD d.st.2)
  red : red k d.st.1 d.st.2 = some st'
  src : DatAll d.rest vs (cutD ts ++ [endD])
  off : ∀ q ∈ d.rest, q.1 ≠ pa ∧ q.1 ≠ wa
  offo : ∀ q ∈ own, ∀ p ∈ d.rest, q.1 ≠ p.1
  wt : weight d.st ≤ 2 * i
  tok : ∀ k ∈ d.st.2, isTok k
theorem list_of {new : List (Addr × Obj)} {v : Value} {ks : List Int} (h : DatIn new v (toksD ks)) : ∃ a vs n, v = .ref a ∧ (a, listOf vs.toArray n) ∈ new ∧ DatAll new vs (ks.map fun k => .str (piece k)) := by
  cases h with
  | list hm r => exact ⟨_, _, _, rfl, hm, r⟩
/- what comes behind the while -/
noncomputable def Oth (ts : List Int) (fin : Sta) (i : Nat) (st st' : Sta) (k : Int) (p : Str) : Prop :=
  (k = 8 ∧ p = Str.ofString ")" ∧ (∃ hi : i < ts.length, ts[i] = 8) ∧ ∃ w0 w', st'.2 = w0 :: w' ∧ stepR st 8 = some (st'.1, w')) ∨
  (9 ≤ k ∧ k ≤ 54 ∧ p = piece k ∧ (∃ hi : i < ts.length, ts[i] = k) ∧ stepR st k = some (st'.1, k :: st'.2)) ∨
  (k = 0 ∧ p = Str.empty ∧ i = ts.length ∧ st' = fin)
theorem S5.cases {ts : List Int} {fin : Sta} {vs : List Value} {pa wa : Addr} {i : Nat} {c : S5} {k : Int} {p : Str} (hr : Row ts) (hfin : readR ts = some fin) (h : S5.ok ts fin vs pa wa i c)
    (hc : (∃ hi : i < ts.length, k = kindOf ts[i] ∧ p = piece ts[i]) ∨ (i = ts.length ∧ k = 0 ∧ p = Str.empty)) :
    (∃ hi : i < ts.length, 64 ≤ ts[i] ∧ k = 1 ∧ p = piece ts[i]) ∨ (∃ hi : i < ts.length, ts[i] = 7 ∧ k = 7 ∧ p = Str.ofString "(") ∨
      (k ≠ 1 ∧ p ≠ Str.ofString "(" ∧ ∃ st', red k c.st.1 c.st.2 = some st' ∧ Oth ts fin i c.st st' k p) := by
  rcases hc with ⟨hi, ek, ep⟩ | ⟨hi, ek, ep⟩
  · have hrun : runR ([], []) (ts.take i) = some c.st := by
      rcases h.at_ with ⟨_, q⟩ | ⟨q, _⟩
      · exact q
      · (first | lia | omega)
    have htok := hr.toks _ (List.getElem_mem hi)
    by_cases hw : 64 ≤ ts[i]
    · left; exact ⟨hi, hw, by rw [ek]; unfold kindOf; rw [if_pos hw], ep⟩
    · have ekk : k = ts[i] := by rw [ek]; unfold kindOf; rw [if_neg hw]
      by_cases h7 : ts[i] = 7
      · right; left; exact ⟨hi, h7, by rw [ekk, h7], by rw [ep, h7, piece7]⟩
      · right; right
        have hrng : 7 ≤ ts[i] ∧ ts[i] ≤ 54 := by rcases htok with q | q <;> (first | lia | omega)
        obtain ⟨st2, hs⟩ := run_ok hfin hrun hi
        refine ⟨by (first | lia | omega), by rw [ep]; exact piece_ne_lp htok h7, ?_⟩
        by_cases h8 : ts[i] = 8
        · rw [h8] at hs
          obtain ⟨p', w0, w', hr8, e2⟩ := step_rp hs
          refine ⟨(p', w0 :: w'), by rw [ekk, h8]; exact hr8, .inl ⟨by rw [ekk, h8], by rw [ep, h8, piece8], ⟨hi, h8⟩, w0, w', rfl, by rw [hs, e2]⟩⟩
        · obtain ⟨p', w', hr9, e2⟩ := step_op (by (first | lia | omega)) (by (first | lia | omega)) hs
          refine ⟨(p', w'), by rw [ekk]; exact hr9, .inr (.inl ⟨by (first | lia | omega), by (first | lia | omega), by rw [ep, ekk], ⟨hi, ekk.symm⟩, by rw [ekk, hs, e2]⟩)⟩
  · right; right
    have hrun : runR ([], []) (ts.take ts.length) = some c.st := by
      rcases h.at_ with ⟨_, q⟩ | ⟨q, _⟩
      · rw [hi] at q; exact q
      · (first | lia | omega)
    refine ⟨by (first | lia | omega), by rw [ep]; decide, fin, by rw [ek]; exact run_end hfin hrun, .inr (.inr ⟨ek, ep, hi, rfl⟩)⟩
theorem read_fn {w : World} {mean : ExcName → Option Value} {mg mb : Str → Option Value} (ts : List Int) (tk : Tok) (hr : Row ts) (hl : ts.length ≤ 64) (fin : Sta) (hfin : readR ts = some fin) :
    Fn w mean mg mb 57 [.str (tx ts) tk] (fun _ => True) (fun d => d = Dat.tuple [.list (pileD fin.1), .list (waitD fin.2)]) 6 100 := by
  unfold Fn PR
  k_fill
  intro dp un gd cn cs a ccd cl outer A₀ base h₀ L m s Q E B F X T hk pre hd hu hret
  refine wpAny_call ?_
  k_dflt (refine' enterP (binds := [(Str.ofString "text", Value.str (tx ts) tk)]) ?k1 ?k2 ?k3 ?k5 ?kA ?kF ?kK ?k6 ?k7 ?k8 ?k9 ?kB ?_ ?c2 ?c3 ?c4 ?c5; (case kA => exact rfl); (case kF => exact rfl); (case kK => assumption); (case k1 => k_asm); (case k2 => k_asm); (case k3 => k_asm); (case k5 => k_asm); (case k6 => k_is); (case k7 => k_is); (case k8 => ktr_room); (case k9 => exact BindsTo.of_eq rfl); (case c5 => decide); (case kB => exact locs rfl); (case c2 => exact rfl); (case c3 => exact rfl); (case c4 => exact rfl); k_whole; intro L' h' F' N' B' X' T'; (try dsimp only); (try k_fold))
  clear B F X T
  k_with_none
  (k_with "exec For" => refine stop ?_)
  (k_with "exec For Tuple Call cons nil" => refine stop ?_)
  (k_with "call ref" => refine stop ?_)
  (k_with "exec While BoolOp cons nil" => refine stop ?_)
  (k_with "call builtin:list.append" => refine stop ?_)
  (k_with "call builtin:list.pop" => refine stop ?_)
  k_steps
  unfold Stop
  refine for_start ?_ (by intro _; with_unfolding_all rfl)
  k_steps
  unfold Stop
  rename_i pa hA l1 hB tkB wa hC lpw hE FE NE
  k_dflt (refine' Fn.use (pieces_fn ts _ hr hl) ?c1 ?c2 ?c3 ?c4 ?c5 ?c6 trivial ?c8 ?c9 ?_; (case c1 => k_asm); (case c2 => k_asm); (case c3 => k_asm); (case c4 => k_asm); (case c5 => k_asm); (case c6 => first | exact rfl | assumption); (case c8 => ktr_room); (case c9 => ktr_units))
  intro rr new h8 tk8 dd F8 N8 ne8 hD8 dt8
  dsimp only
  subst hD8
  obtain ⟨src, vs, nn, rfl, hms, hall⟩ : ∃ src vs nn, rr = .ref src ∧ (src, listOf vs.toArray nn) ∈ new ∧ DatAll new vs (cutD ts ++ [endD]) := by
    cases dt8 with
    | list hm r => exact ⟨_, _, _, rfl, hm, r⟩
  have hvl : vs.length = ts.length + 1 := by rw [hall.length]; simp [cutD]
  have hsp : src ≠ pa := fun e => ne8 _ hms _ (.tail _ (.head _)) e.symm
  have hsw : src ≠ wa := fun e => ne8 _ hms _ (.head _) e.symm
  have hpw : pa ≠ wa := Nat.ne_of_lt lpw
  refine' forT (σ := S5) (led5 src vs nn pa wa) (fun _ => []) [Str.ofString "kind", Str.ofString "piece", Str.ofString "second", Str.ofString "first"] (S5.ok ts fin vs pa wa) ⟨[], 0, [], 0, new, ([], [])⟩ ?wh ?wl ?wF ?wN ?wk ?wn ?wp ?_ ?_ ?wt ?wf
  case wh => rfl
  case wl => exact fun _ => .head _
  case wF => k_asm
  case wN => k_asm
  case wk => exact Has.nil
  case wn =>
    intro p hp
    rcases List.mem_cons.mp hp with rfl | hp
    · exact List.mem_append.mpr (.inl hms)
    · rcases List.mem_cons.mp hp with rfl | hp
      · exact List.mem_append.mpr (.inr (.tail _ (.head _)))
      · rcases List.mem_cons.mp hp with rfl | hp
        · exact List.mem_append.mpr (.inr (.head _))
        · exact List.mem_append.mpr (.inl hp)
  case wp => exact ⟨.inl ⟨Nat.zero_le _, rfl⟩, .nil, .nil, hall, fun q hq => ⟨fun e => ne8 q hq _ (.tail _ (.head _)) e.symm, fun e => ne8 q hq _ (.head _) e.symm⟩, Nat.zero_le _, fun _ h => nomatch h⟩
  case wt => exact ⟨_, _, _, rfl⟩
  case wf => exact dat_refs hall
  · intro i v c u h tk own hv hP hoff F9 N9
    dsimp only [kstB] at F9
    obtain ⟨k, p, ta, t1, t2, n3, rfl, hmt, hcase⟩ := S5.item hP.src hv
    have N9' : News s.heap L' h ((ta, tup2 k p t1 t2 n3) :: (((src, listOf vs.toArray nn) :: (pa, listOf c.pv.toArray c.pn) :: (wa, listOf c.wv.toArray c.wn) :: c.rest) ++ own)) := by
      intro q hq
      rcases List.mem_cons.mp hq with rfl | hq
      · exact N9 _ (List.mem_append.mpr (.inl (.tail _ (.tail _ (.tail _ hmt)))))
      · exact N9 _ hq
    rcases S5.cases hr hfin hP hcase with ⟨hi, hw, ek, ep⟩ | ⟨hi, h7, ek, ep⟩ | ⟨hk1, hplp, st', hred, hO⟩
    · · subst ek
        dsimp only
        k_steps
        unfold Stop
        rename_i lN hN FN NN lN1
        have hlt := ktn_ltOf lN1.2
        obtain ⟨o1, o2⟩ := off5 hoff
        have hpl := S5.plen hP
        refine appendN FN NN (.tail _ (.tail _ (.tail _ (.head _)))) ((lN, listOf #[Value.str p t2] 0) :: (src, listOf vs.toArray nn) :: (wa, listOf c.wv.toArray c.wn) :: (c.rest ++ own)) ?_ ?_ (by rw [sizeLine_eq]; (first | lia | omega)) ?_
        · intro q hq
          rcases List.mem_cons.mp hq with rfl | hq
          · exact .head _
          · rcases List.mem_cons.mp hq with rfl | hq
            · exact .tail _ (.tail _ (.head _))
            · rcases List.mem_cons.mp hq with rfl | hq
              · exact .tail _ (.tail _ (.tail _ (.tail _ (.head _))))
              · exact .tail _ (.tail _ (.tail _ (.tail _ (.tail _ hq))))
        · intro q hq
          rcases List.mem_cons.mp hq with rfl | hq
          · exact Nat.ne_of_gt (hlt (pa, _) (.tail _ (.head _)))
          · rcases List.mem_cons.mp hq with rfl | hq
            · exact hsp
            · rcases List.mem_cons.mp hq with rfl | hq
              · exact Ne.symm hpw
              · rcases List.mem_append.mp hq with hq | hq
                · exact (hP.off q hq).1
                · exact o1 q hq pa (.tail _ (.head _))
        intro h6 F6 N6
        dsimp only
        k_steps
        refine fin5 ⟨c.pv ++ [.ref lN], c.pn + 1, c.wv, c.wn, (lN, listOf #[Value.str p t2] 0) :: c.rest, ([ts[i]] :: c.st.1, c.st.2)⟩ (by k_asm) (by k_asm) ?_ ?_ ?_ o1 ?_ ?_
        · repeat' (first | exact Same.base | exact Same.refl _ _ | refine Same.set rfl ?_ | refine Same.sub rfl ?_)
        · intro q hq
          rcases List.mem_cons.mp hq with rfl | hq
          · exact .tail _ (.tail _ (.head _))
          · rcases List.mem_cons.mp hq with rfl | hq
            · exact .head _
            · rcases List.mem_cons.mp hq with rfl | hq
              · exact .tail _ (.tail _ (.tail _ (.head _)))
              · rcases List.mem_cons.mp hq with rfl | hq
                · exact .tail _ (.head _)
                · exact .tail _ (.tail _ (.tail _ (.tail _ (List.mem_append.mpr (.inl hq)))))
        · intro q hq
          exact .tail _ (.tail _ (.tail _ (.tail _ (List.mem_append.mpr (.inr hq)))))
        · intro q hq p' hp'
          rcases List.mem_cons.mp hp' with rfl | hp'
          · exact Nat.ne_of_lt (hlt q (List.mem_append.mpr (.inr hq)))
          · exact o2 q hq p' hp'
        · refine ⟨.inl ⟨hi, ?_⟩, ?_, hP.wait.mono fun _ h => .tail _ h, hP.src.mono fun _ h => .tail _ h, ?_, ?_, hP.tok⟩
          · rcases hP.at_ with ⟨_, q⟩ | ⟨q, _⟩
            · rw [run_next q hi, step_word hw]
            · (first | lia | omega)
          · show DatAll _ (c.pv ++ [.ref lN]) (pileD ([ts[i]] :: c.st.1))
            rw [pileD_cons]
            refine DatAll.append (hP.pile.mono fun _ h => .tail _ h) (DatAll.one ?_)
            rw [ep]
            exact DatIn.list (vs := [.str (piece ts[i]) t2]) (.head _) (.cons (.str _ _) .nil)
          · intro q hq
            rcases List.mem_cons.mp hq with rfl | hq
            · exact ⟨Nat.ne_of_gt (hlt (pa, _) (.tail _ (.head _))), Nat.ne_of_gt (hlt (wa, _) (.tail _ (.tail _ (.head _))))⟩
            · exact hP.off q hq
          · have := step_weight (step_word (st := c.st) hw)
            have := hP.wt
            show weight ([ts[i]] :: c.st.1, c.st.2) ≤ 2 * (i + 1)
            (first | lia | omega)
    · · · subst ek
          subst ep
          dsimp only
          k_steps
          unfold Stop
          rename_i D1 hN FN NN lN1
          have hlt := ktn_ltOf lN1.2
          obtain ⟨o1, o2⟩ := off5 hoff
          have hwl := S5.wlen hP
          refine appendN FN NN (.tail _ (.tail _ (.tail _ (.tail _ (.head _))))) ((D1, tup2 7 (Str.ofString "(") t1 t2 0) :: (src, listOf vs.toArray nn) :: (pa, listOf c.pv.toArray c.pn) :: (c.rest ++ own)) ?_ ?_ (by rw [sizeLine_eq]; (first | lia | omega)) ?_
          · intro q hq
            rcases List.mem_cons.mp hq with rfl | hq
            · exact .head _
            · rcases List.mem_cons.mp hq with rfl | hq
              · exact .tail _ (.tail _ (.head _))
              · rcases List.mem_cons.mp hq with rfl | hq
                · exact .tail _ (.tail _ (.tail _ (.head _)))
                · exact .tail _ (.tail _ (.tail _ (.tail _ (.tail _ hq))))
          · intro q hq
            rcases List.mem_cons.mp hq with rfl | hq
            · exact Nat.ne_of_gt (hlt (wa, _) (.tail _ (.tail _ (.head _))))
            · rcases List.mem_cons.mp hq with rfl | hq
              · exact hsw
              · rcases List.mem_cons.mp hq with rfl | hq
                · exact hpw
                · rcases List.mem_append.mp hq with hq | hq
                  · exact (hP.off q hq).2
                  · exact o1 q hq wa (.tail _ (.tail _ (.head _)))
          intro h6 F6 N6
          dsimp only
          k_steps
          refine fin5 ⟨c.pv, c.pn, c.wv ++ [.ref D1], c.wn + 1, (D1, tup2 7 (Str.ofString "(") t1 t2 0) :: c.rest, (c.st.1, 7 :: c.st.2)⟩ (by k_asm) (by k_asm) ?_ ?_ ?_ o1 ?_ ?_
          · repeat' (first | exact Same.base | exact Same.refl _ _ | refine Same.set rfl ?_ | refine Same.sub rfl ?_)
          · intro q hq
            rcases List.mem_cons.mp hq with rfl | hq
            · exact .tail _ (.tail _ (.head _))
            · rcases List.mem_cons.mp hq with rfl | hq
              · exact .tail _ (.tail _ (.tail _ (.head _)))
              · rcases List.mem_cons.mp hq with rfl | hq
                · exact .head _
                · rcases List.mem_cons.mp hq with rfl | hq
                  · exact .tail _ (.head _)
                  · exact .tail _ (.tail _ (.tail _ (.tail _ (List.mem_append.mpr (.inl hq)))))
          · intro q hq
            exact .tail _ (.tail _ (.tail _ (.tail _ (List.mem_append.mpr (.inr hq)))))
          · intro q hq p' hp'
            rcases List.mem_cons.mp hp' with rfl | hp'
            · exact Nat.ne_of_lt (hlt q (List.mem_append.mpr (.inr hq)))
            · exact o2 q hq p' hp'
          · refine ⟨.inl ⟨hi, ?_⟩, hP.pile.mono fun _ h => .tail _ h, ?_, hP.src.mono fun _ h => .tail _ h, ?_, ?_, ?_⟩
            · rcases hP.at_ with ⟨_, q⟩ | ⟨q, _⟩
              · rw [run_next q hi, h7, step_lp]
              · (first | lia | omega)
            · show DatAll _ (c.wv ++ [.ref D1]) (waitD (7 :: c.st.2))
              rw [waitD_cons, piece7]
              refine DatAll.append (hP.wait.mono fun _ h => .tail _ h) (DatAll.one ?_)
              exact DatIn.tuple (vs := [.int 7 t1, .str (Str.ofString "(") t2]) (.head _) (.cons (.int _ _) (.cons (.str _ _) .nil))
            · intro q hq
              rcases List.mem_cons.mp hq with rfl | hq
              · exact ⟨Nat.ne_of_gt (hlt (pa, _) (.tail _ (.head _))), Nat.ne_of_gt (hlt (wa, _) (.tail _ (.tail _ (.head _))))⟩
              · exact hP.off q hq
            · have := step_weight (step_lp (st := c.st))
              have := hP.wt
              show weight (c.st.1, 7 :: c.st.2) ≤ 2 * (i + 1)
              (first | lia | omega)
            · intro q hq
              rcases List.mem_cons.mp hq with rfl | hq
              · exact .inl ⟨by decide, by decide⟩
              · exact hP.tok q hq
    · dsimp only
      k_steps
      · exact absurd (by assumption) hk1
      · exact absurd (eq_of_beq (by assumption)) hplp
      unfold Stop
      obtain ⟨o1, o2⟩ := off5 hoff
      refine' whileD (σ := S5) (fun d => (pa, listOf d.pv.toArray d.pn) :: (wa, listOf d.wv.toArray d.wn) :: (src, listOf vs.toArray nn) :: (d.rest ++ own)) (fun _ => []) [Str.ofString "second", Str.ofString "first"] (W5 ts vs pa wa own i k st') (fun d => W5 ts vs pa wa own i k st' d ∧ d.st = st') (fun d => d.st.2.length) c ?wF ?wN ?wk ?wn ?wp ?_ ?_ ?wE
      case wF => k_asm
      case wN => k_asm
      case wk => exact Has.nil
      case wn =>
        intro q hq
        rcases List.mem_cons.mp hq with rfl | hq
        · exact .tail _ (.tail _ (.head _))
        · rcases List.mem_cons.mp hq with rfl | hq
          · exact .tail _ (.tail _ (.tail _ (.head _)))
          · rcases List.mem_cons.mp hq with rfl | hq
            · exact .tail _ (.head _)
            · exact .tail _ (.tail _ (.tail _ (.tail _ hq)))
      case wE => exact PassesOwn.never
      case wp => exact ⟨hP.pile, hP.wait, hred, hP.src, hP.off, o2, hP.wt, hP.tok⟩
      · intro d u2 h7 tk7 hP7 F7 N7
        dsimp only [kstB] at F7
        try dsimp only
        k_fold
        (k_with "compareOp NotEq ref ref" => refine stop ?_)
        (k_with "subscriptTail Name UnaryOp ref int" => refine stop ?_)
        (k_with "binaryOp Add ref ref" => refine stop ?_)
        cases hw : d.st.2 with
        | nil =>
          have hwt := hP7.wait
          rw [hw] at hwt
          have ewv : d.wv = [] := by cases e : d.wv with | nil => rfl | cons _ _ => rw [e] at hwt; cases hwt
          k_steps
          unfold Stop
          rename_i lN hN FN NN lN1
          refine ne_nil NN (.tail _ (.tail _ (.head _))) hP7.wait (fun q hq => .tail _ (.tail _ (.tail _ (.tail _ (List.mem_append.mpr (.inl hq)))))) (.head _) (kqd_waits hP7.tok) (by ktr_units) ?_
          rw [hw]
          dsimp only [waitD, List.reverse_nil, List.map_nil, List.isEmpty_nil, Bool.not_true]
          k_steps
          refine' TEnd.intro d ?wF ?wN ?wk ?wr ?wn ?wp
          case wF => k_asm
          case wN => k_asm
          case wk => exact Has.nil
          case wr => repeat' (first | exact Same.base | exact Same.refl _ _ | refine Same.set rfl ?_ | refine Same.sub rfl ?_)
          case wn => exact fun _ h => .tail _ h
          case wp =>
            refine ⟨hP7, ?_⟩
            have hr7 := hP7.red
            rw [hw] at hr7
            simp only [red, Option.some.injEq] at hr7
            rw [← hr7, ← hw]
        | cons w0 ws =>
          have hwt := hP7.wait
          rw [hw, waitD_cons] at hwt
          obtain ⟨wv', vw, ewv, hwt1, hwt2⟩ := dat_last hwt
          obtain ⟨aw, tw1, tw2, nw, rfl, hmw⟩ := tup_of hwt2
          rw [ewv] at N7
          have N7' : News s.heap L' h7 ((aw, tup2 w0 (piece w0) tw1 tw2 nw) :: (pa, listOf d.pv.toArray d.pn) :: (wa, listOf (wv' ++ [Value.ref aw]).toArray d.wn) :: (src, listOf vs.toArray nn) :: (d.rest ++ own)) := by
            intro q hq
            rcases List.mem_cons.mp hq with rfl | hq
            · exact N7 _ (.tail _ (.tail _ (.tail _ (List.mem_append.mpr (.inl hmw)))))
            · exact N7 _ hq
          k_steps
          unfold Stop
          rename_i lN hN FN NN lN1
          have hwt' := hP7.wait
          rw [ewv] at hwt'
          refine ne_nil NN (.tail _ (.tail _ (.tail _ (.head _)))) hwt' (fun q hq => .tail _ (.tail _ (.tail _ (.tail _ (.tail _ (List.mem_append.mpr (.inl hq))))))) (.head _) (kqd_waits hP7.tok) (by ktr_units) ?_
          have ene : (waitD d.st.2).isEmpty = false := by rw [hw, waitD_cons]; simp
          rw [ene]
          dsimp only [Bool.not_false]
          k_steps
          unfold Stop
          refine last_item NN (.tail _ (.tail _ (.tail _ (.head _)))) ?_
          k_steps
          · unfold Stop
            rename_i hge
            have hr7 := hP7.red
            rw [hw] at hr7
            unfold red at hr7
            rw [if_pos hge] at hr7
            obtain ⟨b, a', p', hst1, hr7'⟩ : ∃ b a' p', d.st.1 = b :: a' :: p' ∧ red k (([w0] ++ a' ++ b) :: p') ws = some st' := by
              cases hq : d.st.1 with
              | nil => rw [hq] at hr7; cases hr7
              | cons b q =>
                cases q with
                | nil => rw [hq] at hr7; cases hr7
                | cons a' p' => rw [hq] at hr7; exact ⟨b, a', p', rfl, hr7⟩
            have hpt := hP7.pile
            rw [hst1, pileD_cons, pileD_cons] at hpt
            obtain ⟨pvb, vb, epv, hpt1, hptb⟩ := dat_last hpt
            obtain ⟨pv1, va, rfl, hpt2, hpta⟩ := dat_last hpt1
            obtain ⟨lb, sb, nb, rfl, hmb, hsb⟩ := list_of hptb
            obtain ⟨la, sa, na, rfl, hma, hsa⟩ := list_of hpta
            have hT0 : ∀ q ∈ ((lb, listOf sb.toArray nb) :: (la, listOf sa.toArray na) :: (aw, tup2 w0 (piece w0) tw1 tw2 nw) :: (src, listOf vs.toArray nn) :: (d.rest ++ own)), q.1 ≠ pa ∧ q.1 ≠ wa := by
              intro q hq
              rcases List.mem_cons.mp hq with rfl | hq
              · exact hP7.off _ hmb
              · rcases List.mem_cons.mp hq with rfl | hq
                · exact hP7.off _ hma
                · rcases List.mem_cons.mp hq with rfl | hq
                  · exact hP7.off _ hmw
                  · rcases List.mem_cons.mp hq with rfl | hq
                    · exact ⟨hsp, hsw⟩
                    · rcases List.mem_append.mp hq with hq | hq
                      · exact hP7.off q hq
                      · exact ⟨o1 q hq pa (.tail _ (.head _)), o1 q hq wa (.tail _ (.tail _ (.head _)))⟩
            generalize hTT : ((lb, listOf sb.toArray nb) :: (la, listOf sa.toArray na) :: (aw, tup2 w0 (piece w0) tw1 tw2 nw) :: (src, listOf vs.toArray nn) :: (d.rest ++ own)) = T0 at hT0
            have NA : News s.heap L' hN ((pa, listOf ((pv1 ++ [Value.ref la]) ++ [Value.ref lb]).toArray d.pn) :: (wa, listOf (wv' ++ [Value.ref aw]).toArray d.wn) :: T0) := by
              intro q hq
              rw [← epv] at hq
              rcases List.mem_cons.mp hq with rfl | hq
              · exact NN _ (.tail _ (.tail _ (.head _)))
              · rcases List.mem_cons.mp hq with rfl | hq
                · exact NN _ (.tail _ (.tail _ (.tail _ (.head _))))
                · rw [← hTT] at hq
                  rcases List.mem_cons.mp hq with rfl | hq
                  · exact NN _ (.tail _ (.tail _ (.tail _ (.tail _ (.tail _ (List.mem_append.mpr (.inl hmb)))))))
                  · rcases List.mem_cons.mp hq with rfl | hq
                    · exact NN _ (.tail _ (.tail _ (.tail _ (.tail _ (.tail _ (List.mem_append.mpr (.inl hma)))))))
                    · rcases List.mem_cons.mp hq with rfl | hq
                      · exact NN _ (.tail _ (.head _))
                      · rcases List.mem_cons.mp hq with rfl | hq
                        · exact NN _ (.tail _ (.tail _ (.tail _ (.tail _ (.head _)))))
                        · exact NN _ (.tail _ (.tail _ (.tail _ (.tail _ (.tail _ hq)))))
            have hkeep1 : ∀ {o : Obj}, ∀ q ∈ ((wa, o) :: T0), q.1 ≠ pa := fun q hq => by
              rcases List.mem_cons.mp hq with rfl | hq
              · exact Ne.symm hpw
              · exact (hT0 q hq).1
            have hkeep2 : ∀ {o : Obj}, ∀ q ∈ ((pa, o) :: T0), q.1 ≠ wa := fun q hq => by
              rcases List.mem_cons.mp hq with rfl | hq
              · exact hpw
              · exact (hT0 q hq).2
            have hplen : pv1.length ≤ 2 * i := by
              have h1 := hpt2.length
              rw [pileD_len] at h1
              have h2 := pile_le_weight d.st
              rw [hst1] at h2
              have h3 := hP7.wt
              simp only [List.length_cons] at h2
              (first | lia | omega)
            have hwlen : wv'.length ≤ 2 * i := by
              have h1 := hwt1.length
              rw [waitD_len] at h1
              have h2 := wait_le_weight d.st
              rw [hw] at h2
              have h3 := hP7.wt
              simp only [List.length_cons] at h2
              (first | lia | omega)
            have hii : i ≤ 65 := by
              rcases hP.at_ with ⟨q, _⟩ | ⟨q, _⟩ <;> (first | lia | omega)
            clear NN
            refine popN FN NA (.head _) _ (fun q hq => .tail _ hq) hkeep1 (by (rw [sizeLine_eq, List.length_append, List.length_singleton]; (first | lia | omega))) ?_
            intro h61 F61 N61
            dsimp only
            k_steps
            unfold Stop
            rename Fr _ _ _ _ => F62
            rename News _ _ _ _ => N62
            refine popN F62 N62 (.head _) _ (fun q hq => .tail _ hq) hkeep1 (by (rw [sizeLine_eq]; (first | lia | omega))) ?_
            intro h63 F63 N63
            dsimp only
            k_steps
            unfold Stop
            rename Fr _ _ _ _ => F64
            rename News _ _ _ _ => N64
            refine popN F64 N64 (.tail _ (.head _)) ((pa, listOf pv1.toArray (d.pn + 1 + 1)) :: T0) ?_ hkeep2 (by (rw [sizeLine_eq]; (first | lia | omega))) ?_
            · intro q hq
              rcases List.mem_cons.mp hq with rfl | hq
              · exact .head _
              · exact .tail _ (.tail _ hq)
            intro h65 F65 N65
            have N65' : News s.heap L' h65 ((aw, tup2 w0 (piece w0) tw1 tw2 nw) :: (wa, listOf wv'.toArray (d.wn + 1)) :: (pa, listOf pv1.toArray (d.pn + 1 + 1)) :: T0) := by
              intro q hq
              rcases List.mem_cons.mp hq with rfl | hq
              · exact N65 _ (.tail _ (.tail _ (by rw [← hTT]; exact .tail _ (.tail _ (.head _)))))
              · exact N65 _ hq
            dsimp only
            k_steps
            unfold Stop
            rename_i lX hX9 FX NX lX1
            have hsal := hsa.length
            have hsbl := hsb.length
            rw [List.length_map] at hsal hsbl
            have hal := item_le_weight d.st a' (by rw [hst1]; exact .tail _ (.head _))
            have hbl := item_le_weight d.st b (by rw [hst1]; exact .head _)
            have hwt9 := hP7.wt
            have hmla : (la, listOf sa.toArray na) ∈ T0 := by rw [← hTT]; exact .tail _ (.head _)
            have hmlb : (lb, listOf sb.toArray nb) ∈ T0 := by rw [← hTT]; exact .head _
            refine PyProof.Rows.add_lists (vs := [Value.str (piece w0) tw2]) (ws := sa) (hsz := by (simp only [List.length_cons, List.length_nil, sizeLine_eq]; (first | lia | omega))) FX NX ⟨_, (NX (lX, _) (.head _)).1, rfl, _, rfl⟩ ⟨_, (NX _ (.tail _ (.tail _ (.tail _ (.tail _ hmla))))).1, rfl, _, rfl⟩ ?_
            intro h66 F66 N66
            dsimp only at N66 ⊢
            k_steps
            unfold Stop
            refine PyProof.Rows.add_lists (vs := [Value.str (piece w0) tw2] ++ sa) (ws := sb) (hsz := by (simp only [List.length_append, List.length_cons, List.length_nil, sizeLine_eq]; (first | lia | omega))) F66 N66 ⟨_, (N66 _ (.head _)).1, rfl, _, rfl⟩ ⟨_, (N66 _ (.tail _ (.tail _ (.tail _ (.tail _ (.tail _ hmlb)))))).1, rfl, _, rfl⟩ ?_
            intro h68 F68 N68
            dsimp only at N68 ⊢
            have hZ : ∀ q ∈ ((wa, listOf wv'.toArray (d.wn + 1)) :: (pa, listOf pv1.toArray (d.pn + 1 + 1)) :: T0), q.1 < h66.objs.size := fun q hq => Heap.lt_size (N66 q (.tail _ (.tail _ (.tail _ hq)))).1
            generalize hZd : h66.objs.size = Z at *
            have NZ : News s.heap L' h68 ((Z, listOf (([Value.str (piece w0) tw2] ++ sa) ++ sb).toArray 0) :: (wa, listOf wv'.toArray (d.wn + 1)) :: (pa, listOf pv1.toArray (d.pn + 1 + 1)) :: T0) := by
              intro q hq
              rcases List.mem_cons.mp hq with rfl | hq
              · exact N68 _ (.head _)
              · exact N68 _ (.tail _ (.tail _ (.tail _ (.tail _ hq))))
            clear N68 N66 NX
            k_steps
            unfold Stop
            rename Fr _ _ _ _ => F69
            rename News _ _ _ _ => N69
            refine appendN F69 N69 (.tail _ (.tail _ (.head _))) ((Z, listOf (([Value.str (piece w0) tw2] ++ sa) ++ sb).toArray 0) :: (wa, listOf wv'.toArray (d.wn + 1)) :: T0) ?_ ?_ (by (rw [sizeLine_eq]; (first | lia | omega))) ?_
            · intro q hq
              rcases List.mem_cons.mp hq with rfl | hq
              · exact .head _
              · rcases List.mem_cons.mp hq with rfl | hq
                · exact .tail _ (.head _)
                · exact .tail _ (.tail _ (.tail _ hq))
            · intro q hq
              rcases List.mem_cons.mp hq with rfl | hq
              · exact Nat.ne_of_gt (hZ (pa, _) (.tail _ (.head _)))
              · exact hkeep1 q hq
            intro h70 F70 N70
            dsimp only
            k_steps
            refine' TPost.next ⟨pv1 ++ [.ref Z], d.pn + 1 + 1 + 1, wv', d.wn + 1, (Z, listOf (([Value.str (piece w0) tw2] ++ sa) ++ sb).toArray 0) :: d.rest, (([w0] ++ a' ++ b) :: p', ws)⟩ ?wF ?wN ?wk ?wr ?wn ?wp
            case wF => k_asm
            case wN => k_asm
            case wk => exact Has.nil
            case wr => repeat' (first | exact Same.base | exact Same.refl _ _ | refine Same.set rfl ?_ | refine Same.sub rfl ?_)
            case wn =>
              intro q hq
              rcases List.mem_cons.mp hq with rfl | hq
              · exact .head _
              · rcases List.mem_cons.mp hq with rfl | hq
                · exact .tail _ (.tail _ (.head _))
                · rcases List.mem_cons.mp hq with rfl | hq
                  · exact .tail _ (.tail _ (.tail _ (by rw [← hTT]; exact .tail _ (.tail _ (.tail _ (.head _))))))
                  · rcases List.mem_cons.mp hq with rfl | hq
                    · exact .tail _ (.head _)
                    · exact .tail _ (.tail _ (.tail _ (by rw [← hTT]; exact .tail _ (.tail _ (.tail _ (.tail _ hq))))))
            case wp =>
              refine ⟨⟨?_, hwt1.mono fun _ h => .tail _ h, hr7', hP7.src.mono fun _ h => .tail _ h, ?_, ?_, ?_, ?_⟩, ?_⟩
              · show DatAll _ (pv1 ++ [.ref Z]) (pileD (([w0] ++ a' ++ b) :: p'))
                rw [pileD_cons]
                refine DatAll.append (hpt2.mono fun _ h => .tail _ h) (DatAll.one (DatIn.list (.head _) ?_))
                rw [List.map_append, List.map_append]
                exact DatAll.append (DatAll.append (DatAll.one (.str _ _)) (hsa.mono fun _ h => .tail _ h)) (hsb.mono fun _ h => .tail _ h)
              · intro q hq
                rcases List.mem_cons.mp hq with rfl | hq
                · exact ⟨Nat.ne_of_gt (hZ (pa, _) (.tail _ (.head _))), Nat.ne_of_gt (hZ (wa, _) (.head _))⟩
                · exact hP7.off q hq
              · intro q hq p9 hp9
                rcases List.mem_cons.mp hp9 with rfl | hp9
                · refine Nat.ne_of_lt (hZ q (.tail _ (.tail _ ?_)))
                  rw [← hTT]; exact .tail _ (.tail _ (.tail _ (.tail _ (List.mem_append.mpr (.inr hq)))))
                · exact hP7.offo q hq p9 hp9
              · show weight (([w0] ++ a' ++ b) :: p', ws) ≤ 2 * i
                have h1 := hP7.wt
                have e9 : weight d.st = weight (b :: a' :: p', w0 :: ws) := by rw [← hst1, ← hw]
                rw [e9] at h1
                simp [weight] at h1 ⊢
                (first | lia | omega)
              · intro q hq
                exact hP7.tok q (by rw [hw]; exact .tail _ hq)
              · show ws.length < d.st.2.length
                rw [hw]; simp
          · rename_i hlt0
            refine' TEnd.intro d ?wF ?wN ?wk ?wr ?wn ?wp
            case wF => k_asm
            case wN => k_asm
            case wk => exact Has.nil
            case wr => repeat' (first | exact Same.base | exact Same.refl _ _ | refine Same.set rfl ?_ | refine Same.sub rfl ?_)
            case wn => rw [ewv]; exact fun _ h => .tail _ (.tail _ h)
            case wp =>
              refine ⟨hP7, ?_⟩
              have hr7 := hP7.red
              rw [hw] at hr7
              unfold red at hr7
              rw [if_neg hlt0] at hr7
              rw [← Option.some.inj hr7, ← hw]
      · intro d u2 h7 tk7 hR7 F7 N7
        dsimp only [kstB] at F7
        try dsimp only
        obtain ⟨hW, hds⟩ := hR7
        have hi65 : i ≤ 65 := by
          rcases hP.at_ with ⟨q, _⟩ | ⟨q, _⟩ <;> (first | lia | omega)
        k_steps
        · unfold Stop
          rename_i hprp
          have hprp' : p = Str.ofString ")" := eq_of_beq hprp
          rcases hO with ⟨hk8, _, ⟨hi, h8⟩, w0, w', hst2, hstep⟩ | ⟨h9, h54, hpk, _⟩ | ⟨_, hpe, _⟩
          · have hwt := hW.wait
            rw [hds, hst2, waitD_cons] at hwt
            obtain ⟨wv', vw, ewv, hwt1, hwt2⟩ := dat_last hwt
            rw [ewv] at N7
            have hwl : wv'.length ≤ 2 * i := by
              have h1 := hwt.length
              rw [ewv, List.length_append, List.length_append, waitD_len] at h1
              have h2 := wait_le_weight d.st
              rw [hds, hst2] at h2
              have h3 := hW.wt
              rw [hds] at h3
              simp only [List.length_cons, List.length_nil] at h1 h2
              (first | lia | omega)
            refine popN F7 N7 (.tail _ (.head _)) ((pa, listOf d.pv.toArray d.pn) :: (src, listOf vs.toArray nn) :: (d.rest ++ own)) ?_ ?_ (by (rw [sizeLine_eq]; (first | lia | omega))) ?_
            · intro q hq
              rcases List.mem_cons.mp hq with rfl | hq
              · exact .head _
              · exact .tail _ (.tail _ hq)
            · intro q hq
              rcases List.mem_cons.mp hq with rfl | hq
              · exact hpw
              · rcases List.mem_cons.mp hq with rfl | hq
                · exact hsw
                · rcases List.mem_append.mp hq with hq | hq
                  · exact (hW.off q hq).2
                  · exact o1 q hq wa (.tail _ (.tail _ (.head _)))
            intro h6 F6 N6
            dsimp only
            k_steps
            refine fin5 ⟨d.pv, d.pn, wv', d.wn + 1, d.rest, (st'.1, w')⟩ (by k_asm) (by k_asm) ?_ ?_ ?_ o1 hW.offo ?_
            · repeat' (first | exact Same.base | exact Same.refl _ _ | refine Same.set rfl ?_ | refine Same.sub rfl ?_)
            · intro q hq
              rcases List.mem_cons.mp hq with rfl | hq
              · exact .tail _ (.tail _ (.head _))
              · rcases List.mem_cons.mp hq with rfl | hq
                · exact .tail _ (.head _)
                · rcases List.mem_cons.mp hq with rfl | hq
                  · exact .head _
                  · exact .tail _ (.tail _ (.tail _ (List.mem_append.mpr (.inl hq))))
            · intro q hq
              exact .tail _ (.tail _ (.tail _ (List.mem_append.mpr (.inr hq))))
            · have hpile := hW.pile
              rw [hds] at hpile
              refine ⟨.inl ⟨hi, ?_⟩, hpile, hwt1, hW.src, hW.off, ?_, ?_⟩
              · rcases hP.at_ with ⟨_, q⟩ | ⟨q, _⟩
                · rw [run_next q hi, h8, hstep]
                · (first | lia | omega)
              · have h1 := step_weight hstep
                have := hP.wt
                show weight (st'.1, w') ≤ 2 * (i + 1)
                (first | lia | omega)
              · intro q hq
                exact hW.tok q (by rw [hds, hst2]; exact .tail _ hq)
          · exact absurd (by rw [← hpk]; exact hprp') (piece_ne_rp (k := k) (.inl ⟨by (first | lia | omega), h54⟩) (by (first | lia | omega)))
          · rw [hpe] at hprp'
            exact absurd hprp' (by decide)
        · unfold Stop
          rename_i hprp
          have hprp' : p ≠ Str.ofString ")" := fun e => by rw [e] at hprp; simp at hprp
          rcases hO with ⟨_, hp8, _⟩ | ⟨h9, h54, hpk, ⟨hi, hik⟩, hstep⟩ | ⟨hk0, hpe, hi, hfn⟩
          · exact absurd hp8 hprp'
          · k_dflt (refine' Fn.useO (iseof_fn k _) ?c1 ?c2 ?c3 ?c4 ?c5 ?c6 trivial ?c8 ?c9 ?_; (case c1 => k_asm); (case c2 => k_asm); (case c3 => k_asm); (case c4 => k_asm); (case c5 => k_asm); (case c6 => first | exact rfl | assumption); (case c8 => ktr_room); (case c9 => ktr_units))
            intro h6 tk6 F6 N6
            rw [decide_eq_false (show ¬ k = 0 by (first | lia | omega))]
            dsimp only
            k_steps
            unfold Stop
            rename_i D1 hN FN NN lN1
            have hlt := ktn_ltOf (l := (pa, listOf d.pv.toArray d.pn) :: (wa, listOf d.wv.toArray d.wn) :: (src, listOf vs.toArray nn) :: (d.rest ++ own)) lN1
            have hwl : d.wv.length ≤ 2 * i := by
              have h1 := hW.wait.length
              rw [waitD_len] at h1
              have h2 := wait_le_weight d.st
              have h3 := hW.wt
              (first | lia | omega)
            refine appendN FN NN (.tail _ (.tail _ (.head _))) ((D1, tup2 k p t1 t2 0) :: (pa, listOf d.pv.toArray d.pn) :: (src, listOf vs.toArray nn) :: (d.rest ++ own)) ?_ ?_ (by (rw [sizeLine_eq]; (first | lia | omega))) ?_
            · intro q hq
              rcases List.mem_cons.mp hq with rfl | hq
              · exact .head _
              · rcases List.mem_cons.mp hq with rfl | hq
                · exact .tail _ (.head _)
                · exact .tail _ (.tail _ (.tail _ hq))
            · intro q hq
              rcases List.mem_cons.mp hq with rfl | hq
              · exact Nat.ne_of_gt (hlt (wa, _) (.tail _ (.head _)))
              · rcases List.mem_cons.mp hq with rfl | hq
                · exact hpw
                · rcases List.mem_cons.mp hq with rfl | hq
                  · exact hsw
                  · rcases List.mem_append.mp hq with hq | hq
                    · exact (hW.off q hq).2
                    · exact o1 q hq wa (.tail _ (.tail _ (.head _)))
            intro h62 F62 N62
            dsimp only
            k_steps
            refine fin5 ⟨d.pv, d.pn, d.wv ++ [.ref D1], d.wn + 1, (D1, tup2 k p t1 t2 0) :: d.rest, (st'.1, k :: st'.2)⟩ (by k_asm) (by k_asm) ?_ ?_ ?_ o1 ?_ ?_
            · repeat' (first | exact Same.base | exact Same.refl _ _ | refine Same.set rfl ?_ | refine Same.sub rfl ?_)
            · intro q hq
              rcases List.mem_cons.mp hq with rfl | hq
              · exact .tail _ (.tail _ (.tail _ (.head _)))
              · rcases List.mem_cons.mp hq with rfl | hq
                · exact .tail _ (.tail _ (.head _))
                · rcases List.mem_cons.mp hq with rfl | hq
                  · exact .head _
                  · rcases List.mem_cons.mp hq with rfl | hq
                    · exact .tail _ (.head _)
                    · exact .tail _ (.tail _ (.tail _ (.tail _ (List.mem_append.mpr (.inl hq)))))
            · intro q hq
              exact .tail _ (.tail _ (.tail _ (.tail _ (List.mem_append.mpr (.inr hq)))))
            · intro q hq p' hp'
              rcases List.mem_cons.mp hp' with rfl | hp'
              · exact Nat.ne_of_lt (hlt q (.tail _ (.tail _ (.tail _ (List.mem_append.mpr (.inr hq))))))
              · exact hW.offo q hq p' hp'
            · have hpile := hW.pile
              have hwait := hW.wait
              rw [hds] at hpile hwait
              refine ⟨.inl ⟨hi, ?_⟩, hpile.mono fun _ h => .tail _ h, ?_, hW.src.mono fun _ h => .tail _ h, ?_, ?_, ?_⟩
              · rcases hP.at_ with ⟨_, q⟩ | ⟨q, _⟩
                · rw [run_next q hi, hik, hstep]
                · (first | lia | omega)
              · show DatAll _ (d.wv ++ [.ref D1]) (waitD (k :: st'.2))
                rw [waitD_cons, ← hpk]
                refine DatAll.append (hwait.mono fun _ h => .tail _ h) (DatAll.one ?_)
                exact DatIn.tuple (vs := [.int k t1, .str p t2]) (.head _) (.cons (.int _ _) (.cons (.str _ _) .nil))
              · intro q hq
                rcases List.mem_cons.mp hq with rfl | hq
                · exact ⟨Nat.ne_of_gt (hlt (pa, _) (.head _)), Nat.ne_of_gt (hlt (wa, _) (.tail _ (.head _)))⟩
                · exact hW.off q hq
              · have := step_weight hstep
                have := hP.wt
                show weight (st'.1, k :: st'.2) ≤ 2 * (i + 1)
                (first | lia | omega)
              · intro q hq
                rcases List.mem_cons.mp hq with rfl | hq
                · exact .inl ⟨by (first | lia | omega), h54⟩
                · exact hW.tok q (by rw [hds]; exact hq)
          · subst hk0
            k_dflt (refine' Fn.useO (iseof_fn 0 _) ?c1 ?c2 ?c3 ?c4 ?c5 ?c6 trivial ?c8 ?c9 ?_; (case c1 => k_asm); (case c2 => k_asm); (case c3 => k_asm); (case c4 => k_asm); (case c5 => k_asm); (case c6 => first | exact rfl | assumption); (case c8 => ktr_room); (case c9 => ktr_units))
            intro h6 tk6 F6 N6
            rw [decide_eq_true rfl]
            dsimp only
            k_steps
            unfold Stop
            k_dflt (refine' Fn.useB (int2ap_fn 0 _ (by decide)) ?c1 ?c2 ?c3 ?c4 ?c5 ?c6 trivial ?c8 ?c9 ?_; (case c1 => k_asm); (case c2 => k_asm); (case c3 => k_asm); (case c4 => k_asm); (case c5 => k_asm); (case c6 => first | exact rfl | assumption); (case c8 => ktr_room); (case c9 => ktr_units))
            intro t61 h61 tk61 F61 N61
            have e0 : (apL (Int.natAbs 0)).toArray = #[] := by rw [Int.natAbs_zero, apL_zero]
            rw [e0]
            dsimp only
            k_steps
            refine fin5 ⟨d.pv, d.pn, d.wv, d.wn, d.rest, st'⟩ (by k_asm) (by k_asm) ?_ ?_ ?_ o1 hW.offo ?_
            · repeat' (first | exact Same.base | exact Same.refl _ _ | refine Same.set rfl ?_ | refine Same.sub rfl ?_)
            · intro q hq
              rcases List.mem_cons.mp hq with rfl | hq
              · exact .tail _ (.tail _ (.head _))
              · rcases List.mem_cons.mp hq with rfl | hq
                · exact .head _
                · rcases List.mem_cons.mp hq with rfl | hq
                  · exact .tail _ (.head _)
                  · exact .tail _ (.tail _ (.tail _ (List.mem_append.mpr (.inl hq))))
            · intro q hq
              exact .tail _ (.tail _ (.tail _ (List.mem_append.mpr (.inr hq))))
            · have hpile := hW.pile
              have hwait := hW.wait
              have hwt := hW.wt
              have htok := hW.tok
              rw [hds] at hpile hwait hwt htok
              exact ⟨.inr ⟨by (first | lia | omega), hfn⟩, hpile, hwait, hW.src, hW.off, by (show weight st' ≤ 2 * (i + 1); (first | lia | omega)), htok⟩
  · intro c u h tk hP F9 N9
    dsimp only [kstB] at F9
    try dsimp only
    k_steps
    show Ret _ _ _
    rename_i D1 hN FN NN lN1
    have hst : c.st = fin := by
      rcases hP.at_ with ⟨q, _⟩ | ⟨_, q⟩
      · (first | lia | omega)
      · exact q
    have hpile := hP.pile
    have hwait := hP.wait
    rw [hst] at hpile hwait
    refine hret _ _ _ _ _ FN.keep (Fresh.of NN) rfl ?_
    exact DatIn.tuple (vs := [.ref pa, .ref wa]) (.head _) (.cons (DatIn.list (.tail _ (.tail _ (.head _))) (hpile.mono fun _ h => .tail _ (.tail _ (.tail _ (.tail _ h))))) (.cons (DatIn.list (.tail _ (.tail _ (.tail _ (.head _)))) (hwait.mono fun _ h => .tail _ (.tail _ (.tail _ (.tail _ h))))) .nil))
end
end Mine
namespace Mine
namespace Tr
noncomputable def wrap (b : Bool) (ts : List Int) : List Int := if b then [7] ++ ts ++ [8] else ts
noncomputable def toks : Tr → List Int
  | .leaf n => [n]
  | .node k l r => wrap (decide (l.bind < k)) l.toks ++ [k] ++ wrap (decide (r.bind ≤ k)) r.toks
noncomputable def wouts (b : Bool) (ts : List Int) (os : List (List Int)) : List (List Int) := if b then os.map (fun r => [7] ++ r ++ [8]) ++ [ts] else os
/- the rows with one pair of brackets less -/
noncomputable def outs : Tr → List (List Int)
  | .leaf _ => []
  | .node k l r => (wouts (decide (l.bind < k)) l.toks l.outs).map (fun x => x ++ [k] ++ wrap (decide (r.bind ≤ k)) r.toks) ++ (wouts (decide (r.bind ≤ k)) r.toks r.outs).map (fun x => wrap (decide (l.bind < k)) l.toks ++ [k] ++ x)
theorem bind_ge : ∀ {t : Tr}, t.good → 9 ≤ t.bind
  | .leaf _, _ => by show (9 : Int) ≤ 99; decide
  | .node _ _ _, h => h.1.1
theorem toks_len : ∀ t : Tr, t.toks.length ≤ 6 * t.ops + 1
  | .leaf _ => Nat.le_refl _
  | .node k l r => by
    have h1 := toks_len l
    have h2 := toks_len r
    have w : ∀ b ts, (wrap b ts).length ≤ ts.length + 2 := by intro b ts; unfold wrap; split <;> simp
    have w1 := w (decide (l.bind < k)) l.toks
    have w2 := w (decide (r.bind ≤ k)) r.toks
    show (wrap _ _ ++ [k] ++ wrap _ _).length ≤ 6 * (l.ops + r.ops + 1) + 1
    simp only [List.length_append, List.length_singleton]; (first | lia | omega)
end Tr
/- rows of operands, operators and brackets, as they may stand -/
noncomputable def Wf : Bool → Nat → List Int → Prop
  | e, d, [] => e = true ∧ d = 0
  | false, d, t :: r => (64 ≤ t ∧ t ≤ 255) ∧ Wf true d r ∨ t = 7 ∧ Wf false (d + 1) r
  | true, d, t :: r => (9 ≤ t ∧ t ≤ 54) ∧ Wf false d r ∨ t = 8 ∧ ∃ d', d = d' + 1 ∧ Wf true d' r
theorem Wf.row : ∀ {ts : List Int} {e : Bool} {d : Nat}, Wf e d ts → Row ts ∧ (∀ a r, ts = a :: r → (e = true → 8 ≤ a ∧ a < 64) ∧ (e = false → a = 7 ∨ 64 ≤ a))
  | [], _, _, _ => ⟨trivial, fun _ _ h => nomatch h⟩
  | t :: r, false, d, h => by
    rcases h with ⟨h1, h2⟩ | ⟨rfl, h2⟩
    · obtain ⟨i1, i2⟩ := Wf.row h2
      refine ⟨?_, fun a q e => by cases e; exact ⟨(fun x => nomatch x), fun _ => .inr h1.1⟩⟩
      cases r with
      | nil => exact .inr h1
      | cons b q =>
        have := (i2 b q rfl).1 rfl
        exact ⟨.inr h1, fun _ => by (first | lia | omega), fun _ _ => by (first | lia | omega), i1⟩
    · obtain ⟨i1, i2⟩ := Wf.row h2
      refine ⟨?_, fun a q e => by cases e; exact ⟨(fun x => nomatch x), fun _ => .inl rfl⟩⟩
      cases r with
      | nil => exact .inl (by decide)
      | cons b q =>
        have := (i2 b q rfl).2 rfl
        exact ⟨.inl (by decide), fun _ => by (first | lia | omega), fun _ _ => by (first | lia | omega), i1⟩
  | t :: r, true, d, h => by
    rcases h with ⟨h1, h2⟩ | ⟨rfl, d', rfl, h2⟩
    · obtain ⟨i1, i2⟩ := Wf.row h2
      refine ⟨?_, fun a q e => by cases e; exact ⟨fun _ => by (first | lia | omega), fun x => nomatch x⟩⟩
      cases r with
      | nil => exact .inl (by (first | lia | omega))
      | cons b q =>
        have := (i2 b q rfl).2 rfl
        exact ⟨.inl (by (first | lia | omega)), fun _ => by (first | lia | omega), fun _ _ => by (first | lia | omega), i1⟩
    · obtain ⟨i1, i2⟩ := Wf.row h2
      refine ⟨?_, fun a q e => by cases e; exact ⟨fun _ => by (first | lia | omega), fun x => nomatch x⟩⟩
      cases r with
      | nil => exact .inl (by decide)
      | cons b q =>
        have := (i2 b q rfl).1 rfl
        exact ⟨.inl (by decide), fun _ => by (first | lia | omega), fun _ _ => by (first | lia | omega), i1⟩
/- a row stands as an operand -/
noncomputable def Opd (ts : List Int) : Prop := ∀ d rest, Wf true d rest → Wf false d (ts ++ rest)
theorem Opd.wrap {ts : List Int} (h : Opd ts) (b : Bool) : Opd (Tr.wrap b ts) := by
  cases b with
  | false => exact h
  | true =>
    intro d rest hr
    show Wf false d (([7] ++ ts ++ [8]) ++ rest)
    have e : ([7] ++ ts ++ [8]) ++ rest = 7 :: (ts ++ (8 :: rest)) := by simp
    rw [e]
    exact .inr ⟨rfl, h (d + 1) (8 :: rest) (.inr ⟨rfl, d, rfl, hr⟩)⟩
theorem Opd.op {a b : List Int} {k : Int} (ha : Opd a) (hb : Opd b) (hk : 9 ≤ k ∧ k ≤ 54) : Opd (a ++ [k] ++ b) := by
  intro d rest hr
  have e : (a ++ [k] ++ b) ++ rest = a ++ (k :: (b ++ rest)) := by simp
  rw [e]
  exact ha d _ (.inl ⟨hk, hb d rest hr⟩)
theorem Tr.opd : ∀ {t : Tr}, t.good → Opd t.toks
  | .leaf n, h => fun d rest hr => .inl ⟨h, hr⟩
  | .node k l r, h => Opd.op ((Tr.opd h.2.1).wrap _) ((Tr.opd h.2.2).wrap _) h.1
theorem Tr.outs_opd : ∀ {t : Tr}, t.good → ∀ x ∈ t.outs, Opd x ∧ x.length + 2 = t.toks.length ∧ x.count 8 + 1 = t.toks.count 8 ∧ ∀ y, y ≠ 7 → y ≠ 8 → x.count y = t.toks.count y
  | .leaf _, _, _, h => nomatch h
  | .node k l r, hg, x, h => by
    have key : ∀ (b : Bool) (t : Tr), t.good → (∀ x ∈ t.outs, Opd x ∧ x.length + 2 = t.toks.length ∧ x.count 8 + 1 = t.toks.count 8 ∧ ∀ y, y ≠ 7 → y ≠ 8 → x.count y = t.toks.count y) →
        ∀ x ∈ wouts b t.toks t.outs, Opd x ∧ x.length + 2 = (wrap b t.toks).length ∧ x.count 8 + 1 = (wrap b t.toks).count 8 ∧ ∀ y, y ≠ 7 → y ≠ 8 → x.count y = (wrap b t.toks).count y := by
      intro b t hg ih x hx
      cases b with
      | false => exact ih x hx
      | true =>
        have hx' : x ∈ t.outs.map (fun r => [7] ++ r ++ [8]) ++ [t.toks] := hx
        show _ ∧ _ = ([7] ++ t.toks ++ [8]).length ∧ _ = ([7] ++ t.toks ++ [8]).count 8 ∧ ∀ y, _ → _ → _ = ([7] ++ t.toks ++ [8]).count y
        rcases List.mem_append.mp hx' with h1 | h1
        · obtain ⟨z, hz, rfl⟩ := List.mem_map.mp h1
          obtain ⟨i1, i2, i3, i4⟩ := ih z hz
          refine ⟨i1.wrap true, ?_, ?_, fun y h7 h8 => ?_⟩
          · simp only [List.length_append, List.length_singleton]; (first | lia | omega)
          · simp only [List.count_append, List.count_singleton]; (first | lia | omega)
          · simp only [List.count_append, i4 y h7 h8]
        · rw [List.mem_singleton.mp h1]
          refine ⟨Tr.opd hg, ?_, ?_, fun y h7 h8 => ?_⟩
          · simp only [List.length_append, List.length_singleton]; (first | lia | omega)
          · simp [List.count_append, List.count_singleton]
          · simp only [List.count_append, List.count_singleton]
            have e7 : (7 == y) = false := by simpa using Ne.symm h7
            have e8 : (8 == y) = false := by simpa using Ne.symm h8
            rw [e7, e8]; simp
    obtain ⟨hk, gl, gr⟩ := hg
    show _ ∧ _ = (wrap _ _ ++ [k] ++ wrap _ _).length ∧ _ = (wrap _ _ ++ [k] ++ wrap _ _).count 8 ∧ ∀ y, _ → _ → _ = (wrap _ _ ++ [k] ++ wrap _ _).count y
    rcases List.mem_append.mp h with h1 | h1
    · obtain ⟨z, hz, rfl⟩ := List.mem_map.mp h1
      obtain ⟨i1, i2, i3, i4⟩ := key _ l gl (Tr.outs_opd gl) z hz
      refine ⟨Opd.op i1 ((Tr.opd gr).wrap _) hk, ?_, ?_, fun y h7 h8 => ?_⟩
      · simp only [List.length_append, List.length_singleton]; (first | lia | omega)
      · simp only [List.count_append]; (first | lia | omega)
      · simp only [List.count_append, i4 y h7 h8]
    · obtain ⟨z, hz, rfl⟩ := List.mem_map.mp h1
      obtain ⟨i1, i2, i3, i4⟩ := key _ r gr (Tr.outs_opd gr) z hz
      refine ⟨Opd.op ((Tr.opd gl).wrap _) i1 hk, ?_, ?_, fun y h7 h8 => ?_⟩
      · simp only [List.length_append, List.length_singleton]; (first | lia | omega)
      · simp only [List.count_append]; (first | lia | omega)
      · simp only [List.count_append, i4 y h7 h8]
/- the row tells the tree -/
theorem Tr.row_inj : ∀ {t u : Tr} {x y : List Int}, t.good → u.good → t.row ++ x = u.row ++ y → t = u ∧ x = y
  | .leaf n, .leaf m, x, y, _, _, e => by
    simp only [Tr.row, List.cons_append, List.nil_append, List.cons.injEq] at e
    exact ⟨by rw [e.1], e.2⟩
  | .leaf n, .node k l r, x, y, h1, h2, e => by
    simp only [Tr.row, List.cons_append, List.nil_append, List.cons.injEq] at e
    have := h1.1; have := h2.1.2; (first | lia | omega)
  | .node k l r, .leaf n, x, y, h2, h1, e => by
    simp only [Tr.row, List.cons_append, List.nil_append, List.cons.injEq] at e
    have := h1.1; have := h2.1.2; (first | lia | omega)
  | .node k l r, .node k' l' r', x, y, h1, h2, e => by
    simp only [Tr.row, List.cons_append, List.nil_append, List.cons.injEq, List.append_assoc] at e
    obtain ⟨e1, e2⟩ := e
    obtain ⟨i1, i2⟩ := Tr.row_inj h1.2.1 h2.2.1 e2
    obtain ⟨i3, i4⟩ := Tr.row_inj h1.2.2 h2.2.2 i2
    exact ⟨by rw [e1, i1, i3], i4⟩
theorem Tr.row_toks : ∀ {t : Tr}, t.good → ∀ k ∈ t.row, (9 ≤ k ∧ k ≤ 54) ∨ (64 ≤ k ∧ k ≤ 255)
  | .leaf n, h, k, hk => by rw [List.mem_singleton.mp hk]; exact .inr h
  | .node k' l r, h, k, hk => by
    have hk' : k ∈ [k'] ++ l.row ++ r.row := hk
    simp only [List.mem_append, List.mem_singleton] at hk'
    rcases hk' with (rfl | hk') | hk'
    · exact .inl h.1
    · exact Tr.row_toks h.2.1 k hk'
    · exact Tr.row_toks h.2.2 k hk'
/- P1: the reader reads a tree's own row back -/
noncomputable def hdLt (b : Int) : List Int → Prop
  | [] => True
  | w :: _ => w < b
theorem red_id {k : Int} {p : List (List Int)} : ∀ {ws : List Int}, hdLt k ws → red k p ws = some (p, ws)
  | [], _ => by unfold red; rfl
  | w :: ws, h => by unfold red; rw [if_neg (by have : w < k := h; (first | lia | omega))]
theorem read_wrap {t : Tr} (hg : t.good) (ih : ∀ pile ws, hdLt t.bind ws → ∃ st', runR (pile, ws) t.toks = some st' ∧ ∀ k', k' ≤ t.bind → red k' st'.1 st'.2 = red k' (t.row :: pile) ws) (b : Bool) (pile : List (List Int)) (ws : List Int) (h : b = true ∨ hdLt t.bind ws) :
    ∃ st', runR (pile, ws) (Tr.wrap b t.toks) = some st' ∧ ∀ k', (b = true ∨ k' ≤ t.bind) → red k' st'.1 st'.2 = red k' (t.row :: pile) ws := by
  cases b with
  | false =>
    obtain ⟨st', h1, h2⟩ := ih pile ws (by rcases h with h | h; cases h; exact h)
    exact ⟨st', h1, fun k' hk' => h2 k' (by rcases hk' with h | h; cases h; exact h)⟩
  | true =>
    have h9 := Tr.bind_ge hg
    obtain ⟨st', h1, h2⟩ := ih pile (7 :: ws) (by show (7 : Int) < t.bind; (first | lia | omega))
    have h3 := h2 8 (by (first | lia | omega))
    rw [red_id (show hdLt 8 (7 :: ws) from by show (7 : Int) < 8; decide)] at h3
    refine ⟨(t.row :: pile, ws), ?_, fun _ _ => rfl⟩
    show runR (pile, ws) ([7] ++ t.toks ++ [8]) = _
    rw [List.append_assoc, runR_append]
    have e1 : runR (pile, ws) [7] = some (pile, 7 :: ws) := by
      unfold runR; rw [step_lp]; rfl
    rw [e1]
    show runR (pile, 7 :: ws) (t.toks ++ [8]) = _
    rw [runR_append, h1]
    show runR st' [8] = _
    unfold runR stepR
    rw [if_neg (by decide), if_neg (by decide), h3]
    rfl
theorem read_tree : ∀ {t : Tr}, t.good → ∀ pile ws, hdLt t.bind ws → ∃ st', runR (pile, ws) t.toks = some st' ∧ ∀ k', k' ≤ t.bind → red k' st'.1 st'.2 = red k' (t.row :: pile) ws
  | .leaf n, hg, pile, ws, _ => by
    refine ⟨([n] :: pile, ws), ?_, fun _ _ => rfl⟩
    show runR (pile, ws) [n] = _
    unfold runR; rw [step_word hg.1]; rfl
  | .node k l r, ⟨hk, gl, gr⟩, pile, ws, hw => by
    have hw' : hdLt k ws := hw
    obtain ⟨st1, a1, a2⟩ := read_wrap gl (read_tree gl) (decide (l.bind < k)) pile ws (by
      by_cases q : l.bind < k
      · left; simpa using q
      · right
        cases ws with
        | nil => trivial
        | cons w ws => have : w < k := hw'
                       show w < l.bind
                       (first | lia | omega))
    have a3 := a2 k (by
      by_cases q : l.bind < k
      · left; simpa using q
      · right; (first | lia | omega))
    rw [red_id hw'] at a3
    obtain ⟨st2, b1, b2⟩ := read_wrap gr (read_tree gr) (decide (r.bind ≤ k)) (l.row :: pile) (k :: ws) (by
      by_cases q : r.bind ≤ k
      · left; simpa using q
      · right; show k < r.bind; (first | lia | omega))
    refine ⟨st2, ?_, fun k' hk' => ?_⟩
    · show runR (pile, ws) (Tr.wrap _ _ ++ [k] ++ Tr.wrap _ _) = _
      rw [List.append_assoc, runR_append, a1]
      show runR st1 ([k] ++ _) = _
      rw [runR_append]
      have e1 : runR st1 [k] = some (l.row :: pile, k :: ws) := by
        unfold runR stepR
        rw [if_neg (by (first | lia | omega)), if_neg (by (first | lia | omega)), a3]
        simp only [if_neg (show ¬ k = 8 by (first | lia | omega))]
        rfl
      rw [e1]
      exact b1
    · have hk2 : k' ≤ k := hk'
      rw [b2 k' (by
        by_cases q : r.bind ≤ k
        · left; simpa using q
        · right; (first | lia | omega))]
      show red k' (r.row :: l.row :: pile) (k :: ws) = red k' (([k] ++ l.row ++ r.row) :: pile) ws
      conv => lhs; unfold red
      rw [if_pos hk2]
theorem read_own {t : Tr} (hg : t.good) : readR t.toks = some ([t.row], []) := by
  obtain ⟨st', h1, h2⟩ := read_tree hg [] [] trivial
  unfold readR
  rw [h1]
  show red 0 st'.1 st'.2 = _
  rw [h2 0 (by have := Tr.bind_ge hg; (first | lia | omega))]
  unfold red; rfl
end Mine
namespace Mine
/- how many pairs of brackets a tree's row has -/
noncomputable def nb (t : Tr) : Nat := t.toks.count 8
theorem nb_node {k : Int} {l r : Tr} (hk : 9 ≤ k ∧ k ≤ 54) : nb (.node k l r) = nb l + nb r + (if l.bind < k then 1 else 0) + (if r.bind ≤ k then 1 else 0) := by
  have w : ∀ (p : Prop) [Decidable p] (ts : List Int), (Tr.wrap (decide p) ts).count 8 = ts.count 8 + if p then 1 else 0 := by
    intro p _ ts
    by_cases h : p
    · simp [Tr.wrap, h, List.count_append, List.count_singleton, List.count_cons]
    · simp [Tr.wrap, h]
  show (Tr.wrap _ _ ++ [k] ++ Tr.wrap _ _).count 8 = _
  rw [List.count_append, List.count_append, w, w, List.count_singleton]
  have : (k == 8) = false := by simp; (first | lia | omega)
  rw [this]
  unfold nb
  simp only [Bool.false_eq_true, if_false]
  (first | lia | omega)
inductive Sh : Nat → List Int → List Tr → Nat → Prop
  | nil : Sh 0 [] [] 0
  | par {d ws p n} : Sh d ws p n → Sh (d + 1) (7 :: ws) p n
  | op {d ws p n T k} : Sh d ws p n → T.good → 9 ≤ k ∧ k ≤ 54 → hdLt k ws → Sh d (k :: ws) (T :: p) (n + nb T + if T.bind < k then 1 else 0)
noncomputable def cnt (y : Int) (p : List Tr) : Nat := (p.map fun t => t.row.count y).sum
theorem Sh.hd {d : Nat} {ws : List Int} {p : List Tr} {n : Nat} (h : Sh d ws p n) : hdLt 99 ws := by
  cases h with
  | nil => trivial
  | par _ => show (7 : Int) < 99; decide
  | op _ _ h _ => show _ < (99 : Int); (first | lia | omega)
theorem Sh.red {k : Int} {c : Nat} {d : Nat} {ws : List Int} {p : List Tr} {n : Nat} (h : Sh d ws p n) : (7 < k ∨ d = 0) → ∀ {T : Tr}, T.good → n + nb T + (if T.bind < k then 1 else 0) ≤ c → (hdLt T.bind ws ∨ n + nb T + 1 ≤ c) →
    ∃ ws' p' n' T', Mine.red k ((T :: p).map Tr.row) ws = some ((T' :: p').map Tr.row, ws') ∧ Sh d ws' p' n' ∧ T'.good ∧ hdLt k ws' ∧ n' + nb T' + (if T'.bind < k then 1 else 0) ≤ c ∧ ∀ y, cnt y (T' :: p') + ws'.count y = cnt y (T :: p) + ws.count y := by
  induction h with
  | nil => exact fun _ T hT h1 _ => ⟨[], [], 0, T, by unfold Mine.red; rfl, .nil, hT, trivial, h1, fun _ => rfl⟩
  | @par d ws p n h ih =>
    intro hk T hT h1 _
    rcases hk with hk | hk
    · exact ⟨7 :: ws, p, n, T, red_id hk, .par h, hT, hk, h1, fun _ => rfl⟩
    · cases hk
  | @op d ws p n U w h hU hw hlt ih =>
    intro hk T hT h1 h2
    by_cases q : w < k
    · exact ⟨w :: ws, U :: p, _, T, red_id q, .op h hU hw hlt, hT, q, h1, fun _ => rfl⟩
    · have hn := nb_node (k := w) (l := U) (r := T) hw
      have hb : (Tr.node w U T).bind = w := rfl
      have hneed : n + nb (.node w U T) ≤ c := by
        rw [hn]
        by_cases q2 : T.bind ≤ w
        · rw [if_pos q2]
          rcases h2 with h2 | h2
          · have : w < T.bind := h2
            (first | lia | omega)
          · (first | lia | omega)
        · rw [if_neg q2]
          (first | lia | omega)
      obtain ⟨ws', p', n', T', i1, i2, i3, i4, i5, i6⟩ := ih hk (T := .node w U T) ⟨hw, hU, hT⟩ (by rw [hb, if_neg q]; (first | lia | omega)) (.inl (by rw [hb]; exact hlt))
      refine ⟨ws', p', n', T', ?_, i2, i3, i4, i5, fun y => ?_⟩
      · rw [← i1]
        show Mine.red k (T.row :: U.row :: p.map Tr.row) (w :: ws) = Mine.red k (([w] ++ U.row ++ T.row) :: p.map Tr.row) ws
        conv => lhs; unfold Mine.red
        rw [if_pos (by (first | lia | omega))]
      · rw [i6 y]
        simp only [cnt, List.map_cons, List.sum_cons, Tr.row, List.count_append, List.count_cons, List.count_nil]
        (first | lia | omega)
noncomputable def fin (st : Sta) (ts : List Int) : Option Sta := match runR st ts with
  | none => none
  | some st => red 0 st.1 st.2
theorem fin_cons {st st' : Sta} {t : Int} {ts : List Int} (h : stepR st t = some st') : fin st (t :: ts) = fin st' ts := by
  unfold fin
  conv => lhs; unfold runR
  rw [h]
theorem run_wf : ∀ (ts : List Int) (e : Bool) (d : Nat), Wf e d ts → ∀ (ws : List Int) (p : List Tr) (n : Nat), Sh d ws p n →
    (e = false → ∀ c, n ≤ c → ∃ q : Tr, q.good ∧ fin (p.map Tr.row, ws) ts = some ([q.row], []) ∧ nb q ≤ c + ts.count 8 ∧ ∀ y, y ≠ 7 → y ≠ 8 → q.row.count y = cnt y p + ws.count y + ts.count y) ∧
    (e = true → ∀ T : Tr, T.good → ∀ c, n + nb T + (if T.bind = 99 then 0 else 1) ≤ c → ∃ q : Tr, q.good ∧ fin ((T :: p).map Tr.row, ws) ts = some ([q.row], []) ∧ nb q ≤ c + ts.count 8 ∧ ∀ y, y ≠ 7 → y ≠ 8 → q.row.count y = cnt y (T :: p) + ws.count y + ts.count y) := by
  have need : ∀ {d : Nat} {ws : List Int} {p : List Tr} {n c : Nat} {T : Tr} {k : Int}, Sh d ws p n → k ≤ 54 → n + nb T + (if T.bind = 99 then 0 else 1) ≤ c → n + nb T + (if T.bind < k then 1 else 0) ≤ c ∧ (hdLt T.bind ws ∨ n + nb T + 1 ≤ c) := by
    intro d ws p n c T k hs hk h
    by_cases q : T.bind = 99
    · rw [if_pos q] at h
      exact ⟨by rw [if_neg (by (first | lia | omega))]; (first | lia | omega), .inl (by rw [q]; exact hs.hd)⟩
    · rw [if_neg q] at h
      exact ⟨by split <;> (first | lia | omega), .inr h⟩
  intro ts
  induction ts with
  | nil =>
    intro e d hw ws p n hs
    obtain ⟨rfl, rfl⟩ := hw
    refine ⟨fun h => (nomatch h), fun _ T hT c hc => ?_⟩
    obtain ⟨n1, n2⟩ := need (k := 0) hs (by decide) hc
    obtain ⟨ws', p', n', T', i1, i2, i3, i4, i5, i6⟩ := hs.red (k := 0) (.inr rfl) hT n1 n2
    cases i2 with
    | op _ _ h _ => have : _ < (0 : Int) := i4
                    (first | lia | omega)
    | nil =>
      refine ⟨T', i3, i1, by (first | lia | omega), fun y _ _ => ?_⟩
      have := i6 y
      simpa [cnt] using this
  | cons t r ih =>
    intro e d hw ws p n hs
    cases e with
    | false =>
      refine ⟨fun _ c hc => ?_, fun h => (nomatch h)⟩
      rcases hw with ⟨h1, h2⟩ | ⟨rfl, h2⟩
      · have hn0 : nb (.leaf t) = 0 := by
          show [t].count 8 = 0
          rw [List.count_singleton]
          have : (t == 8) = false := by simp; (first | lia | omega)
          rw [this]; rfl
        obtain ⟨q, q1, q2, q3, q4⟩ := (ih true d h2 ws p n hs).2 rfl (.leaf t) h1 c (by
          rw [hn0, if_pos (by rfl)]; (first | lia | omega))
        refine ⟨q, q1, ?_, ?_, fun y h7 h8 => ?_⟩
        · rw [← q2]; exact fin_cons (step_word h1.1)
        · rw [List.count_cons]; (first | lia | omega)
        · rw [q4 y h7 h8, List.count_cons]
          simp only [cnt, List.map_cons, List.sum_cons, Tr.row, List.count_cons, List.count_nil]
          (first | lia | omega)
      · obtain ⟨q, q1, q2, q3, q4⟩ := (ih false (d + 1) h2 (7 :: ws) p n (.par hs)).1 rfl c hc
        refine ⟨q, q1, ?_, ?_, fun y h7 h8 => ?_⟩
        · rw [← q2]; exact fin_cons step_lp
        · rw [List.count_cons]; (first | lia | omega)
        · rw [q4 y h7 h8, List.count_cons, List.count_cons]; (first | lia | omega)
    | true =>
      refine ⟨fun h => (nomatch h), fun _ T hT c hc => ?_⟩
      rcases hw with ⟨h1, h2⟩ | ⟨rfl, d', rfl, h2⟩
      · obtain ⟨n1, n2⟩ := need (k := t) hs h1.2 hc
        obtain ⟨ws', p', n', T', i1, i2, i3, i4, i5, i6⟩ := hs.red (k := t) (.inl (by (first | lia | omega))) hT n1 n2
        obtain ⟨q, q1, q2, q3, q4⟩ := (ih false d h2 (t :: ws') (T' :: p') _ (.op i2 i3 h1 i4)).1 rfl c i5
        refine ⟨q, q1, ?_, ?_, fun y h7 h8 => ?_⟩
        · rw [← q2]
          refine fin_cons ?_
          unfold stepR
          rw [if_neg (by (first | lia | omega)), if_neg (by (first | lia | omega))]
          show (match Mine.red t ((T :: p).map Tr.row) ws with | none => none | some (p, w) => _) = _
          rw [i1]
          simp only [if_neg (show ¬ t = 8 by (first | lia | omega))]
        · rw [List.count_cons]; (first | lia | omega)
        · have := i6 y
          rw [q4 y h7 h8, List.count_cons, List.count_cons]
          (first | lia | omega)
      · obtain ⟨n1, n2⟩ := need (k := 8) hs (by decide) hc
        obtain ⟨ws', p', n', T', i1, i2, i3, i4, i5, i6⟩ := hs.red (k := 8) (.inl (by decide)) hT n1 n2
        cases i2 with
        | op _ _ h _ => have : _ < (8 : Int) := i4
                        (first | lia | omega)
        | @par _ ws'' _ _ i2 =>
          obtain ⟨q, q1, q2, q3, q4⟩ := (ih true d' h2 ws'' p' n' i2).2 rfl T' i3 (c + 1) (by
            have h9 := Tr.bind_ge i3
            rw [if_neg (by (first | lia | omega))] at i5
            split <;> (first | lia | omega))
          refine ⟨q, q1, ?_, ?_, fun y h7 h8 => ?_⟩
          · rw [← q2]
            refine fin_cons ?_
            unfold stepR
            rw [if_neg (by decide), if_neg (by decide)]
            show (match Mine.red 8 ((T :: p).map Tr.row) ws with | none => none | some (p, w) => _) = _
            rw [i1]
            rfl
          · rw [List.count_cons]; simp only [beq_self_eq_true, if_true]; (first | lia | omega)
          · have := i6 y
            rw [List.count_cons] at this
            have e7 : (7 == y) = false := by simpa using Ne.symm h7
            have e8 : (8 == y) = false := by simpa using Ne.symm h8
            rw [e7] at this
            rw [q4 y h7 h8, List.count_cons, e8]
            simp only [Bool.false_eq_true, if_false] at this ⊢
            (first | lia | omega)
theorem read_wf {ts : List Int} (h : Wf false 0 ts) : ∃ q : Tr, q.good ∧ readR ts = some ([q.row], []) ∧ nb q ≤ ts.count 8 ∧ ∀ y, y ≠ 7 → y ≠ 8 → q.row.count y = ts.count y := by
  obtain ⟨q, q1, q2, q3, q4⟩ := (run_wf ts false 0 h [] [] 0 .nil).1 rfl 0 (Nat.le_refl _)
  refine ⟨q, q1, q2, by (first | lia | omega), fun y h7 h8 => ?_⟩
  rw [q4 y h7 h8]; simp [cnt]
theorem Opd.wf {ts : List Int} (h : Opd ts) : Wf false 0 ts := by
  have := h 0 [] ⟨rfl, rfl⟩
  rwa [List.append_nil] at this
/- P2: with one pair of brackets less the reader comes to another row of the same tokens -/
theorem read_outs {t : Tr} (hg : t.good) {x : List Int} (hx : x ∈ t.outs) : ∃ q : List Int, readR x = some ([q], []) ∧ q.Perm t.row ∧ q ≠ t.row ∧ (∀ k ∈ q, (9 ≤ k ∧ k ≤ 54) ∨ (64 ≤ k ∧ k ≤ 255)) ∧ Row x ∧ x.length ≤ 6 * t.ops + 1 := by
  obtain ⟨h1, h2, h3, h4⟩ := Tr.outs_opd hg x hx
  obtain ⟨q, q1, q2, q3, q4⟩ := read_wf h1.wf
  obtain ⟨u, u1, u2, u3, u4⟩ := read_wf (Tr.opd hg).wf
  rw [read_own hg] at u2
  have e : u.row = t.row := by
    have := Option.some.inj u2
    have := congrArg (fun st : Sta => st.1) this
    simp only [List.cons.injEq, and_true] at this
    exact this.symm
  have no : ∀ {v : Tr}, v.good → ∀ y, y = 7 ∨ y = 8 → v.row.count y = 0 := by
    intro v hv y hy
    refine List.count_eq_zero.mpr fun hm => ?_
    have := Tr.row_toks hv y hm
    (first | lia | omega)
  refine ⟨q.row, q2, ?_, ?_, Tr.row_toks q1, h1.wf.row.1, by have := Tr.toks_len t; (first | lia | omega)⟩
  · rw [List.perm_iff_count]
    intro y
    by_cases h7 : y = 7
    · rw [no q1 y (.inl h7), no hg y (.inl h7)]
    · by_cases h8 : y = 8
      · rw [no q1 y (.inr h8), no hg y (.inr h8)]
      · rw [q4 y h7 h8, ← e, u4 y h7 h8, h4 y h7 h8]
  · intro eq
    have := (Tr.row_inj (x := []) (y := []) q1 hg (by rw [eq])).1
    subst this
    unfold nb at q3
    (first | lia | omega)
theorem Tr.toks_row {t : Tr} (hg : t.good) : Row t.toks := (Tr.opd hg).wf.row.1
end Mine
namespace Mine
/- the state of _law_without: what is put out, and the open places, the last first -/
abbrev Wst := List (List Nat) × List Nat
noncomputable def wStep (xs : List Nat) (st : Wst) (p : Nat) : Option Wst :=
  if xs.getD p 0 = 40 then some (st.1, p :: st.2)
  else if xs.getD p 0 = 41 then (match st.2 with
    | s :: o => some (st.1 ++ [xs.take s ++ (xs.drop (s + 1)).take (p - (s + 1)) ++ xs.drop (p + 1)], o)
    | [] => none)
  else some st
noncomputable def wFrom (xs : List Nat) : Nat → Nat → Wst → Option Wst
  | 0, _, st => some st
  | n + 1, p, st => match wStep xs st p with
    | none => none
    | some st' => wFrom xs n (p + 1) st'
theorem wFrom_add (xs : List Nat) : ∀ (a b p : Nat) (st : Wst), wFrom xs (a + b) p st = match wFrom xs a p st with | none => none | some st' => wFrom xs b (p + a) st'
  | 0, b, p, st => by simp [wFrom]
  | a + 1, b, p, st => by
    have e : a + 1 + b = (a + b) + 1 := by (first | lia | omega)
    rw [e]
    show (match wStep xs st p with | none => none | some st' => wFrom xs (a + b) (p + 1) st') = match (match wStep xs st p with | none => none | some st' => wFrom xs a (p + 1) st') with | none => none | some st' => wFrom xs b (p + (a + 1)) st'
    cases wStep xs st p with
    | none => rfl
    | some st' =>
      show wFrom xs (a + b) (p + 1) st' = _
      rw [wFrom_add xs a b (p + 1) st', show p + 1 + a = p + (a + 1) by (first | lia | omega)]
theorem wFrom_ok {xs : List Nat} {n : Nat} {st fin : Wst} (h : wFrom xs n 0 ([], []) = some fin) {i : Nat} (hi : i < n) (hst : wFrom xs i 0 ([], []) = some st) : ∃ st', wStep xs st i = some st' ∧ wFrom xs (i + 1) 0 ([], []) = some st' := by
  have e := wFrom_add xs i 1 0 ([], [])
  rw [hst] at e
  have e1 : wFrom xs (i + 1) 0 ([], []) = wStep xs st i := by
    rw [e]
    show (match wStep xs st (0 + i) with | none => none | some st' => some st') = _
    rw [Nat.zero_add]
    cases wStep xs st i <;> rfl
  cases hs : wStep xs st i with
  | some st' => exact ⟨st', rfl, by rw [e1, hs]⟩
  | none =>
    exfalso
    have e2 := wFrom_add xs (i + 1) (n - (i + 1)) 0 ([], [])
    rw [show i + 1 + (n - (i + 1)) = n by (first | lia | omega), h, e1, hs] at e2
    cases e2
/- places without brackets -/
theorem wFrom_skip {xs : List Nat} : ∀ {n p : Nat} {st : Wst}, (∀ j, p ≤ j → j < p + n → xs.getD j 0 ≠ 40 ∧ xs.getD j 0 ≠ 41) → wFrom xs n p st = some st
  | 0, _, _, _ => rfl
  | n + 1, p, st, h => by
    have h0 := h p (Nat.le_refl _) (by (first | lia | omega))
    unfold wFrom wStep
    rw [if_neg h0.1, if_neg h0.2]
    exact wFrom_skip fun j h1 h2 => h j (by (first | lia | omega)) (by (first | lia | omega))
theorem pl_no {k : Int} (h : 9 ≤ k ∧ k ≤ 54 ∨ 64 ≤ k ∧ k ≤ 255) : ∀ c ∈ pl k, c ≠ 40 ∧ c ≠ 41 := by
  rcases h with h | h
  · rw [pl_op (by (first | lia | omega))]
    have : ∀ i : Nat, i < 48 → 2 ≤ i → ∀ c ∈ (signsL.getD i Str.empty).cps.toList, c ≠ 40 ∧ c ≠ 41 := by decide +kernel
    exact this _ (by (first | lia | omega)) (by (first | lia | omega))
  · rw [pl_word h]
    intro c hc
    simp only [List.mem_cons, List.not_mem_nil, or_false] at hc
    (first | lia | omega)
theorem getD_mid (a b c : List Nat) {j : Nat} (h1 : a.length ≤ j) (h2 : j < a.length + b.length) : (a ++ b ++ c).getD j 0 ∈ b := by
  have hj : j - a.length < b.length := by (first | lia | omega)
  have e : (a ++ b ++ c).getD j 0 = b[j - a.length] := by
    rw [List.append_assoc, List.getD_eq_getElem?_getD, List.getElem?_append_right h1, List.getElem?_append_left hj, List.getElem?_eq_getElem hj]
    rfl
  rw [e]; exact List.getElem_mem hj
/- scanning one token that is no bracket -/
theorem wFrom_tok {k : Int} (h : 9 ≤ k ∧ k ≤ 54 ∨ 64 ≤ k ∧ k ≤ 255) (a c : List Nat) (st : Wst) : wFrom (a ++ pl k ++ c) (pl k).length a.length st = some st :=
  wFrom_skip fun j h1 h2 => pl_no h _ (getD_mid a (pl k) c h1 h2)
noncomputable def Scan (ts : List Int) (os : List (List Int)) : Prop := ∀ (a c : List Nat) (o : List (List Nat)) (op : List Nat), wFrom (a ++ textL ts ++ c) (textL ts).length a.length (o, op) = some (o ++ os.map (fun r => a ++ textL r ++ c), op)
theorem Scan.wrap {ts : List Int} {os : List (List Int)} (h : Scan ts os) (b : Bool) : Scan (Tr.wrap b ts) (Tr.wouts b ts os) := by
  cases b with
  | false => exact h
  | true =>
    intro a c o op
    have e : textL (Tr.wrap true ts) = [40] ++ textL ts ++ [41] := by
      show textL ([7] ++ ts ++ [8]) = _
      rw [textL_append, textL_append]
      have e7 : textL [7] = [40] := by rw [textL_cons, pl_lp]; rfl
      have e8 : textL [8] = [41] := by rw [textL_cons, pl_rp]; rfl
      rw [e7, e8]
    have hl : (textL (Tr.wrap true ts)).length = 1 + ((textL ts).length + 1) := by rw [e]; simp; (first | lia | omega)
    rw [hl, wFrom_add]
    have ex : a ++ textL (Tr.wrap true ts) ++ c = (a ++ [40]) ++ textL ts ++ ([41] ++ c) := by rw [e]; simp
    rw [ex]
    have s1 : wFrom ((a ++ [40]) ++ textL ts ++ ([41] ++ c)) 1 a.length (o, op) = some (o, a.length :: op) := by
      have g : ((a ++ [40]) ++ textL ts ++ ([41] ++ c)).getD a.length 0 = 40 := by simp [List.getD_eq_getElem?_getD]
      unfold wFrom wStep
      rw [if_pos g]; rfl
    rw [s1]
    show wFrom _ _ (a.length + 1) (o, a.length :: op) = _
    rw [wFrom_add]
    have s2 := h (a ++ [40]) ([41] ++ c) o (a.length :: op)
    have el : (a ++ [40]).length = a.length + 1 := by simp
    rw [el] at s2
    rw [s2]
    show wFrom _ 1 (a.length + 1 + (textL ts).length) (o ++ os.map (fun r => (a ++ [40]) ++ textL r ++ ([41] ++ c)), a.length :: op) = _
    have g1 : ((a ++ [40]) ++ textL ts ++ ([41] ++ c)).getD (a.length + 1 + (textL ts).length) 0 = 41 := by
      have : a.length + 1 + (textL ts).length = ((a ++ [40]) ++ textL ts).length := by simp; (first | lia | omega)
      rw [this]; simp [List.getD_eq_getElem?_getD]
    unfold wFrom wStep
    rw [if_neg (by rw [g1]; decide), if_pos g1]
    show some (_, _) = some (_, _)
    have t1 : ((a ++ [40]) ++ textL ts ++ ([41] ++ c)).take a.length = a := by
      rw [show (a ++ [40]) ++ textL ts ++ ([41] ++ c) = a ++ ([40] ++ textL ts ++ ([41] ++ c)) by simp, List.take_left' rfl]
    have t2 : (((a ++ [40]) ++ textL ts ++ ([41] ++ c)).drop (a.length + 1)).take (a.length + 1 + (textL ts).length - (a.length + 1)) = textL ts := by
      rw [show a.length + 1 + (textL ts).length - (a.length + 1) = (textL ts).length by (first | lia | omega), List.append_assoc, List.drop_left' (by simp), List.take_left' rfl]
    have t3 : ((a ++ [40]) ++ textL ts ++ ([41] ++ c)).drop (a.length + 1 + (textL ts).length + 1) = c := by
      rw [show (a ++ [40]) ++ textL ts ++ ([41] ++ c) = ((a ++ [40]) ++ textL ts ++ [41]) ++ c by simp, List.drop_left' (by simp; (first | lia | omega))]
    rw [t1, t2, t3]
    congr 2
    show _ = o ++ (os.map (fun r => [7] ++ r ++ [8]) ++ [ts]).map (fun r => a ++ textL r ++ c)
    have e7 : textL [7] = [40] := by rw [textL_cons, pl_lp]; rfl
    have e8 : textL [8] = [41] := by rw [textL_cons, pl_rp]; rfl
    have em : ∀ r, textL (7 :: (r ++ [8])) = 40 :: (textL r ++ [41]) := by
      intro r
      rw [show (7 :: (r ++ [8]) : List Int) = [7] ++ (r ++ [8]) from rfl, textL_append, textL_append, e7, e8]; rfl
    simp [Function.comp_def, em]
theorem Scan.op {ts us : List Int} {os vs : List (List Int)} {k : Int} (h1 : Scan ts os) (h2 : Scan us vs) (hk : 9 ≤ k ∧ k ≤ 54) : Scan (ts ++ [k] ++ us) (os.map (fun x => x ++ [k] ++ us) ++ vs.map (fun x => ts ++ [k] ++ x)) := by
  intro a c o op
  have ek : textL [k] = pl k := by rw [textL_cons]; simp [textL]
  have e : textL (ts ++ [k] ++ us) = textL ts ++ pl k ++ textL us := by rw [textL_append, textL_append, ek]
  have hl : (textL (ts ++ [k] ++ us)).length = (textL ts).length + ((pl k).length + (textL us).length) := by rw [e]; simp
  rw [hl, wFrom_add, e]
  have x1 : a ++ (textL ts ++ pl k ++ textL us) ++ c = a ++ textL ts ++ (pl k ++ textL us ++ c) := by simp
  rw [x1, h1]
  show wFrom _ _ _ (_, op) = _
  rw [wFrom_add]
  have x2 : a ++ textL ts ++ (pl k ++ textL us ++ c) = (a ++ textL ts) ++ pl k ++ (textL us ++ c) := by simp
  have l2 : a.length + (textL ts).length = (a ++ textL ts).length := by simp
  rw [x2, l2, wFrom_tok (.inl hk)]
  show wFrom _ _ _ (_, op) = _
  have x3 : (a ++ textL ts) ++ pl k ++ (textL us ++ c) = (a ++ textL ts ++ pl k) ++ textL us ++ c := by simp
  have l3 : (a ++ textL ts).length + (pl k).length = (a ++ textL ts ++ pl k).length := by simp; (first | lia | omega)
  rw [x3, l3, h2]
  congr 2
  simp [Function.comp_def, textL_append, ek, textL_cons]
theorem Tr.scan : ∀ {t : Tr}, t.good → Scan t.toks t.outs
  | .leaf n, h => by
    intro a c o op
    have ek : textL [n] = pl n := by rw [textL_cons]; simp [textL]
    show wFrom (a ++ textL [n] ++ c) (textL [n]).length a.length (o, op) = some (o ++ [], op)
    rw [ek, wFrom_tok (.inr h), List.append_nil]
  | .node k l r, h => Scan.op ((Tr.scan h.2.1).wrap _) ((Tr.scan h.2.2).wrap _) h.1
theorem without_tree {t : Tr} (h : t.good) : wFrom (textL t.toks) (textL t.toks).length 0 ([], []) = some (t.outs.map textL, []) := by
  have := Tr.scan h [] [] [] []
  simpa using this
theorem wrap_text (b : Bool) {t : Tr} (h : t.text = tx t.toks) : Tr.par b t.text = tx (Tr.wrap b t.toks) := by
  cases b with
  | false => exact h
  | true =>
    show Str.ofString "(" ++ t.text ++ Str.ofString ")" = tx ([7] ++ t.toks ++ [8])
    rw [h]
    refine str_eq_of ?_
    have e7 : textL [7] = [40] := by rw [textL_cons, pl_lp]; rfl
    have e8 : textL [8] = [41] := by rw [textL_cons, pl_rp]; rfl
    have a7 : (Str.ofString "(").cps = #[40] := by decide +kernel
    have a8 : (Str.ofString ")").cps = #[41] := by decide +kernel
    rw [tx_list, textL_append, textL_append, e7, e8]
    show ((Str.ofString "(").cps ++ (tx t.toks).cps ++ (Str.ofString ")").cps).toList = _
    rw [a7, a8]
    simp [tx]
theorem Tr.text_tx : ∀ t : Tr, t.text = tx t.toks
  | .leaf n => by
    refine str_eq_of ?_
    rw [tx_list]
    show pl n = textL [n]
    rw [textL_cons]; simp [textL]
  | .node k l r => by
    show Tr.par _ _ ++ piece k ++ Tr.par _ _ = tx (Tr.wrap _ _ ++ [k] ++ Tr.wrap _ _)
    rw [wrap_text _ (Tr.text_tx l), wrap_text _ (Tr.text_tx r)]
    refine str_eq_of ?_
    rw [tx_list, textL_append, textL_append]
    have ek : textL [k] = pl k := by rw [textL_cons]; simp [textL]
    rw [ek]
    show ((tx _).cps ++ (piece k).cps ++ (tx _).cps).toList = _
    simp [tx, pl]
end Mine
namespace Mine
theorem words_W6 : True := by
  w_top off
  k_with_none
  trivial
section
local macro_rules | `(tactic| walk_at $s:str) => `(tactic| k_extra $s)
set_option genSizeOf false in
set_option genSizeOfSpec false in
set_option genInjectivity false in
structure S6 where
  vs : List Value
  nv : Nat
  ws : List Value
  nw : Nat
  st : Wst
noncomputable def outD (o : List (List Nat)) : List Dat := o.map fun y => Dat.str ⟨y.toArray⟩
noncomputable def opnD (o : List Nat) : List Dat := o.reverse.map fun (p : Nat) => Dat.int (p : Int)
structure S6.ok (xs : List Nat) (i : Nat) (c : S6) : Prop where
  run : wFrom xs i 0 ([], []) = some c.st
  outs : DatAll [] c.vs (outD c.st.1)
  opn : DatAll [] c.ws (opnD c.st.2)
  len : c.st.1.length + c.st.2.length ≤ i
  lt : ∀ p ∈ c.st.2, p < i
theorem ch_lp {c : Nat} : ((⟨#[c]⟩ : Str) == Str.ofString "(") = true ↔ c = 40 := by
  have a7 : Str.ofString "(" = ⟨#[40]⟩ := by decide +kernel
  rw [a7, beq_iff_eq]
  simp
theorem ch_rp {c : Nat} : ((⟨#[c]⟩ : Str) == Str.ofString ")") = true ↔ c = 41 := by
  have a7 : Str.ofString ")" = ⟨#[41]⟩ := by decide +kernel
  rw [a7, beq_iff_eq]
  simp
theorem wStep_len {xs : List Nat} {st st' : Wst} {p : Nat} (h : wStep xs st p = some st') : st'.1.length + st'.2.length ≤ st.1.length + st.2.length + 1 := by
  unfold wStep at h
  split at h
  · rw [← Option.some.inj h]; simp; (first | lia | omega)
  · split at h
    · split at h
      · rename_i e
        rw [← Option.some.inj h, e]; simp; (first | lia | omega)
      · cases h
    · rw [← Option.some.inj h]; (first | lia | omega)
theorem wStep_lt {xs : List Nat} {st st' : Wst} {p : Nat} (h : wStep xs st p = some st') (hl : ∀ q ∈ st.2, q < p) : ∀ q ∈ st'.2, q < p + 1 := by
  unfold wStep at h
  split at h
  · rw [← Option.some.inj h]
    intro q hq
    rcases List.mem_cons.mp hq with rfl | hq
    · (first | lia | omega)
    · have := hl q hq; (first | lia | omega)
  · split at h
    · split at h
      · rename_i e
        rw [← Option.some.inj h]
        intro q hq
        have := hl q (by rw [e]; exact .tail _ hq); (first | lia | omega)
      · cases h
    · rw [← Option.some.inj h]
      intro q hq
      have := hl q hq; (first | lia | omega)
theorem without_fn {w : World} {mean : ExcName → Option Value} {mg mb : Str → Option Value} (ts : List Int) (tk : Tok) (hr : Row ts) (hl : ts.length ≤ 64) (fin : List (List Nat)) (hfin : wFrom (textL ts) (textL ts).length 0 ([], []) = some (fin, [])) :
    Fn w mean mg mb 64 [.str (tx ts) tk] (fun _ => True) (fun d => d = Dat.list (outD fin)) 3 60 := by
  unfold Fn PR
  k_fill
  intro dp un gd cn cs a ccd cl outer A₀ base h₀ L m s Q E B F X T hk pre hd hu hret
  refine wpAny_call ?_
  k_dflt (refine' enterP (binds := [(Str.ofString "text", Value.str (tx ts) tk)]) ?k1 ?k2 ?k3 ?k5 ?kA ?kF ?kK ?k6 ?k7 ?k8 ?k9 ?kB ?_ ?c2 ?c3 ?c4 ?c5; (case kA => exact rfl); (case kF => exact rfl); (case kK => assumption); (case k1 => k_asm); (case k2 => k_asm); (case k3 => k_asm); (case k5 => k_asm); (case k6 => k_is); (case k7 => k_is); (case k8 => ktr_room); (case k9 => exact BindsTo.of_eq rfl); (case c5 => decide); (case kB => exact locs rfl); (case c2 => exact rfl); (case c3 => exact rfl); (case c4 => exact rfl); k_whole; intro L' h' F' N' B' X' T'; (try dsimp only); (try k_fold))
  clear B F X T
  have hxl : (tx ts).length = (textL ts).length := by show (textL ts).toArray.size = _; simp
  have hT192 : (textL ts).length ≤ 192 := Nat.le_trans (textL_len hr.toks) (Nat.mul_le_mul_left 3 hl)
  clear hl
  generalize hX : tx ts = x at *
  k_with_none
  (k_with "pyIter ref" => refine stop ?_)
  (k_with "call builtin:list.append" => refine stop ?_)
  (k_with "call builtin:list.pop" => refine stop ?_)
  k_steps
  unfold Stop
  rename_i oa hA1 l1 hA2 tkA pa hB1 lop hB2 FB NB hC tkC t1 u1 v1 hrg FC NC kC
  refine' rangeT (σ := S6) (textL ts).length (fun c => [(pa, listOf c.ws.toArray c.nw), (oa, listOf c.vs.toArray c.nv)]) (fun _ => []) [Str.ofString "place", Str.ofString "start"] (fun i c => S6.ok (textL ts) i c) ⟨[], 0, [], 0, ([], [])⟩ ?wh ?wr ?ws ?wz ?wF ?wN ?wk ?wn ?wp ?_ ?_
  case wh => rfl
  case wr => exact hrg
  case ws => exact small_one (by (first | lia | omega)) (by (first | lia | omega)) (by (first | lia | omega)) (by (first | lia | omega))
  case wz => (unfold Builtin.Range.rangeSize; rw [if_pos (by decide)]; split <;> (first | lia | omega))
  case wF => k_asm
  case wN => k_asm
  case wk => exact Has.nil
  case wn => exact fun _ h => h
  case wp => exact ⟨rfl, .nil, .nil, Nat.le_refl _, fun _ h => nomatch h⟩
  · intro i c t u h tk own hi hP hoff F9 N9
    dsimp only [kstB] at F9
    k_fold
    have hlen1 := hP.outs.length
    have hlen2 := hP.opn.length
    unfold outD at hlen1
    unfold opnD at hlen2
    rw [List.length_map] at hlen1
    rw [List.length_map, List.length_reverse] at hlen2
    have hv192 : c.vs.length ≤ 192 := by (rw [hlen1]; have := hP.len; (first | lia | omega))
    have hw192 : c.ws.length ≤ 192 := by (rw [hlen2]; have := hP.len; (first | lia | omega))
    clear hlen1 hlen2
    have hit : Txt.item x (0 + (i : Int)) = ⟨#[(textL ts).getD i 0]⟩ := by
      rw [← hX, item_tx (by (first | lia | omega)) (by (first | lia | omega)), show (0 + (i : Int)).toNat = i by (rw [Int.zero_add]; rfl)]
    obtain ⟨st', hst1, hst2⟩ := wFrom_ok hfin hi hP.run
    have hst3 := Nat.le_trans (wStep_len hst1) (Nat.succ_le_succ hP.len)
    k_steps
    · unfold Stop
      rename_i _ hc
      have hc40 : (textL ts).getD i 0 = 40 := by rw [hit] at hc; exact ch_lp.mp hc
      have est : st' = (c.st.1, i :: c.st.2) := by
        unfold wStep at hst1
        rw [if_pos hc40] at hst1
        exact (Option.some.inj hst1).symm
      refine appendN (by k_asm) N9 (.head _) ((oa, listOf c.vs.toArray c.nv) :: own) ?_ ?_ (by rw [sizeLine_eq]; (first | lia | omega)) ?_
      · intro q hq
        rcases List.mem_cons.mp hq with rfl | hq
        · exact .tail _ (.head _)
        · exact .tail _ (.tail _ hq)
      · intro q hq
        rcases List.mem_cons.mp hq with rfl | hq
        · exact Nat.ne_of_lt lop
        · exact hoff _ hq _ (.head _)
      intro h6 F6 N6
      dsimp only
      k_steps
      refine' FPost.next ⟨c.vs, c.nv, c.ws ++ [.int (0 + (i : Int)) t], c.nw + 1, st'⟩ ?wF ?wN ?wk ?wr ?wn ?wo ?wa ?wp
      case wF => k_asm
      case wN => k_asm
      case wk => exact Has.nil
      case wr => repeat' (first | exact Same.base | exact Same.refl _ _ | refine Same.set rfl ?_ | refine Same.sub rfl ?_)
      case wn =>
        intro q hq
        rcases List.mem_cons.mp hq with rfl | hq
        · exact .head _
        · rw [List.mem_singleton.mp hq]; exact .tail _ (.head _)
      case wo => exact fun q hq => .tail _ (.tail _ hq)
      case wa => exact hoff
      case wp =>
        refine ⟨hst2, ?_, ?_, hst3, wStep_lt hst1 hP.lt⟩
        · show DatAll [] c.vs (outD st'.1)
          rw [est]; exact hP.outs
        · show DatAll [] (c.ws ++ [.int (0 + (i : Int)) t]) (opnD st'.2)
          rw [est]
          show DatAll [] _ (((i :: c.st.2).reverse).map fun (p : Nat) => Dat.int (p : Int))
          rw [List.reverse_cons, List.map_append]
          refine DatAll.append hP.opn (DatAll.one ?_)
          rw [Int.zero_add]
          exact .int _ _
    · unfold Stop
      rename_i _ hc1 _ _ hc
      have hc41 : (textL ts).getD i 0 = 41 := by rw [hit] at hc; exact ch_rp.mp hc
      obtain ⟨sp, op, eop, est⟩ : ∃ sp op, c.st.2 = sp :: op ∧ st' = (c.st.1 ++ [(textL ts).take sp ++ ((textL ts).drop (sp + 1)).take (i - (sp + 1)) ++ (textL ts).drop (i + 1)], op) := by
        unfold wStep at hst1
        rw [if_neg (by rw [hc41]; decide), if_pos hc41] at hst1
        cases h2 : c.st.2 with
        | nil => rw [h2] at hst1; cases hst1
        | cons sp op =>
          rw [h2] at hst1
          exact ⟨sp, op, rfl, (Option.some.inj hst1).symm⟩
      have hop := hP.opn
      rw [eop] at hop
      obtain ⟨ws', v, ews, hws', hv⟩ := dat_last (ds := opnD op) (d := Dat.int (sp : Int)) (by
        have : opnD (sp :: op) = opnD op ++ [Dat.int (sp : Int)] := by unfold opnD; rw [List.reverse_cons, List.map_append]; rfl
        rw [this] at hop; exact hop)
      obtain ⟨tv, rfl⟩ : ∃ tv, v = .int (sp : Int) tv := by cases hv with | int _ t => exact ⟨t, rfl⟩
      rw [ews] at N9 hw192
      rw [List.length_append, List.length_singleton] at hw192
      refine popN (by k_asm) N9 (.head _) ((oa, listOf c.vs.toArray c.nv) :: own) ?_ ?_ (by rw [sizeLine_eq]; (first | lia | omega)) ?_
      · intro q hq
        rcases List.mem_cons.mp hq with rfl | hq
        · exact .tail _ (.head _)
        · exact .tail _ (.tail _ hq)
      · intro q hq
        rcases List.mem_cons.mp hq with rfl | hq
        · exact Nat.ne_of_lt lop
        · exact hoff _ hq _ (.head _)
      intro h6 F6 N6
      dsimp only
      have hsp : (sp : Int) < i := by have := hP.lt sp (by rw [eop]; exact .head _); (first | lia | omega)
      k_steps
      unfold Stop
      rename_i tE kE hE
      rename News _ _ _ _ => Ne
      rename Fr _ _ _ _ => Fe
      (try dsimp only at Ne)
      have etx : Txt.slice x none (some (sp : Int)) ++ Txt.slice x (some ((sp : Int) + 1)) (some (0 + (i : Int))) ++ Txt.slice x (some (0 + (i : Int) + 1)) none = ⟨((textL ts).take sp ++ ((textL ts).drop (sp + 1)).take (i - (sp + 1)) ++ (textL ts).drop (i + 1)).toArray⟩ := by
        rw [← hX, slice_ns _ (by (first | lia | omega)), slice_ss _ (by (first | lia | omega)) (by (first | lia | omega)), slice_sn _ (by (first | lia | omega)), tx_list, show ((sp : Int)).toNat = sp from rfl, show ((sp : Int) + 1).toNat = sp + 1 from rfl, show (0 + (i : Int)).toNat = i by (rw [Int.zero_add]; rfl), show (0 + (i : Int) + 1).toNat = i + 1 by (rw [Int.zero_add]; rfl)]
        refine str_eq_of ?_
        show (_ ++ _ ++ _ : Array Nat).toList = _
        simp
      rw [etx]
      refine appendN Fe Ne (.tail _ (.head _)) ((pa, listOf ws'.toArray (c.nw + 1)) :: own) ?_ ?_ (by rw [sizeLine_eq]; (first | lia | omega)) ?_
      · intro q hq
        rcases List.mem_cons.mp hq with rfl | hq
        · exact .head _
        · exact .tail _ (.tail _ hq)
      · intro q hq
        rcases List.mem_cons.mp hq with rfl | hq
        · exact Nat.ne_of_gt lop
        · exact hoff _ hq _ (.tail _ (.head _))
      intro h5 F5 N5
      dsimp only
      k_steps
      refine' FPost.next ⟨c.vs ++ [.str ⟨((textL ts).take sp ++ ((textL ts).drop (sp + 1)).take (i - (sp + 1)) ++ (textL ts).drop (i + 1)).toArray⟩ tE], c.nv + 1, ws', c.nw + 1, st'⟩ ?wF ?wN ?wk ?wr ?wn ?wo ?wa ?wp
      case wF => k_asm
      case wN => k_asm
      case wk => exact Has.nil
      case wr => repeat' (first | exact Same.base | exact Same.refl _ _ | refine Same.set rfl ?_ | refine Same.sub rfl ?_)
      case wn =>
        intro q hq
        rcases List.mem_cons.mp hq with rfl | hq
        · exact .tail _ (.head _)
        · rw [List.mem_singleton.mp hq]; exact .head _
      case wo => exact fun q hq => .tail _ (.tail _ hq)
      case wa => exact hoff
      case wp =>
        refine ⟨hst2, ?_, ?_, hst3, wStep_lt hst1 hP.lt⟩
        · show DatAll [] (c.vs ++ [.str ⟨((textL ts).take sp ++ ((textL ts).drop (sp + 1)).take (i - (sp + 1)) ++ (textL ts).drop (i + 1)).toArray⟩ tE]) (outD st'.1)
          rw [est]
          show DatAll [] _ ((c.st.1 ++ [_]).map fun (y : List Nat) => Dat.str ⟨y.toArray⟩)
          rw [List.map_append]
          exact DatAll.append hP.outs (DatAll.one (.str _ _))
        · show DatAll [] ws' (opnD st'.2)
          rw [est]; exact hws'
    · rename_i _ hc1 _ _ hc
      have hc40 : ¬ (textL ts).getD i 0 = 40 := fun e => by rw [hit, ch_lp.mpr e] at hc1; cases hc1
      have hc41 : ¬ (textL ts).getD i 0 = 41 := fun e => by rw [hit, ch_rp.mpr e] at hc; cases hc
      have est : st' = c.st := by
        unfold wStep at hst1
        rw [if_neg hc40, if_neg hc41] at hst1
        exact (Option.some.inj hst1).symm
      refine' FPost.next c ?wF ?wN ?wk ?wr ?wn ?wo ?wa ?wp
      case wF => k_asm
      case wN => k_asm
      case wk => exact Has.nil
      case wr => repeat' (first | exact Same.base | exact Same.refl _ _ | refine Same.set rfl ?_ | refine Same.sub rfl ?_)
      case wn => exact fun q hq => List.mem_append.mpr (.inl hq)
      case wo => exact fun q hq => List.mem_append.mpr (.inr hq)
      case wa => exact hoff
      case wp => exact ⟨by rw [hst2, est], hP.outs, hP.opn, Nat.le_succ_of_le hP.len, est ▸ wStep_lt hst1 hP.lt⟩
  · intro c u h tk hP F9 N9
    dsimp only [kstB] at F9
    dsimp only
    k_steps
    show Ret _ _ _
    have e := hP.run
    rw [hfin] at e
    have e2 : c.st.1 = fin := by rw [← Option.some.inj e]
    refine hret _ _ _ _ _ F9.keep (Fresh.of N9) rfl ?_
    rw [← e2]
    exact DatIn.list (.tail _ (.head _)) (hP.outs.mono fun _ h => (List.not_mem_nil h).elim)
end
end Mine
namespace Mine
section
variable {prog : Program} {w : World} {A : Around} {E : Value → Shared → Prop} {s : Shared} {h₀ : Heap} {L : Addr} {a b : Value} {news : List (Addr × Obj)} {d e : Dat} {Q : Value → Shared → Prop}
theorem dat_eqv (ha : kqdOk 9 d = true) (hb : kqdOk 9 e = true) {q : Bool} (hq : q = true ↔ d = e) : PyData.eqv (kqdP d) (kqdP e) = q := by
  have h := kqd_eqv 9 d e 9 ha hb
  cases q with
  | true => exact h.mpr (hq.mp rfl)
  | false => exact Bool.eq_false_iff.mpr fun x => Bool.noConfusion (hq.mpr (h.mp x))
theorem dat_shaped (ha : kqdOk 9 d = true) : SeqAt.shaped (kqdP d) = true := by
  have la := kqd_lay 9 d ha
  unfold SeqAt.shaped; rw [la.1, Bool.true_and]; exact decide_eq_true (Nat.le_trans la.2 (by decide))
theorem dat_ne (N : News h₀ L s.heap news) (Da : DatIn news a d) (Db : DatIn news b e) (ha : kqdOk 9 d = true) (hb : kqdOk 9 e = true) (hu : A.units + 64 < cLine) {q : Bool} (hq : q = true ↔ d = e) (h : Q (.bool (!q)) s) : wpAny (model prog w) A (compareOp .NotEq a b) Q E s := by
  obtain ⟨as, ra⟩ := kqd_in N 9 Da ha
  obtain ⟨bs, rb⟩ := kqd_in N 9 Db hb
  exact ne_dataH ra rb (dat_shaped ha) (dat_shaped hb) hu (by rw [dat_eqv ha hb hq]; exact h)
theorem dat_eq (N : News h₀ L s.heap news) (Da : DatIn news a d) (Db : DatIn news b e) (ha : kqdOk 9 d = true) (hb : kqdOk 9 e = true) (hu : A.units + 64 < cLine) {q : Bool} (hq : q = true ↔ d = e) (h : Q (.bool q) s) : wpAny (model prog w) A (compareOp .Eq a b) Q E s := by
  obtain ⟨as, ra⟩ := kqd_in N 9 Da ha
  obtain ⟨bs, rb⟩ := kqd_in N 9 Db hb
  exact eq_dataH ra rb (dat_shaped ha) (dat_shaped hb) hu (by rw [dat_eqv ha hb hq]; exact h)
end
noncomputable def goodTok (k : Int) : Prop := (9 ≤ k ∧ k ≤ 54) ∨ (64 ≤ k ∧ k ≤ 255)
theorem goodTok.tok {k : Int} (h : goodTok k) : isTok k := by unfold goodTok at h; unfold isTok; (first | lia | omega)
theorem piece_inj {j k : Int} (hj : goodTok j) (hk : goodTok k) (e : piece j = piece k) : j = k := by
  have el : pl j = pl k := by unfold pl; rw [e]
  rcases hj with hj | hj <;> rcases hk with hk | hk
  · have a := tab_at (k := j) (by (first | lia | omega))
    have b := tab_at (k := k) (by (first | lia | omega))
    rw [e, b] at a
    simp only [Option.some.injEq, KTD.Dat.flat.injEq] at a
    injection a with a
    exact a.symm
  · exfalso
    rw [pl_word hk] at el
    have := ((op_facts (k := j) (by (first | lia | omega))).2.2 (65 + (k / 16).toNat) (by rw [el]; exact .head _)).1
    unfold isLet at this; (first | lia | omega)
  · exfalso
    rw [pl_word hj] at el
    have := ((op_facts (k := k) (by (first | lia | omega))).2.2 (65 + (j / 16).toNat) (by rw [← el]; exact .head _)).1
    unfold isLet at this; (first | lia | omega)
  · rw [pl_word hj, pl_word hk] at el
    simp only [List.cons.injEq] at el
    (first | lia | omega)
theorem pieces_inj : ∀ {q r : List Int}, (∀ k ∈ q, goodTok k) → (∀ k ∈ r, goodTok k) → q.map piece = r.map piece → q = r
  | [], [], _, _, _ => rfl
  | [], _ :: _, _, _, e => nomatch e
  | _ :: _, [], _, _, e => nomatch e
  | a :: q, b :: r, hq, hr, e => by
    simp only [List.map_cons, List.cons.injEq] at e
    rw [piece_inj (hq a (.head _)) (hr b (.head _)) e.1, pieces_inj (fun k h => hq k (.tail _ h)) (fun k h => hr k (.tail _ h)) e.2]
theorem toksD_inj {q r : List Int} (hq : ∀ k ∈ q, goodTok k) (hr : ∀ k ∈ r, goodTok k) : toksD q = toksD r ↔ q = r := by
  constructor
  · intro e
    unfold toksD at e
    injection e with e
    refine pieces_inj hq hr ?_
    have : ∀ (l : List Int), (l.map fun k => Dat.str (piece k)) = (l.map piece).map Dat.str := by intro l; simp
    rw [this, this] at e
    exact (List.map_inj_right (fun x y h => by injection h)).mp e
  · intro e; rw [e]
theorem kqd_strs {n : Nat} {q : List Int} (hq : ∀ k ∈ q, goodTok k) : kqdOk (n + 1) (toksD q) = true := by
  unfold toksD
  simp only [kqdOk, List.all_map, List.all_eq_true, Function.comp_apply]
  intro k hk
  have := strOk_piece (hq k hk).tok
  cases n <;> simpa [kqdOk] using this
end Mine
namespace Mine
noncomputable def sle (a b : Str) : Prop := a.cps.toList ≤ b.cps.toList
theorem rising_pair : ∀ {l : List Str} {p : Str}, risingS p l = true → (p :: l).Pairwise sle
  | [], p, _ => .cons (fun _ h => nomatch h) .nil
  | x :: r, p, h => by
    unfold risingS at h
    rw [Bool.and_eq_true] at h
    have ih := rising_pair h.2
    have hpx : sle p x := by
      have h1 := h.1
      rw [ltCps_eq] at h1
      have : ¬ x.cps.toList < p.cps.toList := by simpa using h1
      exact List.not_lt.mp this
    refine .cons (fun y hy => ?_) ih
    rcases List.mem_cons.mp hy with rfl | hy
    · exact hpx
    · cases ih with
      | cons h3 _ => exact List.le_trans hpx (h3 y hy)
theorem sorted_pair {l : List Str} (h : sortedS l = true) : l.Pairwise sle := by
  cases l with
  | nil => exact .nil
  | cons x r => exact rising_pair h
theorem sorted_one {a b : List Str} (ha : sortedS a = true) (hb : sortedS b = true) (hp : a.Perm b) : a = b :=
  List.Perm.eq_of_pairwise (fun x y _ _ h1 h2 => str_eq_of (List.le_antisymm h1 h2)) (sorted_pair ha) (sorted_pair hb) hp
theorem strs_of_dat {new : List (Addr × Obj)} : ∀ {vs : List Value} {ks : List Int}, DatAll new vs (ks.map fun k => .str (piece k)) → StrsAre vs (ks.map piece)
  | _, [], h => by cases h; exact .nil
  | _, k :: ks, h => by
    cases h with
    | cons h r =>
      cases h with
      | str _ t => exact .cons _ t (strs_of_dat r)
theorem dat_of_strs {new : List (Addr × Obj)} : ∀ {vs : List Value} {ss : List Str}, StrsAre vs ss → DatAll new vs (ss.map Dat.str)
  | _, _, .nil => .nil
  | _, _, .cons x t r => .cons (.str x t) (dat_of_strs r)
theorem kqd_perm {n : Nat} {q : List Int} {ss : List Str} (hq : ∀ k ∈ q, goodTok k) (hp : ss.Perm (q.map piece)) : kqdOk (n + 1) (Dat.list (ss.map Dat.str)) = true := by
  simp only [kqdOk, List.all_map, List.all_eq_true, Function.comp_apply]
  intro x hx
  obtain ⟨k, hk, rfl⟩ := List.mem_map.mp (hp.mem_iff.mp hx)
  have := strOk_piece (hq k hk).tok
  cases n <;> simpa [kqdOk] using this
end Mine
namespace Mine
/- one token more of the number -/
noncomputable def num8 (a : Nat) (ks : List Int) : Nat := ks.foldl (fun a k => 256 * a + k.toNat) a
noncomputable def let8 (k : Int) : List UInt8 := [UInt8.ofNat (65 + (k / 16).toNat), UInt8.ofNat (65 + (k % 16).toNat)]
noncomputable def lets8 (ks : List Int) : List UInt8 := ks.flatMap let8
theorem lets8_len : ∀ ks : List Int, (lets8 ks).length = 2 * ks.length
  | [] => rfl
  | k :: r => by
    have := lets8_len r
    show (let8 k ++ lets8 r).length = 2 * (r.length + 1)
    rw [List.length_append, this]
    show 2 + _ = _
    (first | lia | omega)
theorem num8_snoc (a : Nat) (ks : List Int) (k : Int) : num8 a (ks ++ [k]) = 256 * num8 a ks + k.toNat := by
  unfold num8; rw [List.foldl_append]; rfl
theorem lets8_snoc (ks : List Int) (k : Int) : lets8 (ks ++ [k]) = lets8 ks ++ let8 k := by
  unfold lets8; rw [List.flatMap_append]; simp
theorem num8_lt : ∀ (ks : List Int), (∀ k ∈ ks, 0 ≤ k ∧ k ≤ 255) → ∀ a n : Nat, a < 256 ^ n → num8 a ks < 256 ^ (n + ks.length)
  | [], _, a, n, h => h
  | k :: r, hk, a, n, h => by
    have h1 := hk k (.head _)
    have h2 := num8_lt r (fun j hj => hk j (.tail _ hj)) (256 * a + k.toNat) (n + 1) (by rw [Nat.pow_succ]; (first | lia | omega))
    have e : n + (k :: r).length = n + 1 + r.length := by simp only [List.length_cons]; (first | lia | omega)
    rw [e]; exact h2
/- the word never begins with an A -/
theorem apL_head : ∀ n : Nat, (apL n).head? ≠ some 65 := by
  intro n
  induction n using Nat.strongRecOn with
  | ind n ih =>
    by_cases h : n = 0
    · subst h; rw [apL_zero]; simp
    · rw [apL_step h]
      by_cases h2 : n / 16 = 0
      · rw [h2, apL_zero, List.nil_append]
        have hlt : n < 16 := by (first | lia | omega)
        have : ∀ n : Nat, n < 16 → n ≠ 0 → ([UInt8.ofNat (65 + n % 16)] : List UInt8).head? ≠ some 65 := by decide +kernel
        exact this n hlt h
      · have h3 := ih (n / 16) (by (first | lia | omega))
        have h4 : apL (n / 16) ≠ [] := by rw [apL_step h2]; simp
        rw [List.head?_append]
        cases hq : apL (n / 16) with
        | nil => exact absurd hq h4
        | cons c q =>
          rw [hq] at h3
          simpa using h3
/- with A's ahead, the word is the letters -/
theorem apL_pad : ∀ (ks : List Int), (∀ k ∈ ks, 0 ≤ k ∧ k ≤ 255) → ∃ p, lets8 ks = List.replicate p 65 ++ apL (num8 0 ks) := by
  intro ks hk
  have key : ∀ (r ks : List Int), (∀ k ∈ r, 0 ≤ k ∧ k ≤ 255) → (∃ p, lets8 ks = List.replicate p 65 ++ apL (num8 0 ks)) → ∃ p, lets8 (ks ++ r) = List.replicate p 65 ++ apL (num8 0 (ks ++ r)) := by
    intro r
    induction r with
    | nil => intro ks _ h; rw [List.append_nil]; exact h
    | cons k r ih =>
      intro ks hr h
      have e : ks ++ k :: r = (ks ++ [k]) ++ r := by simp
      rw [e]
      refine ih (ks ++ [k]) (fun j hj => hr j (.tail _ hj)) ?_
      obtain ⟨p, hp⟩ := h
      have hk := hr k (.head _)
      rw [lets8_snoc, num8_snoc, hp]
      generalize num8 0 ks = a
      have e1 : (256 * a + k.toNat) / 16 / 16 = a := by (first | lia | omega)
      have e2 : (256 * a + k.toNat) / 16 % 16 = (k / 16).toNat := by (first | lia | omega)
      have e3 : (256 * a + k.toNat) % 16 = (k % 16).toNat := by (first | lia | omega)
      by_cases h0 : 256 * a + k.toNat = 0
      · have ha : a = 0 := by (first | lia | omega)
        have hk0 : k = 0 := by (first | lia | omega)
        subst ha hk0
        refine ⟨p + 2, ?_⟩
        rw [h0, apL_zero, List.append_nil, List.append_nil]
        have : let8 0 = List.replicate 2 65 := by decide +kernel
        rw [this, List.replicate_append_replicate]
      · rw [apL_step h0]
        by_cases h1 : (256 * a + k.toNat) / 16 = 0
        · have ha : a = 0 := by (first | lia | omega)
          have hk1 : k / 16 = 0 := by (first | lia | omega)
          refine ⟨p + 1, ?_⟩
          rw [h1, apL_zero, ha, apL_zero, List.nil_append, List.append_nil]
          have e4 : (256 * 0 + k.toNat) % 16 = (k % 16).toNat := by (first | lia | omega)
          rw [e4]
          have e5 : let8 k = [65] ++ [UInt8.ofNat (65 + (k % 16).toNat)] := by unfold let8; rw [hk1]; rfl
          rw [e5, ← List.append_assoc]
          have : ([65] : List UInt8) = List.replicate 1 65 := rfl
          rw [this, List.replicate_append_replicate]
        · refine ⟨p, ?_⟩
          rw [apL_step h1, e1, e2, e3]
          unfold let8
          simp
  have := key ks [] hk ⟨0, by show [] = [] ++ apL 0; rw [apL_zero]; rfl⟩
  rwa [List.nil_append] at this
theorem apL_pad' {ks : List Int} (hk : ∀ k ∈ ks, 0 ≤ k ∧ k ≤ 255) : (apL (num8 0 ks)).length ≤ 2 * ks.length ∧ lets8 ks = List.replicate (2 * ks.length - (apL (num8 0 ks)).length) 65 ++ apL (num8 0 ks) := by
  obtain ⟨p, hp⟩ := apL_pad ks hk
  have e := congrArg List.length hp
  rw [lets8_len, List.length_append, List.length_replicate] at e
  refine ⟨by (first | lia | omega), ?_⟩
  have : 2 * ks.length - (apL (num8 0 ks)).length = p := by (first | lia | omega)
  rw [this]; exact hp
theorem rep_flat (n : Nat) (c : UInt8) : (List.replicate n [c]).flatten = List.replicate n c := by
  induction n with
  | zero => rfl
  | succ n ih => rw [List.replicate_succ, List.flatten_cons, ih, List.replicate_succ]; rfl
end Mine
namespace Mine
theorem words_W7 : True := by
  w_top off
  k_with_none
  trivial
noncomputable def LawEnd (h₀ : Heap) (L : Addr) (s : Shared) (f : Flow) (s' : Shared) : Prop := f = .ret (.bool true) ∧ ∃ h tk m, s' = { s with heap := h, toks := tk } ∧ Fr h₀ L h m
theorem law_cut {M : Model} {A : Around} {t : Sem Flow} {Q : Flow → Shared → Prop} {E : Value → Shared → Prop} {s : Shared} {h₀ h₁ : Heap} {L : Addr} {m : Str → Option Value} (_F : Fr h₀ L h₁ m) (h1 : wpAny M A t (LawEnd h₀ L s) (fun _ _ => False) s)
    (h2 : ∀ h tk m', Fr h₀ L h m' → Q (.ret (.bool true)) { s with heap := h, toks := tk }) : wpAny M A t Q E s :=
  wpAny_mono h1 (fun f s' ⟨e, h, tk, m', es, hk⟩ => by subst e es; exact h2 h tk m' hk) fun _ _ e => e.elim
theorem Fn.useK {w : World} {mean : ExcName → Option Value} {mg mb : Str → Option Value} {f : Addr} {vs : List Value} {Pre : Heap → Prop} {dn un' : Nat}
    {dp un : Nat} {gd : Option (List Code)} {cn : Str} {cs : Scope} {a : Addr} {ccd : Value} {cl : List (Str × Addr)} {outer : List Env} {A₀ : Around} {base h₀ : Heap} {L : Addr} {m : Str → Option Value} {s : Shared} {Q E : Value → Shared → Prop} {x : Str}
    (C : Fn w mean mg mb f vs Pre (fun d => d = Dat.str x) dn un') (B : Below A₀ base outer h₀) (F : Fr h₀ L s.heap m) (X : (Mine.hd.heap_39 w.params).In h₀) (T : Top Mine.hd.view_39 LO mean mg mb h₀) (hk : cs.kind = .function)
    (pre : Pre s.heap) (hd : dp + dn < recursionLimit) (hu : un + un' < cLine)
    (ret : ∀ t h' tk', s.heap.StaysIn h' → Q (.str x t) { s with heap := h', toks := tk' }) :
    wpAny (model PR w) (ktrTop dp un gd cn cs L a ccd cl outer) (call (.ref f) vs) Q E s :=
  C _ _ _ _ _ _ _ _ _ _ _ _ _ _ _ _ _ B F X T hk pre hd hu fun r new h' tk' d st fr hD dt => by
    subst hD
    cases dt with
    | str _ t => exact ret t h' tk' st
theorem ints_getD {vs : List Value} {ns : List Int} (h : IntsAre vs ns) {i : Nat} {v : Value} (hv : vs[i]? = some v) : ∃ t, v = .int (ns.getD i 0) t ∧ ns.getD i 0 ∈ ns := by
  induction h generalizing i with
  | nil => cases hv
  | cons n t r ih =>
    cases i with
    | zero => simp only [List.getElem?_cons_zero, Option.some.injEq] at hv; exact ⟨t, hv.symm, .head _⟩
    | succ i =>
      obtain ⟨t', e, hm⟩ := ih (i := i) (by simpa using hv)
      exact ⟨t', e, .tail _ hm⟩
theorem due_of {ns : List Int} : ∀ {ys : List Value}, ys.length = ns.length → (∀ i y, ys[i]? = some y → ∃ t, y = Value.str (piece (ns.getD i 0)) t) → DatAll [] ys (ns.map fun k => .str (piece k)) := by
  induction ns with
  | nil => intro ys hl _; cases ys with
    | nil => exact .nil
    | cons y ys => cases hl
  | cons n ns ih =>
    intro ys hl h
    cases ys with
    | nil => cases hl
    | cons y ys =>
      obtain ⟨t, rfl⟩ := h 0 y rfl
      exact .cons (.str _ t) (ih (by simpa using hl) fun i y hy => h (i + 1) y (by simpa using hy))
theorem news_sub {h₀ h : Heap} {L : Addr} {a : List (Addr × Obj)} (N : News h₀ L h a) (b : List (Addr × Obj)) (hs : ∀ p ∈ b, p ∈ a) : News h₀ L h b := fun p hp => N p (hs p hp)
theorem strs_dat {new : List (Addr × Obj)} {vs : List Value} {q : List Int} (h : StrsAre vs (q.map piece)) : DatAll new vs (q.map fun k => .str (piece k)) := by
  have h2 := dat_of_strs (new := new) h
  rw [List.map_map] at h2
  exact h2
/- what _law_read hands back for one row -/
theorem read_out {new : List (Addr × Obj)} {r : Value} {q : List Int} (h : DatIn new r (.tuple [.list (pileD [q]), .list (waitD [])])) : ∃ q2 p w qa qs k kp kw kq, r = .ref q2 ∧ (q2, ({ cls := .type "tuple", data := .seq #[.ref p, .ref w] k } : Obj)) ∈ new ∧ (p, listOf #[.ref qa] kp) ∈ new ∧ (w, listOf #[] kw) ∈ new ∧ (qa, listOf qs.toArray kq) ∈ new ∧ StrsAre qs (q.map piece) := by
  have e1 : pileD [q] = [toksD q] := rfl
  have e2 : waitD [] = [] := rfl
  rw [e1, e2] at h
  obtain ⟨q2, vs, k5, rfl, m1, h2⟩ := tupleI h
  obtain ⟨v1, r1, rfl, a, h3⟩ := consI h2
  obtain ⟨v2, r2, rfl, b, h4⟩ := consI h3
  obtain rfl := nilI h4
  obtain ⟨p, vp, kp, rfl, m2, hp⟩ := listI a
  obtain ⟨w, vw, kw, rfl, m3, hw⟩ := listI b
  obtain rfl := nilI hw
  obtain ⟨x, rp, rfl, hx, hr⟩ := consI hp
  obtain rfl := nilI hr
  obtain ⟨qa, qs, kq, rfl, hm, hd⟩ := list_of hx
  exact ⟨q2, p, w, qa, qs, k5, kp, kw, kq, rfl, m1, m2, m3, hm, strs_of_dat hd⟩
theorem outs_at {new : List (Addr × Obj)} {vs : List Value} {os : List (List Int)} (h : DatAll new vs (outD (os.map textL))) {i : Nat} {v : Value} (hv : vs[i]? = some v) : ∃ x t, x ∈ os ∧ v = .str (tx x) t := by
  induction os generalizing vs i with
  | nil => cases h; cases hv
  | cons o os ih =>
    cases h with
    | cons a b =>
      cases i with
      | zero =>
        simp only [List.getElem?_cons_zero, Option.some.injEq] at hv
        subst hv
        cases a with
        | str _ t => exact ⟨o, t, .head _, rfl⟩
      | succ i =>
        obtain ⟨x, t, hx, e⟩ := ih b (i := i) (by simpa using hv)
        exact ⟨x, t, .tail _ hx, e⟩
theorem src_of {new : List (Addr × Obj)} {r : Value} {ds : List Dat} (h : DatIn new r (.list ds)) : ∃ l vs n, r = .ref l ∧ (l, listOf vs.toArray n) ∈ new ∧ DatAll new vs ds := by
  cases h with
  | list a b => exact ⟨_, _, _, rfl, a, b⟩
theorem sub_nil {α : Type} {l : List α} : ∀ p ∈ ([] : List α), p ∈ l := fun _ h => nomatch h
theorem sub_cons {α : Type} {a : α} {r l : List α} (h : a ∈ l) (k : ∀ p ∈ r, p ∈ l) : ∀ p ∈ a :: r, p ∈ l := fun p hp => by
  cases hp with
  | head => exact h
  | tail _ hp => exact k p hp
theorem off_cons {a : Addr × Obj} {r : List (Addr × Obj)} {d : Addr} (h : a.1 ≠ d) (k : ∀ q ∈ r, q.1 ≠ d) : ∀ q ∈ a :: r, q.1 ≠ d := fun p hp => by
  cases hp with
  | head => exact h
  | tail _ hp => exact k p hp
section
local macro_rules | `(tactic| walk_at $s:str) => `(tactic| k_extra $s)
/- the three lists while they are drawn -/
set_option genSizeOf false in
set_option genSizeOfSpec false in
set_option genInjectivity false in
structure S7 where
  kv : List Value
  ks : List Int
  kn : Nat
  rv : List Value
  rs : List Int
  rn : Nat
  nv : List Value
  ns : List Int
  nn : Nat
structure S7.ok (i : Nat) (c : S7) : Prop where
  ik : IntsAre c.kv c.ks
  ir : IntsAre c.rv c.rs
  inn : IntsAre c.nv c.ns
  lk : c.ks.length = 3 + i
  lr : c.rs.length = 3 + i
  ln : c.ns.length = 4 + i
  gk : ∀ k ∈ c.ks, 9 ≤ k ∧ k ≤ 54
  gn : ∀ k ∈ c.ns, 64 ≤ k ∧ k ≤ 255
theorem int_at {ws : List Value} {ns : List Int} (h : IntsAre ws ns) {i : Nat} {v : Value} (hv : ws[i]? = some v) : ∃ x t, v = .int x t := by
  induction h generalizing i with
  | nil => cases hv
  | cons n t r ih =>
    cases i with
    | zero => simp only [List.getElem?_cons_zero, Option.some.injEq] at hv; exact ⟨n, t, hv.symm⟩
    | succ i => exact ih (by simpa using hv)
set_option genSizeOf false in
set_option genSizeOfSpec false in
set_option genInjectivity false in
structure S8 where
  num : Int
  tn : Tok
  val : Array UInt8
  tv : Tok
structure S8.ok (ks : List Int) (i : Nat) (c : S8) : Prop where
  num : c.num = (num8 0 (ks.take i) : Int)
  val : c.val = (lets8 (ks.take i)).toArray
theorem ints_at2 {ws : List Value} {ns : List Int} (h : IntsAre ws ns) {i : Nat} {v : Value} (hv : ws[i]? = some v) : ∃ x t, v = .int x t ∧ ns[i]? = some x := by
  induction h generalizing i with
  | nil => cases hv
  | cons n t r ih =>
    cases i with
    | zero => simp only [List.getElem?_cons_zero, Option.some.injEq] at hv; exact ⟨n, t, hv.symm, rfl⟩
    | succ i =>
      obtain ⟨x, t, e, q⟩ := ih (by simpa using hv)
      exact ⟨x, t, e, by simpa using q⟩
theorem iseof_no {w : World} {mean : ExcName → Option Value} {mg mb : Str → Option Value} (n : Int) (tk : Tok) (hn : n ≠ 0) :
    Fn w mean mg mb 31 [.int n tk] (fun _ => True) (fun d => d = Dat.bool false) 2 40 := by
  have h := iseof_fn (w := w) (mean := mean) (mg := mg) (mb := mb) n tk
  rw [decide_eq_false hn] at h
  exact h
theorem val_cut {M : Model} {A : Around} {t : Sem Value} {Q E : Value → Shared → Prop} {s : Shared} {h₀ : Heap} {L : Addr} {m : Str → Option Value} {news : List (Addr × Obj)} {k : Int} (_hF : Fr h₀ L s.heap m) (_hN : News h₀ L s.heap news)
    (h1 : wpAny M A t (fun v s₂ => ∃ u h tk, v = .int k u ∧ s₂ = { s with heap := h, toks := tk } ∧ Fr h₀ L h m ∧ News h₀ L h news) E s)
    (h2 : ∀ u h tk, Fr h₀ L h m → News h₀ L h news → Q (.int k u) { s with heap := h, toks := tk }) : wpAny M A t Q E s :=
  wpAny_mono h1 (fun v s₂ ⟨u, h, tk, e, es, F, N⟩ => by subst e es; exact h2 u h tk F N) fun _ _ e => e
theorem byteArr_let8 {k : Int} (hk : 0 ≤ k ∧ k ≤ 255) : byteArr [65 + k.fdiv 16, 65 + k.fmod 16] = (let8 k).toArray := by
  obtain ⟨m, rfl⟩ := Int.eq_ofNat_of_zero_le hk.1
  rw [fd16, fm16]
  rfl
theorem bytes8_in {k : Int} (hk : 0 ≤ k ∧ k ≤ 255) : ∀ n ∈ [65 + k.fdiv 16, 65 + k.fmod 16], 0 ≤ n ∧ n < 256 := by
  obtain ⟨m, rfl⟩ := Int.eq_ofNat_of_zero_le hk.1
  have h1 : m < 16 * 16 := Nat.lt_of_le_of_lt (Int.ofNat_le.mp hk.2) (by decide)
  have h2 : m / 16 < 16 := Nat.div_lt_of_lt_mul h1
  have h3 : m % 16 < 16 := Nat.mod_lt _ (by decide)
  rw [fd16, fm16]
  refine List.forall_mem_cons.mpr ⟨⟨?_, ?_⟩, List.forall_mem_cons.mpr ⟨⟨?_, ?_⟩, fun _ h => nomatch h⟩⟩ <;> lia
theorem bytes_let8 {prog : Program} {w : World} {A : Around} {E : Value → Shared → Prop} {s : Shared} {h₀ : Heap} {L D : Addr} {m : Str → Option Value} {news : List (Addr × Obj)} {Q : Value → Shared → Prop} {k : Int} {a b : Tok} {n : Nat}
    (F : Fr h₀ L s.heap m) (N : News h₀ L s.heap news) (hD : (D, listOf #[.int (65 + k.fdiv 16) a, .int (65 + k.fmod 16) b] n) ∈ news) (hh : A.handled = none) (hk : 0 ≤ k ∧ k ≤ 255)
    (h : ∀ h' t' k', Fr h₀ L h' m → News h₀ L h' news → Q (.bytes (let8 k).toArray t') { s with heap := h', toks := k' }) : wpAny (model prog w) A (call (.type "bytes") [.ref D]) Q E s := by
  have hb := bytes8_in hk
  refine KBa.make_K (vs := [.int (65 + k.fdiv 16) a, .int (65 + k.fmod 16) b]) (ns := [65 + k.fdiv 16, 65 + k.fmod 16]) F N hh ⟨_, (N _ hD).1, rfl, n, rfl⟩ (.cons _ _ (.cons _ _ .nil)) hb (by (show 2 ≤ 16777216); decide) ?_
  intro h' t' k' F' N' _
  rw [byteArr_let8 hk]
  exact h h' t' k' F' N'
theorem noI_bytes : typeLookup (.type "bytes") (dunderI "add") = pure none := by rw [typeLookup_type, builtinLookup_eq_fast]; kernel_rfl
theorem iadd_bytes {prog : Program} {w : World} {A : Around} {E : Value → Shared → Prop} {s : Shared} {b c : Array UInt8} {t u : Tok} {Q : Value → Shared → Prop} (hsz : b.size + c.size ≤ 16777216) (h : ∀ t' k, Q (.bytes (b ++ c) t') { s with toks := k }) :
    wpAny (model prog w) A (inplaceOp .Add (.bytes b t) (.bytes c u)) Q E s := by
  refine iconcat_gives (typeIs_bytes s b t) (typeIs_bytes s c u) noI_bytes KBy.noFill_bytes_add KBy.seq_bytes_add FB.slot_bytes_add FB.entry_bytes_add (FB.args_bytes_add_2 _ _) (KBy.gives_bytes_add (KBy.tooLong_not hsz)) ?_
  by_cases hb : b.isEmpty = true
  · rw [if_pos hb]
    have e : b = #[] := Array.isEmpty_iff.1 hb
    have h' := h u s.toks
    rw [e, Array.empty_append] at h'
    exact h'
  · rw [if_neg hb]
    by_cases hc : c.isEmpty = true
    · rw [if_pos hc]
      have e : c = #[] := Array.isEmpty_iff.1 hc
      have h' := h t s.toks
      rw [e, Array.append_empty] at h'
      exact h'
    · rw [if_neg hc]
      exact ⟨by rw [Array.size_append, sizeLine_eq]; exact hsz, h s.toks (s.toks + 1)⟩
theorem cut_head {b : Array UInt8} (h : KBw.bInts (KBy.picked b none (some 1)) = ((KBw.bInts b).drop 0).take (clipAt (KBw.bInts b).length 1 - 0)) (hh : b.toList.head? ≠ some 65) : ((KBy.picked b none (some 1)).toList == [65]) = false := by
  refine beq_false_of_ne fun e => hh ?_
  have e1 : KBw.bInts (KBy.picked b none (some 1)) = [65] := by unfold KBw.bInts; rw [e]; rfl
  rw [e1, List.drop_zero] at h
  unfold KBw.bInts at h
  cases hb : b.toList with
  | nil => rw [hb] at h; simp at h
  | cons c r =>
    rw [hb] at h
    cases hn : clipAt (List.map (fun c => ((c.toNat : Nat) : Int)) (c :: r)).length 1 - 0 with
    | zero => rw [hn] at h; simp at h
    | succ n =>
      rw [hn, List.map_cons, List.take_succ_cons, List.cons.injEq] at h
      have h1 : c.toNat = 65 := (Int.ofNat.inj (show Int.ofNat 65 = Int.ofNat c.toNat from h.1)).symm
      have h2 : c = 65 := by
        have : UInt8.ofNat c.toNat = UInt8.ofNat 65 := by rw [h1]
        simpa using this
      rw [h2]; rfl
theorem letters_eq {ks : List Int} (hk : ∀ k ∈ ks, 0 ≤ k ∧ k ≤ 255) {n : Int} (hn : n = ((lets8 ks).toArray.size : Int) - ((apL (num8 0 ks)).toArray.size : Int)) :
    ((((List.replicate n.toNat [(65 : UInt8)]).flatten).toArray ++ (apL (num8 0 ks)).toArray).toList == (lets8 ks).toArray.toList) = true := by
  obtain ⟨h1, h2⟩ := apL_pad' hk
  rw [List.size_toArray, List.size_toArray, lets8_len] at hn
  have e : n.toNat = 2 * ks.length - (apL (num8 0 ks)).length := by (first | lia | omega)
  rw [e, rep_flat, List.append_toArray]
  show ((List.replicate (2 * ks.length - (apL (num8 0 ks)).length) (65 : UInt8) ++ apL (num8 0 ks)) == lets8 ks) = true
  rw [← h2]; exact beq_self_eq_true _
theorem S8.size {ks : List Int} {i : Nat} {c : S8} (h : S8.ok ks i c) : c.val.size ≤ 2 * ks.length := by
  rw [h.val, List.size_toArray, lets8_len, List.length_take]; (first | lia | omega)
theorem S8.step {ks : List Int} {i : Nat} {c : S8} {k : Int} {t t' : Tok} (h : S8.ok ks i c) (hk : ks[i]? = some k) (h0 : 0 ≤ k) : S8.ok ks (i + 1) ⟨256 * c.num + k, t, c.val ++ (let8 k).toArray, t'⟩ := by
  have et : ks.take (i + 1) = ks.take i ++ [k] := by
    rw [List.take_add_one, hk]; rfl
  refine ⟨?_, ?_⟩
  · show 256 * c.num + k = _
    rw [et, num8_snoc, h.num]
    (first | lia | omega)
  · show c.val ++ (let8 k).toArray = _
    rw [et, lets8_snoc, h.val, List.append_toArray]
theorem X : PySem.Challenge.rw_pk0061_01.Holds := Mine.hd (by
  w_strict (
    k_go0
    (all_goals try k_fold)
    (with_reducible rename Fr _ _ _ _ => F0)
    refine law_cut F0 ?_ ?_
    rotate_left
    · intro h tk m' F9
      dsimp only
      wrow_close
    · k_with_none
      (k_with "exec For Name Subscript cons nil" => (k_here; (rename Fr _ _ _ _ => lF'); (with_unfolding_all refine' For_invVF lF' ?k1 ?k2 ?_; (case k1 => exact rfl); (case k2 => exact rfl); k_whole)))
      (k_with "exec For Name Call cons nil" => (k_here; (rename Fr _ _ _ _ => lF'); (with_unfolding_all refine' For_invVF lF' ?k1 ?k2 ?_; (case k1 => exact rfl); (case k2 => exact rfl); k_whole)))
      (k_with "exec For Name BinOp cons nil" => (k_here; (rename Fr _ _ _ _ => lF'); (with_unfolding_all refine' For_invVF lF' ?k1 ?k2 ?_; (case k1 => exact rfl); (case k2 => exact rfl); k_whole)))
      (k_with "pyIter ref" => refine stop ?_)
      (k_with "call builtin:list.append" => refine stop ?_)
      (k_with "call ref" => refine stop ?_)
      (k_with "eval ListComp" => refine stop ?_)
      k_steps
      unfold Stop
      rename_i tka ka ha1 la1 ha2 tkr ra hr1 lr1 hr2 tkn na hn1 ln1 hn2 D ws hD FD ND hI hC hL lD
      refine' listT (σ := S7) (fun c => [(D, listOf ws.toArray 0), (na, listOf c.nv.toArray c.nn), (ra, listOf c.rv.toArray c.rn), (ka, listOf c.kv.toArray c.kn)]) (fun _ => []) [Str.ofString "x", Str.ofString "drawn"] (fun i c => S7.ok i c) ⟨[.int 14 tka, .int 16 (tka + 1), .int 16 (tka + 1 + 1)], [14, 16, 16], 0, [.int 1 tkr, .int 2 (tkr + 1), .int 0 (tkr + 1 + 1)], [1, 2, 0], 0, [.int 64 tkn, .int 255 (tkn + 1), .int 75 (tkn + 1 + 1), .int 190 (tkn + 1 + 1 + 1)], [64, 255, 75, 190], 0⟩ ?wh ?wl ?wF ?wN ?wk ?wn ?wp ?_ ?_
      case wh => rfl
      case wl => exact fun _ => .head _
      case wF => k_asm
      case wN => k_asm
      case wk => exact Has.nil
      case wn => exact fun _ h => h
      case wp => exact ⟨.cons _ _ (.cons _ _ (.cons _ _ .nil)), .cons _ _ (.cons _ _ (.cons _ _ .nil)), .cons _ _ (.cons _ _ (.cons _ _ (.cons _ _ .nil))), rfl, rfl, rfl, by (show ∀ k ∈ ([14, 16, 16] : List Int), 9 ≤ k ∧ k ≤ 54; decide), by (show ∀ k ∈ ([64, 255, 75, 190] : List Int), 64 ≤ k ∧ k ≤ 255; decide)⟩
      · intro i v c u h tk own hv hP hoff F9 N9
        dsimp only [kstB] at F9
        k_fold
        obtain ⟨x, tx', rfl⟩ := int_at hI hv
        have hlk := hP.ik.length
        have hlr := hP.ir.length
        have hln := hP.inn.length
        rw [hP.lk] at hlk
        rw [hP.lr] at hlr
        rw [hP.ln] at hln
        have hi4 : i < 4 := by
          have h1 := List.getElem?_eq_some_iff.mp hv
          obtain ⟨h1, _⟩ := h1
          have h2 := hI.length
          omega
        have dDk : D ≠ ka := Nat.ne_of_gt lD.2.2
        have dDr : D ≠ ra := Nat.ne_of_gt lD.2.1
        have dDn : D ≠ na := Nat.ne_of_gt lD.1
        have dnr : na ≠ ra := Nat.ne_of_gt ln1.1
        have dnk : na ≠ ka := Nat.ne_of_gt ln1.2
        have drk : ra ≠ ka := Nat.ne_of_gt lr1
        k_steps
        unfold Stop
        (with_reducible rename News _ _ _ _ => N8)
        (with_reducible rename Fr _ _ _ _ => F8)
        generalize tk + 1 + 1 + 1 + 1 + 1 + 1 = t1
        refine appendN F8 N8 (D := ka) (vs := c.kv) (n := c.kn) (by k_dflt (repeat (first | exact List.Mem.head _ | refine List.Mem.tail _ ?_ | refine List.mem_append.mpr (.inr ?_)))) ((D, listOf ws.toArray 0) :: (na, listOf c.nv.toArray c.nn) :: (ra, listOf c.rv.toArray c.rn) :: own) ?_ ?_ (by rw [sizeLine_eq]; omega) ?_
        · exact sub_cons (by k_dflt (repeat (first | exact List.Mem.head _ | refine List.Mem.tail _ ?_ | refine List.mem_append.mpr (.inr ?_)))) (sub_cons (by k_dflt (repeat (first | exact List.Mem.head _ | refine List.Mem.tail _ ?_ | refine List.mem_append.mpr (.inr ?_)))) (sub_cons (by k_dflt (repeat (first | exact List.Mem.head _ | refine List.Mem.tail _ ?_ | refine List.mem_append.mpr (.inr ?_)))) fun q hq => by k_dflt (repeat (first | exact hq | refine List.Mem.tail _ ?_ | refine List.mem_append.mpr (.inr ?_)))))
        · exact off_cons dDk (off_cons dnk (off_cons drk fun q hq => hoff _ hq _ (by k_dflt (repeat (first | exact List.Mem.head _ | refine List.Mem.tail _ ?_ | refine List.mem_append.mpr (.inr ?_))))))
        clear F8 N8
        intro h7 F7 N7
        dsimp only
        k_steps
        unfold Stop
        (with_reducible rename News _ _ _ _ => N7)
        (with_reducible rename Fr _ _ _ _ => F7)
        generalize tk + 1 + 1 + 1 = t2
        refine appendN F7 N7 (D := ra) (vs := c.rv) (n := c.rn) (by k_dflt (repeat (first | exact List.Mem.head _ | refine List.Mem.tail _ ?_ | refine List.mem_append.mpr (.inr ?_)))) ((D, listOf ws.toArray 0) :: (na, listOf c.nv.toArray c.nn) :: (ka, listOf (c.kv ++ [Value.int (9 + (x.fmod 35328).fmod 46) t1]).toArray (c.kn + 1)) :: own) ?_ ?_ (by rw [sizeLine_eq]; omega) ?_
        · exact sub_cons (by k_dflt (repeat (first | exact List.Mem.head _ | refine List.Mem.tail _ ?_ | refine List.mem_append.mpr (.inr ?_)))) (sub_cons (by k_dflt (repeat (first | exact List.Mem.head _ | refine List.Mem.tail _ ?_ | refine List.mem_append.mpr (.inr ?_)))) (sub_cons (by k_dflt (repeat (first | exact List.Mem.head _ | refine List.Mem.tail _ ?_ | refine List.mem_append.mpr (.inr ?_)))) fun q hq => by k_dflt (repeat (first | exact hq | refine List.Mem.tail _ ?_ | refine List.mem_append.mpr (.inr ?_)))))
        · exact off_cons dDr (off_cons dnr (off_cons drk.symm fun q hq => hoff _ hq _ (by k_dflt (repeat (first | exact List.Mem.head _ | refine List.Mem.tail _ ?_ | refine List.mem_append.mpr (.inr ?_))))))
        clear F7 N7
        intro h6 F6 N6
        dsimp only
        k_steps
        unfold Stop
        (with_reducible rename News _ _ _ _ => N6)
        (with_reducible rename Fr _ _ _ _ => F6)
        generalize tk + 1 + 1 + 1 = t3
        refine appendN F6 N6 (D := na) (vs := c.nv) (n := c.nn) (by k_dflt (repeat (first | exact List.Mem.head _ | refine List.Mem.tail _ ?_ | refine List.mem_append.mpr (.inr ?_)))) ((D, listOf ws.toArray 0) :: (ra, listOf (c.rv ++ [Value.int (((x.fmod 35328).fdiv 46).fmod 4) t2]).toArray (c.rn + 1)) :: (ka, listOf (c.kv ++ [Value.int (9 + (x.fmod 35328).fmod 46) t1]).toArray (c.kn + 1)) :: own) ?_ ?_ (by rw [sizeLine_eq]; omega) ?_
        · exact sub_cons (by k_dflt (repeat (first | exact List.Mem.head _ | refine List.Mem.tail _ ?_ | refine List.mem_append.mpr (.inr ?_)))) (sub_cons (by k_dflt (repeat (first | exact List.Mem.head _ | refine List.Mem.tail _ ?_ | refine List.mem_append.mpr (.inr ?_)))) (sub_cons (by k_dflt (repeat (first | exact List.Mem.head _ | refine List.Mem.tail _ ?_ | refine List.mem_append.mpr (.inr ?_)))) fun q hq => by k_dflt (repeat (first | exact hq | refine List.Mem.tail _ ?_ | refine List.mem_append.mpr (.inr ?_)))))
        · exact off_cons dDn (off_cons dnr.symm (off_cons dnk.symm fun q hq => hoff _ hq _ (by k_dflt (repeat (first | exact List.Mem.head _ | refine List.Mem.tail _ ?_ | refine List.mem_append.mpr (.inr ?_))))))
        clear F6 N6
        intro h5 F5 N5
        dsimp only
        k_steps
        have m1 : 0 ≤ x.fmod 35328 ∧ x.fmod 35328 < 35328 := ⟨Int.fmod_nonneg_of_pos _ (by decide), Int.fmod_lt_of_pos _ (by decide)⟩
        generalize x.fmod 35328 = dr at *
        refine' FPost.next ⟨c.kv ++ [.int (9 + dr.fmod 46) t1], c.ks ++ [9 + dr.fmod 46], c.kn + 1, c.rv ++ [.int ((dr.fdiv 46).fmod 4) t2], c.rs ++ [(dr.fdiv 46).fmod 4], c.rn + 1, c.nv ++ [.int (64 + dr.fdiv 184) t3], c.ns ++ [64 + dr.fdiv 184], c.nn + 1⟩ ?wF ?wN ?wk ?wr ?wn ?wo ?wa ?wp
        case wF => k_asm
        case wN => k_asm
        case wk => exact Has.nil
        case wr => repeat' (first | exact Same.base | exact Same.refl _ _ | refine Same.set rfl ?_ | refine Same.sub rfl ?_)
        case wn =>
          exact sub_cons (by k_dflt (repeat (first | exact List.Mem.head _ | refine List.Mem.tail _ ?_ | refine List.mem_append.mpr (.inr ?_)))) (sub_cons (by k_dflt (repeat (first | exact List.Mem.head _ | refine List.Mem.tail _ ?_ | refine List.mem_append.mpr (.inr ?_)))) (sub_cons (by k_dflt (repeat (first | exact List.Mem.head _ | refine List.Mem.tail _ ?_ | refine List.mem_append.mpr (.inr ?_)))) (sub_cons (by k_dflt (repeat (first | exact List.Mem.head _ | refine List.Mem.tail _ ?_ | refine List.mem_append.mpr (.inr ?_)))) sub_nil)))
        case wo =>
          intro q hq
          k_dflt (repeat (first | exact hq | refine List.Mem.tail _ ?_ | refine List.mem_append.mpr (.inr ?_)))
        case wa => exact hoff
        case wp =>
          have e1 : dr.fmod 46 = dr % 46 := Int.fmod_eq_emod_of_nonneg _ (by decide)
          have e2 : dr.fdiv 184 = dr / 184 := Int.fdiv_eq_ediv_of_nonneg _ (by decide)
          refine ⟨hP.ik.append (.cons _ _ .nil), hP.ir.append (.cons _ _ .nil), hP.inn.append (.cons _ _ .nil), ?_, ?_, ?_, ?_, ?_⟩
          · have := hP.lk
            show (c.ks ++ [_]).length = _
            rw [List.length_append, this]; rfl
          · have := hP.lr
            show (c.rs ++ [_]).length = _
            rw [List.length_append, this]; rfl
          · have := hP.ln
            show (c.ns ++ [_]).length = _
            rw [List.length_append, this]; rfl
          · intro k hk
            rcases List.mem_append.mp hk with hk | hk
            · exact hP.gk k hk
            · rw [List.mem_singleton.mp hk, e1]; omega
          · intro k hk
            rcases List.mem_append.mp hk with hk | hk
            · exact hP.gn k hk
            · rw [List.mem_singleton.mp hk, e2]; omega
      · intro c u h tk hP F9 N9
        dsimp only [kstB] at F9
        dsimp only
        have hks7 : c.ks.length ≤ 7 := by (have h1 := hI.length; have h2 := hP.lk; omega)
        have hkv7 : c.kv.length ≤ 7 := by (rw [hP.ik.length]; exact hks7)
        (k_with "call builtin:len" => refine stop ?_)
        k_steps
        unfold Stop
        refine Calls.call_len_list (items := c.kv.toArray) ⟨_, (N9 (ka, listOf c.kv.toArray c.kn) (by k_dflt (repeat (first | exact List.Mem.head _ | refine List.Mem.tail _ ?_ | refine List.mem_append.mpr (.inr ?_))))).1, rfl, c.kn, rfl⟩ ?_ ?_
        · rw [List.size_toArray]; omega
        dsimp only
        (k_with "call builtin:len" => fail "no")
        k_steps
        unfold Stop
        rw [show c.kv.toArray.size = c.ks.length from by rw [List.size_toArray]; exact hP.ik.length]
        (with_reducible rename Fr _ _ _ _ => F8)
        (with_reducible rename News _ _ _ _ => N8)
        k_dflt (refine' Fn.useT (tree_fn ka ra na c.ks c.rs c.ns c.ks.length 0 (c.ks.length : Int) _ _ (Int.le_refl _) (Int.le_refl _) (by omega)) ?c1 ?c2 ?c3 ?c4 ?c5 ?c6 ?c7 ?c8 ?c9 ?_; (case c1 => k_asm); (case c2 => k_asm); (case c3 => k_asm); (case c4 => k_asm); (case c5 => k_asm); (case c6 => first | exact rfl | assumption); (case c7 => exact ⟨⟨c.kv, ⟨_, (N8 (ka, listOf c.kv.toArray c.kn) (by k_dflt (repeat (first | exact List.Mem.head _ | refine List.Mem.tail _ ?_ | refine List.mem_append.mpr (.inr ?_))))).1, rfl, c.kn, rfl⟩, hP.ik⟩, ⟨c.rv, ⟨_, (N8 (ra, listOf c.rv.toArray c.rn) (by k_dflt (repeat (first | exact List.Mem.head _ | refine List.Mem.tail _ ?_ | refine List.mem_append.mpr (.inr ?_))))).1, rfl, c.rn, rfl⟩, hP.ir⟩, ⟨c.nv, ⟨_, (N8 (na, listOf c.nv.toArray c.nn) (by k_dflt (repeat (first | exact List.Mem.head _ | refine List.Mem.tail _ ?_ | refine List.mem_append.mpr (.inr ?_))))).1, rfl, c.nn, rfl⟩, hP.inn⟩, by rw [hP.lr, hP.lk], by (rw [hP.ln, hP.lk]; exact Nat.add_right_comm 3 1 _), hks7, hP.gk, hP.gn⟩))
        case c8 => (show callerA.depth + 1 + (c.ks.length + 4) < recursionLimit; have e1 : callerA.depth + 1 + 11 < recursionLimit := by decide
                    omega)
        case c9 => (show callerA.units + 3 + (8 * c.ks.length + 60) < cLine; have e1 : callerA.units + 3 + 116 < cLine := by decide
                    omega)
        intro t tp lr t1 t2 zs k1 k2 h7 tk7 gt ot it F7 N7
        dsimp only
        k_steps
        (with_reducible rename Fr _ _ _ _ => F6)
        (with_reducible rename News _ _ _ _ => N6)
        have hop : t.ops ≤ 7 := by (rw [ot]; exact hks7)
        have hrl : zs.length ≤ 15 := by (rw [it.length, Tr.row_len]; omega)
        clear ot hks7 hkv7
        refine LCg.CompSrc.ledger rfl F6 N6 (its := zs.toArray) (k := k2) (by k_dflt (repeat (first | exact List.Mem.head _ | refine List.Mem.tail _ ?_ | refine List.mem_append.mpr (.inr ?_)))) (by rw [List.size_toArray, sizeLine_eq]; omega) ?_
        intro g
        refine compRest (fun i y => ∃ tt, y = .str (piece (t.row.getD i 0)) tt) (.inr ⟨_, (show (lr, listOf zs.toArray k2) ∈ _ from by k_dflt (repeat (first | exact List.Mem.head _ | refine List.Mem.tail _ ?_ | refine List.mem_append.mpr (.inr ?_)))), rfl, _, rfl⟩) ?_ ?_
        · rintro i v I oI C oC D' m₂ ys h5 tk5 E' hi hv hC hx F5 N5
          obtain ⟨tv, rfl, hmem⟩ := ints_getD it (i := i) (by simpa using hv)
          have hpv := Tr.row_toks gt _ hmem
          dsimp only
          k_steps
          unfold Stop
          k_dflt (refine' Fn.useK (piece_fn (t.row.getD i 0) _ (by omega)) ?c1 ?c2 ?c3 ?c5 ?c6 trivial ?c8 ?c9 ?_; (case c1 => k_asm); (case c2 => k_asm); (case c3 => k_asm); (case c5 => k_asm); (case c6 => first | exact rfl | assumption))
          case c8 => (show callerA.depth + 1 + 2 < recursionLimit; decide)
          case c9 => (show callerA.units + 3 + 40 < cLine; decide)
          intro t4 h4 tk4 st4
          dsimp only
          k_steps
          exact ⟨⟨t4, rfl⟩, _, _, rfl, st4⟩
        · intro ys hlen hG
          intro D2 h3 tk3 F3 N3 off3
          have hdue := due_of (ns := t.row) (by rw [hlen, List.size_toArray]; exact it.length) hG
          dsimp only
          k_steps
          unfold Stop
          have hto : t.toks.length ≤ 64 := Nat.le_trans (Tr.toks_len t) (by omega)
          rw [Tr.text_tx t]
          k_dflt (refine' Fn.use (read_fn t.toks t1 (Tr.toks_row gt) hto ([t.row], []) (read_own gt)) ?c1 ?c2 ?c3 ?c4 ?c5 ?c6 trivial ?c8 ?c9 ?_; (case c1 => k_asm); (case c2 => k_asm); (case c3 => k_asm); (case c4 => k_asm); (case c5 => k_asm); (case c6 => first | exact rfl | assumption))
          case c8 => (show callerA.depth + 1 + 6 < recursionLimit; decide)
          case c9 => (show callerA.units + 3 + 100 < cLine; decide)
          intro r1 nw1 h2 tk2 d1 F2 N2 off2 hd1 dt1
          subst hd1
          obtain ⟨q1, rfl⟩ : ∃ q, r1 = .ref q := by cases dt1 with | tuple _ _ => exact ⟨_, rfl⟩
          dsimp only
          (k_with "compareOp NotEq ref ref" => refine stop ?_)
          (k_with "compareOp Eq ref ref" => refine stop ?_)
          k_steps
          unfold Stop
          rename_i l1a _ _ l1b _ _ Dt h1 F1 N1 _
          have hgr : ∀ k ∈ t.row, goodTok k := Tr.row_toks gt
          refine dat_ne (d := Dat.tuple [.list [toksD t.row], .list []]) (e := Dat.tuple [.list [toksD t.row], .list []]) N1 (dt1.mono fun p hp => .tail _ (.tail _ (.tail _ (List.mem_append.mpr (.inl hp))))) ?_ ?_ ?_ (by (show callerA.units + 3 + 64 < cLine; decide)) (q := true) (by simp) ?_
          · refine DatIn.tuple (vs := [.ref l1a, .ref l1b]) (.head _) (.cons (DatIn.list (vs := [.ref D2]) (.tail _ (.tail _ (.head _))) (DatAll.one (DatIn.list (vs := ys) (show (D2, listOf ys.toArray _) ∈ _ from .tail _ (.tail _ (.tail _ (List.mem_append.mpr (.inr (.head _)))))) (hdue.mono fun _ h => (List.not_mem_nil h).elim)))) (.cons (DatIn.list (vs := []) (.tail _ (.head _)) .nil) .nil))
          · simp [kqdOk, kqd_strs hgr]
          · simp [kqdOk, kqd_strs hgr]
          dsimp only
          k_steps
          unfold Stop
          rw [Tr.text_tx t]
          k_dflt (refine' Fn.use (without_fn t.toks t1 (Tr.toks_row gt) hto (t.outs.map textL) (without_tree gt)) ?c1 ?c2 ?c3 ?c4 ?c5 ?c6 trivial ?c8 ?c9 ?_; (case c1 => k_asm); (case c2 => k_asm); (case c3 => k_asm); (case c4 => k_asm); (case c5 => k_asm); (case c6 => first | exact rfl | assumption))
          case c8 => (show callerA.depth + 1 + 3 < recursionLimit; decide)
          case c9 => (show callerA.units + 3 + 60 < cLine; decide)
          intro r2 nw2 hw2 tkw2 d2 Fw2 Nw2 offw2 hd2 dt2
          subst hd2
          obtain ⟨lo, os, no, rfl, hlo, hos⟩ := src_of dt2
          dsimp only
          refine' listT (σ := Unit) (fun _ => [(lo, listOf os.toArray no), (D2, LCg.lst ys), (lr, listOf zs.toArray k2)]) (fun _ => []) [Str.ofString "other", Str.ofString "pile", Str.ofString "waits"] (fun _ _ => True) () ?wh ?wl ?wF ?wN ?wk ?wn ?wp ?_ ?_
          case wh => rfl
          case wl => exact fun _ => .head _
          case wF => k_asm
          case wN => k_asm
          case wk => exact Has.nil
          case wn =>
            exact sub_cons (List.mem_append.mpr (.inl hlo)) (sub_cons (by k_dflt (repeat (first | exact List.Mem.head _ | refine List.Mem.tail _ ?_ | refine List.mem_append.mpr (.inr ?_)))) (sub_cons (by k_dflt (repeat (first | exact List.Mem.head _ | refine List.Mem.tail _ ?_ | refine List.mem_append.mpr (.inr ?_)))) sub_nil))
          case wp => trivial
          · intro i v c9 u9 h9 tk9 own hv _ hoff F9 N9
            obtain ⟨x, tv, hx, rfl⟩ := outs_at hos hv
            obtain ⟨q, hrd, hperm, hne, hgq, hrow, hxl0⟩ := read_outs gt hx
            have hxl : x.length ≤ 64 := Nat.le_trans hxl0 (by omega)
            clear hxl0
            dsimp only [kstB] at F9
            dsimp only
            k_steps
            unfold Stop
            k_dflt (refine' Fn.use (read_fn x tv hrow hxl ([q], []) hrd) ?c1 ?c2 ?c3 ?c4 ?c5 ?c6 trivial ?c8 ?c9 ?_; (case c1 => k_asm); (case c2 => k_asm); (case c3 => k_asm); (case c4 => k_asm); (case c5 => k_asm); (case c6 => first | exact rfl | assumption))
            case c8 => (show callerA.depth + 1 + 6 < recursionLimit; decide)
            case c9 => (show callerA.units + 3 + 100 < cLine; decide)
            intro r3 nw3 hw3 tkw3 d3 Fw3 Nw3 offw3 hd3 dt3
            subst hd3
            obtain ⟨q2, pp, pw, qa, qs, k5, kp, kw, kq, rfl, m1, m2, m3, m4, hqs⟩ := read_out dt3
            have N8' := news_sub Nw3 ((q2, ({ cls := .type "tuple", data := .seq #[.ref pp, .ref pw] k5 } : Obj)) :: (pp, listOf #[.ref qa] kp) :: (pw, listOf #[] kw) :: (qa, listOf qs.toArray kq) :: (lo, listOf os.toArray no) :: (D2, LCg.lst ys) :: (lr, listOf zs.toArray k2) :: own) (by
              exact sub_cons (List.mem_append.mpr (.inl m1)) (sub_cons (List.mem_append.mpr (.inl m2)) (sub_cons (List.mem_append.mpr (.inl m3)) (sub_cons (List.mem_append.mpr (.inl m4)) (sub_cons (by k_dflt (repeat (first | exact List.Mem.head _ | refine List.Mem.tail _ ?_ | refine List.mem_append.mpr (.inr ?_)))) (sub_cons (by k_dflt (repeat (first | exact List.Mem.head _ | refine List.Mem.tail _ ?_ | refine List.mem_append.mpr (.inr ?_)))) (sub_cons (by k_dflt (repeat (first | exact List.Mem.head _ | refine List.Mem.tail _ ?_ | refine List.mem_append.mpr (.inr ?_)))) fun p hp => by k_dflt (repeat (first | exact hp | refine List.Mem.tail _ ?_ | refine List.mem_append.mpr (.inr ?_))))))))))
            clear Nw3
            dsimp only
            (k_with "call builtin:sorted" => refine stop ?_)
            k_steps
            unfold Stop
            k_dflt (refine LCg.ListComp_U (F₀ := by k_asm) (by with_unfolding_all rfl) (by decide) (by rfl) (by decide) (by rfl) ?_)
            k_steps
            unfold Stop
            have hql : qs.length ≤ 15 := by (rw [StrsAre.length hqs, List.length_map, hperm.length_eq, Tr.row_len]; omega)
            have hdl : ys.length ≤ 15 := by (rw [hdue.length, List.length_map, Tr.row_len]; omega)
            rename_i g6 I6 oI6 C6 oC6 D6 m6 h6 tk6 E6 hC6 F6 N6 off6 ne6 hv6 hx6
            refine sorted_N_str F6 N6 ⟨_, (N6 (qa, listOf qs.toArray kq) (by k_dflt (repeat (first | exact List.Mem.head _ | refine List.Mem.tail _ ?_ | refine List.mem_append.mpr (.inr ?_))))).1, rfl, _, rfl⟩ hqs (by omega) ?_
            intro h5 vs5 ss5 e5 F5 N5 hS5 hp5 hs5
            dsimp only
            have lI := Heap.lt_size (N6 (I6, oI6) (by k_dflt (repeat (first | exact List.Mem.head _ | refine List.Mem.tail _ ?_ | refine List.mem_append.mpr (.inr ?_))))).1
            have lC := Heap.lt_size (N6 (C6, oC6) (by k_dflt (repeat (first | exact List.Mem.head _ | refine List.Mem.tail _ ?_ | refine List.mem_append.mpr (.inr ?_))))).1
            have lD := Heap.lt_size (N6 (D6, LCg.lst []) (by k_dflt (repeat (first | exact List.Mem.head _ | refine List.Mem.tail _ ?_ | refine List.mem_append.mpr (.inr ?_))))).1
            refine LCg.CompEnd.intro F5 N5 ((h6.objs.size + 1, seqObj "list" vs5.toArray e5) :: (q2, ({ cls := .type "tuple", data := .seq #[.ref pp, .ref pw] k5 } : Obj)) :: (pp, listOf #[.ref qa] kp) :: (pw, listOf #[] kw) :: (qa, listOf qs.toArray kq) :: (lo, listOf os.toArray no) :: (D2, LCg.lst ys) :: (lr, listOf zs.toArray k2) :: own) ?_ ⟨⟨Nat.ne_of_gt (Nat.lt_succ_of_lt lI), Nat.ne_of_gt (Nat.lt_succ_of_lt lC), Nat.ne_of_gt (Nat.lt_succ_of_lt lD)⟩, off6⟩ (.inr ⟨_, (show (pp, listOf #[.ref qa] kp) ∈ _ from by k_dflt (repeat (first | exact List.Mem.head _ | refine List.Mem.tail _ ?_ | refine List.mem_append.mpr (.inr ?_)))), rfl, _, rfl⟩) ?_
            · intro p hp
              rcases List.mem_cons.mp hp with rfl | hp
              · exact .tail _ (.head _)
              rcases List.mem_cons.mp hp with rfl | hp
              · exact .tail _ (.tail _ (.head _))
              rcases List.mem_cons.mp hp with rfl | hp
              · exact .tail _ (.tail _ (.tail _ (.head _)))
              rcases List.mem_cons.mp hp with rfl | hp
              · exact .head _
              exact .tail _ (.tail _ (.tail _ (.tail _ hp)))
            refine LCg.CompRest.zero ?_
            intro D4 h4 tk4 F4 N4 off4
            dsimp only
            clear F5 N5 F6 N6
            k_steps
            unfold Stop
            rename_i DA hA FA NA lA
            refine sorted_N_str FA NA ⟨_, (NA (D2, LCg.lst ys) (by k_dflt (repeat (first | exact List.Mem.head _ | refine List.Mem.tail _ ?_ | refine List.mem_append.mpr (.inr ?_))))).1, rfl, _, rfl⟩ (strs_of_dat hdue) (by omega) ?_
            intro hB vsB ssB eB FB NB hSB hpB hsB
            have eSS : ss5 = ssB := sorted_one hs5 hsB (hp5.trans ((hperm.map piece).trans hpB.symm))
            subst eSS
            dsimp only
            clear FA NA
            k_steps
            unfold Stop
            rename_i lB1 _ _ lB2 _ _ DB hB' FB' NB' _
            have hgq' : ∀ k ∈ q, goodTok k := hgq
            refine dat_ne (d := Dat.tuple [.list [.list (ss5.map Dat.str)], .list []]) (e := Dat.tuple [.list [.list (ss5.map Dat.str)], .list []]) NB' ?_ ?_ ?_ ?_ (by (show callerA.units + 3 + 64 < cLine; decide)) (q := true) (by simp) ?_
            · exact DatIn.tuple (vs := [.ref D4, .ref pw]) (n := 0) (.tail _ (.tail _ (.tail _ (.tail _ (.head _))))) (.cons (DatIn.list (vs := [.ref (h6.objs.size + 1)]) (n := 1) (.tail _ (.tail _ (.tail _ (.tail _ (.tail _ (.head _)))))) (DatAll.one (DatIn.list (vs := vs5) (n := e5) (.tail _ (.tail _ (.tail _ (.tail _ (.tail _ (.tail _ (.head _))))))) (dat_of_strs hS5)))) (.cons (DatIn.list (vs := []) (n := kw) (by k_dflt (repeat (first | exact List.Mem.head _ | refine List.Mem.tail _ ?_ | refine List.mem_append.mpr (.inr ?_)))) .nil) .nil))
            · exact DatIn.tuple (vs := [.ref lB1, .ref lB2]) (n := 0) (.head _) (.cons (DatIn.list (vs := [.ref (hA.objs.size + 1)]) (n := 0) (.tail _ (.tail _ (.head _))) (DatAll.one (DatIn.list (vs := vsB) (n := eB) (.tail _ (.tail _ (.tail _ (.head _)))) (dat_of_strs hSB)))) (.cons (DatIn.list (vs := []) (n := 0) (by k_dflt (repeat (first | exact List.Mem.head _ | refine List.Mem.tail _ ?_ | refine List.mem_append.mpr (.inr ?_)))) .nil) .nil))
            · simp only [kqdOk, List.all_cons, List.all_nil, Bool.and_true]
              exact kqd_perm (n := 6) hgq' hp5
            · simp only [kqdOk, List.all_cons, List.all_nil, Bool.and_true]
              exact kqd_perm (n := 6) hgq' hp5
            dsimp only
            k_steps
            unfold Stop
            (with_reducible rename News _ _ _ _ => NE)
            refine dat_eq (d := Dat.list [toksD q]) (e := Dat.list [toksD t.row]) NE ?_ ?_ ?_ ?_ (by (show callerA.units + 3 + 64 < cLine; decide)) (q := false) ?_ ?_
            · exact DatIn.list (vs := [.ref qa]) (n := kp) (by k_dflt (repeat (first | exact List.Mem.head _ | refine List.Mem.tail _ ?_ | refine List.mem_append.mpr (.inr ?_)))) (DatAll.one (DatIn.list (vs := qs) (n := kq) (by k_dflt (repeat (first | exact List.Mem.head _ | refine List.Mem.tail _ ?_ | refine List.mem_append.mpr (.inr ?_)))) (strs_dat hqs)))
            · exact DatIn.list (vs := [.ref D2]) (n := 0) (.head _) (DatAll.one (DatIn.list (vs := ys) (n := ys.length) (show (D2, LCg.lst ys) ∈ _ from by k_dflt (repeat (first | exact List.Mem.head _ | refine List.Mem.tail _ ?_ | refine List.mem_append.mpr (.inr ?_)))) (hdue.mono fun _ h => (List.not_mem_nil h).elim)))
            · simp [kqdOk, kqd_strs hgq']
            · simp [kqdOk, kqd_strs hgr]
            · simp only [Bool.false_eq_true, false_iff, Dat.list.injEq, List.cons.injEq, and_true]
              exact fun e => hne ((toksD_inj hgq' hgr).mp e)
            dsimp only
            k_steps
            refine' FPost.next () ?wF ?wN ?wk ?wr ?wn ?wo ?wa ?wp
            case wF => k_asm
            case wN => k_asm
            case wk => exact Has.nil
            case wr => repeat' (first | exact Same.base | exact Same.refl _ _ | refine Same.set rfl ?_ | refine Same.sub rfl ?_)
            case wn =>
              exact sub_cons (by k_dflt (repeat (first | exact List.Mem.head _ | refine List.Mem.tail _ ?_ | refine List.mem_append.mpr (.inr ?_)))) (sub_cons (by k_dflt (repeat (first | exact List.Mem.head _ | refine List.Mem.tail _ ?_ | refine List.mem_append.mpr (.inr ?_)))) (sub_cons (by k_dflt (repeat (first | exact List.Mem.head _ | refine List.Mem.tail _ ?_ | refine List.mem_append.mpr (.inr ?_)))) sub_nil))
            case wo =>
              intro p hp
              k_dflt (repeat (first | exact hp | refine List.Mem.tail _ ?_ | refine List.mem_append.mpr (.inr ?_)))
            case wa => exact hoff
            case wp => trivial
          · intro c9 u9 h9 tk9 _ F9 N9
            dsimp only [kstB] at F9
            dsimp only
            k_with_none
            (k_with "exec For Name Subscript cons nil" => (k_here; (rename Fr _ _ _ _ => lF'); (with_unfolding_all refine' For_invVF lF' ?k1 ?k2 ?_; (case k1 => exact rfl); (case k2 => exact rfl); k_whole)))
            (k_with "exec For Name Call cons nil" => (k_here; (rename Fr _ _ _ _ => lF'); (with_unfolding_all refine' For_invVF lF' ?k1 ?k2 ?_; (case k1 => exact rfl); (case k2 => exact rfl); k_whole)))
            (k_with "exec For Name BinOp cons nil" => (k_here; (rename Fr _ _ _ _ => lF'); (with_unfolding_all refine' For_invVF lF' ?k1 ?k2 ?_; (case k1 => exact rfl); (case k2 => exact rfl); k_whole)))
            (k_with "pyIter ref" => refine stop ?_)
            (k_with "call ref" => refine stop ?_)
            (k_with "binaryOp Add ref ref" => refine stop ?_)
            (k_with "call type:bytes" => refine stop ?_)
            k_steps
            unfold Stop
            (with_reducible rename Fr _ _ _ _ => F8)
            (with_reducible rename News _ _ _ _ => N8)
            rename_i l7 h8 l78
            refine PyProof.Rows.add_lists (vs := zs) (ws := [.int 7 (tk + 1 + 1 + 1 + 1), .int 8 (tk + 1 + 1 + 1 + 1 + 1)]) (hsz := by (simp only [List.length_cons, List.length_nil, sizeLine_eq]; omega)) F8 N8 ⟨_, (N8 (lr, listOf zs.toArray k2) (by k_dflt (repeat (first | exact List.Mem.head _ | refine List.Mem.tail _ ?_ | refine List.mem_append.mpr (.inr ?_))))).1, rfl, _, rfl⟩ ⟨_, (N8 (l7, _) (.head _)).1, rfl, _, rfl⟩ ?_
            intro h6 F6 N6
            dsimp only
            have hI8 : IntsAre (zs ++ [.int 7 (tk + 1 + 1 + 1 + 1), .int 8 (tk + 1 + 1 + 1 + 1 + 1)]) (t.row ++ [7, 8]) := it.append (.cons _ _ (.cons _ _ .nil))
            have hk8 : ∀ k ∈ t.row ++ [7, 8], isTok k := by
              intro k hk
              rcases List.mem_append.mp hk with hk | hk
              · exact (hgr k hk).tok
              · simp only [List.mem_cons, List.not_mem_nil, or_false] at hk
                unfold isTok
                omega
            have hl8 : (t.row ++ [7, 8]).length ≤ 17 := by (rw [List.length_append, Tr.row_len]; show 2 * t.ops + 1 + 2 ≤ 17; omega)
            generalize hVS : zs ++ [Value.int 7 (tk + 1 + 1 + 1 + 1), Value.int 8 (tk + 1 + 1 + 1 + 1 + 1)] = vs8 at *
            generalize hKS : t.row ++ [7, 8] = ks8 at *
            k_steps
            unfold Stop
            refine' listT (σ := S8) (fun _ => [(h8.objs.size, listOf vs8.toArray 0)]) (fun c => [(Str.ofString "number", Value.int c.num c.tn), (Str.ofString "letters", Value.bytes c.val c.tv)]) [Str.ofString "own", Str.ofString "number", Str.ofString "letters"] (fun i c => S8.ok ks8 i c) ⟨0, _, #[], _⟩ ?wh ?wl ?wF ?wN ?wk ?wn ?wp ?_ ?_
            case wh => rfl
            case wl => exact fun _ => .head _
            case wF => k_asm
            case wN => k_asm
            case wk => (repeat (refine Has.cons ?_ ?_; rfl)); exact Has.nil
            case wn => exact fun p hp => by (rw [List.mem_singleton.mp hp]; exact .head _)
            case wp => exact ⟨rfl, rfl⟩
            · intro i v c u h5 tk5 own hv hP8 hoff F5 N5
              obtain ⟨k, tv, rfl, hki⟩ := ints_at2 hI8 hv
              have hkt := hk8 k (List.mem_of_getElem? hki)
              have hki' : 7 ≤ k ∧ k ≤ 255 := by unfold isTok at hkt; omega
              have hkc : 7 ≤ k ∧ k ≤ 54 ∨ 64 ≤ k ∧ k ≤ 255 := hkt
              dsimp only [kstB] at F5
              dsimp only
              k_steps
              unfold Stop
              k_dflt (refine' Fn.useO (iseof_no k _ (by omega)) ?c1 ?c2 ?c3 ?c4 ?c5 ?c6 trivial ?c8 ?c9 ?_; (case c1 => k_asm); (case c2 => k_asm); (case c3 => k_asm); (case c4 => k_asm); (case c5 => k_asm); (case c6 => first | exact rfl | assumption))
              case c8 => (show callerA.depth + 1 + 2 < recursionLimit; decide)
              case c9 => (show callerA.units + 3 + 40 < cLine; decide)
              intro h4 tk4 F4 N4
              dsimp only
              k_steps
              unfold Stop
              k_dflt (refine' Fn.useO (iseof_no _ _ (by omega)) ?c1 ?c2 ?c3 ?c4 ?c5 ?c6 trivial ?c8 ?c9 ?_; (case c1 => k_asm); (case c2 => k_asm); (case c3 => k_asm); (case c4 => k_asm); (case c5 => k_asm); (case c6 => first | exact rfl | assumption))
              case c8 => (show callerA.depth + 1 + 2 < recursionLimit; decide)
              case c9 => (show callerA.units + 3 + 40 < cLine; decide)
              intro h3 tk3 F3 N3
              dsimp only
              have hcv : c.val.size ≤ 34 := Nat.le_trans (S8.size hP8) (Nat.mul_le_mul_left 2 hl8)
              have hl2 : (let8 k).toArray.size = 2 := rfl
              (k_with "eval IfExp" => refine stop ?_)
              k_steps
              unfold Stop
              refine val_cut (k := k) F3 N3 ?_ ?_
              · k_with_none
                (k_with "call ref" => refine stop ?_)
                (k_with "subscriptTail Name Call ref str" => ((with_reducible rename Fr _ _ _ _ => nF); refine item_tab (tab_K (by assumption)) nF.keep ⟨by omega, by omega⟩ ?_; intro tI))
                k_steps
                · unfold Stop
                  k_dflt (refine' Fn.useS (piece_fn k _ (by omega)) ?c1 ?c2 ?c3 ?c4 ?c5 ?c6 trivial ?c8 ?c9 ?_; (case c1 => k_asm); (case c2 => k_asm); (case c3 => k_asm); (case c4 => k_asm); (case c5 => k_asm); (case c6 => first | exact rfl | assumption))
                  case c8 => (show callerA.depth + 1 + 2 < recursionLimit; decide)
                  case c9 => (show callerA.units + 3 + 40 < cLine; decide)
                  intro t2 h2 tk2 F2 N2
                  dsimp only
                  k_steps
                  all_goals first | exact F2 | exact N2 | k_asm
                all_goals first | exact F3 | exact N3 | k_asm
              · intro t2 h2 tk2 F2 N2
                k_with_none
                (k_with "call ref" => refine stop ?_)
                (k_with "call type:bytes" => refine stop ?_)
                (k_with "inplaceOp Add bytes bytes" => (refine iadd_bytes (by rw [hl2]; omega) ?_; intro _ _))
                dsimp only
                k_steps
                unfold Stop
                (with_reducible rename Fr _ _ _ _ => FB)
                (with_reducible rename News _ _ _ _ => NB)
                refine bytes_let8 FB NB (.head _) rfl (by omega) ?_
                intro h1 t1' tk1 F1 N1
                dsimp only
                k_steps
                refine' FPost.next ⟨256 * c.num + k, _, c.val ++ (let8 k).toArray, _⟩ ?wF ?wN ?wk ?wr ?wn ?wo ?wa ?wp
                case wF => k_asm
                case wN => k_asm
                case wk => (repeat (refine Has.cons ?_ ?_; rfl)); exact Has.nil
                case wr => repeat' (first | exact Same.base | exact Same.refl _ _ | refine Same.set rfl ?_ | refine Same.sub rfl ?_)
                case wn =>
                  exact sub_cons (by k_dflt (repeat (first | exact List.Mem.head _ | refine List.Mem.tail _ ?_ | refine List.mem_append.mpr (.inr ?_)))) sub_nil
                case wo =>
                  intro p hp
                  k_dflt (repeat (first | exact hp | refine List.Mem.tail _ ?_ | refine List.mem_append.mpr (.inr ?_)))
                case wa => exact hoff
                case wp => exact S8.step hP8 hki (by omega)
            · intro c u h5 tk5 hP8 F5 N5
              dsimp only [kstB] at F5
              dsimp only
              have hnl : ks8.length = vs8.length := hI8.length.symm
              have hcn : c.num = (num8 0 ks8 : Int) := by
                have := hP8.num
                rwa [← hnl, List.take_length] at this
              have hcl : c.val = (lets8 ks8).toArray := by
                have := hP8.val
                rwa [← hnl, List.take_length] at this
              have hb8 : ∀ k ∈ ks8, 0 ≤ k ∧ k ≤ 255 := fun k hk => by
                have := hk8 k hk
                unfold isTok at this
                omega
              have hna : (-c.num).natAbs = num8 0 ks8 := by rw [hcn, Int.natAbs_neg, Int.natAbs_natCast]
              have hnb : (-c.num).natAbs < 16 ^ 64 := by
                have h1 := num8_lt ks8 hb8 0 0 (by decide)
                rw [hna]
                refine Nat.lt_of_lt_of_le h1 ?_
                have : 0 + ks8.length ≤ 32 := by (rw [Nat.zero_add]; exact Nat.le_trans hl8 (by decide))
                exact Nat.le_trans (Nat.pow_le_pow_right (by decide) this) (by decide)
              (k_with "binaryOp Mult bytes int" => refine stop ?_)
              (k_with "compareOp Eq bytes bytes" => refine stop ?_)
              (k_with "subscriptTail Name Slice bytes ref" => refine stop ?_)
              (k_with "binaryOp Add bytes bytes" => refine stop ?_)
              k_steps
              unfold Stop
              k_dflt (refine' Fn.useB (int2ap_fn (-c.num) _ hnb) ?c1 ?c2 ?c3 ?c4 ?c5 ?c6 trivial ?c8 ?c9 ?_; (case c1 => k_asm); (case c2 => k_asm); (case c3 => k_asm); (case c4 => k_asm); (case c5 => k_asm); (case c6 => first | exact rfl | assumption))
              case c8 => (show callerA.depth + 1 + 2 < recursionLimit; decide)
              case c9 => (show callerA.units + 3 + 40 < cLine; decide)
              rw [hna]
              intro t4 h4 tk4 F4 N4
              dsimp only
              k_steps
              unfold Stop
              (with_reducible rename Fr _ _ _ _ => FC)
              (with_reducible rename News _ _ _ _ => NC)
              have hs1 : (apL (num8 0 ks8)).toArray.size ≤ 34 := Nat.le_trans (Nat.le_trans (Nat.le_of_eq (List.size_toArray ..)) (apL_pad' hb8).1) (Nat.mul_le_mul_left 2 hl8)
              have hs2 : c.val.size ≤ 34 := Nat.le_trans (S8.size hP8) (Nat.mul_le_mul_left 2 hl8)
              refine KBc.slice_K (s := ⟨_, _, _, _, _⟩) FC NC rfl .none (.int _ _) (by rw [KBw.ints_length]; omega) ?_
              intro h3 t3 tk3 F3 N3 hcut
              have hch := cut_head hcut (apL_head _)
              dsimp only
              clear FC NC
              k_steps
              unfold Stop
              refine eq_bytes ?_
              rw [hch]
              (k_with "call builtin:len" => (refine len_bytes (by omega) ?_))
              k_steps
              unfold Stop
              refine bytes_mul_any (b := [65]) (List.cons_ne_nil _ _) (by omega) (by omega) (by decide) ?_
              intro t2 tk2
              dsimp only
              k_steps
              unfold Stop
              refine KBy.add_bytes (by rw [List.size_toArray, rep_flat, List.length_replicate]; omega) ?_
              intro t1' tk1
              dsimp only
              k_steps
              unfold Stop
              refine eq_bytes ?_
              have hfin := letters_eq hb8 (n := (c.val.size : Int) - ((apL (num8 0 ks8)).toArray.size : Int)) (by rw [hcl])
              rw [← hcl] at hfin
              rw [hfin]
              k_steps
              exact ⟨rfl, _, _, _, rfl, by k_asm⟩)
)
end
end Mine
theorem PySem.Challenge.cw_pk0061_01_holds : PySem.Challenge.rw_pk0061_01.Holds := by
  exact Mine.X
