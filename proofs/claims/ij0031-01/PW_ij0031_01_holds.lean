import PyProof.Rows.All
import Wide.All
import OpenK.AllK
import Wide.FinOn
import PyProof.IsiH_set
import KE.KDictIter
import KE.KOwnIter
import PyProof.CollectWalk
import PySem.Challenge.RW_ij0031_01
open PySem PySem.W PySem.Calls PySem.Spec PyProof.Rows
set_option Elab.async false
set_option maxRecDepth 100000
namespace Mine
set_option maxRecDepth 100000 in
set_option maxHeartbeats 8000000 in
open_top hd for PySem.Challenge.rw_ij0031_01
end Mine

namespace Mine

abbrev PG : Program := PySem.Challenge.rw_ij0031_01.row.prog

/-- what holds where a def is called -/
def Site (w : World) (A : Around) (d u : Nat) (al : List (Addr × Obj)) (s : Shared) : Prop :=
  ∃ (p : Program) (loose : List Str) (mean : ExcName → Option Value) (mg mb : Str → Option Value) (A₀ : Around) (base h₀ : Heap) (env : Env) (outer : List Env) (L : Addr) (m : Str → Option Value),
    Below A₀ base outer h₀ ∧ Fr h₀ L s.heap m ∧ (Mine.hd.heap_39 w.params).In h₀ ∧ Top p loose mean mg mb h₀ ∧ A.handled = none ∧ A.frames = some (env :: outer) ∧ env.frame = some L ∧ env.scope.kind = .function ∧
    A.depth + d < recursionLimit ∧ A.units + u < cLine ∧ News h₀ L s.heap al

/-- a def's contract: it ends, changes nothing that stood, and what it hands back is told by Out -/
def Fn (w : World) (d u : Nat) (f : Addr) (vs : List Value) (al : List (Addr × Obj)) (Pre : Heap → Prop) (Out : Heap → Heap → Value → Prop) : Prop :=
  ∀ (A : Around) (s : Shared) (Q E : Value → Shared → Prop), Site w A d u al s → Pre s.heap →
    (∀ r h' tk, s.heap.StaysIn h' → Out s.heap h' r → Q r { s with heap := h', toks := tk }) → wpAny (model PG w) A (call (.ref f) vs) Q E s

abbrev topA (dp un : Nat) (gd : Option (List Code)) (env : Env) (outer : List Env) : Around := { handled := none, depth := dp, frames := some (env :: outer), guards := gd, units := un }

theorem stays_of {h₀ : Heap} {L : Addr} {s : Shared} {al : List (Addr × Obj)} (N : News h₀ L s.heap al) {L' : Addr} {h' : Heap} {m' : Str → Option Value} {al' : List (Addr × Obj)}
    (F' : Fr (hideAll s.heap (al.map (·.1))) L' h' m') (N' : News (hideAll s.heap (al.map (·.1))) L' h' al') (hs : ∀ p ∈ al, p ∈ al') : s.heap.StaysIn h' := by
  intro b o e
  by_cases hb : b ∈ al.map (·.1)
  · obtain ⟨p, hp, rfl⟩ := List.mem_map.mp hb
    have h1 := (N p hp).1
    rw [h1] at e
    rw [← Option.some.inj e]
    exact (N' p (hs p hp)).1
  · exact F'.keep b o (hideAll_get _ e hb)

structure Inn (s : Shared) (al : List (Addr × Obj)) (d u dp un : Nat) (g : Heap) (L' : Addr) : Prop where
  room : dp + d < recursionLimit
  units : un + u < cLine
  old : ∀ b o, s.heap.get? b = some o → b ∉ al.map (·.1) → g.get? b = some o
  fresh : ∀ b, s.heap.objs.size ≤ b → g.get? b = none
  low : s.heap.objs.size ≤ L'
  back : ∀ h' m' al', Fr g L' h' m' → News g L' h' al' → (∀ p ∈ al, p ∈ al') → s.heap.StaysIn h'
  less : ∀ q ∈ al, q.1 < L'

theorem enterR {w : World} {A : Around} {d u : Nat} {al : List (Addr × Obj)} {s : Shared} {R : Result → Shared → Prop} {name qual : Str} {params : Arguments} {body : List Stmt} {scope : Scope} {dV kV doc pm cdv ct oc : Value} {an od : Option Addr} {osl : Array (Option Value)} {f : Addr} {args : Args} {binds : List (Str × Value)}
    (S : Site w A d u al s) (hd : 1 ≤ d)
    (ho : (Mine.hd.heap_39 w.params).lookup f = some ⟨oc, od, .func (fnOf name qual params body scope dV kV doc pm an cdv ct), osl⟩) (hcd : codeIn (Mine.hd.heap_39 w.params) cdv qual = true)
    (hbind : BindsTo s (fnOf name qual params body scope dV kV doc pm an cdv ct) args binds) (hloc : ∀ y ∈ binds, scope.names.lookup y.1 = some .local)
    (h : ∀ (p : Program) (loose : List Str) (mean : ExcName → Option Value) (mg mb : Str → Option Value) (dp un : Nat) (gd : Option (List Code)) (base g : Heap) (env : Env) (outer : List Env) (L' : Addr) (h₁ : Heap),
      A = topA dp un gd env outer → Inn s al d u dp un g L' →
      Fr g L' h₁ (fun y => binds.reverse.lookup y) → News g L' h₁ al → Below (topA dp un gd env outer) base (env :: outer) g → (Mine.hd.heap_39 w.params).In g → Top p loose mean mg mb g →
      wpAny (model PG w) ((topA dp un gd env outer).deeper (envOf qual scope L' f cdv)) (execs body (envOf qual scope L' f cdv))
        (fun fl s' => R (.ok (.ret (match fl with | .ret v => v | _ => .none))) s')
        (fun e s' => wpAny (model PG w) ((topA dp un gd env outer).deeper (envOf qual scope L' f cdv)) (leaving (envOf qual scope L' f cdv) e) (fun _ s'' => R (.error e) s'') (fun e' s'' => R (.error e') s'') s')
        { s with heap := h₁, toks := s.toks + binds.length })
    (hco : scope.isCoroutine = false) (hgen : scope.isGenerator = false) (hk : scope.kind = .function)
    (hcell : ∀ x ∈ scope.names, x.2 ≠ .cell) : codeAny (model PG w) A (.call (.ref f) args) R s := by
  obtain ⟨p, loose, mean, mg, mb, A₀, base, h₀, env, outer, L, m, B, F, X, T, hh, hA, hf, hke, hdep, hun, N⟩ := S
  obtain ⟨hd0, dp, fr, gd, un⟩ := A
  simp only at hh hA
  subst hh; subst hA
  obtain ⟨FG, BG, st, lv⟩ := groundX (R := R) (A := topA dp un gd env outer) B F N rfl hf hke
  have X' : (Mine.hd.heap_39 w.params).In s.heap := X.keeps F.keep
  refine codeAny_call_def (fd := fnOf name qual params body scope dV kV doc pm an cdv ct) (body := body) (binds := binds) (by show dp < recursionLimit; simp only at hdep; omega) (X' _ _ ho) rfl (T.nolimit.keeps F.keep) (codeRec_of X' hcd) rfl hbind hcell hloc (fun h₁ hns hk₁ => ?_) hco hgen hk
  exact h p loose mean mg mb dp un gd base _ env outer s.heap.objs.size h₁ rfl ⟨hdep, hun, (fun b o e hb => hideAll_get _ e hb),
    (fun b hb => by
      cases q : (hideAll s.heap (al.map (·.1))).get? b with
      | none => rfl
      | some o => exact absurd (Nat.lt_of_lt_of_le (Heap.lt_size (of_hideAll _ q)) hb) (Nat.lt_irrefl _)),
    Nat.le_refl _, (fun h' m' al' F' N' hs => stays_of N F' N' hs), (fun q hq => Heap.lt_size (N q hq).1)⟩
    ⟨hns, fun b o e => hk₁ b o (of_hideAll _ e), Nat.le_of_eq (hideAll_size _ _)⟩
    (fun p hp => ⟨hk₁ _ _ (N p hp).1, Nat.ne_of_lt (Heap.lt_size (N p hp).1), hideAll_none _ (List.mem_map_of_mem hp)⟩) BG (X.keeps st) (T.keeps st)

end Mine

namespace Mine

def AllNe (d : Nat) : List (Addr × Obj) → Prop
  | [] => True
  | p :: r => @Ne Nat p.1 d ∧ AllNe d r
theorem allNe_of {d : Addr} : ∀ {l : List (Addr × Obj)}, (∀ p ∈ l, p.1 ≠ d) → AllNe d l
  | [], _ => trivial
  | p :: _, h => ⟨h p (.head _), allNe_of fun q hq => h q (.tail _ hq)⟩
theorem allNe_to {d : Addr} : ∀ {l : List (Addr × Obj)}, AllNe d l → ∀ p ∈ l, p.1 ≠ d
  | [], _, _, hp => nomatch hp
  | p :: r, h, q, hq => by
    rcases List.mem_cons.mp hq with rfl | hq
    · exact h.1
    · exact allNe_to h.2 q hq
theorem allLt_to {d : Addr} : ∀ {l : List (Addr × Obj)}, AllLt d l → ∀ p ∈ l, p.1 < d
  | [], _, _, hp => nomatch hp
  | p :: r, h, q, hq => by
    rcases List.mem_cons.mp hq with rfl | hq
    · exact h.1
    · exact allLt_to h.2 q hq

section
variable {prog : Program} {w : World} {A : Around} {E : Value → Shared → Prop} {s : Shared} {env : Env} {h₀ : Heap} {target : Expr} {body : List Stmt} {Q : Flow → Shared → Prop}

def EndS {σ : Type} (h₀ : Heap) (L I : Addr) (oI : Obj) (mp : σ → Str → Option Value) (Led : σ → List (Addr × Obj)) (Pi : Nat → σ → Prop) (ts : List Str) (k : Nat) (s₁ s₂ : Shared) : Prop :=
  ∃ (c : σ) (h' : Heap) (tk : Nat) (m' : Str → Option Value) (news' : List (Addr × Obj)), s₂ = { s₁ with heap := h', toks := tk } ∧ Fr h₀ L h' m' ∧ News h₀ L h' news' ∧ (∀ p ∈ Led c, p ∈ news') ∧ (I, oI) ∈ news' ∧
    (∀ p ∈ Led c, p.1 ≠ I) ∧ (∀ y, ts.contains y = false → m' y = mp c y) ∧ Pi k c
def PostS {σ : Type} (h₀ : Heap) (L I : Addr) (oI : Obj) (mp : σ → Str → Option Value) (Led : σ → List (Addr × Obj)) (Pi : Nat → σ → Prop) (ts : List Str) (k : Nat) (s₁ : Shared) (Q : Flow → Shared → Prop) (f : Flow) (s₂ : Shared) : Prop :=
  match f with
  | .ret v => Q (.ret v) s₂
  | .brk => Q .next s₂
  | _ => EndS h₀ L I oI mp Led Pi ts k s₁ s₂

def LoopS (prog : Program) (w : World) (A : Around) (env : Env) (target : Expr) (body : List Stmt) (Q : Flow → Shared → Prop) (E : Value → Shared → Prop) (it : Value) (s₂ : Shared) : Prop :=
  codeAny (model prog w) A (.forLoop target it body [] env) (fun r s' => match r with | .ok f => Q f s' | .error e => cameBackBy (model prog w) A env E e s') s₂

theorem For_S {iter : Expr} {pos : Pos} (h : wpAny (model prog w) A (eval iter env) (fun xv s₁ => wpAny (model prog w) A (pyIter xv) (fun it s₂ => LoopS prog w A env target body Q E it s₂) E s₁) E s)
    (hs : ∀ x, foldedSetIterable iter env x = pure x) : wpAny (model prog w) A (exec (.For target iter body [] pos) env) Q E s :=
  wpAny_For h hs

theorem frame_eq {h : Heap} {L : Addr} {ts : List Str} {m m' : Str → Option Value} (F : Fr h₀ L h m') (hm : ∀ y, ts.contains y = false → m' y = m y) : Fr h₀ L h (fun y => if ts.contains y then m' y else m y) := by
  have e : (fun y => if ts.contains y then m' y else m y) = m' := by
    funext y
    cases hc : ts.contains y with
    | true => simp
    | false => simp [hm y hc]
  rw [e]; exact F

theorem loopS {σ : Type} {I : Addr} {fp : List Addr} {n : Nat} {P : Nat → Value → Prop} {St : Nat → Heap → Prop} {m : Str → Option Value} (mp : σ → Str → Option Value) (Led : σ → List (Addr × Obj)) (cst : List (Addr × Obj)) (ts : List Str) (Pi : Nat → σ → Prop) (c₀ : σ)
    (W : Walks prog w A I fp [I] n P St) (hob : ∀ i h, St i h → ∃ o, h.get? I = some o) (hI0 : h₀.get? I = none) (hIL : env.locals ≠ I)
    (hfp : ∀ b ∈ fp, b = I ∨ (∃ o, h₀.get? b = some o) ∨ ∃ o, (b, o) ∈ cst) (hcst : ∀ c, ∀ p ∈ cst, p ∈ Led c)
    (hgo : ∀ i v s' (Q' : Unit → Shared → Prop) E', i < n → P i v → St (i + 1) s'.heap → Q' () s' → wpAny (model prog w) A (letOwnedTupleGo target (.ref I) v) Q' E' s')
    (hst : St 0 s.heap) (F : Fr h₀ env.locals s.heap m) (N : News h₀ env.locals s.heap (Led c₀)) (hn : ∀ p ∈ Led c₀, p.1 ≠ I) (hm : ∀ y, ts.contains y = false → m y = mp c₀ y) (h0 : Pi 0 c₀)
    (turn : ∀ i v (c : σ) oI (u : Str → Option Value) h tk, i < n → P i v → Pi i c → (∀ p ∈ Led c, p.1 ≠ I) → Fr h₀ env.locals h (fun y => if ts.contains y then u y else mp c y) → News h₀ env.locals h ((I, oI) :: Led c) →
      wpAny (model prog w) A (assign target env v) (fun _ s₂ => wpAny (model prog w) A (execs body env) (PostS h₀ env.locals I oI mp Led Pi ts (i + 1) s Q) E s₂) E { s with heap := h, toks := tk })
    (done : ∀ (c : σ) (u : Str → Option Value) h tk, Pi n c → Fr h₀ env.locals h (fun y => if ts.contains y then u y else mp c y) → News h₀ env.locals h (Led c) → Q .next { s with heap := h, toks := tk })
    (hE : PassesOwn (model prog w) A env E) :
    LoopS prog w A env target body Q E (.ref I) s := by
  unfold LoopS
  have wr : ∀ {h h₁ : Heap} {m' : Str → Option Value} {c : σ}, Fr h₀ env.locals h m' → News h₀ env.locals h (Led c) → (∀ p ∈ Led c, p.1 ≠ I) → (∀ b o, b ∉ [I] → h.get? b = some o → h₁.get? b = some o) → Fr h₀ env.locals h₁ m' ∧ News h₀ env.locals h₁ (Led c) := by
    intro h h₁ m' c F' N' hn' hk
    refine ⟨⟨F'.ns.at' fun o e => hk _ o (by simpa using hIL) e, fun b o e => hk b o ?_ (F'.keep b o e), F'.above⟩, fun p hp => ⟨hk _ _ (by simpa using hn' p hp) (N' p hp).1, (N' p hp).2⟩⟩
    intro hb
    rw [List.mem_singleton.mp hb, hI0] at e
    cases e
  refine codeAny_forLoop_any
    (fun k s' => ∃ i c h' tk m', s' = { s with heap := h', toks := tk } ∧ St i h' ∧ Fr h₀ env.locals h' m' ∧ News h₀ env.locals h' (Led c) ∧ (∀ p ∈ Led c, p.1 ≠ I) ∧ (∀ y, ts.contains y = false → m' y = mp c y) ∧ Pi i c ∧ i ≤ n ∧ k = n + 1 - i) ?_ (n + 1)
    ⟨0, c₀, s.heap, s.toks, m, rfl, hst, F, N, hn, hm, h0, Nat.zero_le _, rfl⟩
  rintro k s' ⟨i, c, h', tk, m', rfl, hst', F', N', hn', hm', hP, hi, rfl⟩
  by_cases hlt : i < n
  · refine W.item i _ _ _ hlt hst' fun v h₁ tk₁ hPv hst₁ hk₁ => ?_
    obtain ⟨F₁, N₁⟩ := wr F' N' hn' hk₁
    obtain ⟨oI, hoI⟩ := hob _ _ hst₁
    have N₂ : News h₀ env.locals h₁ ((I, oI) :: Led c) := by
      intro p hp
      rcases List.mem_cons.mp hp with rfl | hp
      · exact ⟨hoI, fun e => hIL e.symm, hI0⟩
      · exact N₁ p hp
    refine hgo i v _ _ _ hlt hPv hst₁ ?_
    refine wpAny_passesOwn hE (wpAny_mono (turn i v c oI m' h₁ tk₁ hlt hPv hP hn' (frame_eq F₁ hm') N₂) (fun _ s₂ h₂ => ?_) fun _ _ x => x)
    refine wpAny_passesOwn hE (wpAny_mono h₂ (fun f s₃ h₃ => ?_) fun _ _ x => x)
    have fin : EndS h₀ env.locals I oI mp Led Pi ts (i + 1) s s₃ → ∃ m, m < n + 1 - i ∧ ∃ i c h' tk m', s₃ = { s with heap := h', toks := tk } ∧ St i h' ∧ Fr h₀ env.locals h' m' ∧ News h₀ env.locals h' (Led c) ∧ (∀ p ∈ Led c, p.1 ≠ I) ∧ (∀ y, ts.contains y = false → m' y = mp c y) ∧ Pi i c ∧ i ≤ n ∧ m = n + 1 - i := by
      rintro ⟨c', h₃', tk₃, m₃, news₃, rfl, F₃, N₃, hsub, hI, hn₃, hm₃, hP₃⟩
      refine ⟨n + 1 - (i + 1), by omega, i + 1, c', h₃', tk₃, m₃, rfl, ?_, F₃, fun p hp => N₃ p (hsub p hp), hn₃, hm₃, hP₃, hlt, rfl⟩
      refine W.frame _ _ _ hst₁ fun b hb o e => ?_
      rcases hfp b hb with rfl | ⟨o', ho'⟩ | ⟨o', ho'⟩
      · rw [hoI] at e
        rw [← Option.some.inj e]
        exact (N₃ _ hI).1
      · have e1 := F₁.keep b o' ho'
        rw [e1] at e
        rw [← Option.some.inj e]
        exact F₃.keep b o' ho'
      · have e1 := (N₁ _ (hcst c _ ho')).1
        rw [e1] at e
        rw [← Option.some.inj e]
        exact (N₃ _ (hsub _ (hcst c' _ ho'))).1
    cases f with
    | ret v => exact h₃
    | brk => exact h₃
    | next => exact fin h₃
    | cont => exact fin h₃
  · have hin : i = n := by omega
    subst hin
    refine W.done _ _ _ hst' fun h₁ tk₁ hk₁ => wpAny_execs_nil ?_
    obtain ⟨F₁, N₁⟩ := wr F' N' hn' hk₁
    exact done c m' h₁ tk₁ hP (frame_eq F₁ hm') N₁

theorem go_name {x : Str} {px : Pos} {I : Addr} {v : Value} {s' : Shared} {Q' : Unit → Shared → Prop} {E' : Value → Shared → Prop} (h : Q' () s') : wpAny (model prog w) A (letOwnedTupleGo (.Name x px) (.ref I) v) Q' E' s' :=
  wpAny_of_eq (rfl : letOwnedTupleGo (.Name x px) (.ref I) v = pure ()) h

theorem start_map {σ : Type} {m : Str → Option Value} {ps : σ → List (Str × Value)} {c₀ : σ} {ts : List Str} (hk : ∀ p ∈ ps c₀, m p.1 = some p.2) : ∀ y, ts.contains y = false → m y = kstB m (ps c₀) y :=
  fun _ _ => (kstB_eq hk fun _ => rfl).symm

/-- over the signs of a text -/
theorem loopS_str {σ : Type} {x : Str} {px : Pos} {xt : Str} {tx : Tok} {m : Str → Option Value} {news : List (Addr × Obj)} (ps : σ → List (Str × Value)) (Led : σ → List (Addr × Obj)) (ts : List Str) (Pi : Nat → σ → Prop) (c₀ : σ)
    (hh : A.handled = none) (F : Fr h₀ env.locals s.heap m) (N : News h₀ env.locals s.heap news) (hsub : ∀ p ∈ Led c₀, p ∈ news) (hm : ∀ p ∈ ps c₀, m p.1 = some p.2) (h0 : Pi 0 c₀)
    (turn : ∀ i cp t (c : σ) I oI (u : Str → Option Value) h tk, xt.cps[i]? = some cp → Pi i c → (∀ p ∈ Led c, p.1 ≠ I) → Fr h₀ env.locals h (fun y => if ts.contains y then u y else kstB m (ps c) y) → News h₀ env.locals h ((I, oI) :: Led c) →
      wpAny (model prog w) A (assign (.Name x px) env (.str ⟨#[cp]⟩ t)) (fun _ s₂ => wpAny (model prog w) A (execs body env) (PostS h₀ env.locals I oI (fun c => kstB m (ps c)) Led Pi ts (i + 1) s Q) E s₂) E { s with heap := h, toks := tk })
    (done : ∀ (c : σ) (u : Str → Option Value) h tk, Pi xt.cps.size c → Fr h₀ env.locals h (fun y => if ts.contains y then u y else kstB m (ps c) y) → News h₀ env.locals h (Led c) → Q .next { s with heap := h, toks := tk })
    (hE : PassesOwn (model prog w) A env E) :
    wpAny (model prog w) A (pyIter (.str xt tx)) (fun it s₂ => LoopS prog w A env (.Name x px) body Q E it s₂) E s := by
  have hne : ∀ p ∈ Led c₀, p.1 ≠ s.heap.objs.size := fun p hp => Nat.ne_of_lt (Heap.lt_size (N p (hsub p hp)).1)
  have both : ∀ (nm : String) (o : Obj), Walks prog w A s.heap.objs.size [s.heap.objs.size] [s.heap.objs.size] xt.cps.size (SignAt xt) (fun i h => h.IsStrIter s.heap.objs.size nm xt tx i) → Heap.IsStrIter (s.heap.push o) s.heap.objs.size nm xt tx 0 →
      LoopS prog w A env (.Name x px) body Q E (.ref s.heap.objs.size) { s with heap := s.heap.push o } := by
    intro nm o W hst
    refine loopS (fun c => kstB m (ps c)) Led [] ts Pi c₀ W (fun _ _ ⟨o, ho, _⟩ => ⟨o, ho⟩) (next_is_new F) (Nat.ne_of_lt F.ns.lt) (fun b hb => .inl (List.mem_singleton.mp hb)) (fun _ _ hp => nomatch hp) (fun _ _ _ _ _ _ _ _ h => go_name h) hst (F.push _)
      (fun p hp => ⟨Heap.get?_push_of_some _ (N p (hsub p hp)).1, (N p (hsub p hp)).2⟩) hne (start_map hm) h0 ?_ ?_ hE
    · rintro i v c oI u h tk hi ⟨cp, t, hcp, rfl⟩ hP hn F₁ N₁
      exact turn i cp t c _ oI u h tk hcp hP hn F₁ N₁
    · exact done
  cases ha : xt.cps.all (· < 128)
  · exact wpAny_pyIter_wide ha (both _ _ (Walks.strWide hh _ xt tx) ⟨_, Heap.get?_push_size _ rfl, rfl, rfl⟩)
  · exact wpAny_pyIter_ascii ha (both _ _ (Walks.strAscii hh _ xt tx) ⟨_, Heap.get?_push_size _ rfl, rfl, rfl⟩)

/-- over a range by ones -/
theorem loopS_range {σ : Type} {x : Str} {px : Pos} {r : Addr} {a₀ b₀ : Int} {t₀ u₀ v₀ : Tok} {n : Nat} {m : Str → Option Value} {news : List (Addr × Obj)} (ps : σ → List (Str × Value)) (Led : σ → List (Addr × Obj)) (ts : List Str) (Pi : Nat → σ → Prop) (c₀ : σ)
    (hh : A.handled = none) (hr : IsRange s.heap r a₀ b₀ 1 t₀ u₀ v₀) (hsmall : Builtin.Range.small a₀ b₀ 1 = true) (hsz : Builtin.Range.rangeSize a₀ b₀ 1 = (n : Int))
    (F : Fr h₀ env.locals s.heap m) (N : News h₀ env.locals s.heap news) (hsub : ∀ p ∈ Led c₀, p ∈ news) (hm : ∀ p ∈ ps c₀, m p.1 = some p.2) (h0 : Pi 0 c₀)
    (turn : ∀ i t (c : σ) I oI (u : Str → Option Value) h tk, i < n → Pi i c → (∀ p ∈ Led c, p.1 ≠ I) → Fr h₀ env.locals h (fun y => if ts.contains y then u y else kstB m (ps c) y) → News h₀ env.locals h ((I, oI) :: Led c) →
      wpAny (model prog w) A (assign (.Name x px) env (.int (a₀ + (i : Int)) t)) (fun _ s₂ => wpAny (model prog w) A (execs body env) (PostS h₀ env.locals I oI (fun c => kstB m (ps c)) Led Pi ts (i + 1) s Q) E s₂) E { s with heap := h, toks := tk })
    (done : ∀ (c : σ) (u : Str → Option Value) h tk, Pi n c → Fr h₀ env.locals h (fun y => if ts.contains y then u y else kstB m (ps c) y) → News h₀ env.locals h (Led c) → Q .next { s with heap := h, toks := tk })
    (hE : PassesOwn (model prog w) A env E) :
    wpAny (model prog w) A (pyIter (.ref r)) (fun it s₂ => LoopS prog w A env (.Name x px) body Q E it s₂) E s := by
  refine wpAny_pyIter_range hr hsmall ?_
  have W : Walks prog w A s.heap.objs.size [s.heap.objs.size] [s.heap.objs.size] n (fun i v => ∃ t, v = .int (a₀ + i * 1) t)
      (fun i h => IsRangeIter h s.heap.objs.size (a₀ + (i : Nat) * 1) ((n : Int) - (i : Nat)) 1) := Walks.range hh _ a₀ 1 n
  have hne : ∀ p ∈ Led c₀, p.1 ≠ s.heap.objs.size := fun p hp => Nat.ne_of_lt (Heap.lt_size (N p (hsub p hp)).1)
  refine loopS (fun c => kstB m (ps c)) Led [] ts Pi c₀ W (fun _ _ ho => ⟨_, ho⟩) (next_is_new F) (Nat.ne_of_lt F.ns.lt) (fun b hb => .inl (List.mem_singleton.mp hb)) (fun _ _ hp => nomatch hp) (fun _ _ _ _ _ _ _ _ h => go_name h)
    (by show IsRangeIter _ _ _ _ _; rw [hsz]; simpa using Heap.get?_push_size _ rfl) (F.push _)
    (fun p hp => ⟨Heap.get?_push_of_some _ (N p (hsub p hp)).1, (N p (hsub p hp)).2⟩) hne (start_map hm) h0 ?_ ?_ hE
  · rintro i v c oI u h tk hi ⟨t, rfl⟩ hP hn F₁ N₁
    rw [Int.mul_one]
    exact turn i t c _ oI u h tk hi hP hn F₁ N₁
  · exact done

/-- over a list of the ledger -/
theorem loopS_listN {σ : Type} {l : Addr} {vs : List Value} {nn : Nat} {m : Str → Option Value} {news : List (Addr × Obj)} (ps : σ → List (Str × Value)) (Led : σ → List (Addr × Obj)) (ts : List Str) (Pi : Nat → σ → Prop) (c₀ : σ)
    (hh : A.handled = none) (hl : ∀ c, (l, listOf vs.toArray nn) ∈ Led c)
    (hgo : (∃ x px, target = .Name x px) ∨ ((∃ es k p, target = .Tuple es k p) ∧ ∀ v ∈ vs, ∃ T, v = .ref T))
    (F : Fr h₀ env.locals s.heap m) (N : News h₀ env.locals s.heap news) (hsub : ∀ p ∈ Led c₀, p ∈ news) (hm : ∀ p ∈ ps c₀, m p.1 = some p.2) (h0 : Pi 0 c₀)
    (turn : ∀ i v (c : σ) I oI (u : Str → Option Value) h tk, vs[i]? = some v → Pi i c → (∀ p ∈ Led c, p.1 ≠ I) → Fr h₀ env.locals h (fun y => if ts.contains y then u y else kstB m (ps c) y) → News h₀ env.locals h ((I, oI) :: Led c) →
      wpAny (model prog w) A (assign target env v) (fun _ s₂ => wpAny (model prog w) A (execs body env) (PostS h₀ env.locals I oI (fun c => kstB m (ps c)) Led Pi ts (i + 1) s Q) E s₂) E { s with heap := h, toks := tk })
    (done : ∀ (c : σ) (u : Str → Option Value) h tk, Pi vs.length c → Fr h₀ env.locals h (fun y => if ts.contains y then u y else kstB m (ps c) y) → News h₀ env.locals h (Led c) → Q .next { s with heap := h, toks := tk })
    (hE : PassesOwn (model prog w) A env E) :
    wpAny (model prog w) A (pyIter (.ref l)) (fun it s₂ => LoopS prog w A env target body Q E it s₂) E s := by
  have hol : s.heap.get? l = some (listOf vs.toArray nn) := (N _ (hsub _ (hl c₀))).1
  have hls : s.heap.IsList l vs.toArray := ⟨_, hol, rfl, nn, rfl⟩
  have hne : l ≠ s.heap.objs.size := Nat.ne_of_lt (Heap.lt_size hol)
  refine wpAny_pyIter_list hls ?_
  have W := Walks.list (prog := prog) (w := w) hh s.heap.objs.size l hne vs.toArray
  have hlen : vs.toArray.size = vs.length := by simp
  rw [hlen] at W
  have hne' : ∀ p ∈ Led c₀, p.1 ≠ s.heap.objs.size := fun p hp => Nat.ne_of_lt (Heap.lt_size (N p (hsub p hp)).1)
  refine loopS (fun c => kstB m (ps c)) Led [(l, listOf vs.toArray nn)] ts Pi c₀ W (fun _ _ ⟨⟨o, ho, _⟩, _⟩ => ⟨o, ho⟩) (next_is_new F) (Nat.ne_of_lt F.ns.lt) ?_ (fun c p hp => by rw [List.mem_singleton.mp hp]; exact hl c) ?_
    ⟨⟨_, Heap.get?_push_size _ rfl, rfl, rfl⟩, hls.at fun o e => Heap.get?_push_of_some _ e⟩ (F.push _)
    (fun p hp => ⟨Heap.get?_push_of_some _ (N p (hsub p hp)).1, (N p (hsub p hp)).2⟩) hne' (start_map hm) h0 ?_ ?_ hE
  · intro b hb
    rcases List.mem_cons.mp hb with e | hb
    · exact .inl e
    · exact .inr (.inr ⟨_, by rw [List.mem_singleton.mp hb]; exact .head _⟩)
  · intro i v s' Q' E' hi hP hs hQ
    rcases hgo with ⟨x, px, rfl⟩ | ⟨⟨es, k, p, rfl⟩, hr⟩
    · exact go_name hQ
    · have hv : vs[i]? = some v := by simpa using hP
      obtain ⟨T, rfl⟩ := hr v (List.mem_of_getElem? hv)
      exact wpAny_letOwnedTupleGo_listiter hs.1 hQ
  · rintro i v c oI u h tk hi hP hPi hn F₁ N₁
    exact turn i v c _ oI u h tk (by simpa using hP) hPi hn F₁ N₁
  · exact done

/-- over a list that stood -/
theorem loopS_listB {σ : Type} {l : Addr} {vs : List Value} {x : Str} {px : Pos} {m : Str → Option Value} {news : List (Addr × Obj)} (ps : σ → List (Str × Value)) (Led : σ → List (Addr × Obj)) (ts : List Str) (Pi : Nat → σ → Prop) (c₀ : σ)
    (hh : A.handled = none) (hl : h₀.IsList l vs.toArray)
    (F : Fr h₀ env.locals s.heap m) (N : News h₀ env.locals s.heap news) (hsub : ∀ p ∈ Led c₀, p ∈ news) (hm : ∀ p ∈ ps c₀, m p.1 = some p.2) (h0 : Pi 0 c₀)
    (turn : ∀ i v (c : σ) I oI (u : Str → Option Value) h tk, vs[i]? = some v → Pi i c → (∀ p ∈ Led c, p.1 ≠ I) → Fr h₀ env.locals h (fun y => if ts.contains y then u y else kstB m (ps c) y) → News h₀ env.locals h ((I, oI) :: Led c) →
      wpAny (model prog w) A (assign (.Name x px) env v) (fun _ s₂ => wpAny (model prog w) A (execs body env) (PostS h₀ env.locals I oI (fun c => kstB m (ps c)) Led Pi ts (i + 1) s Q) E s₂) E { s with heap := h, toks := tk })
    (done : ∀ (c : σ) (u : Str → Option Value) h tk, Pi vs.length c → Fr h₀ env.locals h (fun y => if ts.contains y then u y else kstB m (ps c) y) → News h₀ env.locals h (Led c) → Q .next { s with heap := h, toks := tk })
    (hE : PassesOwn (model prog w) A env E) :
    wpAny (model prog w) A (pyIter (.ref l)) (fun it s₂ => LoopS prog w A env (.Name x px) body Q E it s₂) E s := by
  have hls : s.heap.IsList l vs.toArray := hl.at fun o e => F.keep l o e
  obtain ⟨ol, hol, _⟩ := id hl
  have hlt : l < h₀.objs.size := Heap.lt_size hol
  have hne : l ≠ s.heap.objs.size := Nat.ne_of_lt (Nat.lt_trans (Nat.lt_of_lt_of_le hlt F.above) F.ns.lt)
  refine wpAny_pyIter_list hls ?_
  have W := Walks.list (prog := prog) (w := w) hh s.heap.objs.size l hne vs.toArray
  have hlen : vs.toArray.size = vs.length := by simp
  rw [hlen] at W
  have hne' : ∀ p ∈ Led c₀, p.1 ≠ s.heap.objs.size := fun p hp => Nat.ne_of_lt (Heap.lt_size (N p (hsub p hp)).1)
  refine loopS (fun c => kstB m (ps c)) Led [] ts Pi c₀ W (fun _ _ ⟨⟨o, ho, _⟩, _⟩ => ⟨o, ho⟩) (next_is_new F) (Nat.ne_of_lt F.ns.lt) ?_ (fun _ _ hp => nomatch hp) (fun _ _ _ _ _ _ _ _ h => go_name h)
    ⟨⟨_, Heap.get?_push_size _ rfl, rfl, rfl⟩, hls.at fun o e => Heap.get?_push_of_some _ e⟩ (F.push _)
    (fun p hp => ⟨Heap.get?_push_of_some _ (N p (hsub p hp)).1, (N p (hsub p hp)).2⟩) hne' (start_map hm) h0 ?_ ?_ hE
  · intro b hb
    rcases List.mem_cons.mp hb with e | hb
    · exact .inl e
    · exact .inr (.inl ⟨_, by rw [List.mem_singleton.mp hb]; exact hol⟩)
  · rintro i v c oI u h tk hi hP hPi hn F₁ N₁
    exact turn i v c _ oI u h tk (by simpa using hP) hPi hn F₁ N₁
  · exact done

theorem EndS.intro {σ : Type} {L I : Addr} {oI : Obj} {m : Str → Option Value} {ps : σ → List (Str × Value)} {Led : σ → List (Addr × Obj)} {Pi : Nat → σ → Prop} {ts : List Str} {k : Nat} {s₁ : Shared} (c : σ) {h' : Heap} {tk : Nat} {m' : Str → Option Value} {news' : List (Addr × Obj)}
    (F : Fr h₀ L h' m') (N : News h₀ L h' news') (hs : ∀ p ∈ Led c, p ∈ news') (hI : (I, oI) ∈ news') (hn : ∀ p ∈ Led c, p.1 ≠ I) (hk : ∀ p ∈ ps c, m' p.1 = some p.2) (hr : ∀ z, (∀ p ∈ ps c, z ≠ p.1) → ts.contains z = false → m' z = m z) (hp : Pi k c) :
    EndS h₀ L I oI (fun c => kstB m (ps c)) Led Pi ts k s₁ { s₁ with heap := h', toks := tk } :=
  ⟨c, h', tk, m', news', rfl, F, N, hs, hI, hn, fun y hy => (kstB_eq hk fun hz => (hr y hz hy).symm).symm, hp⟩

/-- one object of the ledger turns, it stands first -/
theorem loopS_str1 {σ : Type} {x : Str} {px : Pos} {xt : Str} {tx : Tok} {m : Str → Option Value} {p₀ : Addr × Obj} {rest : List (Addr × Obj)} (ps : σ → List (Str × Value)) (lf : σ → Addr × Obj) (ts : List Str) (Pi : Nat → σ → Prop) (c₀ : σ)
    (hh : A.handled = none) (F : Fr h₀ env.locals s.heap m) (N : News h₀ env.locals s.heap (p₀ :: rest)) (hlf : lf c₀ = p₀) (hlt : ∀ p ∈ rest, p.1 < p₀.1) (hm : ∀ p ∈ ps c₀, m p.1 = some p.2) (h0 : Pi 0 c₀)
    (turn : ∀ i cp t (c : σ) I oI (u : Str → Option Value) h tk, xt.cps[i]? = some cp → Pi i c → (∀ p ∈ rest, p.1 < (lf c).1) → (∀ p ∈ lf c :: rest, p.1 ≠ I) → Fr h₀ env.locals h (fun y => if ts.contains y then u y else kstB m (ps c) y) → News h₀ env.locals h ((I, oI) :: lf c :: rest) →
      wpAny (model prog w) A (assign (.Name x px) env (.str ⟨#[cp]⟩ t)) (fun _ s₂ => wpAny (model prog w) A (execs body env) (PostS h₀ env.locals I oI (fun c => kstB m (ps c)) (fun c => lf c :: rest) (fun k c => Pi k c ∧ ∀ p ∈ rest, p.1 < (lf c).1) ts (i + 1) s Q) E s₂) E { s with heap := h, toks := tk })
    (done : ∀ (c : σ) (u : Str → Option Value) h tk, Pi xt.cps.size c → (∀ p ∈ rest, p.1 < (lf c).1) → Fr h₀ env.locals h (fun y => if ts.contains y then u y else kstB m (ps c) y) → News h₀ env.locals h (lf c :: rest) → Q .next { s with heap := h, toks := tk })
    (hE : PassesOwn (model prog w) A env E) :
    wpAny (model prog w) A (pyIter (.str xt tx)) (fun it s₂ => LoopS prog w A env (.Name x px) body Q E it s₂) E s :=
  loopS_str ps (fun c => lf c :: rest) ts (fun k c => Pi k c ∧ ∀ p ∈ rest, p.1 < (lf c).1) c₀ hh F N (fun p hp => by rw [hlf] at hp; exact hp) hm ⟨h0, by rw [hlf]; exact hlt⟩
    (fun i cp t c I oI u h tk h1 h2 h3 F' N' => turn i cp t c I oI u h tk h1 h2.1 h2.2 h3 F' N') (fun c u h tk h1 F' N' => done c u h tk h1.1 h1.2 F' N') hE
end
end Mine

namespace Mine
def grow (cnt : List Int) (b : Nat) : List Int := if cnt.length ≤ b then cnt ++ List.replicate (b - cnt.length + 1) 0 else cnt
def bump (cnt : List Int) (b : Nat) : List Int := (grow cnt b).set b ((grow cnt b).getD b 0 + 1)
def scanStep (st : List Int × Int × Int) (c : Nat) : List Int × Int × Int :=
  if c = 32 then (st.1, st.2.1 + 1, st.2.2) else (bump st.1 st.2.1.toNat, 0, st.2.2 + 1)
def scan (l : List Nat) : List Int × Int × Int := l.foldl scanStep ([], 0, 0)

structure WS where
  b : Int
  tb : Tok
  n : Int
  tn : Tok
  nt : Int
  tt : Tok
  l : Addr
  us : List Value
  k : Nat
  cnt : List Int
abbrev WSps (c : WS) : List (Str × Value) := [(Str.ofString "b", .int c.b c.tb), (Str.ofString "n", .int c.n c.tn), (Str.ofString "nt", .int c.nt c.tt), (Str.ofString "count", .ref c.l)]
abbrev WSlf (c : WS) : Addr × Obj := (c.l, listOf c.us.toArray c.k)
def WSPi (xs : List Nat) (i : Nat) (c : WS) : Prop := IntsAre c.us c.cnt ∧ scan (xs.take i) = (c.cnt, c.b, c.nt) ∧ 0 ≤ c.b ∧ c.b + c.cnt.length ≤ i

theorem scan_snoc {xs : List Nat} {i cp : Nat} (h : xs[i]? = some cp) : scan (xs.take (i + 1)) = scanStep (scan (xs.take i)) cp := by
  have e : xs.take (i + 1) = xs.take i ++ [cp] := by simp [List.take_add_one, h]
  rw [e]; simp [scan]
theorem grow_length (cnt : List Int) (b : Nat) : (grow cnt b).length = max cnt.length (b + 1) := by
  unfold grow
  split
  · rw [List.length_append, List.length_replicate]; omega
  · omega
theorem bump_length (cnt : List Int) (b : Nat) : (bump cnt b).length = max cnt.length (b + 1) := by
  unfold bump; simp [grow_length]
theorem ch_no {cp : Nat} (hc : cp = 32 ∨ cp = 9) (h1 : (({ cps := #[cp] } : Str) == Str.ofString " ") = false) (h2 : (({ cps := #[cp] } : Str) == Str.ofString "\t") = false) : False := by
  rcases hc with rfl | rfl
  · revert h1; decide +kernel
  · revert h2; decide +kernel
theorem ch_space {cp : Nat} (hc : cp = 32 ∨ cp = 9) (h1 : (({ cps := #[cp] } : Str) == Str.ofString " ") = true) : cp = 32 := by
  rcases hc with rfl | rfl
  · rfl
  · revert h1; decide +kernel
theorem ch_tab {cp : Nat} (hc : cp = 32 ∨ cp = 9) (h1 : (({ cps := #[cp] } : Str) == Str.ofString " ") = false) : cp = 9 := by
  rcases hc with rfl | rfl
  · revert h1; decide +kernel
  · rfl
theorem pi_space {xs : List Nat} {i cp : Nat} {b n nt : Int} {tb tn tt : Tok} {l : Addr} {us : List Value} {k : Nat} {cnt : List Int} (hcp : xs[i]? = some cp) (hc : cp = 32 ∨ cp = 9) (hs : (({ cps := #[cp] } : Str) == Str.ofString " ") = true)
    (h1 : IntsAre us cnt) (h2 : scan (xs.take i) = (cnt, b, nt)) (h3 : 0 ≤ b) (h4 : b + cnt.length ≤ i) : WSPi xs (i + 1) ⟨b + 1, tb, n, tn, nt, tt, l, us, k, cnt⟩ := by
  have e := ch_space hc hs
  subst e
  refine ⟨h1, ?_, by show 0 ≤ b + 1; omega, by show b + 1 + (cnt.length : Int) ≤ ((i + 1 : Nat) : Int); omega⟩
  rw [scan_snoc hcp, h2]; rfl
theorem pi_tab {xs : List Nat} {i cp : Nat} {b n nt : Int} {tb tn tt : Tok} {l : Addr} {us : List Value} {k : Nat} {cnt cnt' : List Int} (hcp : xs[i]? = some cp) (hc : cp = 32 ∨ cp = 9) (hs : (({ cps := #[cp] } : Str) == Str.ofString " ") = false)
    (h2 : scan (xs.take i) = (cnt, b, nt)) (h3 : 0 ≤ b) (h4 : b + cnt.length ≤ i) (h1 : IntsAre us cnt') (h5 : cnt' = bump cnt b.toNat) : WSPi xs (i + 1) ⟨0, tb, n, tn, nt + 1, tt, l, us, k, cnt'⟩ := by
  have e := ch_tab hc hs
  subst e; subst h5
  refine ⟨h1, ?_, Int.le_refl _, ?_⟩
  · rw [scan_snoc hcp, h2]; rfl
  · show 0 + ((bump cnt b.toNat).length : Int) ≤ ((i + 1 : Nat) : Int)
    rw [bump_length]; omega

theorem flat_zero (n : Nat) : (List.replicate n [(0 : Int)]).flatten = List.replicate n 0 := by
  induction n with
  | zero => rfl
  | succ n ih => rw [List.replicate_succ, List.flatten_cons, ih]; rfl
theorem bump_grow {cnt : List Int} {b : Int} (h : (cnt.length : Int) ≤ b) : (cnt ++ (List.replicate (b - (cnt.length : Int) + 1).toNat [(0 : Int)]).flatten).set b.toNat ((cnt ++ (List.replicate (b - (cnt.length : Int) + 1).toNat [(0 : Int)]).flatten).getD b.toNat 0 + 1) = bump cnt b.toNat := by
  rw [flat_zero]
  unfold bump grow
  rw [if_pos (by omega), show (b - (cnt.length : Int) + 1).toNat = b.toNat - cnt.length + 1 by omega]
theorem bump_keep {cnt : List Int} {b : Int} (h0 : 0 ≤ b) (h : ¬ (cnt.length : Int) ≤ b) : cnt.set b.toNat (cnt.getD b.toNat 0 + 1) = bump cnt b.toNat := by
  unfold bump grow
  rw [if_neg (by omega)]

theorem make_keep {prog : Program} {w : World} {A : Around} {E : Value → Shared → Prop} {K : Frag} {C : Addr} {s : Shared} {h₀ : Heap} {L : Addr} {m : Str → Option Value} {Q : Value → Shared → Prop} {pos : List Value} {fI : Addr} (F : Fr h₀ L s.heap m) (X₀ : K.In h₀) (hm : makesIn K C = true)
    (hi : findIn K (.ref C) "__init__" = some (some (.ref fI))) (hf : isFn K (.ref fI) = true)
    (h : ∀ x dx h', Fr h₀ L h' m → News h₀ L h' [(x, instObj C dx), (dx, dictOf [] 0)] → s.heap.StaysIn h' → s.heap.get? x = none → s.heap.get? dx = none → dx < x →
      codeAny (model prog w) (A.under (.builtin "type.__call__" ⟨.ref C :: pos, []⟩)) (.call (.ref fI) ⟨.ref x :: pos, []⟩) (InitBack x fun r s' => match r with | .ok (.ret v) => Q v s' | .ok _ => False | .error e => E e s') { s with heap := h' }) :
    wpAny (model prog w) A (call (.ref C) pos []) Q E s := by
  refine wpAny_call ?_
  have X := X₀.keeps F.keep
  obtain ⟨hh, g, d, t, os⟩ := s
  have none_at : ∀ b, hh.objs.size ≤ b → hh.get? b = none := fun b hb => by
    cases q : hh.get? b with
    | none => rfl
    | some o => exact absurd (Nat.lt_of_lt_of_le (Heap.lt_size q) hb) (Nat.lt_irrefl _)
  refine make_core (makes_of X hm) (looks_findIn X hi) (fun self => bind_fn X self (beq_iff_eq.mp hf)) (.inl rfl) (h _ hh.objs.size _ ((F.push _).push _) ?_ (fun b o e => Heap.get?_push_of_some _ (Heap.get?_push_of_some _ e)) (none_at _ (Nat.le_succ _)) (none_at _ (Nat.le_refl _)) (Nat.lt_succ_self _))
  have N : News h₀ L hh [] := .nil
  have := (N.push F emptyDict).push (F.push _) (instObj C hh.objs.size)
  rwa [Heap.size_push] at this

/-- the objects of a Whitespace -/
abbrev wsAl (w : World) (x d nm c : Addr) (t1 t2 t3 t4 t5 : Tok) (raw n simp : Value) (nt : Int) (tt : Tok) (b : Int) (tb : Tok) (us : List Value) : List (Addr × Obj) :=
  [(x, instObj 127 d), (d, dictOf [⟨PyData.keyHash w.params (Str.ofString "raw"), .str (Str.ofString "raw") t1, raw⟩, ⟨PyData.keyHash w.params (Str.ofString "n"), .str (Str.ofString "n") t2, n⟩, ⟨PyData.keyHash w.params (Str.ofString "nt"), .str (Str.ofString "nt") t3, .int nt tt⟩, ⟨PyData.keyHash w.params (Str.ofString "norm"), .str (Str.ofString "norm") t4, .ref nm⟩, ⟨PyData.keyHash w.params (Str.ofString "is_simple"), .str (Str.ofString "is_simple") t5, simp⟩] 5),
   (nm, { cls := .type "tuple", data := .seq #[.ref c, .int b tb] }), (c, { cls := .type "tuple", data := .seq us.toArray })]

def WsIs (w : World) (xs : List Nat) (h h' : Heap) (r : Value) : Prop :=
  ∃ (x d nm c : Addr) (t1 t2 t3 t4 t5 : Tok) (raw n simp : Value) (nt : Int) (tt : Tok) (b : Int) (tb : Tok) (us : List Value) (cnt : List Int),
    r = .ref x ∧ (∀ p ∈ wsAl w x d nm c t1 t2 t3 t4 t5 raw n simp nt tt b tb us, h'.get? p.1 = some p.2 ∧ h.get? p.1 = none) ∧ IntsAre us cnt ∧ scan xs = (cnt, b, nt) ∧ 0 ≤ b ∧ b + cnt.length ≤ xs.length

theorem stays_make {s : Shared} {h' h'' g : Heap} {x dx L' : Addr} {o₁ o₂ : Obj} {m' : Str → Option Value} (hk : s.heap.StaysIn h') (hx : s.heap.get? x = none) (hd : s.heap.get? dx = none)
    (old : ∀ b o, h'.get? b = some o → b ∉ [(x, o₁), (dx, o₂)].map (·.1) → g.get? b = some o) (F : Fr g L' h'' m') : s.heap.StaysIn h'' := by
  intro b o e
  refine F.keep b o (old b o (hk b o e) ?_)
  intro hb
  simp only [List.map_cons, List.map_nil, List.mem_cons, List.not_mem_nil, or_false] at hb
  rcases hb with rfl | rfl
  · rw [hx] at e; cases e
  · rw [hd] at e; cases e
theorem fresh_make {s : Shared} {h' g : Heap} {x dx a : Addr} {o₁ o₂ : Obj} (hk : s.heap.StaysIn h')
    (old : ∀ b o, h'.get? b = some o → b ∉ [(x, o₁), (dx, o₂)].map (·.1) → g.get? b = some o) (h0 : g.get? a = none) (hx : a ≠ x) (hd : a ≠ dx) : s.heap.get? a = none := by
  cases q : s.heap.get? a with
  | none => rfl
  | some o =>
    rw [old a o (hk a o q) (by simp [hx, hd])] at h0
    cases h0


theorem get_fresh {s : Shared} {h' h'' g : Heap} {x dx a L' : Addr} {o o₁ o₂ : Obj} {news : List (Addr × Obj)} (N : News g L' h'' news) (hm : (a, o) ∈ news) (hk : s.heap.StaysIn h')
    (old : ∀ b o, h'.get? b = some o → b ∉ [(x, o₁), (dx, o₂)].map (·.1) → g.get? b = some o) (hx : a ≠ x) (hd : a ≠ dx) : h''.get? (a, o).1 = some (a, o).2 ∧ s.heap.get? (a, o).1 = none :=
  ⟨(N _ hm).1, fresh_make hk old (N _ hm).2.2 hx hd⟩

section
variable {prog : Program} {w : World} {A : Around} {E : Value → Shared → Prop} {s : Shared}
theorem len_tup_ints {l : Addr} {vs : List Value} {ns : List Int} {Q : Value → Shared → Prop} (hl : IsTup s.heap l vs.toArray) (hi : IntsAre vs ns) (hz : ns.length ≤ 16384) (h : Q (.int (ns.length : Int) (s.toks + 1)) { s with toks := s.toks + 1 + 1 }) :
    wpAny (model prog w) A (call (.builtin "len") [.ref l]) Q E s :=
  kun_lenT hl (by rw [List.size_toArray, hi.length]) (by omega) h
end
def LongIs (cnt : List Int) (b v : Int) : Prop := (cnt.length : Int) - 1 ≤ v ∧ b ≤ v ∧ (v = (cnt.length : Int) - 1 ∨ v = b)
theorem long_is (cnt : List Int) (b : Int) : LongIs cnt b (if b > (cnt.length : Int) - 1 then b else (cnt.length : Int) - 1) := by
  unfold LongIs; split <;> omega

theorem fn_use {w : World} {d u : Nat} {f : Addr} {vs : List Value} {al : List (Addr × Obj)} {Pre : Heap → Prop} {Out : Heap → Heap → Value → Prop} {p : Program} {loose : List Str} {mean : ExcName → Option Value} {mg mb : Str → Option Value} {A A₀ : Around} {base h₀ : Heap} {env : Env} {outer : List Env} {L : Addr} {m : Str → Option Value} {s : Shared} {news : List (Addr × Obj)} {Q E : Value → Shared → Prop}
    (H : Fn w d u f vs al Pre Out) (B : Below A₀ base outer h₀) (F : Fr h₀ L s.heap m) (X : (Mine.hd.heap_39 w.params).In h₀) (T : Top p loose mean mg mb h₀) (hh : A.handled = none) (hA : A.frames = some (env :: outer)) (hf : env.frame = some L) (hk : env.scope.kind = .function)
    (hd : A.depth + d < recursionLimit) (hu : A.units + u < cLine) (N : News h₀ L s.heap news) (hal : ∀ p ∈ al, p ∈ news) (hp : Pre s.heap)
    (k : ∀ r h' tk, s.heap.StaysIn h' → Fr h₀ L h' m → News h₀ L h' news → (∀ q ∈ news, s.heap.get? q.1 = some q.2) → Out s.heap h' r → Q r { s with heap := h', toks := tk }) : wpAny (model PG w) A (call (.ref f) vs) Q E s :=
  H A s Q E ⟨p, loose, mean, mg, mb, A₀, base, h₀, env, outer, L, m, B, F, X, T, hh, hA, hf, hk, hd, hu, fun q hq => N q (hal q hq)⟩ hp
    (fun r h' tk st ho => k r h' tk st ⟨F.ns.at' fun o e => st _ o e, fun b o e => st b o (F.keep b o e), F.above⟩ (fun q hq => ⟨st _ _ (N q hq).1, (N q hq).2⟩) (fun q hq => (N q hq).1) ho)

/-- what is new behind a call goes onto the ledger -/
theorem news_more {h₀ h h' : Heap} {L : Addr} {m : Str → Option Value} {news add : List (Addr × Obj)} (F : Fr h₀ L h m) (N : News h₀ L h' news) (ha : ∀ p ∈ add, h'.get? p.1 = some p.2 ∧ h.get? p.1 = none) : News h₀ L h' (add ++ news) := by
  intro p hp
  rcases List.mem_append.mp hp with hp | hp
  · refine ⟨(ha p hp).1, fun e => ?_, ?_⟩
    · obtain ⟨o, _, _, ho, _⟩ := F.ns
      have := (ha p hp).2
      rw [e, ho] at this; cases this
    · cases q : h₀.get? p.1 with
      | none => rfl
      | some o =>
        have := F.keep _ _ q
        rw [(ha p hp).2] at this; cases this
  · exact N p hp
theorem new_ne {h : Heap} {news add : List (Addr × Obj)} (hn : ∀ q ∈ news, h.get? q.1 = some q.2) (ha : ∀ p ∈ add, h.get? p.1 = none) : ∀ p ∈ add, ∀ q ∈ news, p.1 ≠ q.1 := by
  intro p hp q hq e
  have := ha p hp
  rw [e, hn q hq] at this; cases this
end Mine

namespace Mine

/-- a list that a loop grows: its items, its epoch, the objects made for them -/
structure NS where
  vs : List Value
  k : Nat
  tl : List (Addr × Obj)

section
variable {prog : Program} {w : World} {A : Around} {E : Value → Shared → Prop} {s : Shared} {env : Env} {h₀ : Heap} {target : Expr} {body : List Stmt} {Q : Flow → Shared → Prop}

abbrev GLed (l₀ : Addr) (rest : List (Addr × Obj)) (c : NS) : List (Addr × Obj) := (l₀, listOf c.vs.toArray c.k) :: (rest ++ c.tl)
abbrev GPi (l₀ : Addr) (rest : List (Addr × Obj)) (Pi : Nat → List Value → List (Addr × Obj) → Prop) (k : Nat) (c : NS) : Prop := Pi k c.vs c.tl ∧ OwnOff c.tl [l₀] ∧ ∀ p ∈ c.tl, ∀ q ∈ rest, p.1 ≠ q.1
abbrev GEnd (h₀ : Heap) (L I : Addr) (oI : Obj) (m : Str → Option Value) (l₀ : Addr) (rest : List (Addr × Obj)) (Pi : Nat → List Value → List (Addr × Obj) → Prop) (ts : List Str) (k : Nat) (s : Shared) (Q : Flow → Shared → Prop) : Flow → Shared → Prop :=
  PostS h₀ L I oI (fun (_ : NS) => kstB m []) (GLed l₀ rest) (GPi l₀ rest Pi) ts k s Q

theorem growS_range {x : Str} {px : Pos} {r : Addr} {a₀ b₀ : Int} {t₀ u₀ v₀ : Tok} {n : Nat} {m : Str → Option Value} {l₀ : Addr} {vs₀ : List Value} {k₀ : Nat} {tl₀ rest news : List (Addr × Obj)} (ts : List Str) (Pi : Nat → List Value → List (Addr × Obj) → Prop)
    (hh : A.handled = none) (hr : IsRange s.heap r a₀ b₀ 1 t₀ u₀ v₀) (hsmall : Builtin.Range.small a₀ b₀ 1 = true) (hsz : Builtin.Range.rangeSize a₀ b₀ 1 = (n : Int))
    (F : Fr h₀ env.locals s.heap m) (N : News h₀ env.locals s.heap news) (hsub : ∀ p ∈ (l₀, listOf vs₀.toArray k₀) :: (rest ++ tl₀), p ∈ news) (h0 : Pi 0 vs₀ tl₀) (h1 : OwnOff tl₀ [l₀]) (h2 : ∀ p ∈ tl₀, ∀ q ∈ rest, p.1 ≠ q.1)
    (turn : ∀ (i : Nat) t vs k tl I oI (u : Str → Option Value) h tk, i < n → Pi i vs tl → OwnOff tl [l₀] → (∀ p ∈ tl, ∀ q ∈ rest, p.1 ≠ q.1) → @Ne Nat l₀ I → (∀ p ∈ rest, p.1 ≠ I) → (∀ p ∈ tl, p.1 ≠ I) → Fr h₀ env.locals h (fun y => if ts.contains y then u y else m y) → News h₀ env.locals h ((I, oI) :: (l₀, listOf vs.toArray k) :: (rest ++ tl)) →
      wpAny (model prog w) A (assign (.Name x px) env (.int (a₀ + (i : Int)) t)) (fun _ s₂ => wpAny (model prog w) A (execs body env) (GEnd h₀ env.locals I oI m l₀ rest Pi ts (i + 1) s Q) E s₂) E { s with heap := h, toks := tk })
    (done : ∀ vs k tl (u : Str → Option Value) h tk, Pi n vs tl → OwnOff tl [l₀] → (∀ p ∈ tl, ∀ q ∈ rest, p.1 ≠ q.1) → Fr h₀ env.locals h (fun y => if ts.contains y then u y else m y) → News h₀ env.locals h ((l₀, listOf vs.toArray k) :: (rest ++ tl)) → Q .next { s with heap := h, toks := tk })
    (hE : PassesOwn (model prog w) A env E) :
    wpAny (model prog w) A (pyIter (.ref r)) (fun it s₂ => LoopS prog w A env (.Name x px) body Q E it s₂) E s :=
  loopS_range (σ := NS) (fun _ => []) (GLed l₀ rest) ts (GPi l₀ rest Pi) ⟨vs₀, k₀, tl₀⟩ hh hr hsmall hsz F N hsub (fun _ hp => nomatch hp) ⟨h0, h1, h2⟩
    (fun i t c I oI u h tk hi hP hn F' N' => turn i t c.vs c.k c.tl I oI u h tk hi hP.1 hP.2.1 hP.2.2 (hn _ (.head _)) (fun p hp => hn p (.tail _ (List.mem_append.mpr (.inl hp)))) (fun p hp => hn p (.tail _ (List.mem_append.mpr (.inr hp)))) F' N')
    (fun c u h tk hP F' N' => done c.vs c.k c.tl u h tk hP.1 hP.2.1 hP.2.2 F' N') hE

theorem growS_range0 {x : Str} {px : Pos} {r : Addr} {a₀ b₀ : Int} {t₀ u₀ v₀ : Tok} {n : Nat} {m : Str → Option Value} {l₀ : Addr} {k₀ : Nat} {rest : List (Addr × Obj)} (ts : List Str) (Pi : Nat → List Value → List (Addr × Obj) → Prop)
    (hh : A.handled = none) (hr : IsRange s.heap r a₀ b₀ 1 t₀ u₀ v₀) (hsmall : Builtin.Range.small a₀ b₀ 1 = true) (hsz : Builtin.Range.rangeSize a₀ b₀ 1 = (n : Int))
    (F : Fr h₀ env.locals s.heap m) (N : News h₀ env.locals s.heap ((l₀, listOf #[] k₀) :: rest)) (h0 : Pi 0 [] [])
    (turn : ∀ (i : Nat) t vs k tl I oI (u : Str → Option Value) h tk, i < n → Pi i vs tl → OwnOff tl [l₀] → (∀ p ∈ tl, ∀ q ∈ rest, p.1 ≠ q.1) → @Ne Nat l₀ I → (∀ p ∈ rest, p.1 ≠ I) → (∀ p ∈ tl, p.1 ≠ I) → Fr h₀ env.locals h (fun y => if ts.contains y then u y else m y) → News h₀ env.locals h ((I, oI) :: (l₀, listOf vs.toArray k) :: (rest ++ tl)) →
      wpAny (model prog w) A (assign (.Name x px) env (.int (a₀ + (i : Int)) t)) (fun _ s₂ => wpAny (model prog w) A (execs body env) (GEnd h₀ env.locals I oI m l₀ rest Pi ts (i + 1) s Q) E s₂) E { s with heap := h, toks := tk })
    (done : ∀ vs k tl (u : Str → Option Value) h tk, Pi n vs tl → OwnOff tl [l₀] → (∀ p ∈ tl, ∀ q ∈ rest, p.1 ≠ q.1) → Fr h₀ env.locals h (fun y => if ts.contains y then u y else m y) → News h₀ env.locals h ((l₀, listOf vs.toArray k) :: (rest ++ tl)) → Q .next { s with heap := h, toks := tk })
    (hE : PassesOwn (model prog w) A env E) :
    wpAny (model prog w) A (pyIter (.ref r)) (fun it s₂ => LoopS prog w A env (.Name x px) body Q E it s₂) E s :=
  growS_range (vs₀ := []) (tl₀ := []) (rest := rest) ts Pi hh hr hsmall hsz F N (fun p hp => by rw [List.append_nil] at hp; exact hp) h0 (fun _ hp => nomatch hp) (fun _ hp => nomatch hp) turn done hE

theorem growS_listB {l : Addr} {us : List Value} {x : Str} {px : Pos} {m : Str → Option Value} {l₀ : Addr} {vs₀ : List Value} {k₀ : Nat} {tl₀ rest news : List (Addr × Obj)} (ts : List Str) (Pi : Nat → List Value → List (Addr × Obj) → Prop)
    (hh : A.handled = none) (hl : h₀.IsList l us.toArray)
    (F : Fr h₀ env.locals s.heap m) (N : News h₀ env.locals s.heap news) (hsub : ∀ p ∈ (l₀, listOf vs₀.toArray k₀) :: (rest ++ tl₀), p ∈ news) (h0 : Pi 0 vs₀ tl₀) (h1 : OwnOff tl₀ [l₀]) (h2 : ∀ p ∈ tl₀, ∀ q ∈ rest, p.1 ≠ q.1)
    (turn : ∀ (i : Nat) v vs k tl I oI (u : Str → Option Value) h tk, us[i]? = some v → Pi i vs tl → OwnOff tl [l₀] → (∀ p ∈ tl, ∀ q ∈ rest, p.1 ≠ q.1) → @Ne Nat l₀ I → (∀ p ∈ rest, p.1 ≠ I) → (∀ p ∈ tl, p.1 ≠ I) → Fr h₀ env.locals h (fun y => if ts.contains y then u y else m y) → News h₀ env.locals h ((I, oI) :: (l₀, listOf vs.toArray k) :: (rest ++ tl)) →
      wpAny (model prog w) A (assign (.Name x px) env v) (fun _ s₂ => wpAny (model prog w) A (execs body env) (GEnd h₀ env.locals I oI m l₀ rest Pi ts (i + 1) s Q) E s₂) E { s with heap := h, toks := tk })
    (done : ∀ vs k tl (u : Str → Option Value) h tk, Pi us.length vs tl → OwnOff tl [l₀] → (∀ p ∈ tl, ∀ q ∈ rest, p.1 ≠ q.1) → Fr h₀ env.locals h (fun y => if ts.contains y then u y else m y) → News h₀ env.locals h ((l₀, listOf vs.toArray k) :: (rest ++ tl)) → Q .next { s with heap := h, toks := tk })
    (hE : PassesOwn (model prog w) A env E) :
    wpAny (model prog w) A (pyIter (.ref l)) (fun it s₂ => LoopS prog w A env (.Name x px) body Q E it s₂) E s :=
  loopS_listB (σ := NS) (fun _ => []) (GLed l₀ rest) ts (GPi l₀ rest Pi) ⟨vs₀, k₀, tl₀⟩ hh hl F N hsub (fun _ hp => nomatch hp) ⟨h0, h1, h2⟩
    (fun i v c I oI u h tk hi hP hn F' N' => turn i v c.vs c.k c.tl I oI u h tk hi hP.1 hP.2.1 hP.2.2 (hn _ (.head _)) (fun p hp => hn p (.tail _ (List.mem_append.mpr (.inl hp)))) (fun p hp => hn p (.tail _ (List.mem_append.mpr (.inr hp)))) F' N')
    (fun c u h tk hP F' N' => done c.vs c.k c.tl u h tk hP.1 hP.2.1 hP.2.2 F' N') hE

theorem growS_listN {l : Addr} {us : List Value} {nn : Nat} {m : Str → Option Value} {l₀ : Addr} {vs₀ : List Value} {k₀ : Nat} {tl₀ rest news : List (Addr × Obj)} (ts : List Str) (Pi : Nat → List Value → List (Addr × Obj) → Prop)
    (hh : A.handled = none) (hl : (l, listOf us.toArray nn) ∈ rest) (hgo : (∃ x px, target = .Name x px) ∨ ((∃ es k p, target = .Tuple es k p) ∧ ∀ v ∈ us, ∃ T, v = .ref T))
    (F : Fr h₀ env.locals s.heap m) (N : News h₀ env.locals s.heap news) (hsub : ∀ p ∈ (l₀, listOf vs₀.toArray k₀) :: (rest ++ tl₀), p ∈ news) (h0 : Pi 0 vs₀ tl₀) (h1 : OwnOff tl₀ [l₀]) (h2 : ∀ p ∈ tl₀, ∀ q ∈ rest, p.1 ≠ q.1)
    (turn : ∀ (i : Nat) v vs k tl I oI (u : Str → Option Value) h tk, us[i]? = some v → Pi i vs tl → OwnOff tl [l₀] → (∀ p ∈ tl, ∀ q ∈ rest, p.1 ≠ q.1) → @Ne Nat l₀ I → (∀ p ∈ rest, p.1 ≠ I) → (∀ p ∈ tl, p.1 ≠ I) → Fr h₀ env.locals h (fun y => if ts.contains y then u y else m y) → News h₀ env.locals h ((I, oI) :: (l₀, listOf vs.toArray k) :: (rest ++ tl)) →
      wpAny (model prog w) A (assign target env v) (fun _ s₂ => wpAny (model prog w) A (execs body env) (GEnd h₀ env.locals I oI m l₀ rest Pi ts (i + 1) s Q) E s₂) E { s with heap := h, toks := tk })
    (done : ∀ vs k tl (u : Str → Option Value) h tk, Pi us.length vs tl → OwnOff tl [l₀] → (∀ p ∈ tl, ∀ q ∈ rest, p.1 ≠ q.1) → Fr h₀ env.locals h (fun y => if ts.contains y then u y else m y) → News h₀ env.locals h ((l₀, listOf vs.toArray k) :: (rest ++ tl)) → Q .next { s with heap := h, toks := tk })
    (hE : PassesOwn (model prog w) A env E) :
    wpAny (model prog w) A (pyIter (.ref l)) (fun it s₂ => LoopS prog w A env target body Q E it s₂) E s :=
  loopS_listN (σ := NS) (fun _ => []) (GLed l₀ rest) ts (GPi l₀ rest Pi) ⟨vs₀, k₀, tl₀⟩ hh (fun _ => List.mem_cons_of_mem _ (List.mem_append.mpr (.inl hl))) hgo F N hsub (fun _ hp => nomatch hp) ⟨h0, h1, h2⟩
    (fun i v c I oI u h tk hi hP hn F' N' => turn i v c.vs c.k c.tl I oI u h tk hi hP.1 hP.2.1 hP.2.2 (hn _ (.head _)) (fun p hp => hn p (.tail _ (List.mem_append.mpr (.inl hp)))) (fun p hp => hn p (.tail _ (List.mem_append.mpr (.inr hp)))) F' N')
    (fun c u h tk hP F' N' => done c.vs c.k c.tl u h tk hP.1 hP.2.1 hP.2.2 F' N') hE

/-- a turn's end: the list as it stands, with what was made since -/
theorem grow_end {L I : Addr} {oI : Obj} {m m' : Str → Option Value} {l₀ : Addr} {vs : List Value} {k : Nat} {tl rest : List (Addr × Obj)} {Pi : Nat → List Value → List (Addr × Obj) → Prop} {ts : List Str} {i : Nat} {s₁ : Shared} {h' : Heap} {tk : Nat} {news' : List (Addr × Obj)}
    (F : Fr h₀ L h' m') (N : News h₀ L h' news') (hl : (l₀, listOf vs.toArray k) ∈ news') (htl : ∀ p ∈ tl, p ∈ news') (hre : ∀ p ∈ rest, p ∈ news') (hI : (I, oI) ∈ news') (h1 : @Ne Nat l₀ I) (h2 : ∀ p ∈ tl, p.1 ≠ I) (h3 : ∀ p ∈ rest, p.1 ≠ I) (h4 : OwnOff tl [l₀]) (h5 : ∀ p ∈ tl, ∀ q ∈ rest, p.1 ≠ q.1)
    (hr : ∀ z, (∀ p ∈ ([] : List (Str × Value)), z ≠ p.1) → ts.contains z = false → m' z = m z) (hp : Pi i vs tl) :
    EndS h₀ L I oI (fun (_ : NS) => kstB m []) (GLed l₀ rest) (GPi l₀ rest Pi) ts i s₁ { s₁ with heap := h', toks := tk } :=
  EndS.intro (ps := fun _ => []) ⟨vs, k, tl⟩ F N
    (fun p hp => by
      rcases List.mem_cons.mp hp with rfl | hp
      · exact hl
      · exact (List.mem_append.mp hp).elim (hre p) (htl p)) hI
    (fun p hp => by
      rcases List.mem_cons.mp hp with rfl | hp
      · exact h1
      · exact (List.mem_append.mp hp).elim (h3 p) (h2 p))
    (fun _ hp => nomatch hp) hr ⟨hp, h4, h5⟩
theorem ownOff_cons {T l₀ : Addr} {o : Obj} {tl : List (Addr × Obj)} (h : OwnOff tl [l₀]) (hT : @Ne Nat T l₀) : OwnOff ((T, o) :: tl) [l₀] := by
  intro p hp b hb
  rcases List.mem_cons.mp hp with rfl | hp
  · rw [List.mem_singleton.mp hb]; exact hT
  · exact h p hp b hb
end

theorem apart_cons {T : Addr} {o : Obj} {tl rest : List (Addr × Obj)} (h : ∀ p ∈ tl, ∀ q ∈ rest, p.1 ≠ q.1) (hT : AllLt T rest) : ∀ p ∈ (T, o) :: tl, ∀ q ∈ rest, p.1 ≠ q.1 := by
  intro p hp q hq
  rcases List.mem_cons.mp hp with rfl | hp
  · exact fun e => Nat.lt_irrefl _ (by have := allLt_to hT q hq; rw [← e] at this; exact this)
  · exact h p hp q hq
theorem ne_cons {T I : Addr} {o : Obj} {tl : List (Addr × Obj)} (h : ∀ p ∈ tl, p.1 ≠ I) (hT : @LT.lt Nat _ I T) : ∀ p ∈ (T, o) :: tl, p.1 ≠ I := by
  intro p hp
  rcases List.mem_cons.mp hp with rfl | hp
  · exact Nat.ne_of_gt hT
  · exact h p hp

section
variable {h₀ : Heap}
/-- a turn's end: one more item, an object made in the turn -/
theorem grow_one {L I : Addr} {oI : Obj} {m m' : Str → Option Value} {l₀ : Addr} {vs : List Value} {k : Nat} {tl rest : List (Addr × Obj)} {T : Addr} {o : Obj} {Pi : Nat → List Value → List (Addr × Obj) → Prop} {ts : List Str} {i : Nat} {s₁ : Shared} {h' : Heap} {tk : Nat} {news' : List (Addr × Obj)}
    (F : Fr h₀ L h' m') (N : News h₀ L h' news') (hT : (T, o) ∈ news') (hl : (l₀, listOf vs.toArray k) ∈ news') (htl : ∀ p ∈ tl, p ∈ news') (hre : ∀ p ∈ rest, p ∈ news') (hI : (I, oI) ∈ news') (h1 : @Ne Nat l₀ I) (h2 : ∀ p ∈ tl, p.1 ≠ I) (h3 : ∀ p ∈ rest, p.1 ≠ I) (h4 : OwnOff tl [l₀]) (h5 : ∀ p ∈ tl, ∀ q ∈ rest, p.1 ≠ q.1)
    (hr : ∀ z, (∀ p ∈ ([] : List (Str × Value)), z ≠ p.1) → ts.contains z = false → m' z = m z) (hTI : @LT.lt Nat _ I T) (hTl : @LT.lt Nat _ l₀ T) (hTr : AllLt T rest) (hp : Pi i vs ((T, o) :: tl)) :
    EndS h₀ L I oI (fun (_ : NS) => kstB m []) (GLed l₀ rest) (GPi l₀ rest Pi) ts i s₁ { s₁ with heap := h', toks := tk } :=
  grow_end F N hl (List.forall_mem_cons.mpr ⟨hT, htl⟩) hre hI h1 (ne_cons h2 hTI) h3 (ownOff_cons h4 (Nat.ne_of_gt hTl)) (apart_cons h5 hTr) hr hp
end

/-- a list of tuples of three ints -/
inductive TrisAre (tl : List (Addr × Obj)) : List Value → List (Int × Int × Int) → Prop
  | nil : TrisAre tl [] []
  | cons {T : Addr} {a b c : Int} {ta tb tc : Tok} {vs : List Value} {ds : List (Int × Int × Int)} : (T, ({ cls := .type "tuple", data := .seq #[.int a ta, .int b tb, .int c tc] } : Obj)) ∈ tl → TrisAre tl vs ds → TrisAre tl (.ref T :: vs) ((a, b, c) :: ds)
theorem TrisAre.mono {tl tl' : List (Addr × Obj)} {vs : List Value} {ds : List (Int × Int × Int)} (h : TrisAre tl vs ds) (hs : ∀ p ∈ tl, p ∈ tl') : TrisAre tl' vs ds := by
  induction h with
  | nil => exact .nil
  | cons hm _ ih => exact .cons (hs _ hm) ih
theorem TrisAre.append {tl : List (Addr × Obj)} {vs ws : List Value} {ds es : List (Int × Int × Int)} (h : TrisAre tl vs ds) (k : TrisAre tl ws es) : TrisAre tl (vs ++ ws) (ds ++ es) := by
  induction h with
  | nil => exact k
  | cons hm _ ih => exact .cons hm ih
theorem TrisAre.length {tl : List (Addr × Obj)} {vs : List Value} {ds : List (Int × Int × Int)} (h : TrisAre tl vs ds) : vs.length = ds.length := by
  induction h with
  | nil => rfl
  | cons _ _ ih => simp [ih]
theorem TrisAre.get {tl : List (Addr × Obj)} {vs : List Value} {ds : List (Int × Int × Int)} (h : TrisAre tl vs ds) : ∀ {i : Nat} {v : Value}, vs[i]? = some v → ∃ T a b c ta tb tc, v = .ref T ∧ ds[i]? = some (a, b, c) ∧ (T, ({ cls := .type "tuple", data := .seq #[.int a ta, .int b tb, .int c tc] } : Obj)) ∈ tl := by
  induction h with
  | nil => intro i v h; simp at h
  | @cons T a b c ta tb tc vs ds hm _ ih =>
    intro i v h
    cases i with
    | zero => simp at h; exact ⟨T, a, b, c, ta, tb, tc, h.symm, by simp, hm⟩
    | succ i => simpa using ih (by simpa using h)

def witN (l1 l2 : Int → Int) : Nat → List (Int × Int × Int)
  | 0 => []
  | k + 1 => witN l1 l2 k ++ (if l1 (1 + (k : Int)) = l2 (1 + (k : Int)) then [] else [(1 + (k : Int), l1 (1 + (k : Int)), l2 (1 + (k : Int)))])
theorem witN_length (l1 l2 : Int → Int) : ∀ k, (witN l1 l2 k).length ≤ k
  | 0 => Nat.le_refl _
  | k + 1 => by
    have := witN_length l1 l2 k
    unfold witN
    split <;> simp <;> omega

/-- a new list of tuples: its witnesses up to N -/
def WitIs (l1 l2 : Int → Int) (N : Int) (h h' : Heap) (r : Value) : Prop :=
  ∃ la vs k tl, r = .ref la ∧ (∀ p ∈ (la, listOf vs.toArray k) :: tl, h'.get? p.1 = some p.2 ∧ h.get? p.1 = none) ∧ OwnOff tl [la] ∧ TrisAre tl vs (witN l1 l2 N.toNat)
theorem fresh_al {s : Shared} {g : Heap} {a : Addr} {al : List (Addr × Obj)} (old : ∀ b o, s.heap.get? b = some o → b ∉ al.map (·.1) → g.get? b = some o) (h0 : g.get? a = none) (hne : ∀ q ∈ al, a ≠ q.1) : s.heap.get? a = none := by
  cases q : s.heap.get? a with
  | none => rfl
  | some o =>
    rw [old a o q (fun hm => by obtain ⟨p, hp, e⟩ := List.mem_map.mp hm; exact hne p hp e.symm)] at h0
    cases h0
theorem wit_intro {l1 l2 : Int → Int} {N : Int} {s : Shared} {g h' : Heap} {L' la : Addr} {al news : List (Addr × Obj)} {vs : List Value} {k : Nat} {tl : List (Addr × Obj)} (old : ∀ b o, s.heap.get? b = some o → b ∉ al.map (·.1) → g.get? b = some o)
    (N' : News g L' h' news) (hl : (la, listOf vs.toArray k) ∈ news) (htl : ∀ p ∈ tl, p ∈ news) (h1 : AllLt la al) (h2 : ∀ p ∈ tl, ∀ q ∈ al, p.1 ≠ q.1) (h3 : OwnOff tl [la]) (h4 : TrisAre tl vs (witN l1 l2 N.toNat)) : WitIs l1 l2 N s.heap h' (.ref la) := by
  refine ⟨la, vs, k, tl, rfl, fun p hp => ?_, h3, h4⟩
  rcases List.mem_cons.mp hp with rfl | hp
  · exact ⟨(N' _ hl).1, fresh_al old (N' _ hl).2.2 fun q hq => Nat.ne_of_gt (allLt_to h1 q hq)⟩
  · exact ⟨(N' _ (htl _ hp)).1, fresh_al old (N' _ (htl _ hp)).2.2 fun q hq => h2 p hp q hq⟩
end Mine

section
open Mine
local macro_rules | `(tactic| walk_at "m enter") => `(tactic| ((rename Site _ _ _ _ _ _ => S9); refine wpAny_call ?_; k_dflt (refine' enterR S9 (by decide) ?k6 ?k7 ?k9 ?kB ?_ ?c2 ?c3 ?c4 ?c5; (case k6 => k_is); (case k7 => k_is); (case k9 => exact BindsTo.of_eq rfl); (case kB => exact locs rfl); (case c2 => exact rfl); (case c3 => exact rfl); (case c4 => exact rfl); (case c5 => decide)); clear S9))
local macro_rules | `(tactic| walk_at "m enterR") => `(tactic| (k_dflt (refine' enterR (d := 2) (u := 50) ?kS (by decide) ?k6 ?k7 ?k9 ?kB ?_ ?c2 ?c3 ?c4 ?c5; (case k6 => k_is); (case k7 => k_is); (case k9 => exact BindsTo.of_eq rfl); (case kB => exact locs rfl); (case c2 => exact rfl); (case c3 => exact rfl); (case c4 => exact rfl); (case c5 => decide))))
local macro_rules | `(tactic| walk_at "exec For Name Call cons nil") => `(tactic| (k_here; k_dflt (refine For_S ?_ (by intro _; rfl))))
local macro_rules | `(tactic| walk_at "call builtin:len") => `(tactic| (k_here; (with_reducible show wpAny _ _ (call (Value.builtin "len") [Value.ref _]) _ _ _); k_dflt (refine' len_tup_ints ?k1 ?k2 ?k3 ?_; (case k1 => exact News.isTup (by k_asm) (by k_mem)); (case k2 => assumption); (case k3 => omega); k_whole)))
namespace Mine


theorem shared_start (a b : Nat) : 0 ≤ (a : Int) ∧ 0 ≤ (b : Int) ∧ Int.gcd a b = Nat.gcd a b := ⟨Int.natCast_nonneg _, Int.natCast_nonneg _, rfl⟩
theorem shared_turn {g : Nat} {x y : Int} (h : 0 ≤ x ∧ 0 ≤ y ∧ Int.gcd x y = g) (hy : 0 < y) : 0 ≤ y ∧ 0 ≤ Int.fmod x y ∧ Int.gcd y (Int.fmod x y) = g := by
  obtain ⟨h1, h2, h3⟩ := h
  have e : Int.fmod x y = x % y := Int.fmod_eq_emod_of_nonneg _ h2
  refine ⟨h2, by rw [e]; exact Int.emod_nonneg _ (by omega), ?_⟩
  rw [e, ← h3]
  obtain ⟨n, rfl⟩ := Int.eq_ofNat_of_zero_le h1
  obtain ⟨k, rfl⟩ := Int.eq_ofNat_of_zero_le h2
  show Nat.gcd k (n % k) = Nat.gcd n k
  rw [Nat.gcd_comm k, ← Nat.gcd_rec, Nat.gcd_comm]
theorem shared_less {x y : Int} (hy : 0 < y) : (Int.fmod x y).toNat < y.toNat := by
  have e : Int.fmod x y = x % y := Int.fmod_eq_emod_of_nonneg _ (by omega)
  rw [e]
  have h1 := Int.emod_nonneg x (show y ≠ 0 by omega)
  have h2 := Int.emod_lt_of_pos x hy
  omega
theorem shared_done {a b : Nat} {x y : Int} (h : 0 ≤ x ∧ 0 ≤ y ∧ Int.gcd x y = Nat.gcd a b) (hy : ¬ 0 < y) : x = ((Nat.gcd a b : Nat) : Int) := by
  obtain ⟨h1, h2, h3⟩ := h
  have e : y = 0 := by omega
  subst e
  rw [← h3, Int.gcd_zero_right]
  omega
theorem shared_ret {a b : Nat} {x y : Int} {t : Tok} (h3 : Int.gcd x y = Nat.gcd a b) (h1 : 0 ≤ x) (h2 : 0 ≤ y) (hy : ¬ 0 < y) : ∃ u, Value.int x t = .int ((Nat.gcd a b : Nat) : Int) u :=
  ⟨t, by rw [shared_done ⟨h1, h2, h3⟩ hy]⟩

set_option maxHeartbeats 4000000 in
theorem shared_says (w : World) (a b : Nat) (ta tb : Tok) : Fn w 1 40 148 [.int a ta, .int b tb] [] (fun _ => True) (fun _ _ r => ∃ t, r = .int (Nat.gcd a b) t) := by
  intro A s Q E S _ hret
  walk_at "m enter"
  intro p loose mean mg mb dp un gd base g env outer L' h₁ hA I F N B X T
  subst hA
  (try dsimp only)
  (try k_fold)
  w_top off
  k_with_none
  k_with "exec While Compare cons nil" => k_while (fun _ (x y : Int) => 0 ≤ x ∧ 0 ≤ y ∧ Int.gcd x y = Nat.gcd a b) (fun _ (x y : Int) => y.toNat) "a" "b"
  k_with "state" => first | exact shared_start _ _ | exact shared_turn ⟨by assumption, by assumption, by assumption⟩ (by omega)
  k_with "measure" => exact shared_less (by omega)
  k_steps
  (try k_unfold)
  dsimp only
  exact hret _ _ _ (I.back _ _ _ (by assumption) (by assumption) (fun _ h9 => nomatch h9)) (shared_ret (by assumption) (by assumption) (by assumption) (by assumption))
end Mine

namespace Mine

local macro_rules | `(tactic| walk_at "EndS") => `(tactic| ((rename News _ _ _ _ => nE'); (refine' EndS.intro (σ := WS) ⟨_, _, _, _, _, _, _, _, _, _⟩ (by assumption) nE' ?hs ?hI ?hn ?hk ?hr ?hp); (case hk => kst_all); (case hs => (dsimp only [WSlf]; k_allIn)); (case hI => k_memK); (case hr => ksw_same); (case hn => (refine allNe_to ?_; simp only [AllNe, and_true, ne_eq]; (try dsimp only); omega)); (case hp => first | exact ⟨pi_space (by assumption) (by assumption) (by assumption) (by assumption) (by assumption) (by assumption) (by assumption), allLt_to (by simp only [AllLt, and_true]; (try dsimp only); omega)⟩ | exact ⟨pi_tab (by assumption) (by assumption) (by assumption) (by assumption) (by assumption) (by assumption) (by assumption) (bump_grow (by omega)), allLt_to (by simp only [AllLt, and_true]; (try dsimp only); omega)⟩ | exact ⟨pi_tab (by assumption) (by assumption) (by assumption) (by assumption) (by assumption) (by assumption) (by assumption) (bump_keep (by assumption) (by omega)), allLt_to (by simp only [AllLt, and_true]; (try dsimp only); omega)⟩)))
local macro_rules | `(tactic| walk_at "exec For Name Attribute cons nil") => `(tactic| (k_here; k_dflt (refine For_S ?_ (by intro _; rfl))))
local macro_rules | `(tactic| walk_at "PostS") => `(tactic| (dsimp only [PostS]))
local macro_rules | `(tactic| walk_at "exec Break") => `(tactic| (exfalso; exact ch_no (by assumption) (by assumption) (by assumption)))
local macro_rules | `(tactic| walk_at "call type:tuple") => `(tactic| (k_here; (with_reducible show wpAny _ _ (call (Value.type _) [Value.ref _]) _ _ _); k_dflt (refine' kde_tupleOf ?k1 ?k2 ?k3 ?k4 ?k5 ?_; (case k1 => k_asm); (case k2 => k_asm); (case k3 => exact News.isList (by k_asm) (by k_mem)); (case k4 => ((rename IntsAre _ _ => q8); (have q9 := IntsAre.length q8); (simp only [List.size_toArray]); omega)); (case k5 => exact List.toList_toArray); k_whole); intro D' h' F' N' l1; (try k_lt l1); (try k_sweep)))
theorem init_units {dp un : Nat} {gd : Option (List Code)} {env : Env} {outer : List Env} {args : Args} (h : (topA dp un gd env outer).units + 60 < cLine) : ((topA dp un gd env outer).under (.builtin "type.__call__" args)).units + 50 < cLine := by
  have e : (Code.builtin "type.__call__" args).cUnits ≤ 10 := by
    have f : (Code.builtin "type.__call__" args).frames = 0 := rfl
    show 1 + 3 * (Code.builtin "type.__call__" args).frames ≤ 10
    omega
  show un + (Code.builtin "type.__call__" args).cUnits + 50 < cLine
  have h' : un + 60 < cLine := h
  omega

set_option maxHeartbeats 4000000 in
theorem init_says (w : World) (xt : Str) (tx : Tok) (hx : ∀ (i c : Nat), xt.cps[i]? = some c → c = 32 ∨ c = 9) (hlen : xt.cps.size ≤ 200) : Fn w 4 60 127 [.str xt tx] [] (fun _ => True) (fun h h' r => WsIs w xt.cps.toList h h' r) := by
  intro A s Q E S _ hret
  obtain ⟨p, loose, mean, mg, mb, A₀, base, h₀, env, outer, L, m, B, F, X, T, hh, hA, hf, hke, hdep, hun, N⟩ := S
  obtain ⟨hd0, dp, fr, gd, un⟩ := A
  simp only at hh hA
  subst hh; subst hA
  k_dflt (refine' make_keep F X ?k4 ?k5 ?k6 ?_; (case k4 => k_is); (case k5 => k_is); (case k6 => k_is))
  intro x dx h' F' N' hkeep hx0 hd0 l2
  k_lt2 l2
  walk_at "m enterR"
  case kS =>
    exact ⟨p, loose, mean, mg, mb, A₀, base, h₀, env, outer, L, m, B, F', X, T, rfl, rfl, hf, hke, by rw [depth_under_make]; simp only at hdep ⊢; omega, init_units hun, N'⟩
  clear B F X T F' N' hdep hun hf hke N
  intro p loose mean mg mb dp un gd base g env outer L' h₁ hA I F N B X T
  have kMk := kstMark
  (try dsimp only)
  (try k_fold)
  w_top off
  k_with_none
  k_with "pyIter str" =>
    ((rename Fr _ _ _ _ => lF'); (rename News _ _ _ _ => lN'))
    refine loopS_str1 (σ := WS) WSps WSlf [Str.ofString "ch"] (WSPi xt.cps.toList) ⟨0, _, 0, _, 0, _, _, [], 0, []⟩ rfl lF' lN' rfl (by simp only [List.forall_mem_cons]; refine ⟨?_, ?_, ?_, fun _ h9 => nomatch h9⟩ <;> (refine PySem.W.ltN ?_; (try dsimp only); omega)) (by kst_all) ⟨.nil, rfl, Int.le_refl _, Int.le_refl _⟩ ?turn ?done (by passes_own)
    all_goals (try clear lF' lN')
    (case' turn => intro i cp t c I oI u h tk hcp hPi hlt hn F N; obtain ⟨b, tb, n, tn, nt, tt, l, us, k, cnt⟩ := c; (have hc := hx i cp hcp); (have hi : i < xt.cps.size := (Array.getElem?_eq_some_iff.mp hcp).1); rw [← Array.getElem?_toList] at hcp; replace hn := allNe_of hn; (simp only [AllNe, and_true, ne_eq] at hn); k_lt hlt; obtain ⟨h1, h2, h3, h4⟩ := hPi; (dsimp only [WSlf, WSps, kstB] at F N); (dsimp only at *); (try k_fold))
    (case' done => intro c u h tk hPi hlt F N; obtain ⟨b, tb, n, tn, nt, tt, l, us, k, cnt⟩ := c; k_lt hlt; obtain ⟨h1, h2, h3, h4⟩ := hPi; (dsimp only [WSlf, WSps, kstB] at F N); (dsimp only at *); (try k_fold))
  k_steps
  dsimp only [InitBack]
  refine ⟨rfl, ?_⟩
  refine hret _ _ _ (stays_make hkeep hx0 hd0 I.old (by assumption)) ?_
  (rename News _ _ _ _ => nE)
  refine' ⟨x, dx, _, _, _, _, _, _, _, _, _, _, _, _, _, _, _, _, rfl, ?hal, h1, by rw [← h2, ← Array.length_toList, List.take_length], h3, by rw [Array.length_toList]; exact h4⟩
  case hal =>
    refine List.forall_mem_cons.mpr ⟨⟨(nE _ (by k_memK)).1, hx0⟩, List.forall_mem_cons.mpr ⟨⟨(nE _ (by k_memK)).1, hd0⟩, List.forall_mem_cons.mpr ⟨?f1, List.forall_mem_cons.mpr ⟨?f2, fun _ h9 => nomatch h9⟩⟩⟩⟩
    case f1 =>
      refine' get_fresh nE ?hm hkeep I.old ?a ?b
      case hm => k_memK
      case a => exact neN (by (try dsimp only); omega)
      case b => exact neN (by (try dsimp only); omega)
    case f2 =>
      refine' get_fresh nE ?hm hkeep I.old ?a ?b
      case hm => k_memK
      case a => exact neN (by (try dsimp only); omega)
      case b => exact neN (by (try dsimp only); omega)
end Mine

namespace Mine

/-- the sum of i // ts * cnt[i] over the first k places from ts on -/
def lvlN (cnt : List Int) (ts : Int) : Nat → Int
  | 0 => 0
  | k + 1 => lvlN cnt ts k + Int.fdiv (ts + (k : Int)) ts * cnt.getD (ts + (k : Int)).toNat 0
def lvl (cnt : List Int) (b nt ts : Int) : Int := b + ts * (lvlN cnt ts ((cnt.length : Int) - ts).toNat + nt)
theorem fd_ok {x ts z : Int} (h1 : 1 ≤ ts) (h0 : 0 ≤ x) (hx : x ≤ 1000) : IntMulOk (Int.fdiv x ts) z := by
  have e : Int.fdiv x ts = x / ts := Int.fdiv_eq_ediv_of_nonneg _ (by omega)
  have h2 : 0 ≤ x / ts := Int.ediv_nonneg h0 (by omega)
  have h3 : x / ts ≤ x := Int.ediv_le_self _ h0
  rw [e]
  exact .of_left (intBits_le_64 (by omega) (by omega))
local macro_rules | `(tactic| walk_at "PostS") => `(tactic| (dsimp only [PostS]))

local macro_rules | `(tactic| walk_at "subscriptTail Name Name ref int") => `(tactic| (k_here; (with_unfolding_all refine' item_tuple_ints ?k1 ?k2 ?k3 ?k4 ?k5 ?_; (case k1 => exact News.isTup (by k_asm) (by k_mem)); (case k2 => assumption); (case k3 => omega); (case k4 => omega); (case k5 => omega); k_whole); intro t'))
set_option maxHeartbeats 4000000 in
theorem indent_says (w : World) (x d nm c : Addr) (t1 t2 t3 t4 t5 : Tok) (raw n simp : Value) (nt : Int) (tt : Tok) (b : Int) (tb : Tok) (us : List Value) (cnt : List Int) (hI : IntsAre us cnt) (hlen : cnt.length ≤ 300) (ts : Int) (tts : Tok) (h1 : 1 ≤ ts) (h2 : ts ≤ 300) :
    Fn w 1 40 96 [.ref x, .int ts tts] (wsAl w x d nm c t1 t2 t3 t4 t5 raw n simp nt tt b tb us) (fun _ => True) (fun _ _ r => ∃ t, r = .int (lvl cnt b nt ts) t) := by
  intro A s Q E S _ hret
  walk_at "m enter"
  intro p loose mean mg mb dp un gd base g env outer L' h₁ hA I F N B X T
  subst hA
  have kMk := kstMark
  (try dsimp only)
  (try k_fold)
  w_top off
  k_with_none
  k_with "pyIter ref" =>
    ((rename Fr _ _ _ _ => lF'); (rename News _ _ _ _ => lN'); (rename IsRange _ _ _ _ _ _ _ _ => rgX))
    refine loopS_range (σ := Int × Tok) (fun c => [(Str.ofString "il", .int c.1 c.2)]) (fun _ => wsAl w x d nm c t1 t2 t3 t4 t5 raw n simp nt tt b tb us) [Str.ofString "i"] (fun k c => c.1 = lvlN cnt ts k) (0, _) rfl rgX (small_one (by omega) (by omega) (by omega) (by omega)) (rangeSize_nat _ _) lF' lN' (fun _ h9 => h9) (by kst_all) rfl ?turn ?done (by passes_own)
    all_goals (try clear lF' lN')
    (case' turn => intro i t c I oI u h tk hi hPi hn F N; obtain ⟨il, til⟩ := c; have hmul : ∀ z, IntMulOk (Int.fdiv (ts + (i : Int)) ts) z := fun z => fd_ok h1 (by omega) (by omega); have hmul' := hmul (cnt.getD (ts + (i : Int)).toNat 0); clear hmul; (dsimp only [kstB] at F hPi); subst hPi; (dsimp only); (try k_fold))
    (case' done => intro c u h tk hPi F N; obtain ⟨il, til⟩ := c; (dsimp only [kstB] at F hPi); subst hPi; (dsimp only); (try k_fold))
  k_with "EndS" =>
    ((rename News _ _ _ _ => nE'); (refine' EndS.intro (σ := Int × Tok) ⟨_, _⟩ (by assumption) nE' ?hsq0 ?hIq0 ?hnq0 ?hkq0 ?hrq0 ?hpq0); (case hkq0 => kst_all); (case hsq0 => (intro p9 h9; exact List.mem_cons_of_mem _ h9)); (case hIq0 => k_memK); (case hrq0 => ksw_same); (case hnq0 => assumption); (case hpq0 => rfl))
  k_steps
  (try k_unfold)
  dsimp only
  exact hret _ _ _ (I.back _ _ _ (by assumption) (by assumption) (fun _ h9 => h9)) ⟨_, rfl⟩
end Mine

namespace Mine


set_option maxHeartbeats 4000000 in
theorem longest_says (w : World) (x d nm c : Addr) (t1 t2 t3 t4 t5 : Tok) (raw n simp : Value) (nt : Int) (tt : Tok) (b : Int) (tb : Tok) (us : List Value) (cnt : List Int) (hI : IntsAre us cnt) (hlen : cnt.length ≤ 300) :
    Fn w 1 40 89 [.ref x] (wsAl w x d nm c t1 t2 t3 t4 t5 raw n simp nt tt b tb us) (fun _ => True) (fun _ _ r => ∃ v t, r = .int v t ∧ LongIs cnt b v) := by
  intro A s Q E S _ hret
  walk_at "m enter"
  intro p loose mean mg mb dp un gd base g env outer L' h₁ hA I F N B X T
  subst hA
  have kMk := kstMark
  (try dsimp only)
  (try k_fold)
  w_top off
  k_with_none
  k_steps
  (try k_unfold)
  (try dsimp only)
  exact hret _ _ _ (I.back _ _ _ (by assumption) (by assumption) (fun _ h9 => h9)) ⟨_, _, rfl, long_is _ _⟩
end Mine

namespace Mine

local macro_rules | `(tactic| walk_at "PostS") => `(tactic| (dsimp only [GEnd, PostS]))
local macro_rules | `(tactic| walk_at "call ref") => `(tactic| (k_here; k_dflt (show wpAny _ _ (call (Value.ref 89) [_]) _ _ _); (rename Inn _ _ _ _ _ _ _ _ => in9); k_dflt (refine' fn_use (longest_says _ _ _ _ _ _ _ _ _ _ _ _ _ _ _ _ _ _ _ ?hI ?hlen) (by k_asm) (by k_asm) (by k_asm) (by k_asm) rfl rfl rfl rfl (by have q9 := in9.room; simp only [depth_deeper]; omega) (by have q9 := in9.units; simp only [units_deeper]; omega) (by k_asm) (by k_allIn) trivial ?_; (case hI => assumption); (case hlen => assumption); k_whole); intro r' h' tk' hs' F' N' hn' ho'; obtain ⟨v', t', e', lg'⟩ := ho'; subst e'; clear hs' hn'; (try dsimp only); (try k_sweep)))
local macro_rules | `(tactic| walk_at "call ref") => `(tactic| (k_here; k_dflt (show wpAny _ _ (call (Value.ref 96) [_, _]) _ _ _); (rename Inn _ _ _ _ _ _ _ _ => in9); k_dflt (refine' fn_use (indent_says _ _ _ _ _ _ _ _ _ _ _ _ _ _ _ _ _ _ _ ?hI ?hlen _ _ ?h1 ?h2) (by k_asm) (by k_asm) (by k_asm) (by k_asm) rfl rfl rfl rfl (by have q9 := in9.room; simp only [depth_deeper]; omega) (by have q9 := in9.units; simp only [units_deeper]; omega) (by k_asm) (by k_allIn) trivial ?_; (case hI => assumption); (case hlen => assumption); (case h1 => omega); (case h2 => omega); k_whole); intro r' h' tk' hs' F' N' hn' ho'; obtain ⟨t', e'⟩ := ho'; subst e'; clear hs' hn'; (try dsimp only); (try k_sweep)))

theorem tri_same {tl : List (Addr × Obj)} {vs : List Value} {l1 l2 : Int → Int} {i : Nat} (h : TrisAre tl vs (witN l1 l2 i)) (hc : l1 (1 + (i : Int)) = l2 (1 + (i : Int))) : TrisAre tl vs (witN l1 l2 (i + 1)) := by
  unfold witN; rw [if_pos hc, List.append_nil]; exact h
theorem tri_more {tl : List (Addr × Obj)} {vs : List Value} {l1 l2 : Int → Int} {i : Nat} {T : Addr} {ta tb tc : Tok} (h : TrisAre tl vs (witN l1 l2 i)) (hc : l1 (1 + (i : Int)) ≠ l2 (1 + (i : Int))) :
    TrisAre ((T, ({ cls := .type "tuple", data := .seq #[.int (1 + (i : Int)) ta, .int (l1 (1 + (i : Int))) tb, .int (l2 (1 + (i : Int))) tc] } : Obj)) :: tl) (vs ++ [.ref T]) (witN l1 l2 (i + 1)) := by
  unfold witN; rw [if_neg hc]; exact (h.mono fun p hp => .tail _ hp).append (.cons (.head _) .nil)
local macro_rules | `(tactic| walk_at "GEnd") => `(tactic| (dsimp only [GEnd, PostS]))
local macro_rules | `(tactic| walk_at "new bd") => `(tactic| first | omega | ((simp only [LongIs] at *); omega) | ((simp only [LongIs] at *); split <;> omega) | ((simp only [LongIs] at *); split at * <;> omega))
set_option maxHeartbeats 4000000 in
theorem new_says (w : World) (x d nm c : Addr) (t1 t2 t3 t4 t5 : Tok) (raw n simp : Value) (nt : Int) (tt : Tok) (b : Int) (tb : Tok) (us : List Value) (cnt : List Int) (hI : IntsAre us cnt) (hlen : cnt.length ≤ 300)
    (x' d' nm' c' : Addr) (t1' t2' t3' t4' t5' : Tok) (raw' n' simp' : Value) (nt' : Int) (tt' : Tok) (b' : Int) (tb' : Tok) (us' : List Value) (cnt' : List Int) (hI' : IntsAre us' cnt') (hlen' : cnt'.length ≤ 300) (hb : b ≤ 200) (hb' : b' ≤ 200) :
    Fn w 2 80 110 [.ref x, .ref x'] (wsAl w x d nm c t1 t2 t3 t4 t5 raw n simp nt tt b tb us ++ wsAl w x' d' nm' c' t1' t2' t3' t4' t5' raw' n' simp' nt' tt' b' tb' us') (fun _ => True) (fun h h' r => ∃ v v', LongIs cnt b v ∧ LongIs cnt' b' v' ∧ WitIs (lvl cnt b nt) (lvl cnt' b' nt') ((if v' > v then v' else v) + 1) h h' r) := by
  intro A s Q E S _ hret
  walk_at "m enter"
  intro p loose mean mg mb dp un gd base g env outer L' h₁ hA I F N B X T
  subst hA
  have kMk := kstMark
  simp only [wsAl, List.cons_append, List.nil_append] at N
  (try dsimp only)
  (try k_fold)
  w_top off
  k_with_none
  k_with "pyIter ref" =>
    ((rename Fr _ _ _ _ => lF'); (rename News _ _ _ _ => lN'); (rename IsRange _ _ _ _ _ _ _ _ => rgX))
    refine growS_range0 [Str.ofString "ts"] (fun k vs tl => TrisAre tl vs (witN (lvl cnt b nt) (lvl cnt' b' nt') k)) rfl rgX (small_one (by walk_at "new bd") (by walk_at "new bd") (by walk_at "new bd") (by walk_at "new bd")) (rangeSize_nat _ _) lF' lN' .nil ?turn ?done (by passes_own)
    all_goals (try clear lF' lN')
    (case' turn => intro i t vs k tl Ia oI u h tk hi hPi hoff hap hl₀ hIr hIt F N; (simp only [List.cons_append, List.nil_append] at N); (have hvl : vs.length ≤ 300 := (by rw [hPi.length]; exact Nat.le_trans (witN_length _ _ _) (by walk_at "new bd"))); have hi300 : i < 300 := (by walk_at "new bd"); (dsimp only); (try k_fold))
    (case' done => intro vs k tl u h tk hPi hoff hap F N; (simp only [List.cons_append, List.nil_append] at N); (dsimp only); (try k_fold))
  k_with "EndS" =>
    ((rename News _ _ _ _ => nE'); (try simp only [List.push_toArray] at nE'); first
      | (refine' grow_end (by assumption) nE' ?hlq0 ?htlq0 ?hreq0 ?hIq0 ?h1q0 ?h2q0 ?h3q0 ?h4q0 ?h5q0 ?hrq0 ?hpq0; (case hlq0 => k_memK); (case hIq0 => k_memK); (case h1q0 => assumption); (case h3q0 => assumption); (case hrq0 => ksw_same); (case hpq0 => exact tri_same (by assumption) (by assumption)); (case htlq0 => (intro p9 h9; kst_mem)); (case hreq0 => k_allIn); (case h2q0 => assumption); (case h4q0 => assumption); (case h5q0 => assumption))
      | (refine' grow_one (by assumption) nE' ?hTq1 ?hlq1 ?htlq1 ?hreq1 ?hIq1 ?h1q1 ?h2q1 ?h3q1 ?h4q1 ?h5q1 ?hrq1 ?hTIq1 ?hTlq1 ?hTrq1 ?hpq1; (case hTq1 => k_memK); (case hlq1 => k_memK); (case hIq1 => k_memK); (case h1q1 => assumption); (case h3q1 => assumption); (case hrq1 => ksw_same); (case hpq1 => exact tri_more (by assumption) (by assumption)); (case htlq1 => (intro p9 h9; kst_mem)); (case hreq1 => k_allIn); (case h2q1 => assumption); (case h4q1 => assumption); (case h5q1 => assumption); (case hTIq1 => omega); (case hTlq1 => omega); (case hTrq1 => (simp only [AllLt, and_true]; (try dsimp only); omega))))
  k_steps
  (try k_unfold)
  (try dsimp only)
  (rename News _ _ _ _ => nE)
  (rename Inn _ _ _ _ _ _ _ _ => I)
  refine hret _ _ _ (I.back _ _ _ (by assumption) nE (fun p9 h9 => List.mem_cons_of_mem _ (List.mem_append.mpr (.inl h9) : p9 ∈ (wsAl w x d nm c t1 t2 t3 t4 t5 raw n simp nt tt b tb us ++ wsAl w x' d' nm' c' t1' t2' t3' t4' t5' raw' n' simp' nt' tt' b' tb' us') ++ tl))) ⟨_, _, by assumption, by assumption, wit_intro (tl := tl) (vs := vs) (k := k) (al := wsAl w x d nm c t1 t2 t3 t4 t5 raw n simp nt tt b tb us ++ wsAl w x' d' nm' c' t1' t2' t3' t4' t5' raw' n' simp' nt' tt' b' tb' us') I.old nE (.head _) (fun p9 h9 => by kst_mem) (by simp only [wsAl, List.cons_append, List.nil_append, AllLt, and_true]; (try dsimp only); omega) hap hoff ?_⟩
  rw [Int.add_sub_cancel] at hPi
  exact hPi
end Mine

namespace Mine

def seg (k : Int) : Str := Txt.mul (Str.ofString " ") k ++ Str.ofString "\t"
def segC (k : Int) : List Nat := List.replicate k.toNat 32 ++ [9]
def textC (ns : List Int) : List Nat := (ns.map segC).flatten

theorem foldl_cps (a : Nat) : ∀ (n : Nat) (z : Array Nat), ((List.replicate n (#[a] : Array Nat)).foldl (· ++ ·) z).toList = z.toList ++ List.replicate n a
  | 0, z => by simp
  | n + 1, z => by
    rw [List.replicate_succ, List.foldl_cons, foldl_cps a n]
    simp [List.replicate_succ]
theorem mul_cps (k : Int) : (Txt.mul (Str.ofString " ") k).cps.toList = List.replicate k.toNat 32 := by
  have hs : (Str.ofString " ").cps = #[32] := by decide +kernel
  have hl : ((Str.ofString " ").length == 0) = false := by decide +kernel
  unfold Txt.mul
  by_cases h1 : k < 1
  · rw [if_pos h1, show k.toNat = 0 by omega]; rfl
  · rw [if_neg h1, hl, Bool.or_false]
    by_cases h2 : k = 1
    · subst h2
      rw [if_pos (by decide), hs]; rfl
    · rw [if_neg (by simpa using h2)]
      show ((List.replicate k.toNat (Str.ofString " ").cps).foldl (· ++ ·) #[]).toList = _
      rw [hs, foldl_cps]; simp
theorem seg_cps (k : Int) : (seg k).cps.toList = segC k := by
  show (Txt.mul (Str.ofString " ") k ++ Str.ofString "\t").cps.toList = _
  rw [PySem.Str.cps_append, Array.toList_append, mul_cps]
  have : (Str.ofString "\t").cps.toList = [9] := by decide +kernel
  rw [this]; rfl
theorem join_cps : ∀ l : List Str, (Txt.join (Str.ofString "") l).cps.toList = (l.map (·.cps.toList)).flatten := by
  intro l
  show (Builtin.Str.glued (Str.ofString "") l).cps.toList = _
  rw [StrLaws.glued_eq_join]
  have he : (Str.ofString "").cps.toList = [] := by decide +kernel
  induction l with
  | nil => rfl
  | cons x r ih =>
    cases r with
    | nil => show x.cps.toList = _; simp
    | cons y r =>
      show (x ++ Str.ofString "" ++ Str.join (Str.ofString "") (y :: r)).cps.toList = _
      rw [PySem.Str.cps_append, PySem.Str.cps_append, Array.toList_append, Array.toList_append, he, ih]
      simp
theorem text_cps (ns : List Int) (f : Int → Int) : (Txt.join (Str.ofString "") (ns.map fun k => Txt.mul (Str.ofString " ") (f k) ++ Str.ofString "\t")).cps.toList = textC (ns.map f) := by
  rw [join_cps, List.map_map, textC, List.map_map]
  congr 1
  exact List.map_congr_left fun k _ => seg_cps (f k)
theorem segC_mem {k : Int} {c : Nat} (h : c ∈ segC k) : c = 32 ∨ c = 9 := by
  unfold segC at h
  rcases List.mem_append.mp h with h | h
  · exact .inl (List.eq_of_mem_replicate h)
  · exact .inr (List.mem_singleton.mp h)
theorem textC_mem {ns : List Int} {c : Nat} (h : c ∈ textC ns) : c = 32 ∨ c = 9 := by
  unfold textC at h
  obtain ⟨l, hl, hc⟩ := List.mem_flatten.mp h
  obtain ⟨k, _, rfl⟩ := List.mem_map.mp hl
  exact segC_mem hc
theorem textC_length {ns : List Int} (h : ∀ n ∈ ns, n ≤ 10) : (textC ns).length ≤ 11 * ns.length := by
  induction ns with
  | nil => simp [textC]
  | cons n r ih =>
    have h1 := ih fun m hm => h m (.tail _ hm)
    have h2 := h n (.head _)
    have e : textC (n :: r) = segC n ++ textC r := rfl
    rw [e, List.length_append, List.length_cons]
    have h3 : (segC n).length = n.toNat + 1 := by simp [segC]
    omega
theorem seg_len {k : Int} (h : k ≤ 10) : (Txt.mul (Str.ofString " ") k ++ Str.ofString "\t").length ≤ 11 := by
  have e : (Txt.mul (Str.ofString " ") k ++ Str.ofString "\t").length = (segC k).length := by
    rw [← seg_cps k]; exact (Array.length_toList).symm
  rw [e]
  simp [segC]; omega
theorem text_chars (ns : List Int) (f : Int → Int) : ∀ (i c : Nat), (Txt.join (Str.ofString "") (ns.map fun k => Txt.mul (Str.ofString " ") (f k) ++ Str.ofString "\t")).cps[i]? = some c → c = 32 ∨ c = 9 := by
  intro i c h
  rw [← Array.getElem?_toList, text_cps] at h
  exact textC_mem (List.mem_of_getElem? h)
theorem text_size {ns : List Int} (f : Int → Int) (hl : ns.length ≤ 7) (h : ∀ n ∈ ns, f n ≤ 10) : (Txt.join (Str.ofString "") (ns.map fun k => Txt.mul (Str.ofString " ") (f k) ++ Str.ofString "\t")).cps.size ≤ 200 := by
  have h1 := textC_length (ns := ns.map f) fun m hm => by obtain ⟨n, hn, rfl⟩ := List.mem_map.mp hm; exact h n hn
  rw [← text_cps, Array.length_toList, List.length_map] at h1
  omega
def text1 (ns : List Int) : Str := Txt.join (Str.ofString "") (ns.map fun k => Txt.mul (Str.ofString " ") (k - 1) ++ Str.ofString "\t")
def text0 (ns : List Int) : Str := Txt.join (Str.ofString "") (ns.map fun k => Txt.mul (Str.ofString " ") k ++ Str.ofString "\t")
theorem text1_chars (ns : List Int) : ∀ (i c : Nat), (text1 ns).cps[i]? = some c → c = 32 ∨ c = 9 := text_chars ns (fun k => k - 1)
theorem text0_chars (ns : List Int) : ∀ (i c : Nat), (text0 ns).cps[i]? = some c → c = 32 ∨ c = 9 := text_chars ns (fun k => k)
theorem text1_size {ns : List Int} (hl : ns.length ≤ 7) (h : ∀ n ∈ ns, 1 ≤ n ∧ n ≤ 10) : (text1 ns).cps.size ≤ 200 := text_size (fun k => k - 1) hl fun n hn => by have := h n hn; omega
theorem text0_size {ns : List Int} (hl : ns.length ≤ 7) (h : ∀ n ∈ ns, 1 ≤ n ∧ n ≤ 10) : (text0 ns).cps.size ≤ 200 := text_size (fun k => k) hl fun n hn => (h n hn).2
theorem text1_cps (ns : List Int) : (text1 ns).cps.toList = textC (ns.map fun k => k - 1) := text_cps ns (fun k => k - 1)
theorem text0_cps (ns : List Int) : (text0 ns).cps.toList = textC ns := by
  have h := text_cps ns (fun k => k)
  rw [List.map_id'] at h
  exact h
/-- what _law_witnesses hands back of a row -/
def WitR (ns : List Int) (h h' : Heap) (r : Value) : Prop :=
  ∃ cnt b nt cnt' b' nt' v v', scan (textC (ns.map fun k => k - 1)) = (cnt, b, nt) ∧ scan (textC ns) = (cnt', b', nt') ∧ LongIs cnt b v ∧ LongIs cnt' b' v' ∧ WitIs (lvl cnt b nt) (lvl cnt' b' nt') ((if v' > v then v' else v) + 1) h h' r
theorem wit_weaken {l1 l2 : Int → Int} {N : Int} {h₁ h₂ h' : Heap} {r : Value} (st : h₁.StaysIn h₂) (h : WitIs l1 l2 N h₂ h' r) : WitIs l1 l2 N h₁ h' r := by
  obtain ⟨la, vs, k, tl, e, ha, h1, h2⟩ := h
  refine ⟨la, vs, k, tl, e, fun p hp => ⟨(ha p hp).1, ?_⟩, h1, h2⟩
  cases q : h₁.get? p.1 with
  | none => rfl
  | some o =>
    have := st _ _ q
    rw [(ha p hp).2] at this; cases this
end Mine

namespace Mine


local macro_rules | `(tactic| walk_at "CompSrc") => `(tactic| (k_here; k_dflt (refine LCg.CompSrc.ledger (by rfl) (by k_asm) (by k_asm) (by k_mem) (by kcf_size) ?_; intro g'; (refine' kct_list _ (by assumption) (fun k' t' I' oI' C' oC' D' m' ys' h' tk' E' hk' hC' hx' F' N' off' ne' hMark' => ?_) ?_); kcf_last)))
local macro_rules | `(tactic| walk_at "CompEnd") => `(tactic| ((rename News _ _ _ _ => nE'); (rename LCg.Off3 _ _ _ _ => oE'); (refine LCg.CompEnd.intro (by assumption) nE' _ (fun _ h9 => h9) oE' (by lcg_src) ?_)))
local macro_rules | `(tactic| walk_at "KCtEl") => `(tactic| (refine' kct_el ?e ?hn ?hy; (case hy => with_reducible exact rfl); (case hn => with_reducible exact rfl); (case e => with_reducible exact rfl)))
set_option maxHeartbeats 4000000 in
theorem wit_says (w : World) (lr : Addr) (rvs : List Value) (kr : Nat) (ns : List Int) (hI : IntsAre rvs ns) (hlen : ns.length ≤ 7) (hns : ∀ n ∈ ns, 1 ≤ n ∧ n ≤ 10) :
    Fn w 5 200 136 [.ref lr] [(lr, listOf rvs.toArray kr)] (fun _ => True) (WitR ns) := by
  intro A s Q E S _ hret
  walk_at "m enter"
  intro p loose mean mg mb dp un gd base g env outer L' h₁ hA I F N B X T
  subst hA
  have kMk := kstMark
  (try dsimp only)
  (try k_fold)
  w_top off
  k_with_none
  k_with "binaryOp Mult str int" =>
    (rename _ ∈ ns => m9)
    have b9 := hns _ m9
    refine KXi.mul (n := 1) (by decide +kernel) (by decide) (by omega) (by omega) ?_
    intro _ _ kxiZ kxiN
  k_with "call builtin:str.join" =>
    (rename CarriedAll _ (List.map _ _) => ktC)
    k_dflt (refine' KT.join_B 11 (News.isList (by k_asm) (by k_mem)) ktC ?b (by omega) (by decide +kernel) ?_)
    (case b => first | exact fun a ha => seg_len (k := a - 1) (by have := hns a ha; omega) | exact fun a ha => seg_len (k := a) (by have := hns a ha; omega))
    intro t k
    first | (with_reducible rw [show Txt.join (Str.ofString "") (ns.map fun k => Txt.mul (Str.ofString " ") (k - 1) ++ Str.ofString "\t") = text1 ns from rfl]) | (with_reducible rw [show Txt.join (Str.ofString "") (ns.map fun k => Txt.mul (Str.ofString " ") k ++ Str.ofString "\t") = text0 ns from rfl])
  k_with "call ref" =>
    k_dflt (show wpAny _ _ (call (Value.ref 127) [Value.str _ _]) _ _ _)
    (rename Fr _ _ _ _ => oF)
    k_dflt (refine' fn_use (init_says _ _ _ ?hx ?hl) ?B oF ?X ?T ?hh ?hA ?hf ?hk ?hd ?hu ?N ?hal ?hp ?_; (case B => k_asm); (case X => k_asm); (case T => k_asm); (case hh => exact rfl); (case hA => exact rfl); (case hf => exact rfl); (case hk => exact rfl); (case N => k_asm); (case hal => exact fun _ h9 => nomatch h9); (case hx => first | with_reducible exact text1_chars ns | with_reducible exact text0_chars ns); (case hl => first | with_reducible exact text1_size hlen hns | with_reducible exact text0_size hlen hns); (case hp => trivial); (case hd => (have q9 := I.room; simp only [depth_deeper]; omega)); (case hu => (have q9 := I.units; simp only [units_deeper]; omega)))
    intro r' h' tk' hs' F' N' hn' ho'
    unfold WsIs at ho'
    obtain ⟨x, d, nm, c, t1, t2, t3, t4, t5, raw, nn, simp', nt, tt, b, tb, us, cnt, e', ha', hi', hsc', hb', hl'⟩ := ho'
    subst e'
    have N'' := news_more oF N' ha'
    clear oF N' hs' hn' ha'
    simp only [wsAl, List.cons_append, List.nil_append] at N''
    first | rw [text1_cps] at hsc' hl' | rw [text0_cps] at hsc' hl'
    have hcb : cnt.length ≤ 200 ∧ b ≤ 200 := (by first | (have q9 := textC_length (ns := ns.map fun k => k - 1) (fun m hm => by obtain ⟨n, hn, rfl⟩ := List.mem_map.mp hm; have := hns n hn; omega); rw [List.length_map] at q9; omega) | (have q9 := textC_length (ns := ns) (fun m hm => (hns m hm).2); omega))
    clear hl'
    (try dsimp only)
  k_with "call ref" =>
    k_dflt (show wpAny _ _ (call (Value.ref 110) [Value.ref _, Value.ref _]) _ _ _)
    (rename Fr _ _ _ _ => oF)
    (rename News _ _ _ _ => oN)
    have hst := I.back _ _ _ oF oN (by k_allIn)
    k_dflt (refine' fn_use (new_says _ _ _ _ _ _ _ _ _ _ _ _ _ _ _ _ _ _ _ ?hI ?hlen _ _ _ _ _ _ _ _ _ _ _ _ _ _ _ _ _ _ ?hI' ?hlen' ?hb ?hb') ?B oF ?X ?T ?hh ?hA ?hf ?hk ?hd ?hu oN ?hal ?hp ?_; (case B => k_asm); (case X => k_asm); (case T => k_asm); (case hh => exact rfl); (case hA => exact rfl); (case hf => exact rfl); (case hk => exact rfl); (case hal => (simp only [wsAl, List.cons_append, List.nil_append]; k_allIn)); (case hI => assumption); (case hI' => assumption); (case hlen => omega); (case hlen' => omega); (case hb => omega); (case hb' => omega); (case hp => trivial); (case hd => (have q9 := I.room; simp only [depth_deeper]; omega)); (case hu => (have q9 := I.units; simp only [units_deeper]; omega)))
    intro r' h' tk' hs' F' N' hn' ho'
    obtain ⟨v, v', lg, lg', hw⟩ := ho'
    exact hret _ _ _ (fun b o e => hs' b o (hst b o e)) ⟨_, _, _, _, _, _, _, _, by assumption, by assumption, lg, lg', wit_weaken hst hw⟩
  k_steps
end Mine

namespace Mine
/-! the sort of fewer than 64 items, on keys that are ints -/
def KP (key : Nat → Int) (p : Array Nat) (i : Nat) : Int := key (p.getD i 0)
def SortedP (key : Nat → Int) (p : Array Nat) (k : Nat) : Prop := ∀ i j, i ≤ j → j < k → KP key p i ≤ KP key p j
def NonIncP (key : Nat → Int) (p : Array Nat) (k : Nat) : Prop := ∀ i j, i ≤ j → j < k → KP key p j ≤ KP key p i
def OkP (n : Nat) (p : Array Nat) : Prop := p.Perm (List.range n).toArray
theorem OkP.size {n : Nat} {p : Array Nat} (h : OkP n p) : p.size = n := by have := Array.Perm.size_eq h; simpa using this
theorem OkP.lt {n : Nat} {p : Array Nat} (h : OkP n p) (hn : 0 < n) (i : Nat) : p.getD i 0 < n := by
  by_cases hi : i < p.size
  · have e : p.getD i 0 = p[i] := by simp [Array.getD, hi]
    have hm : p[i] ∈ p.toList := by simp
    have := (Array.perm_iff_toList_perm.mp h).mem_iff.mp hm
    rw [e]; simpa using this
  · have e : p.getD i 0 = 0 := by simp [Array.getD, hi]
    rw [e]; exact hn
theorem KP_of {key : Nat → Int} {p q : Array Nat} {i j : Nat} (h : p[i]? = q[j]?) : KP key p i = KP key q j := by
  unfold KP
  rw [Array.getD_eq_getD_getElem?, Array.getD_eq_getD_getElem?, h]
theorem KP_rev {key : Nat → Int} {p : Array Nat} {i j : Nat} (hj : j ≤ p.size) (k : Nat) : KP key (kas_rev p i j) k = if i ≤ k ∧ k < j then KP key p (i + j - 1 - k) else KP key p k := by
  have h := getElem?_mirror (xs := p) (i := i) hj ((j - i) / 2) (by omega) k
  by_cases h1 : i ≤ k ∧ k < j
  · rw [if_pos h1]
    by_cases h2 : (i ≤ k ∧ k < i + (j - i) / 2) ∨ (j - (j - i) / 2 ≤ k ∧ k < j)
    · rw [if_pos h2] at h; exact KP_of h
    · rw [if_neg h2] at h
      rw [show i + j - 1 - k = k by omega]; exact KP_of h
  · rw [if_neg h1]
    rw [if_neg (by omega)] at h; exact KP_of h
theorem KP_bubble {key : Nat → Int} {p : Array Nat} {src d : Nat} (hs : src < p.size) (hd : d ≤ src) (k : Nat) : KP key (bubble p src d) k = if k = src - d then KP key p src else if src - d < k ∧ k ≤ src then KP key p (k - 1) else KP key p k := by
  have h := getElem?_bubble hs d hd k
  split
  · rename_i h1; rw [if_pos h1] at h; exact KP_of h
  · rename_i h1; rw [if_neg h1] at h
    split
    · rename_i h2; rw [if_pos h2] at h; exact KP_of h
    · rename_i h2; rw [if_neg h2] at h; exact KP_of h
theorem OkP.rev {n : Nat} {p : Array Nat} (h : OkP n p) (i j : Nat) : OkP n (kas_rev p i j) := (mirror_perm _ _ _ _).trans h
theorem OkP.bub {n : Nat} {p : Array Nat} (h : OkP n p) (i j : Nat) : OkP n (bubble p i j) := (bubble_perm _ _ _).trans h
theorem SortedP.succ {key : Nat → Int} {p : Array Nat} {a : Nat} (h : SortedP key p a) (h1 : 1 ≤ a) (hk : KP key p (a - 1) ≤ KP key p a) : SortedP key p (a + 1) := by
  intro i j hij hj
  by_cases h2 : j < a
  · exact h i j hij h2
  · have : j = a := by omega
    subst this
    by_cases h3 : i = j
    · subst h3; exact Int.le_refl _
    · exact Int.le_trans (h i (j - 1) (by omega) (by omega)) hk
theorem NonIncP.succ {key : Nat → Int} {p : Array Nat} {a : Nat} (h : NonIncP key p a) (h1 : 1 ≤ a) (hk : KP key p a ≤ KP key p (a - 1)) : NonIncP key p (a + 1) := by
  intro i j hij hj
  by_cases h2 : j < a
  · exact h i j hij h2
  · have : j = a := by omega
    subst this
    by_cases h3 : i = j
    · subst h3; exact Int.le_refl _
    · exact Int.le_trans hk (h i (j - 1) (by omega) (by omega))

section
variable {n : Nat} {key : Nat → Int} {Inv : Shared → Prop} {cmp : Nat → Nat → (Bool → Shared → Prop) → Shared → Prop}

theorem asc_ok (hn : 0 < n) (hc : ∀ i j C s, i < n → j < n → Inv s → (∀ s', Inv s' → C (decide (key i < key j)) s') → cmp i j C s) {p : Array Nat} (hp : OkP n p) {nrem : Nat} {Q : Nat → Shared → Prop} :
    ∀ (f a : Nat) (s : Shared), a + f = nrem → 1 ≤ a → SortedP key p a → Inv s → (∀ m s', a ≤ m → m ≤ nrem → SortedP key p m → (m = nrem ∨ KP key p m < KP key p (m - 1)) → Inv s' → Q m s') → (kas_asc p f a).kasWp cmp Q s
  | 0, a, s, e, _, hs, hi, h => h a s (Nat.le_refl _) (by omega) hs (.inl (by omega)) hi
  | f + 1, a, s, e, h1, hs, hi, h => by
    refine hc _ _ _ _ (hp.lt hn _) (hp.lt hn _) hi fun s' hi' => ?_
    show ((if decide (KP key p a < KP key p (a - 1)) = true then KasT.ret a else kas_asc p f (a + 1)).kasWp cmp Q s')
    by_cases hl : KP key p a < KP key p (a - 1)
    · rw [if_pos (by simpa using hl)]
      exact h a s' (Nat.le_refl _) (by omega) hs (.inr hl) hi'
    · rw [if_neg (by simpa using hl)]
      exact asc_ok hn hc hp f (a + 1) s' (by omega) (by omega) (hs.succ h1 (by omega)) hi' fun m s'' q1 q2 q3 q4 q5 => h m s'' (by omega) q2 q3 q4 q5

theorem desc_ok (hn : 0 < n) (hc : ∀ i j C s, i < n → j < n → Inv s → (∀ s', Inv s' → C (decide (key i < key j)) s') → cmp i j C s) {nrem : Nat} (hr : nrem ≤ n) {Q : Array Nat × Nat × Nat → Shared → Prop} :
    ∀ (f : Nat) (p : Array Nat) (a q : Nat) (s : Shared), OkP n p → a + f = nrem → q + 1 ≤ a → NonIncP key p a → (∀ i, a - (q + 1) ≤ i → i < a → KP key p i = KP key p (a - 1)) → Inv s →
      (∀ p' m q' s', OkP n p' → a ≤ m → m ≤ nrem → q' + 1 ≤ m → NonIncP key p' m → (∀ i, m - (q' + 1) ≤ i → i < m → KP key p' i = KP key p' (m - 1)) → Inv s' → Q (p', m, q') s') → (kas_desc f p a q).kasWp cmp Q s
  | 0, p, a, q, s, hp, e, hq, hs, he, hi, h => h p a q s hp (Nat.le_refl _) (by omega) hq hs he hi
  | f + 1, p, a, q, s, hp, e, hq, hs, he, hi, h => by
    refine hc _ _ _ _ (hp.lt hn _) (hp.lt hn _) hi fun s' hi' => ?_
    have hsz := hp.size
    show ((if decide (KP key p a < KP key p (a - 1)) = true then (if q > 0 then kas_desc f (kas_rev p (a - (q + 1)) a) (a + 1) 0 else kas_desc f p (a + 1) 0)
      else KasT.ask (p.getD (a - 1) 0) (p.getD a 0) fun d => if d = true then .ret (p, a, q) else kas_desc f p (a + 1) (q + 1)).kasWp cmp Q s')
    by_cases hl : KP key p a < KP key p (a - 1)
    · rw [if_pos (by simpa using hl)]
      by_cases h0 : q > 0
      · rw [if_pos h0]
        have hK : ∀ k, KP key (kas_rev p (a - (q + 1)) a) k = KP key p k := by
          intro k
          rw [KP_rev (by omega)]
          split
          · rw [he _ (by omega) (by omega), he k (by omega) (by omega)]
          · rfl
        refine desc_ok hn hc hr f _ (a + 1) 0 s' (hp.rev _ _) (by omega) (by omega) ?_ (fun i h1 h2 => by congr 1; omega) hi' fun p' m q' s'' r1 r2 r3 r4 r5 r6 r7 => h p' m q' s'' r1 (by omega) r3 r4 r5 r6 r7
        have := hs.succ (by omega) (Int.le_of_lt hl)
        intro i j hij hj
        rw [hK, hK]; exact this i j hij hj
      · rw [if_neg h0]
        exact desc_ok hn hc hr f p (a + 1) 0 s' hp (by omega) (by omega) (hs.succ (by omega) (Int.le_of_lt hl)) (fun i h1 h2 => by congr 1; omega) hi' fun p' m q' s'' r1 r2 r3 r4 r5 r6 r7 => h p' m q' s'' r1 (by omega) r3 r4 r5 r6 r7
    · rw [if_neg (by simpa using hl)]
      refine hc _ _ _ _ (hp.lt hn _) (hp.lt hn _) hi' fun s2 hi2 => ?_
      show ((if decide (KP key p (a - 1) < KP key p a) = true then KasT.ret (p, a, q) else kas_desc f p (a + 1) (q + 1)).kasWp cmp Q s2)
      by_cases hg : KP key p (a - 1) < KP key p a
      · rw [if_pos (by simpa using hg)]
        exact h p a q s2 hp (Nat.le_refl _) (by omega) hq hs he hi2
      · rw [if_neg (by simpa using hg)]
        have heq : KP key p a = KP key p (a - 1) := by omega
        refine desc_ok hn hc hr f p (a + 1) (q + 1) s2 hp (by omega) (by omega) (hs.succ (by omega) (by omega)) (fun i h1 h2 => ?_) hi2 fun p' m q' s'' r1 r2 r3 r4 r5 r6 r7 => h p' m q' s'' r1 (by omega) r3 r4 r5 r6 r7
        rw [show a + 1 - 1 = a by omega, heq]
        by_cases hia : i = a
        · subst hia; exact heq
        · exact he i (by omega) (by omega)

theorem tail3_ok (hn : 0 < n) (hc : ∀ i j C s, i < n → j < n → Inv s → (∀ s', Inv s' → C (decide (key i < key j)) s') → cmp i j C s) {nrem : Nat} (hr : nrem ≤ n) {Q : Nat × Array Nat → Shared → Prop} {p : Array Nat} {a : Nat} {s : Shared} (hp : OkP n p) (h1 : 1 ≤ a) (ha : a ≤ nrem) (hs : NonIncP key p a) (hi : Inv s)
    (h : ∀ m p' s', OkP n p' → 1 ≤ m → m ≤ nrem → SortedP key p' m → Inv s' → Q (m, p') s') : (kas_tail3 a nrem p).kasWp cmp Q s := by
  unfold kas_tail3
  rw [KasT.kasWp_bind]
  have hsz := hp.size
  refine asc_ok (nrem := nrem) hn hc (hp.rev 0 a) (nrem - a) a s (by omega) h1 ?_ hi fun m s' q1 q2 q3 _ q5 => h m _ s' (hp.rev 0 a) (by omega) q2 q3 q5
  intro i j hij hj
  rw [KP_rev (by omega), KP_rev (by omega), if_pos (by omega), if_pos (by omega)]
  exact hs _ _ (by omega) (by omega)

theorem descPart_ok (hn : 0 < n) (hc : ∀ i j C s, i < n → j < n → Inv s → (∀ s', Inv s' → C (decide (key i < key j)) s') → cmp i j C s) {nrem : Nat} (hr : nrem ≤ n) {Q : Nat × Array Nat → Shared → Prop} {p : Array Nat} {a : Nat} {s : Shared} (hp : OkP n p) (ha : a + 1 ≤ nrem) (hs : NonIncP key p (a + 1)) (hi : Inv s)
    (h : ∀ m p' s', OkP n p' → 1 ≤ m → m ≤ nrem → SortedP key p' m → Inv s' → Q (m, p') s') : (kas_descPart a nrem p).kasWp cmp Q s := by
  unfold kas_descPart
  rw [KasT.kasWp_bind]
  refine desc_ok hn hc hr (nrem - (a + 1)) p (a + 1) 0 s hp (by omega) (by omega) hs (fun i h1 h2 => by congr 1; omega) hi fun p' m q' s' r1 r2 r3 r4 r5 r6 r7 => ?_
  have hsz := r1.size
  show ((if q' > 0 then kas_tail3 m nrem (kas_rev p' (m - (q' + 1)) m) else kas_tail3 m nrem p').kasWp cmp Q s')
  by_cases h0 : q' > 0
  · rw [if_pos h0]
    have hK : ∀ k, KP key (kas_rev p' (m - (q' + 1)) m) k = KP key p' k := by
      intro k
      rw [KP_rev (by omega)]
      split
      · rw [r6 _ (by omega) (by omega), r6 k (by omega) (by omega)]
      · rfl
    refine tail3_ok hn hc hr (r1.rev _ _) (by omega) r3 ?_ r7 h
    intro i j hij hj
    rw [hK, hK]; exact r5 i j hij hj
  · rw [if_neg h0]
    exact tail3_ok hn hc hr r1 (by omega) r3 r5 r7 h

theorem count_ok (hn : 0 < n) (hc : ∀ i j C s, i < n → j < n → Inv s → (∀ s', Inv s' → C (decide (key i < key j)) s') → cmp i j C s) {nrem : Nat} (hr : nrem ≤ n) (h1 : 1 ≤ nrem) {Q : Nat × Array Nat → Shared → Prop} {p : Array Nat} {s : Shared} (hp : OkP n p) (hi : Inv s)
    (h : ∀ m p' s', OkP n p' → 1 ≤ m → m ≤ nrem → SortedP key p' m → Inv s' → Q (m, p') s') : (kas_count nrem p).kasWp cmp Q s := by
  unfold kas_count
  rw [KasT.kasWp_bind]
  refine asc_ok (nrem := nrem) hn hc hp (nrem - 1) 1 s (by omega) (Nat.le_refl _) (fun i j hij hj => by have : i = j := (by omega); subst this; exact Int.le_refl _) hi fun m s' q1 q2 q3 q4 q5 => ?_
  have hsz := hp.size
  by_cases he : m = nrem
  · rw [if_pos (by simpa using he)]
    exact h m p s' hp q1 q2 q3 q5
  · rw [if_neg (by simpa using he)]
    have hlt : KP key p m < KP key p (m - 1) := q4.resolve_left he
    by_cases hm : m > 1
    · rw [if_pos hm]
      refine hc _ _ _ _ (hp.lt hn _) (hp.lt hn _) q5 fun s2 hi2 => ?_
      show ((if decide (KP key p 0 < KP key p (m - 1)) = true then KasT.ret (m, p) else kas_descPart m nrem (kas_rev p 0 m)).kasWp cmp Q s2)
      by_cases h0 : KP key p 0 < KP key p (m - 1)
      · rw [if_pos (by simpa using h0)]
        exact h m p s2 hp q1 q2 q3 hi2
      · rw [if_neg (by simpa using h0)]
        have hall : ∀ k, k < m → KP key p k = KP key p (m - 1) := by
          intro k hk
          have a1 := q3 0 k (by omega) hk
          have a2 := q3 k (m - 1) (by omega) (by omega)
          omega
        have hK : ∀ k, KP key (kas_rev p 0 m) k = KP key p k := by
          intro k
          rw [KP_rev (by omega)]
          split
          · rw [hall _ (by omega), hall k (by omega)]
          · rfl
        refine descPart_ok hn hc hr (hp.rev _ _) (by omega) ?_ hi2 h
        intro i j hij hj
        rw [hK, hK]
        by_cases hjm : j < m
        · rw [hall i (by omega), hall j hjm]; exact Int.le_refl _
        · have : j = m := by omega
          subst this
          by_cases hi' : i = j
          · subst hi'; exact Int.le_refl _
          · rw [hall i (by omega)]; exact Int.le_of_lt hlt
    · rw [if_neg hm]
      have : m = 1 := by omega
      subst this
      refine descPart_ok hn hc hr hp (by omega) ?_ q5 h
      intro i j hij hj
      by_cases hi' : i = j
      · subst hi'; exact Int.le_refl _
      · have h0 : i = 0 := by omega
        have h1 : j = 1 := by omega
        subst h0; subst h1
        exact Int.le_of_lt hlt

theorem place_ok (hn : 0 < n) (hc : ∀ i j C s, i < n → j < n → Inv s → (∀ s', Inv s' → C (decide (key i < key j)) s') → cmp i j C s) {p : Array Nat} (hp : OkP n p) {k : Nat} (hs : SortedP key p k) {Q : Nat → Shared → Prop} :
    ∀ (f l r : Nat) (s : Shared), l ≤ r → r ≤ k → r - l ≤ f → (∀ i, i < l → KP key p i ≤ KP key p k) → (∀ i, r ≤ i → i < k → KP key p k < KP key p i) → Inv s →
      (∀ l' s', l' ≤ k → (∀ i, i < l' → KP key p i ≤ KP key p k) → (∀ i, l' ≤ i → i < k → KP key p k < KP key p i) → Inv s' → Q l' s') → (kas_place p k f l r).kasWp cmp Q s
  | 0, l, r, s, h1, h2, h3, hlo, hhi, hi, h => h l s (by omega) hlo (fun i q1 q2 => hhi i (by omega) q2) hi
  | f + 1, l, r, s, h1, h2, h3, hlo, hhi, hi, h => by
    show ((if l ≥ r then KasT.ret l else .ask (p.getD k 0) (p.getD ((l + r) / 2) 0) fun c => if c = true then kas_place p k f l ((l + r) / 2) else kas_place p k f ((l + r) / 2 + 1) r).kasWp cmp Q s)
    by_cases hge : l ≥ r
    · rw [if_pos hge]
      exact h l s (by omega) hlo (fun i q1 q2 => hhi i (by omega) q2) hi
    · rw [if_neg hge]
      refine hc _ _ _ _ (hp.lt hn _) (hp.lt hn _) hi fun s' hi' => ?_
      show ((if decide (KP key p k < KP key p ((l + r) / 2)) = true then kas_place p k f l ((l + r) / 2) else kas_place p k f ((l + r) / 2 + 1) r).kasWp cmp Q s')
      by_cases hl : KP key p k < KP key p ((l + r) / 2)
      · rw [if_pos (by simpa using hl)]
        refine place_ok hn hc hp hs f l ((l + r) / 2) s' (by omega) (by omega) (by omega) hlo (fun i q1 q2 => ?_) hi' h
        have := hs ((l + r) / 2) i q1 q2
        omega
      · rw [if_neg (by simpa using hl)]
        refine place_ok hn hc hp hs f ((l + r) / 2 + 1) r s' (by omega) h2 (by omega) (fun i q1 => ?_) hhi hi' h
        have := hs i ((l + r) / 2) (by omega) (by omega)
        omega

theorem bin_ok (hn : 0 < n) (hc : ∀ i j C s, i < n → j < n → Inv s → (∀ s', Inv s' → C (decide (key i < key j)) s') → cmp i j C s) {Q : Array Nat → Shared → Prop} (h : ∀ p s, OkP n p → SortedP key p n → Inv s → Q p s) :
    ∀ (f : Nat) (p : Array Nat) (k : Nat) (s : Shared), OkP n p → k + f = n → SortedP key p k → Inv s → (kas_bin f p k).kasWp cmp Q s
  | 0, p, k, s, hp, e, hs, hi => h p s hp (by rwa [show k = n by omega] at hs) hi
  | f + 1, p, k, s, hp, e, hs, hi => by
    show (((kas_place p k k 0 k).bind fun l => kas_bin f (bubble p k (k - l)) (k + 1)).kasWp cmp Q s)
    rw [KasT.kasWp_bind]
    have hsz := hp.size
    refine place_ok hn hc hp hs k 0 k s (by omega) (by omega) (by omega) (fun i q => by omega) (fun i q1 q2 => by omega) hi fun l s' q1 q2 q3 q4 => ?_
    refine bin_ok hn hc h f _ (k + 1) s' (hp.bub _ _) (by omega) ?_ q4
    intro i j hij hj
    rw [KP_bubble (by omega) (by omega), KP_bubble (by omega) (by omega), show k - (k - l) = l by omega]
    repeat' split
    all_goals first
      | (exfalso; omega)
      | exact Int.le_refl _
      | exact q2 _ (by omega)
      | exact Int.le_of_lt (q3 _ (by omega) (by omega))
      | exact hs _ _ (by omega) (by omega)

theorem sort_ok (h2 : 2 ≤ n) (hc : ∀ i j C s, i < n → j < n → Inv s → (∀ s', Inv s' → C (decide (key i < key j)) s') → cmp i j C s) {Q : Array Nat → Shared → Prop} {s : Shared} (hi : Inv s) (h : ∀ p s, OkP n p → SortedP key p n → Inv s → Q p s) : (kas_sort n).kasWp cmp Q s := by
  have hn : 0 < n := by omega
  unfold kas_sort
  rw [KasT.kasWp_bind]
  refine count_ok hn hc (Nat.le_refl n) (by omega) (Array.Perm.refl _) hi fun m p' s' q1 q2 q3 q4 q5 => ?_
  show ((if m < n then kas_bin (n - max m 1) p' (max m 1) else .ret p').kasWp cmp Q s')
  by_cases hl : m < n
  · rw [if_pos hl, show max m 1 = m by omega]
    exact bin_ok hn hc h (n - m) p' m s' q1 (by omega) q4 q5
  · rw [if_neg hl]
    exact h p' s' q1 (by rwa [show m = n by omega] at q4) q5
end
end Mine

namespace Mine

/-- a list of pairs of ints -/
inductive PairsAre (tl : List (Addr × Obj)) : List Value → List (Int × Int) → Prop
  | nil : PairsAre tl [] []
  | cons {T : Addr} {a b : Int} {ta tb : Tok} {vs : List Value} {ds : List (Int × Int)} : (T, ({ cls := .type "tuple", data := .seq #[.int a ta, .int b tb] } : Obj)) ∈ tl → PairsAre tl vs ds → PairsAre tl (.ref T :: vs) ((a, b) :: ds)
theorem PairsAre.mono {tl tl' : List (Addr × Obj)} {vs : List Value} {ds : List (Int × Int)} (h : PairsAre tl vs ds) (hs : ∀ p ∈ tl, p ∈ tl') : PairsAre tl' vs ds := by
  induction h with
  | nil => exact .nil
  | cons hm _ ih => exact .cons (hs _ hm) ih
theorem PairsAre.append {tl : List (Addr × Obj)} {vs ws : List Value} {ds es : List (Int × Int)} (h : PairsAre tl vs ds) (k : PairsAre tl ws es) : PairsAre tl (vs ++ ws) (ds ++ es) := by
  induction h with
  | nil => exact k
  | cons hm _ ih => exact .cons hm ih
theorem PairsAre.length {tl : List (Addr × Obj)} {vs : List Value} {ds : List (Int × Int)} (h : PairsAre tl vs ds) : vs.length = ds.length := by
  induction h with
  | nil => rfl
  | cons _ _ ih => simp [ih]
theorem PairsAre.get {tl : List (Addr × Obj)} {vs : List Value} {ds : List (Int × Int)} (h : PairsAre tl vs ds) : ∀ {i : Nat}, i < vs.length → ∃ T ta tb, vs.getD i .none = .ref T ∧ (T, ({ cls := .type "tuple", data := .seq #[.int (ds.getD i (0, 0)).1 ta, .int (ds.getD i (0, 0)).2 tb] } : Obj)) ∈ tl := by
  induction h with
  | nil => intro i h; simp at h
  | @cons T a b ta tb vs ds hm _ ih =>
    intro i h
    cases i with
    | zero => exact ⟨T, ta, tb, rfl, hm⟩
    | succ i =>
      obtain ⟨T', ta', tb', e, hm'⟩ := ih (i := i) (by simpa using h)
      exact ⟨T', ta', tb', by simpa using e, by simpa using hm'⟩
theorem PairsAre.pick {tl : List (Addr × Obj)} {vs : List Value} {ds : List (Int × Int)} (h : PairsAre tl vs ds) : ∀ {l : List Nat}, (∀ i ∈ l, i < vs.length) → PairsAre tl (l.map fun i => vs.getD i .none) (l.map fun i => ds.getD i (0, 0))
  | [], _ => .nil
  | i :: l, hl => by
    obtain ⟨T, ta, tb, e, hm⟩ := h.get (hl i (.head _))
    show PairsAre tl (vs.getD i .none :: _) (ds.getD i (0, 0) :: _)
    rw [e]
    exact .cons hm (h.pick fun j hj => hl j (.tail _ hj))
theorem PairsAre.tups {tl : List (Addr × Obj)} {h₀ h : Heap} {L : Addr} (N : News h₀ L h tl) {vs : List Value} {ds : List (Int × Int)} (hp : PairsAre tl vs ds) : ∃ fs, KatTups h vs fs ∧ fs.length = vs.length ∧ ∀ v ∈ fs, ∃ a t, v = .int a t := by
  induction hp with
  | nil => exact ⟨[], .nil, rfl, fun _ h => nomatch h⟩
  | @cons T a b ta tb vs ds hm _ ih =>
    obtain ⟨fs, h1, h2, h3⟩ := ih
    refine ⟨.int a ta :: fs, .cons (N _ hm).1 rfl rfl rfl h1, by simp [h2], fun v hv => ?_⟩
    rcases List.mem_cons.mp hv with rfl | hv
    · exact ⟨a, ta, rfl⟩
    · exact h3 v hv

def enc (d : Int × Int) : Int := 16 * d.1 + d.2
theorem enc_lt {x y : Int × Int} (hx : 0 ≤ x.2 ∧ x.2 < 16) (hy : 0 ≤ y.2 ∧ y.2 < 16) : enc x < enc y ↔ (x.1 < y.1 ∨ (x.1 = y.1 ∧ x.2 < y.2)) := by
  unfold enc; omega

section
variable {prog : Program} {w : World} {A : Around} {E : Value → Shared → Prop} {s : Shared} {h₀ : Heap} {L : Addr} {m : Str → Option Value}

theorem pair_lt {T U : Addr} {a b c d : Int} {ta tb tc td : Tok} {C : Bool → Shared → Prop} (hT : s.heap.get? T = some ({ cls := .type "tuple", data := .seq #[.int a ta, .int b tb] } : Obj)) (hU : s.heap.get? U = some ({ cls := .type "tuple", data := .seq #[.int c tc, .int d td] } : Obj))
    (h : C (decide (a < c ∨ (a = c ∧ b < d))) s) : wpAny (model prog w) A (keyLt' (tuples' true) (.ref T) (.ref U)) C E s := by
  refine kat_lt hT rfl hU rfl ?_
  show KatLex prog w A true (decide ((2 : Nat) < 2)) C [(.int a ta, .int c tc), (.int b tb, .int d td)] 0 s
  refine kat_cons (wpAny_eqBool_int ?_)
  by_cases h1 : a = c
  · have e1 : (a == c) = true := by simpa using h1
    rw [e1]
    refine kat_yes (kat_cons (wpAny_eqBool_int ?_))
    by_cases h2 : b = d
    · have e2 : (b == d) = true := by simpa using h2
      rw [e2]
      refine kat_yes (kat_nil ?_)
      have : decide (a < c ∨ (a = c ∧ b < d)) = decide ((2 : Nat) < 2) := by
        rw [decide_eq_false (by omega), decide_eq_false (by omega)]
      rw [← this]; exact h
    · have e2 : (b == d) = false := by simpa using h2
      rw [e2]
      refine kat_no (kat_one _ _ (PyProof.Rows.lt_int ?_))
      show C (decide (b < d)) s
      have : decide (a < c ∨ (a = c ∧ b < d)) = decide (b < d) := by
        by_cases h3 : b < d
        · rw [decide_eq_true h3, decide_eq_true (.inr ⟨h1, h3⟩)]
        · rw [decide_eq_false h3, decide_eq_false (by omega)]
      rw [← this]; exact h
  · have e1 : (a == c) = false := by simpa using h1
    rw [e1]
    refine kat_no (oneLt_int ?_)
    have : decide (a < c ∨ (a = c ∧ b < d)) = decide (a < c) := by
      by_cases h3 : a < c
      · rw [decide_eq_true h3, decide_eq_true (.inl h3)]
      · rw [decide_eq_false h3, decide_eq_false (by omega)]
    rw [← this]; exact h

theorem sorted_pairs {l : Addr} {k : Nat} {vs : List Value} {ds : List (Int × Int)} {news tl : List (Addr × Obj)} {Q : Value → Shared → Prop} (F : Fr h₀ L s.heap m) (N : News h₀ L s.heap news) (hl : (l, listOf vs.toArray k) ∈ news) (hp : PairsAre tl vs ds) (htl : ∀ p ∈ tl, p ∈ news)
    (h2 : 2 ≤ vs.length) (h64 : vs.length < 64) (hb : ∀ d ∈ ds, 0 ≤ d.2 ∧ d.2 < 16)
    (h : ∀ D e h' vs' ds', Fr h₀ L h' m → News h₀ L h' ((D, listOf vs'.toArray e) :: news) → (∀ q ∈ news, q.1 < D) → PairsAre tl vs' ds' → ds'.Perm ds → ds'.Pairwise (fun x y => enc x ≤ enc y) → Q (.ref D) { s with heap := h' }) :
    wpAny (model prog w) A (call (.builtin "sorted") [.ref l]) Q E s := by
  refine kat_sorted F N (News.isList N hl) h2 h64 fun D e1 h' F' N' hlt => ?_
  have N2 : News h₀ L h' tl := fun p hp => N' p (.tail _ (htl p hp))
  obtain ⟨fs, k1, k2, k3⟩ := hp.tups N2
  have hlen := hp.length
  refine kat_kind (T := .type "int") k1 (by omega) (fun v hv => by obtain ⟨a, t, rfl⟩ := k3 v hv; exact Looks.of_pure rfl) rfl ?_
  have hk : ((Value.type "int") != (Value.type "tuple")) = true := by decide
  rw [hk]
  have hbD : ∀ i, 0 ≤ (ds.getD i (0, 0)).2 ∧ (ds.getD i (0, 0)).2 < 16 := by
    intro i
    by_cases hi : i < ds.length
    · have e : ds.getD i (0, 0) = ds[i] := by simp [hi]
      rw [e]; exact hb _ (List.getElem_mem hi)
    · have e : ds.getD i (0, 0) = (0, 0) := by simp [Nat.le_of_not_lt hi]
      rw [e]; decide
  refine sort_ok (Inv := fun s' => s' = { s with heap := h' }) (key := fun i => enc (ds.getD i (0, 0))) h2 ?_ rfl ?_
  · rintro i j C s' hi hj rfl hC
    obtain ⟨T, ta, tb, e, hm⟩ := hp.get hi
    obtain ⟨U, tc, td, e', hm'⟩ := hp.get hj
    unfold kas_ask
    rw [e, e']
    refine pair_lt (N2 _ hm).1 (N2 _ hm').1 ?_
    have := hC _ rfl
    have e2 : decide (enc (ds.getD i (0, 0)) < enc (ds.getD j (0, 0))) = decide ((ds.getD i (0, 0)).1 < (ds.getD j (0, 0)).1 ∨ ((ds.getD i (0, 0)).1 = (ds.getD j (0, 0)).1 ∧ (ds.getD i (0, 0)).2 < (ds.getD j (0, 0)).2)) :=
      decide_eq_decide.mpr (enc_lt (hbD i) (hbD j))
    rw [← e2]; exact this
  · rintro p s' hok hs rfl
    refine KasFin.intro F' N' (.head fun q hq => Nat.ne_of_lt (hlt q hq)) fun h'' c F'' N'' => ?_
    have hperm := Array.perm_iff_toList_perm.mp hok
    have hin : ∀ i ∈ p.toList, i < vs.length := fun i hi => by have := hperm.mem_iff.mp hi; simpa using this
    refine h D c h'' _ (p.toList.map fun i => ds.getD i (0, 0)) F'' N'' hlt (hp.pick hin) ?_ ?_
    · refine (hperm.map _).trans ?_
      have e : (List.range vs.length).toArray.toList.map (fun i => ds.getD i (0, 0)) = ds := by
        rw [List.toList_toArray, hlen]
        apply List.ext_getElem
        · simp
        · intro i h1 h2; simp [h2]
      rw [e]
    · rw [List.pairwise_map]
      refine List.pairwise_iff_getElem.mpr fun i j hi hj hij => ?_
      have hsz := hok.size
      have := hs i j (Nat.le_of_lt hij) (by rw [Array.length_toList] at hj; omega)
      unfold KP at this
      rw [Array.length_toList] at hi hj
      simpa [Array.getD, hi, hj] using this
end
end Mine

namespace Mine

theorem shared_int (w : World) (a b : Int) (ha : 0 ≤ a) (hb : 0 ≤ b) (ta tb : Tok) : Fn w 1 40 148 [.int a ta, .int b tb] [] (fun _ => True) (fun _ _ r => ∃ t, r = .int ((Int.gcd a b : Nat) : Int) t) := by
  obtain ⟨n, rfl⟩ := Int.eq_ofNat_of_zero_le ha
  obtain ⟨k, rfl⟩ := Int.eq_ofNat_of_zero_le hb
  exact shared_says w n k ta tb

/-- the fractions m / u, m from 1 to k, brought to lowest terms -/
def innerF (u : Int) : Nat → List (Int × Int)
  | 0 => []
  | k + 1 => innerF u k ++ [(Int.fdiv u ((Int.gcd u (1 + (k : Int)) : Nat) : Int), Int.fdiv (1 + (k : Int)) ((Int.gcd u (1 + (k : Int)) : Nat) : Int))]
def fracs (ns : List Int) : List (Int × Int) := (ns.map fun u => innerF u u.toNat).flatten
theorem innerF_length (u : Int) : ∀ k, (innerF u k).length = k
  | 0 => rfl
  | k + 1 => by simp [innerF, innerF_length u k]
theorem fracs_snoc {ns : List Int} {i : Nat} {u : Int} (h : ns[i]? = some u) : fracs (ns.take (i + 1)) = fracs (ns.take i) ++ innerF u u.toNat := by
  have e : ns.take (i + 1) = ns.take i ++ [u] := by simp [List.take_add_one, h]
  rw [e]; simp [fracs]
theorem fracs_le {ns : List Int} (h : ∀ n ∈ ns, n ≤ 10) : (fracs ns).length ≤ 10 * ns.length := by
  induction ns with
  | nil => simp [fracs]
  | cons n r ih =>
    have h1 := ih fun m hm => h m (.tail _ hm)
    have h2 := h n (.head _)
    have e : fracs (n :: r) = innerF n n.toNat ++ fracs r := rfl
    rw [e, List.length_append, innerF_length, List.length_cons]; omega
theorem gcd_pos {u k : Int} (h : 1 ≤ k) : 1 ≤ ((Int.gcd u k : Nat) : Int) := by
  have : 0 < Int.gcd u k := Int.gcd_pos_of_ne_zero_right _ (by omega)
  omega

theorem gcd_le10 {u k : Int} (h1 : 1 ≤ u) (h2 : u ≤ 10) : ((Int.gcd u k : Nat) : Int) ≤ 10 := by
  have := Int.le_of_dvd (by omega) (Int.gcd_dvd_left u k)
  omega

theorem fdiv_le {a g : Int} (h0 : 0 ≤ a) (hg : 1 ≤ g) : 0 ≤ Int.fdiv a g ∧ Int.fdiv a g ≤ a := by
  have e : Int.fdiv a g = a / g := Int.fdiv_eq_ediv_of_nonneg _ (by omega)
  rw [e]
  exact ⟨Int.ediv_nonneg h0 (by omega), Int.ediv_le_self _ h0⟩
theorem innerF_snd {u : Int} : ∀ {k : Nat} {d : Int × Int}, d ∈ innerF u k → 0 ≤ d.2 ∧ d.2 ≤ k
  | 0, d, h => nomatch h
  | k + 1, d, h => by
    rcases List.mem_append.mp h with h | h
    · have := innerF_snd h; omega
    · rw [List.mem_singleton.mp h]
      have := fdiv_le (a := 1 + (k : Int)) (g := ((Int.gcd u (1 + (k : Int)) : Nat) : Int)) (by omega) (gcd_pos (by omega))
      dsimp only; omega
theorem fracs_snd {ns : List Int} (h : ∀ n ∈ ns, 1 ≤ n ∧ n ≤ 10) {d : Int × Int} (hd : d ∈ fracs ns) : 0 ≤ d.2 ∧ d.2 < 16 := by
  obtain ⟨l, hl, hd⟩ := List.mem_flatten.mp hd
  obtain ⟨u, hu, rfl⟩ := List.mem_map.mp hl
  have := innerF_snd hd
  have := h u hu
  omega
theorem pair_more {tl : List (Addr × Obj)} {vs : List Value} {ds : List (Int × Int)} {u : Int} {j : Nat} {T : Addr} {ta tb : Tok} (h : PairsAre tl vs (ds ++ innerF u j)) :
    PairsAre ((T, ({ cls := .type "tuple", data := .seq #[.int (Int.fdiv u ((Int.gcd u (1 + (j : Int)) : Nat) : Int)) ta, .int (Int.fdiv (1 + (j : Int)) ((Int.gcd u (1 + (j : Int)) : Nat) : Int)) tb] } : Obj)) :: tl) (vs ++ [.ref T]) (ds ++ innerF u (j + 1)) := by
  unfold innerF
  rw [← List.append_assoc]
  exact (h.mono fun p hp => .tail _ hp).append (.cons (.head _) .nil)
theorem sub_swap {a b c : Addr × Obj} {tl : List (Addr × Obj)} : ∀ p ∈ a :: ([b, c] ++ tl), p ∈ b :: a :: c :: tl := by
  intro p hp
  simp only [List.cons_append, List.nil_append, List.mem_cons] at hp ⊢
  rcases hp with h | h | h | h
  · exact .inr (.inl h)
  · exact .inl h
  · exact .inr (.inr (.inl h))
  · exact .inr (.inr (.inr h))
def LowR (ns : List Int) (h h' : Heap) (r : Value) : Prop :=
  ∃ la vs k tl ds, r = .ref la ∧ (∀ p ∈ (la, listOf vs.toArray k) :: tl, h'.get? p.1 = some p.2 ∧ h.get? p.1 = none) ∧ PairsAre tl vs ds ∧ ds.Perm (fracs ns) ∧ ds.Pairwise (fun x y => enc x ≤ enc y)
local macro_rules | `(tactic| walk_at "PostS") => `(tactic| (dsimp only [GEnd, PostS]))
local macro_rules | `(tactic| walk_at "exec For Name Name cons nil") => `(tactic| (k_here; k_dflt (refine For_S ?_ (by intro _; rfl))))

set_option maxHeartbeats 4000000 in
theorem lowest_says (w : World) (lr : Addr) (rvs : List Value) (kr : Nat) (ns : List Int) (hI : IntsAre rvs ns) (hlen : ns.length ≤ 7) (hns : ∀ n ∈ ns, 1 ≤ n ∧ n ≤ 10) (h2 : 2 ≤ (fracs ns).length) (h64 : (fracs ns).length < 64) :
    Fn w 2 100 155 [.ref lr] [(lr, listOf rvs.toArray kr)] (fun _ => True) (LowR ns) := by
  intro A s Q E S _ hret
  walk_at "m enter"
  intro p loose mean mg mb dp un gd base g env outer L' h₁ hA I F N B X T
  subst hA
  have kMk := kstMark
  (try dsimp only)
  (try k_fold)
  w_top off
  k_with_none
  k_with "pyIter ref" =>
    ((rename Fr _ _ _ _ => lF'); (rename News _ _ _ _ => lN'))
    refine growS_listN (vs₀ := []) (tl₀ := []) (rest := [(lr, listOf rvs.toArray kr)]) [Str.ofString "u", Str.ofString "m", Str.ofString "shared"] (fun i vs tl => PairsAre tl vs (fracs (ns.take i))) rfl (.head _) (.inl ⟨_, _, rfl⟩) lF' lN' (fun p hp => hp) .nil (fun _ h9 => nomatch h9) (fun _ h9 => nomatch h9) ?turn ?done (by passes_own)
    all_goals (try clear lF' lN')
    (case' turn => intro i v vs k tl Ia oI u h tk hv hPi hoff hap hl₀ hIr hIt F N; obtain ⟨uu, tu, ev, hu⟩ := IntsAre.at hI i v hv; subst ev; have hub := hns uu (List.mem_of_getElem? hu); (simp only [List.cons_append, List.nil_append] at N); (dsimp only); (try k_fold))
    (case' done => intro vs k tl u h tk hPi hoff hap F N; (simp only [List.cons_append, List.nil_append] at N); (dsimp only); (try k_fold))
  k_with "pyIter ref" =>
    ((rename Fr _ _ _ _ => lF'); (rename News _ _ _ _ => lN'); (rename IsRange _ _ _ _ _ _ _ _ => rgX))
    refine growS_range (vs₀ := vs) (k₀ := k) (tl₀ := tl) (rest := [(Ia, oI), (lr, listOf rvs.toArray kr)]) [Str.ofString "m", Str.ofString "shared"] (fun j vs' tl' => PairsAre tl' vs' (fracs (ns.take i) ++ innerF uu j)) rfl rgX (small_one (by omega) (by omega) (by omega) (by omega)) (rangeSize_nat _ _) lF' lN' sub_swap (by rw [innerF, List.append_nil]; exact hPi) hoff (fun p hp q hq => by rcases List.mem_cons.mp hq with rfl | hq; exact hIt p hp; exact hap p hp q hq) ?turnB ?doneB (by passes_own)
    all_goals (try clear lF' lN')
    (case' turnB => intro j t vs' k' tl' Ib oIb u' h' tk' hj hPj hoff' hap' hl₀' hIr' hIt' F N; (simp only [List.cons_append, List.nil_append] at N); have hg := gcd_pos (u := uu) (k := 1 + (j : Int)) (by omega); have hg2 : ((Int.gcd uu (1 + (j : Int)) : Nat) : Int) ≤ 10 := gcd_le10 hub.1 hub.2; have hvl : vs'.length ≤ 200 := (by rw [hPj.length, List.length_append, innerF_length]; have := fracs_le (ns := ns.take i) (fun n hn => (hns n (List.mem_of_mem_take hn)).2); rw [List.length_take] at this; omega); (dsimp only); (try k_fold))
    (case' doneB => intro vs' k' tl' u' h' tk' hPj hoff' hap' F N; (simp only [List.cons_append, List.nil_append] at N); have hPn : PairsAre tl' vs' (fracs (ns.take (i + 1))) := (by rw [fracs_snoc hu]; rw [Int.add_sub_cancel] at hPj; exact hPj); have hIt2 : ∀ p ∈ tl', p.1 ≠ Ia := (fun p hp => hap' p hp (Ia, oI) List.mem_cons_self); have hap2 : ∀ p ∈ tl', ∀ q ∈ [(lr, listOf rvs.toArray kr)], p.1 ≠ q.1 := (fun p hp q hq => hap' p hp q (List.mem_cons_of_mem _ hq)); clear hap' hPj; (dsimp only); (try k_fold))
  k_with "call ref" =>
    k_dflt (show wpAny _ _ (call (Value.ref 148) [Value.int _ _, Value.int _ _]) _ _ _)
    k_dflt (refine' fn_use (shared_int _ _ _ ?ha ?hb _ _) ?B ?F ?X ?T ?hh ?hA ?hf ?hk ?hd ?hu ?N ?hal ?hp ?_; (case B => k_asm); (case F => k_asm); (case X => k_asm); (case T => k_asm); (case hh => exact rfl); (case hA => exact rfl); (case hf => exact rfl); (case hk => exact rfl); (case N => k_asm); (case hal => exact fun _ h9 => nomatch h9); (case ha => omega); (case hb => omega); (case hp => trivial); (case hd => (have q9 := I.room; simp only [depth_deeper]; omega)); (case hu => (have q9 := I.units; simp only [units_deeper]; omega)))
    intro r9 h9 tk9 hs9 F9 N9 hn9 ho9
    obtain ⟨t9, e9⟩ := ho9
    subst e9
    clear hs9 hn9
    (try dsimp only)
    (try k_sweep)
  k_with "call builtin:sorted" =>
    rename Fr _ _ _ _ => oF
    rename News _ _ _ _ => oN
    have hPn : PairsAre tl vs (fracs ns) := (by have e9 : List.take rvs.length ns = ns := (by rw [hI.length]; exact List.take_length); rw [e9] at hPi; exact hPi)
    have hvl : vs.length = (fracs ns).length := hPn.length
    refine sorted_pairs oF oN (.head _) hPn (fun p hp => List.mem_cons_of_mem _ (List.mem_cons_of_mem _ hp)) (by omega) (by omega) (fun d hd => fracs_snd hns hd) ?_
    clear oF oN
    intro D e h' vs' ds' F N hlt hp hperm hpw
    have hne := hlt _ (.head _)
    (try dsimp only)
    (try k_fold)
  k_with "EndS" =>
    ((rename News _ _ _ _ => nE'); (try simp only [List.push_toArray] at nE'); first
      | (refine' grow_one (by assumption) nE' ?hTq0 ?hlq0 ?htlq0 ?hreq0 ?hIq0 ?h1q0 ?h2q0 ?h3q0 ?h4q0 ?h5q0 ?hrq0 ?hTIq0 ?hTlq0 ?hTrq0 ?hpq0; (case hTq0 => k_memK); (case hlq0 => k_memK); (case hIq0 => k_memK); (case h1q0 => assumption); (case h3q0 => assumption); (case hrq0 => ksw_same); (case hpq0 => exact pair_more (by assumption)); (case htlq0 => (intro p9 h9; kst_mem)); (case hreq0 => k_allIn); (case h2q0 => assumption); (case h4q0 => assumption); (case h5q0 => assumption); (case hTIq0 => omega); (case hTlq0 => omega); (case hTrq0 => (simp only [AllLt, and_true]; (try dsimp only); omega)))
      | (refine' grow_end (by assumption) nE' ?hlq1 ?htlq1 ?hreq1 ?hIq1 ?h1q1 ?h2q1 ?h3q1 ?h4q1 ?h5q1 ?hrq1 ?hpq1; (case hlq1 => k_memK); (case hIq1 => k_memK); (case h1q1 => assumption); (case h3q1 => assumption); (case hrq1 => ksw_same); (case hpq1 => assumption); (case htlq1 => (intro p9 h9; kst_mem)); (case hreq1 => k_allIn); (case h2q1 => assumption); (case h4q1 => assumption); (case h5q1 => assumption)))
  k_steps
  (try k_unfold)
  (try dsimp only)
  (try simp only [List.cons_append, List.nil_append] at N)
  have hlD : lr < D := hlt (lr, listOf rvs.toArray kr) (List.mem_cons_of_mem _ (.head _))
  refine hret _ _ _ (I.back _ _ _ F N (fun p9 h9 => by kst_mem)) ⟨D, vs', e, tl, ds', rfl, ?_, hp, hperm, hpw⟩
  intro p9 h9
  obtain ⟨n1, n2, n3⟩ := N p9 (by
    rcases List.mem_cons.mp h9 with h9 | h9
    · rw [h9]; exact List.mem_cons_self
    · exact List.mem_cons_of_mem _ (List.mem_cons_of_mem _ (List.mem_cons_of_mem _ h9)))
  refine ⟨n1, fresh_al I.old n3 ?_⟩
  intro q9 hq9
  rcases List.mem_cons.mp h9 with rfl | h9
  · rw [List.mem_singleton.mp hq9]; exact fun e9 => by dsimp only at e9; rw [e9] at hlD; exact Nat.lt_irrefl _ hlD
  · exact hap p9 h9 q9 hq9
end Mine

namespace Mine
namespace BS
theorem slot_md_get : Slot "method_descriptor" "__get__" "method_descriptor.__get__" :=
  .of (owner := "method_descriptor") (n := "__get__") (by rw [typeLookup_type, builtinLookup_eq_fast]; kernel_rfl) (by decide +kernel) (by decide +kernel) (by decide +kernel)
    (by first | exact .inl (by decide +kernel) | exact .inr (by decide +kernel)) (by rw [isSubtype_type]; kernel_rfl)
theorem lk_md_set : typeLookup (.type "method_descriptor") "__set__" = pure none := by rw [typeLookup_type, builtinLookup_eq_fast]; kernel_rfl
theorem lk_md_delete : typeLookup (.type "method_descriptor") "__delete__" = pure none := by rw [typeLookup_type, builtinLookup_eq_fast]; kernel_rfl
theorem entry_md_get : entryFor table "method_descriptor.__get__" = some Builtin.«method_descriptor.__get__» := entryFor_of_tree (by kernel_rfl)
theorem args_md_get (a b c : Value) : argsOk "method_descriptor.__get__" ⟨[a, b, c], []⟩ := by unfold argsOk; kernel_rfl
theorem sub_set_set : isSubtype (.type "set") (.type "set") = pure true := by rw [isSubtype_type]; kernel_rfl
theorem told : Manifest.toldItsClass.contains "set.__contains__" = false := by decide +kernel
theorem owner : (".".intercalate ("set.__contains__".cutAt '.').dropLast) = "set" := by
  have e0 : "set.__contains__".cutAt '.' = ["set", "__contains__"] := by first | rfl | decide +kernel
  rw [e0]; decide +kernel
theorem sub_owner : isSubtype (.type "set") (.type (".".intercalate ("set.__contains__".cutAt '.').dropLast)) = pure true := by
  rw [owner]; exact sub_set_set
theorem getattr_none : typeLookup (.type "set") "__getattr__" = pure none := by rw [typeLookup_type, builtinLookup_eq_fast]; kernel_rfl
end BS
section
variable {prog : Program} {w : World} {A : Around} {E : Value → Shared → Prop} {h : Heap} {g : Array GenState} {d : Drawn} {t : Nat} {os : OsState} {a : Addr} {o : Obj}

abbrev boundC (a : Addr) : Obj := { cls := .type "builtin_function_or_method", data := .fields #[.builtin "set.__contains__", .ref a] }

set_option maxHeartbeats 2000000 in
theorem bs_get {R : Result → Shared → Prop} (hx : h.get? a = some o) (hc : o.cls = .type "set") (hq : R (.ok (.ret (.ref h.objs.size))) ⟨h.push (boundC a), g, d, t, os⟩) :
    codeAny (model prog w) A (.call (.builtin "method_descriptor.__get__") ⟨[.builtin "set.__contains__", .ref a, .type "set"], []⟩) R ⟨h, g, d, t, os⟩ := by
  have hT : (⟨h, g, d, t, os⟩ : Shared).TypeIs (.ref a) "set" := ⟨_, hx, hc⟩
  have hT5 : (⟨h, g, d, t, os⟩ : Shared).TypeIs (.builtin "set.__contains__") "method_descriptor" := F.type_set_contains
  have f8 := BS.sub_owner
  have f9 := BS.told
  refine codeAny_call_builtin BS.slot_md_get.plain BS.entry_md_get (BS.slot_md_get.check _ _ _ _ _ _ _ _ hT5 (BS.args_md_get _ _ _) ?_)
  unfold Builtin.«method_descriptor.__get__»
  iterate 6 (first | wp_step | skip)
  refine wpAny_pure ?_
  have e1 : (Value.ref a == Value.none) = false := by rfl
  have e2 : (Value.type "set" == Value.none) = false := by rfl
  simp only [e1, e2, f9, Bool.false_eq_true, if_false]
  repeat (any_goals (first | assumption | wp_step))

set_option maxHeartbeats 1000000 in
theorem bs_entry {tk : Tok} {Q : Fin → Shared → Prop} {es : Array (Int × Value)} {ep : Nat} {tb : SetTable} (hx : h.get? a = some o) (hc : o.cls = .type "set") (hd : o.dict = none) (hdat : o.data = .set es ep tb) (hq : Q (.done (.ret (.ref h.objs.size))) ⟨h.push (boundC a), g, d, t, os⟩) :
    wpAny (model prog w) A (Builtin.«object.__getattribute__» ⟨[.ref a, .str "__contains__" tk], []⟩) Q E ⟨h, g, d, t, os⟩ := by
  obtain ⟨c, dct, dat, sl⟩ := o
  simp only at hc hdat hd
  subst hc hdat hd
  have hT : (⟨h, g, d, t, os⟩ : Shared).TypeIs (.ref a) "set" := ⟨_, hx, rfl⟩
  have hT5 : (⟨h, g, d, t, os⟩ : Shared).TypeIs (.builtin "set.__contains__") "method_descriptor" := F.type_set_contains
  have f4 := F.slot_set_contains.lookup
  have f5 := F.type_set_contains
  have f6 := BS.slot_md_get.lookup
  have f7 := BS.lk_md_set
  have f8 := BS.lk_md_delete
  repeat (any_goals (first | assumption | wp_step))
  refine bs_get hx rfl ?_
  repeat (any_goals (first | assumption | wp_step))

set_option maxHeartbeats 1000000 in
theorem bs_call {tk : Tok} {R : Result → Shared → Prop} {es : Array (Int × Value)} {ep : Nat} {tb : SetTable} (hx : h.get? a = some o) (hc : o.cls = .type "set") (hd : o.dict = none) (hdat : o.data = .set es ep tb) (hq : R (.ok (.ret (.ref h.objs.size))) ⟨h.push (boundC a), g, d, t, os⟩) :
    codeAny (model prog w) A (.call (.builtin "set.__getattribute__") ⟨[.ref a, .str "__contains__" tk], []⟩) R ⟨h, g, d, t, os⟩ :=
  codeAny_call_builtin F.slot_set_getattribute.plain F.entry_set_ga (F.slot_set_getattribute.check _ _ _ _ _ _ _ _ (show (⟨h, g, d, t, os⟩ : Shared).TypeIs (.ref a) "set" from ⟨_, hx, hc⟩) (F.args_set_getattribute_2 _ _) (bs_entry hx hc hd hdat hq))

set_option maxHeartbeats 1000000 in
theorem bs_attr {Q : Value → Shared → Prop} {es : Array (Int × Value)} {ep : Nat} {tb : SetTable} (hx : h.get? a = some o) (hc : o.cls = .type "set") (hd : o.dict = none) (hdat : o.data = .set es ep tb) (hq : Q (.ref h.objs.size) ⟨h.push (boundC a), g, d, t + 1, os⟩) :
    wpAny (model prog w) A (getAttr (.ref a) "__contains__" true) Q E ⟨h, g, d, t, os⟩ := by
  obtain ⟨c, dct, dat, sl⟩ := o
  simp only at hc hdat hd
  subst hc hdat hd
  have hT : ∀ tk', (⟨h, g, d, tk', os⟩ : Shared).TypeIs (.ref a) "set" := fun _ => ⟨_, hx, rfl⟩
  have f2 := F.slot_set_getattribute.lookup
  have f3 := F.slot_set_getattribute.bind (.ref a)
  have f5 := BS.getattr_none
  unfold getAttr getAttrBy
  repeat (any_goals (first | assumption | exact hT _ | wp_step))
  refine bs_call hx rfl rfl rfl ?_
  repeat (any_goals (first | assumption | wp_step))

end
end Mine

namespace Mine
namespace BS
theorem sig_sc : Manifest.signature? "set.__contains__" = some ⟨.oneArg, "set.__contains__", "__contains__", .self, [⟨"object", .posOnly, true⟩]⟩ := by
  rw [signature?_of (id := "set.__contains__") (n := ['_', '_', 's', 'n', 'i', 'a', 't', 'n', 'o', 'c', '_', '_']) (o := ['t', 'e', 's']) (by kernel_rfl) F.owner_set]; kernel_rfl
theorem kind_sc : builtinKind "set.__contains__" = some .method := by kernel_rfl
theorem vm_sc : Manifest.varargsMethods.contains "set.__contains__" = false := by decide +kernel
theorem sub_set_module : isSubtype (.type "set") (.type "module") = pure false := by rw [isSubtype_type]; kernel_rfl
theorem sub_set_type : isSubtype (.type "set") (.type "type") = pure false := by rw [isSubtype_type]; kernel_rfl
theorem full_sc : (toString (Bind.lastOf "set") ++ toString "." ++ toString (Bind.lastOf "set.__contains__")) = "set.__contains__" := by decide +kernel
theorem chk_sc (a v : Value) : Bind.checkArgs "set.__contains__" ⟨.oneArg, "set.__contains__", "__contains__", .self, [⟨"object", .posOnly, true⟩]⟩ ⟨[a, v], []⟩ = pure () := by
  have h := F.args_set_contains_2 a v
  unfold argsOk at h
  rw [sig_sc] at h
  exact h
theorem quiet_sc (args : Args) : (Code.builtin "set.__contains__" args).quiet = true := Code.quiet_builtin _ (by decide +kernel)
end BS
section
variable {prog : Program} {w : World} {A : Around} {a : Addr}
theorem bs_check {M : Model} {E : Value → Shared → Prop} {s : Shared} {v : Value} {Q : Unit → Shared → Prop} {o : Obj} {es : Array (Int × Value)} {ep : Nat} {tb : SetTable} (hx : s.heap.get? a = some o) (hc : o.cls = .type "set") (hdat : o.data = .set es ep tb) (h : Q () s) :
    wpAny M A (checkBoundCall "set.__contains__" ⟨[.ref a, v], []⟩) Q E s := by
  unfold checkBoundCall
  rw [BS.sig_sc, BS.kind_sc, BS.vm_sc]
  have f1 := BS.sub_set_module
  have f2 := BS.sub_set_type
  obtain ⟨hp, g, d, tk, os⟩ := s
  obtain ⟨c, dct, dat, sl⟩ := o
  simp only at hc hdat
  subst hc hdat
  have hT : (⟨hp, g, d, tk, os⟩ : Shared).TypeIs (.ref a) "set" := ⟨_, hx, rfl⟩
  dsimp only
  rw [if_neg (by decide)]
  refine wpAny_bind (wpAny_isInstance hT f1 ?_)
  rw [if_neg (by decide)]
  repeat (any_goals (first | assumption | wp_step))
/-- the bound method called -/
theorem bs_apply {b : Addr} {E : Value → Shared → Prop} {s : Shared} {S : Int → Bool} {n : Nat} {k : Int} {tk : Tok} {Q : Value → Shared → Prop} (hb : s.heap.get? b = some (boundC a)) (hS : s.heap.SetOf (intKind prog w) a S n)
    (h : Q (.bool (S k)) { s with toks := s.toks + 1 }) : wpAny (model prog w) A (call (.ref b) [.int k tk]) Q E s := by
  refine wpAny_call (codeAny_of_tree ?_)
  show wpAny _ _ (callAny (.ref b) ⟨[.int k tk], []⟩) _ _ _
  unfold callAny
  refine wpAny_bind (wpAny_load hb ?_)
  dsimp only
  rw [if_pos (by decide)]
  show wpAny _ _ (if (Value.type "builtin_function_or_method" != Value.type "method") = true then _ else _) _ _ _
  rw [if_pos (by decide)]
  obtain ⟨o, es, ep, tb, ho, hc, hd, _⟩ := id hS
  refine wpAny_bind (bs_check ho hc.1 hd ?_)
  refine wpAny_pure ⟨BS.quiet_sc _, codeAny_builtin entry_set_contains ?_⟩
  unfold Builtin.«frozenset.__contains__» Builtin.Frozenset.oneOther
  simp only [List.isEmpty_nil, bind_assoc]
  unfold Builtin.Frozenset.addrOf Builtin.Frozenset.withSetAsKey setContains
  have hkey := intKind_is prog w k tk
  refine wpAny_bind (wpAny_pure ?_)
  try dsimp only
  refine wpAny_bind (wpAny_pure ?_)
  try dsimp only
  refine wpAny_bind (wpAny_tryCatch ?_)
  refine wpAny_holding ?_
  refine wpAny_bind ((intKind prog w).pyHash hkey ?_)
  refine wpAny_bind (wpAny_setFind_of (s := { s with toks := s.toks + 1 }) hkey rfl hS fun r hr => ?_)
  refine wpAny_pure ?_
  show wpAny _ _ (ret (Value.bool r.isSome)) _ _ _
  rw [hr]
  exact wpAny_pure h
end
end Mine

namespace Mine
section
variable {prog : Program} {w : World} {A : Around} {E : Value → Shared → Prop} {s : Shared} {h₀ : Heap} {L : Addr} {m : Str → Option Value} {news : List (Addr × Obj)}
def SetIs (prog : Program) (w : World) (o : Obj) (ns : List Int) : Prop := ∃ (S : Int → Bool) (n : Nat), o.SetObjOf (intKind prog w) S n ∧ n < scanBound ∧ ∀ k, S k = decide (k ∈ ns)

theorem range_getD (ns : List Int) : (List.range ns.length).map (fun i => ns.getD i 0) = ns := by
  apply List.ext_getElem
  · simp
  · intro i h1 h2
    simp [h2]

theorem set_led {l : Addr} {k : Nat} {vs : List Value} {ns : List Int} {Q : Value → Shared → Prop} (F : Fr h₀ L s.heap m) (N : News h₀ L s.heap news) (hl : (l, listOf vs.toArray k) ∈ news) (hh : A.handled = none) (hi : IntsAre vs ns) (hb : ns.length + 1 < 200)
    (h : ∀ D h' tk o, Fr h₀ L h' m → News h₀ L h' ((D, o) :: news) → (∀ p ∈ news, p.1 < D) → SetIs prog w o ns → Q (.ref D) { s with heap := h', toks := tk }) :
    wpAny (model prog w) A (call (.type "set") [.ref l]) Q E s := by
  have hvn : vs.length = ns.length := hi.length
  have hsz : vs.toArray.size = vs.length := List.size_toArray
  refine PySem.call_set_list (items := vs.toArray) (ns := ns) hh (N.isList hl) (by simpa using hi) (by rw [hsz, hvn]; unfold scanBound; omega) fun h' tk hS hk => ?_
  rw [hsz] at hS
  obtain ⟨o, ho, hso⟩ := hS.objOf
  have hle := firstMet_length_le (fun i => ns.getD i 0) vs.length
  refine h s.heap.objs.size h' tk o ?_ ?_ (fun p hp => Heap.lt_size (N p hp).1) ⟨_, _, hso, by unfold scanBound; omega, fun x => ?_⟩
  · exact ⟨F.ns.at' fun o' e => hk L o' F.ns.lt e, fun b o' e => hk b o' (Heap.lt_size (F.keep b o' e)) (F.keep b o' e), F.above⟩
  · intro p hp
    rcases List.mem_cons.mp hp with rfl | hp
    · exact ⟨ho, Nat.ne_of_gt F.ns.lt, next_is_new F⟩
    · exact ⟨hk _ _ (Heap.lt_size (N p hp).1) (N p hp).1, (N p hp).2⟩
  · rw [firstMet_any, hvn, range_getD]
    rw [Bool.eq_iff_iff]
    simp only [List.any_eq_true, beq_iff_eq, exists_eq_right, decide_eq_true_eq]

theorem bound_led {D : Addr} {o : Obj} {ns : List Int} {Q : Value → Shared → Prop} (F : Fr h₀ L s.heap m) (N : News h₀ L s.heap news) (hl : (D, o) ∈ news) (hS : SetIs prog w o ns)
    (h : ∀ B h' tk, Fr h₀ L h' m → News h₀ L h' ((B, boundC D) :: news) → (∀ p ∈ news, p.1 < B) → Q (.ref B) { s with heap := h', toks := tk }) :
    wpAny (model prog w) A (getAttr (.ref D) "__contains__" true) Q E s := by
  obtain ⟨S, n, hso, hn, _⟩ := hS
  obtain ⟨o', es, ep, tb, ho, hc, hd, _⟩ := hso.setOf (N.get hl) hn
  obtain ⟨hp, g, d, tk, os⟩ := s
  exact bs_attr ho hc.1 hc.2.1 hd (h _ _ _ (F.push _) (N.push F _) (fun p hp => Heap.lt_size (N p hp).1))

theorem apply_led {D B : Addr} {o : Obj} {ns : List Int} {k : Int} {tk : Tok} {Q : Value → Shared → Prop} (N : News h₀ L s.heap news) (hl : (D, o) ∈ news) (hb : (B, boundC D) ∈ news) (hS : SetIs prog w o ns)
    (h : Q (.bool (decide (k ∈ ns))) { s with toks := s.toks + 1 }) : wpAny (model prog w) A (call (.ref B) [.int k tk]) Q E s := by
  obtain ⟨S, n, hso, hn, hk⟩ := hS
  exact bs_apply (N.get hb) (hso.setOf (N.get hl) hn) (by rw [hk]; exact h)
end
end Mine

namespace Mine
abbrev itObj (l : Addr) (i : Nat) : Obj := { cls := .type "list_iterator", data := .fields #[.ref l, .int i 0] }
section
variable {prog : Program} {w : World} {A : Around} {E : Value → Shared → Prop} {s : Shared} {h₀ : Heap} {L : Addr} {m : Str → Option Value} {news : List (Addr × Obj)}

theorem iter_led {l : Addr} {k : Nat} {vs : List Value} {Q : Value → Shared → Prop} (F : Fr h₀ L s.heap m) (N : News h₀ L s.heap news) (hl : (l, listOf vs.toArray k) ∈ news)
    (h : ∀ I h', Fr h₀ L h' m → News h₀ L h' ((I, itObj l 0) :: news) → (∀ p ∈ news, p.1 < I) → Q (.ref I) { s with heap := h' }) :
    wpAny (model prog w) A (call (.builtin "iter") [.ref l]) Q E s := by
  refine call_function_entry (by decide +kernel) (by decide +kernel) kdk_entry_iter (kdk_args_iter _) ?_
  unfold Builtin.«iter»
  refine wpAny_bind (m := someArgs "iter" 1 2 _) (wpAny_of_eq (a := [Value.ref l]) (by first | rfl | kernel_rfl!) ?_)
  show wpAny _ _ (pyIter (.ref l) >>= _) _ _ _
  refine wpAny_bind (wpAny_pyIter_list (N.isList hl) ?_)
  exact wpAny_pure ⟨_, rfl, h _ _ (F.push _) (News.push F N _ rfl) (fun q hq => Heap.lt_size (N q hq).1)⟩

theorem itObj_at {h : Heap} {it l : Addr} {i : Nat} (e : h.get? it = some (itObj l i)) : h.IsListIter it l i := ⟨_, e, rfl, rfl⟩

/-- next(it), an item is left -/
theorem next_led {it l : Addr} {i : Nat} {items : Array Value} {x : Value} {Q : Value → Shared → Prop} (hit : s.heap.get? it = some (itObj l i)) (hl : s.heap.IsList l items) (hx : items[i]? = some x)
    (h : ∀ h', Heap.SameBut it s.heap h' → h'.get? it = some (itObj l (i + 1)) → Q x { s with heap := h' }) :
    wpAny (model prog w) A (call (.builtin "next") [.ref it]) Q E s := by
  have hI := itObj_at hit
  obtain ⟨ol, hol, _, nl, hdl⟩ := hl
  refine call_function_entry (by decide +kernel) (by decide +kernel) kdk_entry_next (kdk_args_next _) ?_
  unfold Builtin.«next»
  refine wpAny_bind (m := someArgs "next" 1 2 _) (wpAny_of_eq (a := [Value.ref it]) (by first | rfl | kernel_rfl!) ?_)
  dsimp only
  refine wpAny_bind (wpAny_specialOf (name := Str.ofString "__next__") hI.typeIs slot_listiter_next.lookup ?_)
  refine wpAny_ite_split (fun hab => absurd hab (by decide)) (fun _ => ?_)
  refine wpAny_bind (wpAny_callSpecial?_slot (name := Str.ofString "__next__") hI.typeIs slot_listiter_next
    (wpAny_call_entry slot_listiter_next hI.typeIs entry_listiter_next ?_ (args_listiter_next _)))
  show wpAny _ _ (field (.ref it) 0 >>= _) _ _ s
  refine wpAny_bind (wpAny_field hit rfl (x := .ref l) rfl ?_)
  show wpAny _ _ (if (Value.ref l == Value.none) = true then _ else _) _ _ s
  rw [if_neg (show ¬ ((Value.ref l == Value.none) = true) from Bool.false_ne_true)]
  show wpAny _ _ (field (.ref it) 1 >>= _) _ _ s
  refine wpAny_bind (wpAny_field hit rfl (x := .int i 0) rfl ?_)
  show wpAny _ _ (seqItems? (.ref l) >>= _) _ _ s
  refine wpAny_bind (wpAny_seqItems hol hdl ?_)
  simp only [Int.toNat_natCast, hx]
  refine wpAny_bind (wpAny_setField hit rfl (by simp) (wpAny_pure ⟨x, rfl, wpAny_pure ⟨_, rfl, h _ (Heap.SameBut.update ..) ?_⟩⟩))
  rw [Heap.get?_update_self _ hit rfl]
  simp [Obj.mapFields, rawInt]

/-- next(it), no item is left -/
theorem stop_led {it l : Addr} {i : Nat} {items : Array Value} {Q : Value → Shared → Prop} (hh : A.handled = none) (hit : s.heap.get? it = some (itObj l i)) (hl : s.heap.IsList l items) (hx : items[i]? = none)
    (h : ∀ h₁ h' e, Heap.ExtBut it s.heap h₁ → Heap.MadeExc h₁ h' e "StopIteration" [] → E (.ref e) { s with heap := h' }) :
    wpAny (model prog w) A (call (.builtin "next") [.ref it]) Q E s := by
  have hI := itObj_at hit
  obtain ⟨ol, hol, _, nl, hdl⟩ := hl
  refine call_function_entry (by decide +kernel) (by decide +kernel) kdk_entry_next (kdk_args_next _) ?_
  unfold Builtin.«next»
  refine wpAny_bind (m := someArgs "next" 1 2 _) (wpAny_of_eq (a := [Value.ref it]) (by first | rfl | kernel_rfl!) ?_)
  dsimp only
  refine wpAny_bind (wpAny_specialOf (name := Str.ofString "__next__") hI.typeIs slot_listiter_next.lookup ?_)
  refine wpAny_ite_split (fun hab => absurd hab (by decide)) (fun _ => ?_)
  refine wpAny_bind (wpAny_callSpecial?_slot (name := Str.ofString "__next__") hI.typeIs slot_listiter_next
    (wpAny_call_entry slot_listiter_next hI.typeIs entry_listiter_next ?_ (args_listiter_next _)))
  show wpAny _ _ (field (.ref it) 0 >>= _) _ _ s
  refine wpAny_bind (wpAny_field hit rfl (x := .ref l) rfl ?_)
  show wpAny _ _ (if (Value.ref l == Value.none) = true then _ else _) _ _ s
  rw [if_neg (show ¬ ((Value.ref l == Value.none) = true) from Bool.false_ne_true)]
  show wpAny _ _ (field (.ref it) 1 >>= _) _ _ s
  refine wpAny_bind (wpAny_field hit rfl (x := .int i 0) rfl ?_)
  show wpAny _ _ (seqItems? (.ref l) >>= _) _ _ s
  refine wpAny_bind (wpAny_seqItems hol hdl ?_)
  simp only [Int.toNat_natCast, hx]
  refine wpAny_bind (wpAny_rule (wpAny_bind (wpAny_setField hit rfl (by simp) ?_)))
  show wpAny _ _ (newExc (.type "StopIteration") [] >>= _) _ _ _
  refine wpAny_bind ?_
  simp only [newExc, newTuple]
  refine wpAny_bind (wpAny_newObj_type ?_ (by size_fits))
  refine wpAny_bind (m := firstArgMember _ _) (wpAny_of_eq (a := Value.none) (by first | rfl | (simp only [firstArgMember]; rfl)) ?_)
  refine wpAny_newObj_type ?_ (by size_fits)
  simp only [raiseNew]
  refine wpAny_bind (wpAny_handled ?_)
  rw [show A.in1.in1.handled = none from hh]
  refine wpAny_bind (wpAny_pure (wpAny_throw ?_))
  refine h _ _ _ (Heap.SameBut.update ..).extBut ⟨fun b o hb => Heap.get?_push_of_some _ (Heap.get?_push_of_some _ hb), ?_, ?_⟩
  · rw [Heap.size_push]; exact Heap.get?_none_of_le (Nat.le_succ _)
  · refine ⟨_, (Heap.get?_push_size _ rfl).trans ?_, Heap.get?_none_of_le (Nat.le_refl _), Heap.get?_push_of_some _ (Heap.get?_push_size _ rfl)⟩
    rfl
end
end Mine

namespace Mine

abbrev ffObj (dx I B : Addr) : Obj := { cls := .ref 54, dict := some dx, data := .plain, slots := #[some (.ref B), some (.ref I)] }
abbrev ffAl (x dx I B la : Addr) (i : Nat) : List (Addr × Obj) := [(I, itObj la i), (x, ffObj dx I B), (dx, dictOf [] 0)]
theorem stays_make2 {s : Shared} {h' h'' g : Heap} {x dx la L' : Addr} {o₁ o₂ ol : Obj} {m' : Str → Option Value} (hk : s.heap.StaysIn h') (hx : s.heap.get? x = none) (hd : s.heap.get? dx = none) (hl : s.heap.get? la = some ol) (hl' : h''.get? la = some ol)
    (old : ∀ b o, h'.get? b = some o → b ∉ [(x, o₁), (dx, o₂), (la, ol)].map (·.1) → g.get? b = some o) (F : Fr g L' h'' m') : s.heap.StaysIn h'' := by
  intro b o e
  by_cases hb : b = la
  · subst hb; rw [hl] at e; cases e; exact hl'
  · refine F.keep b o (old b o (hk b o e) ?_)
    intro hm
    simp only [List.map_cons, List.map_nil, List.mem_cons, List.not_mem_nil, or_false] at hm
    rcases hm with rfl | rfl | rfl
    · rw [hx] at e; cases e
    · rw [hd] at e; cases e
    · exact hb rfl
theorem init_units2 {dp un : Nat} {gd : Option (List Code)} {env : Env} {outer : List Env} {args : Args} (h : (topA dp un gd env outer).units + 60 < cLine) : ((topA dp un gd env outer).under (.builtin "type.__call__" args)).units + 50 < cLine := by
  have e : (Code.builtin "type.__call__" args).cUnits ≤ 10 := by
    have f : (Code.builtin "type.__call__" args).frames = 0 := rfl
    show 1 + 3 * (Code.builtin "type.__call__" args).frames ≤ 10
    omega
  show un + (Code.builtin "type.__call__" args).cUnits + 50 < cLine
  have h' : un + 60 < cLine := h
  omega

set_option maxHeartbeats 4000000 in
theorem fil_says (w : World) (la B : Addr) (vs : List Value) (k : Nat) : Fn w 4 60 54 [.ref B, .ref la] [(la, listOf vs.toArray k)] (fun _ => True) (fun h h' r => ∃ x dx I, r = .ref x ∧ ∀ p ∈ ffAl x dx I B la 0, h'.get? p.1 = some p.2 ∧ h.get? p.1 = none) := by
  intro A s Q E S _ hret
  obtain ⟨p, loose, mean, mg, mb, A₀, base, h₀, env, outer, L, m, B₀, F, X, T, hh, hA, hf, hke, hdep, hun, N⟩ := S
  obtain ⟨hd0, dp, fr, gd, un⟩ := A
  simp only at hh hA
  subst hh; subst hA
  k_dflt (refine' make_keep F X ?k4 ?k5 ?k6 ?_; (case k4 => k_is); (case k5 => k_is); (case k6 => k_is))
  intro x dx h' F' N' hkeep hx0 hd0 l2
  k_lt2 l2
  have N2 : News h₀ L h' ([(x, instObj 54 dx), (dx, dictOf [] 0)] ++ [(la, listOf vs.toArray k)]) := (by
    intro p hp
    rcases List.mem_append.mp hp with hp | hp
    · exact N' p hp
    · exact ⟨hkeep _ _ (N p hp).1, (N p hp).2⟩)
  simp only [List.cons_append, List.nil_append] at N2
  have hla0 : s.heap.get? la = some (listOf vs.toArray k) := (N (la, listOf vs.toArray k) (.head _)).1
  have hla : @Ne Nat la x := (fun e => by have q := (N (la, listOf vs.toArray k) (.head _)).1; have e' : la = x := e; dsimp only at q; rw [e', hx0] at q; cases q)
  have hlb : @Ne Nat la dx := (fun e => by have q := (N (la, listOf vs.toArray k) (.head _)).1; have e' : la = dx := e; dsimp only at q; rw [e', hd0] at q; cases q)
  walk_at "m enterR"
  case kS =>
    exact ⟨p, loose, mean, mg, mb, A₀, base, h₀, env, outer, L, m, B₀, F', X, T, rfl, rfl, hf, hke, by rw [depth_under_make]; simp only at hdep ⊢; omega, init_units2 hun, N2⟩
  clear B₀ F X T F' N' hdep hun hf hke N
  intro p loose mean mg mb dp un gd base g env outer L' h₁ hA I F N B X T
  have kMk := kstMark
  (try dsimp only)
  (try k_fold)
  w_top off
  k_with_none
  k_with "call builtin:iter" =>
    rename Fr _ _ _ _ => oF
    rename News _ _ _ _ => oN
    refine iter_led oF oN (l := la) (k := k) (vs := vs) (by k_mem) ?_
    clear oF oN
    intro I h' F N hlt
    k_lt hlt
    (try dsimp only)
    (try k_fold)
  k_steps
  rename Inn _ _ _ _ _ _ _ _ => I9
  rename News _ _ _ _ => nE
  rename Fr _ _ _ _ => fE
  dsimp only [InitBack]
  refine ⟨rfl, ?_⟩
  have hst := stays_make2 hkeep hx0 hd0 hla0 (nE (la, listOf vs.toArray k) (by k_mem)).1 I9.old fE
  refine hret _ _ _ hst ⟨x, dx, I, rfl, ?_⟩
  refine List.forall_mem_cons.mpr ⟨⟨(nE _ (by k_mem)).1, ?_⟩, List.forall_mem_cons.mpr ⟨⟨(nE _ (by k_mem)).1, hx0⟩, List.forall_mem_cons.mpr ⟨⟨(nE _ (by k_mem)).1, hd0⟩, fun _ h9 => nomatch h9⟩⟩⟩
  cases q : s.heap.get? I with
  | none => rfl
  | some o9 =>
    have q2 := (nE (I, itObj la 0) (by k_mem)).2.2
    rw [I9.old I o9 (hkeep I o9 q) (by
      intro hm
      simp only [List.map_cons, List.map_nil, List.mem_cons, List.not_mem_nil, or_false] at hm
      obtain ⟨l3, l4, l5⟩ := hlt
      rcases hm with e9 | e9 | e9
      · rw [e9] at l3; exact Nat.lt_irrefl _ l3
      · rw [e9] at l4; exact Nat.lt_irrefl _ l4
      · rw [e9] at l5; exact Nat.lt_irrefl _ l5)] at q2
    cases q2
end Mine

namespace Mine
local macro_rules | `(tactic| walk_at "pad") => `(tactic| fail "pad")


abbrev diffAl (x dx J D B : Addr) (o : Obj) (la : Addr) (i : Nat) : List (Addr × Obj) := [(J, itObj la i), (x, ffObj dx J B), (dx, dictOf [] 0), (B, boundC D), (D, o)]
set_option maxHeartbeats 4000000 in
theorem diff_says (w : World) (la lb : Addr) (vs us : List Value) (ka kb : Nat) (ns bs : List Int) (hI : IntsAre vs ns) (hJ : IntsAre us bs) (hlen : ns.length ≤ 20) (hlenb : bs.length ≤ 40) :
    Fn w 6 100 65 [.ref la, .ref lb] [(la, listOf vs.toArray ka), (lb, listOf us.toArray kb)] (fun _ => True) (fun h h' r => ∃ x dx J D B o, r = .ref x ∧ SetIs PG w o bs ∧ ∀ p ∈ diffAl x dx J D B o la 0, h'.get? p.1 = some p.2 ∧ h.get? p.1 = none) := by
  intro A s Q E S _ hret
  walk_at "m enter"
  intro p loose mean mg mb dp un gd base g env outer L' h₁ hA I F N B X T
  subst hA
  have kMk := kstMark
  (try dsimp only)
  (try k_fold)
  w_top off
  k_with_none
  k_with "call type:set cons nil" =>
    rename Fr _ _ _ _ => oF
    rename News _ _ _ _ => oN
    refine set_led (ns := bs) oF oN (.tail _ (.head _)) rfl hJ (by omega) ?_
    clear oF oN
    intro D h' tk' o F N hltD hS
    k_lt hltD
    (try dsimp only)
    (try k_fold)
  k_with "getAttr ref" =>
    rename Fr _ _ _ _ => oF
    rename News _ _ _ _ => oN
    refine bound_led oF oN (by k_mem) hS ?_
    clear oF oN
    intro B h' tk' F N hlt
    k_lt hlt
    (try dsimp only)
    (try k_fold)
  k_with "call ref" =>
    k_dflt (show wpAny _ _ (call (Value.ref 54) [Value.ref _, Value.ref _]) _ _ _)
    rename Fr _ _ _ _ => oF
    rename News _ _ _ _ => oN
    k_dflt (refine' fn_use (fil_says _ la _ vs ka) ?B oF ?X ?T ?hh ?hA ?hf ?hk ?hd ?hu oN ?hal ?hp ?_; (case B => k_asm); (case X => k_asm); (case T => k_asm); (case hh => exact rfl); (case hA => exact rfl); (case hf => exact rfl); (case hk => exact rfl); (case hal => k_allIn); (case hp => trivial); (case hd => (have q9 := I.room; simp only [depth_deeper]; omega)); (case hu => (have q9 := I.units; simp only [units_deeper]; omega)))
    intro r' h' tk' hs' F' N' hn' ho'
    obtain ⟨x, dx, J, er, ho'⟩ := ho'
    subst er
    have N2 := news_more oF N' ho'
    have hne := new_ne (fun q hq => (oN q hq).1) (fun p hp => (ho' p hp).2)
    clear oF oN hn' N'
    simp only [List.cons_append, List.nil_append] at N2
    (try dsimp only)
    (try k_fold)
  k_steps
  rename News _ _ _ _ => nE
  refine hret _ _ _ (I.back _ _ _ (by assumption) nE (fun p9 h9 => by kst_mem)) ⟨x, dx, J, D, B, o, rfl, hS, ?_⟩
  intro p9 h9
  have hm9 : p9 ∈ diffAl x dx J D B o la 0 ++ [(la, listOf vs.toArray ka), (lb, listOf us.toArray kb)] := List.mem_append_left _ h9
  have n9 := nE p9 hm9
  refine ⟨n9.1, fresh_al I.old n9.2.2 ?_⟩
  intro q9 hq9
  have hq9' : q9 ∈ [(B, boundC D), (D, o), (la, listOf vs.toArray ka), (lb, listOf us.toArray kb)] := List.mem_cons_of_mem _ (List.mem_cons_of_mem _ hq9)
  rcases List.mem_cons.mp h9 with rfl | h9
  · exact hne _ (by k_mem) _ hq9'
  rcases List.mem_cons.mp h9 with rfl | h9
  · exact hne _ (by k_mem) _ hq9'
  rcases List.mem_cons.mp h9 with rfl | h9
  · exact hne _ (by k_mem) _ hq9'
  obtain ⟨b1, b2, b3⟩ := hlt
  rcases List.mem_cons.mp h9 with rfl | h9
  · rcases List.mem_cons.mp hq9 with rfl | hq9
    · exact Nat.ne_of_gt b2
    · rw [List.mem_singleton.mp hq9]; exact Nat.ne_of_gt b3
  · rw [List.mem_singleton.mp h9]
    obtain ⟨a1, a2⟩ := hltD
    rcases List.mem_cons.mp hq9 with rfl | hq9
    · exact Nat.ne_of_gt a1
    · rw [List.mem_singleton.mp hq9]; exact Nat.ne_of_gt a2
end Mine

namespace Mine
def EndW (h₀ : Heap) (L : Addr) (m : Str → Option Value) (Led : Nat → List (Addr × Obj)) (Pi : Nat → Prop) (n : Nat) (ts : List Str) (i : Nat) (s₁ s₂ : Shared) : Prop :=
  ∃ (i' : Nat) (u : Str → Option Value) (h' : Heap) (tk : Nat), s₂ = { s₁ with heap := h', toks := tk } ∧ i < i' ∧ i' ≤ n ∧ Pi i' ∧ Fr h₀ L h' (fun y => if ts.contains y then u y else m y) ∧ News h₀ L h' (Led i')
def PostW (h₀ : Heap) (L : Addr) (m : Str → Option Value) (Led : Nat → List (Addr × Obj)) (Pi : Nat → Prop) (n : Nat) (ts : List Str) (i : Nat) (s₁ : Shared) (Q : Flow → Shared → Prop) (f : Flow) (s₂ : Shared) : Prop := match f with
  | .next => EndW h₀ L m Led Pi n ts i s₁ s₂
  | .cont => EndW h₀ L m Led Pi n ts i s₁ s₂
  | .brk => Q .next s₂
  | .ret v => Q (.ret v) s₂
theorem EndW.intro {h₀ : Heap} {L : Addr} {m m' : Str → Option Value} {Led : Nat → List (Addr × Obj)} {Pi : Nat → Prop} {n i : Nat} {ts : List Str} {s₁ : Shared} {h' : Heap} {tk : Nat} {news : List (Addr × Obj)} (i' : Nat)
    (F : Fr h₀ L h' m') (N : News h₀ L h' news) (hs : ∀ p ∈ Led i', p ∈ news) (hi : i < i') (hn : i' ≤ n) (hP : Pi i') (hm : ∀ y, ts.contains y = false → m' y = m y) :
    EndW h₀ L m Led Pi n ts i s₁ { s₁ with heap := h', toks := tk } :=
  ⟨i', m', h', tk, rfl, hi, hn, hP, frame_eq F hm, fun p hp => N p (hs p hp)⟩
section
variable {prog : Program} {w : World} {A : Around} {E : Value → Shared → Prop} {s : Shared} {env : Env} {h₀ : Heap}
theorem true_is {k : Nat} {px : Pos} {Q : Bool → Shared → Prop} (h : Q true s) : wpAny (model prog w) A (isTrue (.Constant (.bool true) k px) env (eval (.Constant (.bool true) k px) env)) Q E s := by
  show wpAny _ _ (do let v ← eval (.Constant (.bool true) k px) env; standAt px; holding [v] (truthy v)) _ _ _
  refine wpAny_bind (m := eval (.Constant (.bool true) k px) env) (wpAny_pure (a := Value.bool true) (wpAny_bind (wpAny_standAt (wpAny_holding (wpAny_truthy_bool h)))))

theorem whileW {k : Nat} {px pos : Pos} {body : List Stmt} {m : Str → Option Value} {news : List (Addr × Obj)} {Q : Flow → Shared → Prop} (Led : Nat → List (Addr × Obj)) (Pi : Nat → Prop) (n i₀ : Nat) (ts : List Str)
    (F : Fr h₀ env.locals s.heap m) (N : News h₀ env.locals s.heap news) (hsub : ∀ p ∈ Led i₀, p ∈ news) (hn : i₀ ≤ n) (h0 : Pi i₀)
    (turn : ∀ i (u : Str → Option Value) h tk, i ≤ n → Pi i → Fr h₀ env.locals h (fun y => if ts.contains y then u y else m y) → News h₀ env.locals h (Led i) →
      wpAny (model prog w) A (execs body env) (PostW h₀ env.locals m Led Pi n ts i s Q) E { s with heap := h, toks := tk })
    (hE : PassesOwn (model prog w) A env E) :
    wpAny (model prog w) A (exec (.While (.Constant (.bool true) k px) body [] pos) env) Q E s := by
  refine wpAny_While ?_
  refine codeAny_whileLoop (fun j s' => ∃ (i : Nat) (u : Str → Option Value) (h : Heap) (tk : Nat), s' = { s with heap := h, toks := tk } ∧ j = n - i ∧ i ≤ n ∧ Pi i ∧ Fr h₀ env.locals h (fun y => if ts.contains y then u y else m y) ∧ News h₀ env.locals h (Led i)) ?_ (n - i₀)
    ⟨i₀, m, s.heap, s.toks, rfl, rfl, hn, h0, frame_eq F fun _ _ => rfl, fun p hp => N p (hsub p hp)⟩
  rintro j s' ⟨i, u, h, tk, rfl, rfl, hi, hP, F', N'⟩
  refine wpAny_passesOwn hE ?_
  refine true_is ?_
  rw [if_pos rfl]
  refine wpAny_passesOwn hE (wpAny_mono (turn i u h tk hi hP F' N') (fun f s₃ h₃ => ?_) fun _ _ z => z)
  cases f with
  | next =>
    obtain ⟨i', u', h', tk', rfl, hl, hn', hP', F'', N''⟩ := h₃
    exact ⟨n - i', by omega, i', u', h', tk', rfl, rfl, hn', hP', F'', N''⟩
  | cont =>
    obtain ⟨i', u', h', tk', rfl, hl, hn', hP', F'', N''⟩ := h₃
    exact ⟨n - i', by omega, i', u', h', tk', rfl, rfl, hn', hP', F'', N''⟩
  | brk => exact h₃
  | ret v => exact h₃
end
end Mine

namespace Mine
section
variable {M : Model} {A : Around} {E : Value → Shared → Prop} {s : Shared}
def IsBound (u D : Addr) (h : Heap) : Prop := h.get? u = some (boundC D)
theorem callWith_set {pos : Pos} {u D : Addr} {env : Env} {e : Expr} {Q : Value → Shared → Prop} (h : wpAny M A (eval e env) (fun v s₁ => IsBound u D s₁.heap ∧ wpAny M A (call (.ref u) [v]) Q E s₁) E s)
    (he : backTo pos (starEach [e] env) = [(false, eval e env)] := by rfl) :
    wpAny M A (callWith pos (.ref u) [] (backTo pos (starEach [e] env)) []) Q E s := by
  rw [he]
  unfold callWith
  refine wpAny_bind (wpAny_holding (Calls.evalArgs_plain (Calls.spliced_cons (wpAny_mono h (fun v s₁ h₁ => Calls.spliced_nil ?_) fun _ _ x => x))))
  refine wpAny_bind (wpAny_standAt ?_)
  obtain ⟨ho, hcall⟩ := h₁
  simp only [List.any_cons, List.any_nil, Bool.or_false]
  refine wpAny_bind (m := keeperOf (.ref u)) ?_
  unfold keeperOf
  refine wpAny_bind (wpAny_load ho ?_)
  simp only [boundC, show (Value.type "builtin_function_or_method" != Value.type "method") = true by decide, show (Value.type "builtin_function_or_method" == Value.type "builtin_function_or_method" || Value.type "builtin_function_or_method" == Value.type "method-wrapper") = true by decide, if_true]
  refine wpAny_pure ?_
  exact wpAny_bind (wpAny_mono hcall (fun r s₂ hr => wpAny_bind (wpAny_holding (wpAny_point (wpAny_pure hr)))) fun _ _ x => x)
end

theorem funFrames_hide {h base : Heap} {xs : List Addr} : ∀ {l : List Env}, (∀ env ∈ l, ∀ b, env.frame = some b → b ∈ xs) → h.FunFrames base l → h.FunFrames (hideAll h xs) l
  | [], _, _ => trivial
  | env :: r, hx, ⟨h1, ⟨L, o, e1, e2, e3, e4⟩, h2⟩ =>
    ⟨h1, ⟨L, o, e1, hideAll_none _ (hx env (.head _) L e1), e3, e4⟩, funFrames_hide (fun env' he => hx env' (.tail _ he)) h2⟩

section
variable {M : Model} {A : Around} {E : Value → Shared → Prop} {s' : Shared} {base g h : Heap} {outer : List Env} {L f e : Addr} {m : Str → Option Value} {name : Str} {scope : Scope} {cd : Value} {Q : Unit → Shared → Prop}
/-- an exception leaves a def's frame: what stays -/
theorem leave_set {cls : Value} {vs : List Value} (K : Below A base outer g) (hx : Heap.MadeExcOf h s'.heap e cls vs) (F : Fr g L h m)
    (hQ : ∀ h' ob, h'.get? e = some ob → ob.cls = cls → (∀ b o, b ≠ L → b ∉ outer.filterMap (·.frame) → h.get? b = some o → h'.get? b = some o) → (∀ b o, h.get? b = some o → (∀ vs, o.data ≠ .fields vs) → ∃ sl, h'.get? b = some { o with slots := sl }) → Q () { s' with heap := h' }) (hk : scope.kind = .function := by rfl) :
    wpAny M (A.deeper (envOf name scope L f cd)) (leaving (envOf name scope L f cd) (.ref e)) Q E s' := by
  have K' := K.push (name := name) (a := f) (cd := cd) F hk
  have hin : ∀ env ∈ (envOf name scope L f cd :: outer), ∀ b, env.frame = some b → b ∈ (envOf name scope L f cd :: outer).filterMap (·.frame) := fun env he b hb => List.mem_filterMap.mpr ⟨env, he, hb⟩
  refine wpAny_leaves_madeW K'.stack rfl (fun b o q => of_hideAll _ q) (funFrames_hide hin K'.frames) hx fun h' t x1 x2 x3 x4 => ?_
  obtain ⟨ob, ho, hc⟩ := x1.there
  refine hQ h' ob ho hc (fun b o h1 h2 q => x1.1 b o (hideAll_get _ q ?_)) fun b o q hd => x4 b o (hx.keeps b o q) hd
  intro hm
  rcases List.mem_filterMap.mp hm with ⟨env, he, hb⟩
  rcases List.mem_cons.mp he with rfl | he
  · exact h1 (Option.some.inj hb).symm
  · exact h2 (List.mem_filterMap.mpr ⟨env, he, hb⟩)
end
end Mine

namespace Mine


abbrev nxAl (x dx J D B : Addr) (o : Obj) (la : Addr) (vs : List Value) (k i : Nat) : List (Addr × Obj) := [(J, itObj la i), (x, ffObj dx J B), (dx, dictOf [] 0), (B, boundC D), (D, o), (la, listOf vs.toArray k)]
def frs (A : Around) : List Addr := (A.frames.getD []).filterMap (·.frame)
/-- all items from i up to j lie in bs -/
def AllIn (ns bs : List Int) (i j : Nat) : Prop := ∀ a, i ≤ a → a < j → ∀ k, ns[a]? = some k → k ∈ bs
theorem AllIn.nil {ns bs : List Int} {i : Nat} : AllIn ns bs i i := fun a h1 h2 => absurd h1 (by omega)
theorem AllIn.snoc {ns bs : List Int} {i j : Nat} {k : Int} (h : AllIn ns bs i j) (hk : ns[j]? = some k) (hb : k ∈ bs) : AllIn ns bs i (j + 1) := by
  intro a h1 h2 k' hk'
  by_cases ha : a < j
  · exact h a h1 ha k' hk'
  · have : a = j := by omega
    subst this; rw [hk] at hk'; cases hk'; exact hb

theorem nx_adv {h₀ h h' : Heap} {L x dx J D B la : Addr} {o : Obj} {vs : List Value} {k i : Nat} (N : News h₀ L h (nxAl x dx J D B o la vs k i))
    (hne : ∀ p ∈ [(x, ffObj dx J B), (dx, dictOf [] 0), (B, boundC D), (D, o), (la, listOf vs.toArray k)], p.1 ≠ J) (hs : Heap.SameBut J h h') (hJ : h'.get? J = some (itObj la (i + 1))) : News h₀ L h' (nxAl x dx J D B o la vs k (i + 1)) := by
  intro p hp
  rcases List.mem_cons.mp hp with rfl | hp
  · exact ⟨hJ, (N (J, itObj la i) (.head _)).2⟩
  · exact ⟨hs.extBut _ _ (hne p hp) (N p (.tail _ hp)).1, (N p (.tail _ hp)).2⟩
theorem site_at {w : World} {A : Around} {d u : Nat} {al : List (Addr × Obj)} {s : Shared} (S : Site w A d u al s) : ∀ p ∈ al, s.heap.get? p.1 = some p.2 := by
  obtain ⟨p, loose, mean, mg, mb, A₀, base, h₀, env, outer, L, m, B, F, X, T, hh, hA, hf, hke, hdep, hun, N⟩ := S
  exact fun p hp => (N p hp).1
theorem nx_keep {s : Shared} {g h : Heap} {L' x dx J D B la : Addr} {o : Obj} {vs : List Value} {k i j : Nat} {m : Str → Option Value} (hal : ∀ p ∈ nxAl x dx J D B o la vs k i, s.heap.get? p.1 = some p.2)
    (old : ∀ b o', s.heap.get? b = some o' → b ∉ (nxAl x dx J D B o la vs k i).map (·.1) → g.get? b = some o') (F : Fr g L' h m) (N : News g L' h (nxAl x dx J D B o la vs k j)) : ∀ b ob, b ≠ J → s.heap.get? b = some ob → h.get? b = some ob := by
  intro b ob hb e
  by_cases hm : b ∈ (nxAl x dx J D B o la vs k i).map (·.1)
  · obtain ⟨p, hp, rfl⟩ := List.mem_map.mp hm
    rw [hal p hp] at e; cases e
    rcases List.mem_cons.mp hp with rfl | hp
    · exact absurd rfl hb
    · exact (N p (.tail _ hp)).1
  · exact F.keep b ob (old b ob e hm)
set_option maxHeartbeats 4000000 in
theorem next_says (w : World) (x dx J D B la : Addr) (o : Obj) (vs : List Value) (k i : Nat) (ns bs : List Int) (hI : IntsAre vs ns) (hS : SetIs PG w o bs) (hi : i ≤ ns.length)
    (hne : ∀ p ∈ [(x, ffObj dx J B), (dx, dictOf [] 0), (B, boundC D), (D, o), (la, listOf vs.toArray k)], p.1 ≠ J)
    (A : Around) (s : Shared) (Q E : Value → Shared → Prop) (S : Site w A 3 60 (nxAl x dx J D B o la vs k i) s)
    (hret : ∀ j a t h' tk, i ≤ j → ns[j]? = some a → a ∉ bs → AllIn ns bs i j → h'.get? J = some (itObj la (j + 1)) → (∀ b ob, b ≠ J → s.heap.get? b = some ob → h'.get? b = some ob) → Q (.int a t) { s with heap := h', toks := tk })
    (hstop : ∀ e ob h' tk, AllIn ns bs i ns.length → h'.get? e = some ob → ob.cls = .type "StopIteration" → (∀ b ob, b ≠ J → b ∉ frs A → s.heap.get? b = some ob → h'.get? b = some ob) →
      (∀ b ob, b ≠ J → s.heap.get? b = some ob → (∀ vs, ob.data ≠ .fields vs) → ∃ sl, h'.get? b = some { ob with slots := sl }) → E (.ref e) { s with heap := h', toks := tk }) :
    wpAny (model PG w) A (call (.ref 50) [.ref x]) Q E s := by
  have hal := site_at S
  walk_at "m enter"
  intro p loose mean mg mb dp un gd base g env outer L' h₁ hA I F N B₉ X T
  subst hA
  have kMk := kstMark
  (try dsimp only)
  (try k_fold)
  w_top off
  k_with_none
  k_with "exec While Constant cons nil" =>
    rename Fr _ _ _ _ => oF
    rename News _ _ _ _ => oN
    k_dflt (refine whileW (nxAl x dx J D B o la vs k) (fun j => i ≤ j ∧ AllIn ns bs i j) ns.length i [Str.ofString "item"] oF oN (fun p hp => hp) hi ⟨Nat.le_refl _, .nil⟩ ?turn (by passes_own))
    (case' turn => (try clear oF oN); intro i' u h tk hi' hP F N; (try dsimp only [nxAl] at N); (try dsimp only); (try k_fold))
  k_with "call builtin:next" =>
    rename Fr _ _ _ _ => oF
    rename News _ _ _ _ => oN
    have hlist := News.isList oN (show (la, listOf vs.toArray k) ∈ _ by k_mem)
    have hIlen := hI.length
    rcases Nat.lt_or_ge i' ns.length with hlt | hge
    case' inl => (have hv : vs.toArray[i']? = some vs[i'] := (by simp [hIlen, hlt]); obtain ⟨a, t, ea, hka⟩ := IntsAre.at hI i' vs[i'] (by simp [hIlen, hlt]); rw [ea] at hv; refine next_led (oN (J, itObj la i') (by k_mem)).1 hlist hv ?_; intro h' hsb hJ; have hF := oF.change hsb (oN (J, itObj la i') (by k_mem)).2.1 (oN (J, itObj la i') (by k_mem)).2.2; have N2 := nx_adv oN hne hsb hJ; clear oF oN hlist hsb hJ; (try dsimp only [nxAl] at N2); (try dsimp only); (try k_fold))
    case' inr => (refine stop_led rfl (oN (J, itObj la i') (by k_mem)).1 hlist (by simp [hIlen, hge]) ?_; intro h2 h' e hext hmade)
  k_with "callWith ref" =>
    refine callWith_set (D := D) ?_
  k_with "And" =>
    rename News _ _ _ _ => oN
    refine ⟨(oN (B, boundC D) (by k_mem)).1, ?_⟩
  k_with "call ref" =>
    rename News _ _ _ _ => oN
    refine apply_led oN (show (D, o) ∈ _ by k_mem) (show (B, boundC D) ∈ _ by k_mem) hS ?_
  k_steps
  · have hk0 := nx_keep hal I.old oF oN
    have F2 := LCg.fr_but (I := J) oF (fun b ob hb e9 => hext b ob (by simpa using hb) e9) (Ne.symm (oN (J, itObj la i') (.head _)).2.1) (oN (J, itObj la i') (.head _)).2.2
    refine leave_set B₉ (cls := .type "StopIteration") (vs := []) ⟨hmade.keeps, hmade.new, hmade.there⟩ F2 ?_
    intro h' ob he hc hk1 hk2
    have ei : i' = ns.length := by omega
    refine hstop e ob h' _ (ei ▸ hP.2) he hc ?_ ?_
    · intro b ob' hb hbf e9
      exact hk1 b ob' (fun q => by have := Nat.lt_of_lt_of_le (Heap.lt_size e9) I.low; rw [q] at this; exact Nat.lt_irrefl _ this) hbf (hext b ob' hb (hk0 b ob' hb e9))
    · intro b ob' hb e9 hd
      exact hk2 b ob' (hext b ob' hb (hk0 b ob' hb e9)) hd
  · rename News _ _ _ _ => nE
    exact (nE (B, boundC D) (by k_mem)).1
  · (try k_unfold)
    dsimp only [PostW]
    refine EndW.intro (i' + 1) (by assumption) oN (fun p hp => hp) (Nat.lt_succ_self _) hlt ⟨Nat.le_succ_of_le hP.1, hP.2.snoc hka (by assumption)⟩ ?_
    intro y hy
    have hy2 : y ≠ Str.ofString "item" := fun e9 => by rw [e9] at hy; exact absurd hy (by decide)
    rw [if_neg hy2, if_neg (by rw [hy]; decide)]
    try rfl
  · (try k_unfold)
    dsimp only [PostW]
    exact hret i' a t _ _ hP.1 hka (by assumption) hP.2 (oN _ (.head _)).1 (nx_keep hal I.old (by assumption) oN)
end Mine

namespace Mine
local macro_rules | `(tactic| walk_at "pad") => `(tactic| fail "pad")
set_option maxHeartbeats 4000000 in
theorem iter_says (w : World) (x : Addr) : Fn w 1 20 43 [.ref x] [] (fun _ => True) (fun _ _ r => r = .ref x) := by
  intro A s Q E S _ hret
  walk_at "m enter"
  intro p loose mean mg mb dp un gd base g env outer L' h₁ hA I F N B X T
  subst hA
  have kMk := kstMark
  (try dsimp only)
  (try k_fold)
  w_top off
  k_with_none
  k_steps
  (try k_unfold)
  exact hret _ _ _ (I.back _ _ _ (by assumption) (by assumption) (fun _ h9 => nomatch h9)) rfl

/-- what is left of ns when all of bs is taken away -/
def leftN (ns bs : List Int) (i : Nat) : List Int := (ns.take i).filter fun a => decide (a ∉ bs)
theorem leftN_all {ns bs : List Int} {i j : Nat} (h : AllIn ns bs i j) (hij : i ≤ j) (hj : j ≤ ns.length) : leftN ns bs j = leftN ns bs i := by
  induction j with
  | zero => have : i = 0 := by omega
            rw [this]
  | succ j ih =>
    by_cases hi : i = j + 1
    · rw [hi]
    · have e : ns[j]? = some (ns[j]'(by omega)) := by simp [show j < ns.length by omega]
      have hb := h j (by omega) (Nat.lt_succ_self _) _ e
      rw [← ih (fun a h1 h2 => h a h1 (by omega)) (by omega) (by omega)]
      unfold leftN
      rw [List.take_add_one, e, List.filter_append]
      simp [hb]
theorem leftN_snoc {ns bs : List Int} {j : Nat} {a : Int} (e : ns[j]? = some a) (ha : a ∉ bs) : leftN ns bs (j + 1) = leftN ns bs j ++ [a] := by
  unfold leftN
  rw [List.take_add_one, e, List.filter_append]
  simp [ha]

section
variable {w : World} {A A₀ : Around} {E : Value → Shared → Prop} {p : Program} {loose : List Str} {mean : ExcName → Option Value} {mg mb : Str → Option Value} {base h₀ : Heap} {env : Env} {outer : List Env} {L : Addr} {m : Str → Option Value} {s : Shared}

theorem ff_inst {h : Heap} {x dx J D B la : Addr} {o : Obj} {vs : List Value} {k i : Nat} (N : News h₀ L h (nxAl x dx J D B o la vs k i)) : InstAt h x (ffObj dx J B) 54 (some (dictOf [] 0)) := by
  have hN := N
  k_inst

set_option maxHeartbeats 4000000 in
theorem ff_loop {x dx J D Bd la Sd : Addr} {o : Obj} {vs : List Value} {k : Nat} {ns bs : List Int} {R : Result → Shared → Prop} (hI : IntsAre vs ns) (hS : SetIs PG w o bs) (hlen : ns.length ≤ 1000)
    (B : Below A₀ base outer h₀) (X : (Mine.hd.heap_39 w.params).In h₀) (T : Top p loose mean mg mb h₀) (hh : A.handled = none) (hA : A.frames = some (env :: outer)) (hf : env.frame = some L) (hk : env.scope.kind = .function)
    (hd : A.depth + 3 < recursionLimit) (hu : A.units + 70 < cLine) (hSf : Sd ∉ frs A) (hSJ : Sd ≠ J)
    (hne : ∀ p ∈ [(x, ffObj dx J Bd), (dx, dictOf [] 0), (Bd, boundC D), (D, o), (la, listOf vs.toArray k)], p.1 ≠ J) (hSn : ∀ p ∈ [(x, ffObj dx J Bd), (dx, dictOf [] 0), (Bd, boundC D), (D, o), (la, listOf vs.toArray k)], p.1 ≠ Sd) (hS0 : h₀.get? Sd = none) (hSL : Sd ≠ L)
    (hR : ∀ h' tk acc' c', h'.get? Sd = some { cls := .type "list", dict := none, data := .seq acc' c', slots := #[] } → IntsAre acc'.toList (leftN ns bs ns.length) →
      (∀ b ob, b ≠ J → b ≠ Sd → b ∉ frs A → s.heap.get? b = some ob → h'.get? b = some ob) → (∀ b ob, b ≠ J → b ≠ Sd → s.heap.get? b = some ob → (∀ vs, ob.data ≠ .fields vs) → ∃ sl, h'.get? b = some { ob with slots := sl }) →
      R (.ok (.ret .none)) { s with heap := h', toks := tk }) :
    ∀ (r i : Nat) (h : Heap) (tk : Nat) (acc : Array Value) (c : Nat), ns.length - i = r → i ≤ ns.length → Fr h₀ L h m → News h₀ L h (nxAl x dx J D Bd o la vs k i) → h.get? Sd = some { cls := .type "list", dict := none, data := .seq acc c, slots := #[] } →
      IntsAre acc.toList (leftN ns bs i) → (∀ b ob, b ≠ J → b ≠ Sd → s.heap.get? b = some ob → h.get? b = some ob) →
      codeAny (model PG w) A (.builtin "list.extend.loop" ⟨[.ref Sd, .ref x, .none], []⟩) R { s with heap := h, toks := tk } := by
  intro r
  induction r using Nat.strongRecOn with
  | ind r ih =>
  intro i h tk acc c hr hi F N hSd hacc hkeep
  refine codeAny_builtin PySem.F.entry_extend_loop ?_
  rw [Around.under_plainId PySem.F.plain_extend_loop _]
  show wpAny _ A.in1 (pyNext (.ref x) >>= _) _ _ _
  refine wpAny_bind ?_
  k_dflt (refine' owit_next F X (ff_inst N) ?hs ?hf ?_; (case hs => k_is); (case hf => k_is))
  refine next_says w x dx J D Bd la o vs k i ns bs hI hS hi hne A.in1 _ _ _ ⟨p, loose, mean, mg, mb, A₀, base, h₀, env, outer, L, m, B, F, X, T, hh, hA, hf, hk, hd, (by show A.units + 1 + 60 < cLine; omega), N⟩ ?_ ?_
  · intro j a t h' tk' hij hja hab hall hJ hkp
    have hjl : j < ns.length := (List.getElem?_eq_some_iff.mp hja).1
    have hSd' := hkp Sd _ hSJ hSd
    have hacc2 := hacc
    rw [← leftN_all hall hij (Nat.le_of_lt hjl)] at hacc2
    have hsz : acc.size ≤ 1000 := (by
      have e1 := hacc2.length
      have e2 : (leftN ns bs j).length ≤ ns.length := Nat.le_trans (List.length_filter_le _ _) (by rw [List.length_take]; exact Nat.min_le_right _ _)
      rw [Array.length_toList] at e1
      omega)
    show wpAny _ A.in1 (updateSeq Sd (·.push (.int a t)) >>= _) _ _ _
    refine wpAny_bind ?_
    have F' : Fr h₀ L h' m := LCg.fr_but (I := J) F (fun b ob hb e9 => hkp b ob (by simpa using hb) e9) (Ne.symm (N (J, itObj la i) (.head _)).2.1) (N (J, itObj la i) (.head _)).2.2
    have hsame := fun b ob (hb : b ≠ Sd) (e9 : h'.get? b = some ob) => (Heap.get?_update_other h' (Obj.mapSeq (·.push (.int a t))) (Ne.symm hb)).trans e9
    refine wpAny_updateSeq hSd' rfl (wpAny_pure ⟨plainId_quiet PySem.F.plain_extend_loop _, ih (ns.length - (j + 1)) (by omega) (j + 1) _ tk' (acc.push (.int a t)) _ rfl hjl
      (LCg.fr_but (I := Sd) F' (fun b ob hb e9 => hsame b ob (by simpa using hb) e9) (Ne.symm hSL) hS0) ?_ (Heap.get?_update_self _ hSd' rfl) ?_ ?_⟩) (by rw [sizeLine_eq]; omega) (by show (acc.push _).size ≤ sizeLine + 1; rw [Array.size_push, sizeLine_eq]; omega)
    · intro q hq
      rcases List.mem_cons.mp hq with rfl | hq
      · exact ⟨hsame _ _ (Ne.symm hSJ) hJ, (N (J, itObj la i) (.head _)).2⟩
      · exact ⟨hsame _ _ (hSn q hq) (hkp _ _ (hne q hq) (N q (.tail _ hq)).1), (N q (.tail _ hq)).2⟩
    · rw [leftN_snoc hja hab, Array.toList_push]
      exact hacc2.append (.cons a t .nil)
    · intro b ob h1 h2 e9
      exact hsame b ob h2 (hkp b ob h1 (hkeep b ob h1 h2 e9))
  · intro e ob h' tk' hall he hc hk1 hk2
    unfold OwitStop
    refine wpAny_isInstance ⟨ob, he, hc⟩ (T := "StopIteration") isSubtype_stop ?_
    rw [if_pos rfl]
    refine wpAny_pure (hR h' tk' acc c (hk1 Sd _ hSJ hSf hSd) (by rw [leftN_all hall hi (Nat.le_refl _)]; exact hacc) ?_ ?_)
    · intro b ob' h1 h2 h3 e9
      exact hk1 b ob' h1 h3 (hkeep b ob' h1 h2 e9)
    · intro b ob' h1 h2 e9 hd9
      exact hk2 b ob' h1 (hkeep b ob' h1 h2 e9) hd9
end
end Mine

namespace Mine
section
variable {w : World} {A A₀ : Around} {E : Value → Shared → Prop} {p : Program} {loose : List Str} {mean : ExcName → Option Value} {mg mb : Str → Option Value} {base h₀ : Heap} {env : Env} {outer : List Env} {L : Addr} {m : Str → Option Value} {s : Shared}

theorem frs_lt (B : Below A₀ base outer h₀) (F : Fr h₀ L s.heap m) (hA : A.frames = some (env :: outer)) (hf : env.frame = some L) : ∀ b ∈ frs A, b < s.heap.objs.size := by
  intro b hb
  unfold frs at hb
  rw [hA] at hb
  obtain ⟨e, he, hfe⟩ := List.mem_filterMap.mp hb
  rcases List.mem_cons.mp he with rfl | he
  · rw [hf] at hfe; cases hfe; exact F.ns.lt
  · obtain ⟨L₁, o₁, hf₁, ho₁⟩ := funFrames_in B.frames e he
    rw [hf₁] at hfe; cases hfe
    exact Heap.lt_size (F.keep _ _ ho₁)

set_option maxHeartbeats 4000000 in
theorem list_ff {x dx J D Bd la : Addr} {o : Obj} {vs : List Value} {k : Nat} {ns bs : List Int} {Q : Value → Shared → Prop} (hI : IntsAre vs ns) (hS : SetIs PG w o bs) (hlen : ns.length ≤ 1000)
    (B : Below A₀ base outer h₀) (F : Fr h₀ L s.heap m) (X : (Mine.hd.heap_39 w.params).In h₀) (T : Top p loose mean mg mb h₀) (hh : A.handled = none) (hA : A.frames = some (env :: outer)) (hf : env.frame = some L) (hk : env.scope.kind = .function)
    (hd : A.depth + 3 < recursionLimit) (hu : A.units + 80 < cLine) (N : News h₀ L s.heap (nxAl x dx J D Bd o la vs k 0))
    (hne : ∀ p ∈ [(x, ffObj dx J Bd), (dx, dictOf [] 0), (Bd, boundC D), (D, o), (la, listOf vs.toArray k)], p.1 ≠ J)
    (hQ : ∀ Sd h' tk vs' c', s.heap.get? Sd = none → h'.get? Sd = some (listOf vs'.toArray c') → IntsAre vs' (leftN ns bs ns.length) →
      (∀ b ob, b ≠ J → b ∉ frs A → s.heap.get? b = some ob → h'.get? b = some ob) → (∀ b ob, b ≠ J → s.heap.get? b = some ob → (∀ vs, ob.data ≠ .fields vs) → ∃ sl, h'.get? b = some { ob with slots := sl }) →
      Q (.ref Sd) { s with heap := h', toks := tk }) :
    wpAny (model PG w) A (call (.type "list") [.ref x]) Q E s := by
  have hfl := frs_lt B F hA hf
  have hlt : ∀ q ∈ nxAl x dx J D Bd o la vs k 0, q.1 < s.heap.objs.size := fun q hq => Heap.lt_size (N q hq).1
  have hxlt := hlt (x, ffObj dx J Bd) (by k_mem)
  refine callType_codes (Q₁ := fun obj s₁ => obj = .ref s.heap.objs.size ∧ s₁ = { s with heap := s.heap.push { cls := .type "list", data := .seq #[] } }) PySem.F.called_list (PySem.F.typeCall_list_1 _) PySem.F.entry_list_init
    (code_list_new _ ⟨rfl, rfl⟩) fun obj s₁ h₁ => ?_
  obtain ⟨rfl, rfl⟩ := h₁
  have hS₁ : (s.heap.push { cls := .type "list", data := .seq #[] }).get? s.heap.objs.size = some { cls := .type "list", data := .seq #[] } := Heap.get?_push_size _ rfl
  refine ⟨⟨_, hS₁, rfl⟩, PySem.F.args_list_init_2 _ _, ?_⟩
  show wpAny _ _ (do let old ← Builtin.List.listItems (.ref s.heap.objs.size); Builtin.List.listUpdate (.ref s.heap.objs.size) (fun _ => #[]); letGo old.toList.reverse; Builtin.List.listExtendWith (.ref s.heap.objs.size) (.ref x) .none) _ _ _
  refine wpAny_bind ?_
  unfold Builtin.List.listItems
  refine wpAny_bind (wpAny_seqItems hS₁ rfl (wpAny_pure ?_))
  show wpAny _ _ (updateSeq s.heap.objs.size (fun _ => #[]) >>= fun _ => letGo (#[] : Array Value).toList.reverse >>= fun _ => Builtin.List.listExtendWith (.ref s.heap.objs.size) (.ref x) .none) _ _ _
  refine wpAny_bind (wpAny_updateSeq hS₁ rfl ?_)
  have hS₂ := Heap.get?_update_self (Obj.mapSeq (fun _ => (#[] : Array Value))) hS₁ rfl
  have hkp : ∀ b ob, s.heap.get? b = some ob → ((s.heap.push { cls := .type "list", data := .seq #[] }).update s.heap.objs.size (Obj.mapSeq (fun _ => (#[] : Array Value)))).get? b = some ob := fun b ob e =>
    (Heap.get?_update_other _ _ (Nat.ne_of_gt (Heap.lt_size e))).trans (Heap.get?_push_of_some _ e)
  refine wpAny_bind (wpAny_letGo ?_)
  generalize hH : (s.heap.push { cls := .type "list", data := .seq #[] }).update s.heap.objs.size (Obj.mapSeq (fun _ => (#[] : Array Value))) = H at hS₂ hkp
  have F₂ : Fr h₀ L H m := F.keeps hkp
  have N₂ : News h₀ L H (nxAl x dx J D Bd o la vs k 0) := fun q hq => ⟨hkp _ _ (N q hq).1, (N q hq).2⟩
  have I₂ := ff_inst N₂
  have X₂ := X.keeps F₂.keep
  unfold Builtin.List.listExtendWith
  refine wpAny_bind (I₂.type.here ?_)
  have h1 : Builtin.List.listSameRef (.ref s.heap.objs.size) (.ref x) = false := by simp [Builtin.List.listSameRef, Nat.ne_of_gt hxlt]
  have h2 : (Value.ref 54 == Value.type "list") = false := rfl
  have h3 : (Value.ref 54 == Value.type "tuple") = false := rfl
  simp only [h1, h2, h3, Bool.or_false, Bool.false_eq_true, if_false]
  refine wpAny_bind ?_
  k_dflt (refine' owit_iter F₂ X I₂ ?hs ?hf ?_; (case hs => k_is); (case hf => k_is))
  refine fn_use (iter_says w x) B F₂ X T hh hA hf hk (by show A.depth + 1 < recursionLimit; omega) (by show A.units + 1 + 1 + 20 < cLine; omega) N₂ (fun _ h9 => nomatch h9) trivial ?_
  intro r h' tk hs F' N' hn ho
  subst ho
  have hSd' : h'.get? s.heap.objs.size = some { cls := .type "list", data := .seq #[] 0 } := by
    have := hs _ _ hS₂
    exact this
  have hkp' : ∀ b ob, s.heap.get? b = some ob → h'.get? b = some ob := fun b ob e => hs _ _ (hkp b ob e)
  k_dflt (refine' owit_it F' X (ff_inst N') ?hs ?_; (case hs => k_is))
  have I' := ff_inst N'
  have X' := X.keeps F'.keep
  have l1 : findIn (Mine.hd.heap_39 w.params) (.ref 54) "__len__" = some none := by k_dflt k_is
  have l2 : findIn (Mine.hd.heap_39 w.params) (.ref 54) "__length_hint__" = some none := by k_dflt k_is
  refine wpAny_bind (wpAny_holding ?_)
  unfold Builtin.List.listLengthHint specialOf
  refine wpAny_bind (wpAny_bind (I'.type.here ((looks_findIn X' l1).here ?_)))
  show wpAny _ _ ((typeOf (.ref x) >>= fun tp => typeLookup tp "__length_hint__") >>= _) _ _ _
  refine wpAny_bind (wpAny_bind (I'.type.here ((looks_findIn X' l2).here ?_)))
  refine wpAny_pure ?_
  show wpAny _ _ (rule "list.extend.makes-room" >>= fun _ => Builtin.List.listTouch (.ref s.heap.objs.size) >>= fun _ => again (.builtin "list.extend.loop" ⟨[.ref s.heap.objs.size, .ref x, .none], []⟩)) _ _ _
  refine wpAny_bind (wpAny_rule ?_)
  refine wpAny_bind ?_
  show wpAny _ _ (updateSeq s.heap.objs.size (·.push .none) >>= fun _ => updateSeq s.heap.objs.size (·.pop)) _ _ _
  refine wpAny_bind (wpAny_updateSeq hSd' rfl ?_)
  have hS₃ := Heap.get?_update_self (Obj.mapSeq (·.push Value.none)) hSd' rfl
  refine wpAny_updateSeq (hz := by seq_fits) hS₃ rfl ?_
  have hS₄ := Heap.get?_update_self (Obj.mapSeq (·.pop)) hS₃ rfl
  have oth : ∀ b ob, b ≠ s.heap.objs.size → h'.get? b = some ob → ((h'.update s.heap.objs.size (Obj.mapSeq (·.push Value.none))).update s.heap.objs.size (Obj.mapSeq (·.pop))).get? b = some ob :=
    fun b ob hb e => (Heap.get?_update_other _ _ (Ne.symm hb)).trans ((Heap.get?_update_other _ _ (Ne.symm hb)).trans e)
  have hS0 : h₀.get? s.heap.objs.size = none := next_is_new F
  have hSL : s.heap.objs.size ≠ L := Nat.ne_of_gt F.ns.lt
  have hfA : frs A.in1 = frs A := rfl
  refine wpAny_pure ⟨plainId_quiet PySem.F.plain_extend_loop _, ff_loop (A := A.in1) (s := s) (m := m) (Bd := Bd) (la := la) (vs := vs) (k := k) (ns := ns) (bs := bs) hI hS hlen B X T hh hA hf hk hd (by show A.units + 1 + 70 < cLine; omega)
    (fun hm => Nat.lt_irrefl _ (hfl _ hm)) (Nat.ne_of_gt (hlt (J, itObj la 0) (.head _))) hne (fun q hq => Nat.ne_of_lt (hlt q (.tail _ hq))) hS0 hSL ?_ ns.length 0 _ _ #[] _ (Nat.sub_zero _) (Nat.zero_le _)
    (LCg.fr_but (I := s.heap.objs.size) F' (fun b ob hb e9 => oth b ob (by simpa using hb) e9) (Ne.symm hSL) hS0) (fun q hq => ⟨oth _ _ (Nat.ne_of_lt (hlt q hq)) (N' q hq).1, (N' q hq).2⟩) hS₄ (by unfold leftN; simp only [List.take_zero, List.filter_nil]; exact .nil)
    (fun b ob h1 h2 e9 => oth b ob h2 (hkp' b ob e9))⟩
  intro h9 tk9 acc9 c9 g1 g2 g3 g4
  refine ⟨rfl, hQ s.heap.objs.size h9 tk9 acc9.toList c9 (Heap.get?_none_of_le (Nat.le_refl _)) (by simpa using g1) g2 ?_ ?_⟩
  · intro b ob h1 h2 e9
    exact g3 b ob h1 (Nat.ne_of_lt (Heap.lt_size e9)) h2 e9
  · intro b ob h1 e9 hd9
    exact g4 b ob h1 (Nat.ne_of_lt (Heap.lt_size e9)) e9 hd9
end
end Mine

namespace Mine
/-- enterR for a def that keeps names in cells -/
theorem enterC {w : World} {A : Around} {d u : Nat} {al : List (Addr × Obj)} {s : Shared} {R : Result → Shared → Prop} {name qual : Str} {params : Arguments} {body : List Stmt} {scope : Scope} {dV kV doc pm cdv ct oc : Value} {an od : Option Addr} {osl : Array (Option Value)} {f : Addr} {args : Args} {binds : List (Str × Value)}
    (S : Site w A d u al s) (hd : 1 ≤ d)
    (ho : (Mine.hd.heap_39 w.params).lookup f = some ⟨oc, od, .func (fnOf name qual params body scope dV kV doc pm an cdv ct), osl⟩) (hcd : codeIn (Mine.hd.heap_39 w.params) cdv qual = true)
    (hbind : BindsTo s (fnOf name qual params body scope dV kV doc pm an cdv ct) args binds)
    (hkind : ∀ n, ∀ x ∈ binds, scope.names.lookup x.1 = some .local ∨ (scope.names.lookup x.1 = some .cell ∧ ((cellsFrom n scope.names []).lookup x.1).isSome = true))
    (hnd : ((cellsFrom 0 scope.names []).map (·.1)).Nodup)
    (h : ∀ (p : Program) (loose : List Str) (mean : ExcName → Option Value) (mg mb : Str → Option Value) (dp un : Nat) (gd : Option (List Code)) (base g : Heap) (env : Env) (outer : List Env) (L' : Addr) (h₁ : Heap) (tk : Nat) (cells : List (Addr × Obj)),
      A = topA dp un gd env outer → Inn s al d u dp un g L' →
      Fr g L' h₁ (bindL (envOfC qual scope L' f cdv).kindOf binds fun _ => none) → News g L' h₁ (cells ++ al) → CellsAre (bindC (envOfC qual scope L' f cdv).kindOf binds fun _ => none) (cellsFrom (L' + 1) scope.names []) cells →
      Below (topA dp un gd env outer) base (env :: outer) g → (Mine.hd.heap_39 w.params).In g → Top p loose mean mg mb g →
      wpAny (model PG w) ((topA dp un gd env outer).deeper (envOfC qual scope L' f cdv)) (execs body (envOfC qual scope L' f cdv))
        (fun fl s' => R (.ok (.ret (match fl with | .ret v => v | _ => .none))) s')
        (fun e s' => wpAny (model PG w) ((topA dp un gd env outer).deeper (envOfC qual scope L' f cdv)) (leaving (envOfC qual scope L' f cdv) e) (fun _ s'' => R (.error e) s'') (fun e' s'' => R (.error e') s'') s')
        { s with heap := h₁, toks := tk })
    (hco : scope.isCoroutine = false) (hgen : scope.isGenerator = false) (hk : scope.kind = .function) : codeAny (model PG w) A (.call (.ref f) args) R s := by
  obtain ⟨p, loose, mean, mg, mb, A₀, base, h₀, env, outer, L, m, B, F, X, T, hh, hA, hf, hke, hdep, hun, N⟩ := S
  obtain ⟨hd0, dp, fr, gd, un⟩ := A
  simp only at hh hA
  subst hh; subst hA
  obtain ⟨FG, BG, st, lv⟩ := groundX (R := R) (A := topA dp un gd env outer) B F N rfl hf hke
  have X' : (Mine.hd.heap_39 w.params).In s.heap := X.keeps F.keep
  refine codeAny_call_function (fd := fnOf name qual params body scope dV kV doc pm an cdv ct) (by show dp < recursionLimit; simp only at hdep; omega) (X' _ _ ho) rfl hco hgen rfl (codeRec_of X' hcd) (hbind _ _ _ _ ?_)
  refine wpAny_newFunctionEnv_cells hk (hkind _) fun env' he s' x => ?_
  subst he
  refine ⟨(T.nolimit.keeps F.keep).keeps x.toInCall.keep, codeAny_func ?_⟩
  obtain ⟨h₁, tk, rfl, _⟩ := x.done
  have hk₁ := x.toInCall.keep
  obtain ⟨cells, NC, Y⟩ := Cl.news (h₀ := s.heap) (Nat.le_refl _) fun n c hm => ⟨x.cell n c (lookup_of_mem_nodup (cellsFrom_names scope.names 0 (s.heap.objs.size + 1) [] [] rfl ▸ hnd) hm), x.above n c hm⟩
  refine h p loose mean mg mb dp un gd base _ env outer s.heap.objs.size h₁ tk cells rfl ⟨hdep, hun, (fun b o e hb => hideAll_get _ e hb),
    (fun b hb => by
      cases q : (hideAll s.heap (al.map (·.1))).get? b with
      | none => rfl
      | some o => exact absurd (Nat.lt_of_lt_of_le (Heap.lt_size (of_hideAll _ q)) hb) (Nat.lt_irrefl _)),
    Nat.le_refl _, (fun h' m' al' F' N' hs => stays_of N F' N' hs), (fun q hq => Heap.lt_size (N q hq).1)⟩
    ⟨x.toInCall.ns, fun b o e => hk₁ b o (of_hideAll _ e), Nat.le_of_eq (hideAll_size _ _)⟩ (fun p hp => ?_) Y BG (X.keeps st) (T.keeps st)
  rcases List.mem_append.mp hp with hp | hp
  · refine ⟨(NC p hp).1, (NC p hp).2.1, ?_⟩
    cases q : (hideAll s.heap (al.map (·.1))).get? p.1 with
    | none => rfl
    | some o => have := of_hideAll _ q; rw [(NC p hp).2.2] at this; cases this
  · exact ⟨hk₁ _ _ (N p hp).1, Nat.ne_of_lt (Heap.lt_size (N p hp).1), hideAll_none _ (List.mem_map_of_mem hp)⟩
end Mine

namespace Mine
theorem compTurn_in (elt t1 i1 t2 i2 : Expr) (scope : Scope) (pos : Pos) (it acc : Value) (env : Env) :
    compTurn (.ListComp elt [⟨t1, i1, [], 0⟩, ⟨t2, i2, [], 0⟩] scope pos) 1 it acc env = (standAt i2.pos >>= fun _ => pyNext it >>= fun r => match r with
      | none => pure (.done .next)
      | some v => letOwnedTupleGo t2 it v >>= fun _ => assign t2 env v >>= fun _ =>
        (eval elt env >>= fun x => call (.builtin "list.append") [acc, x] >>= fun _ => pure ()) >>= fun _ =>
          again (.compLoop (.ListComp elt [⟨t1, i1, [], 0⟩, ⟨t2, i2, [], 0⟩] scope pos) 1 it acc env)) := by rfl
theorem compTurn_out (elt t1 i1 t2 i2 : Expr) (scope : Scope) (pos : Pos) (it acc : Value) (env : Env) :
    compTurn (.ListComp elt [⟨t1, i1, [], 0⟩, ⟨t2, i2, [], 0⟩] scope pos) 0 it acc env = (standAt i1.pos >>= fun _ => pyNext it >>= fun r => match r with
      | none => pure (.done .next)
      | some v => letOwnedTupleGo t1 it v >>= fun _ => assign t1 env v >>= fun _ => eval i2 env >>= fun x => standAt i2.pos >>= fun _ => foldedSetIterable i2 env x >>= fun x => holding [x] (pyIter x) >>= fun it2 =>
          runOwn (.compStart (.ListComp elt [⟨t1, i1, [], 0⟩, ⟨t2, i2, [], 0⟩] scope pos) 1 it2 acc env) env >>= fun _ =>
          again (.compLoop (.ListComp elt [⟨t1, i1, [], 0⟩, ⟨t2, i2, [], 0⟩] scope pos) 0 it acc env)) := by rfl
section
variable {prog : Program} {w : World} {A : Around} {R : Result → Shared → Prop} {s : Shared}
theorem comp_in {elt t1 i1 t2 i2 : Expr} {scope : Scope} {pos : Pos} {it acc : Value} {env : Env} (I : Nat → Shared → Prop)
    (turn : ∀ n s, I n s → wpAny (model prog w) A (pyNext it) (fun r s₁ => match r with
      | none => R (.ok .next) s₁
      | some v => wpAny (model prog w) A (assign t2 env v) (fun _ s₂ => wpAny (model prog w) A (eval elt env) (fun x s₃ =>
          wpAny (model prog w) A (call (.builtin "list.append") [acc, x]) (fun _ s₄ => ∃ m, m < n ∧ I m s₄) (notedBy (model prog w) A env fun e s' => R (.error e) s') s₃)
          (notedBy (model prog w) A env fun e s' => R (.error e) s') s₂) (notedBy (model prog w) A env fun e s' => R (.error e) s') s₁) (notedBy (model prog w) A env fun e s' => R (.error e) s') s)
    (n : Nat) (h : I n s) (ht : ∀ v, letOwnedTupleGo t2 it v = pure () := by intro _; rfl) :
    codeAny (model prog w) A (.compLoop (.ListComp elt [⟨t1, i1, [], 0⟩, ⟨t2, i2, [], 0⟩] scope pos) 1 it acc env) R s := by
  refine codeAny_loop rfl I (fun n s hI => ?_) n h
  show wpAny _ _ ((compTurn (.ListComp elt [⟨t1, i1, [], 0⟩, ⟨t2, i2, [], 0⟩] scope pos) 1 it acc env).onRaise (fun x => do noteFrame x env; theTreesLotGoes x)) _ _ s
  refine wpAny_noted ?_
  rw [compTurn_in]
  refine wpAny_bind (wpAny_standAt (wpAny_bind (wpAny_mono (turn n s hI) (fun r s₁ h₁ => ?_) fun _ _ h' => h')))
  cases r with
  | none => exact wpAny_pure h₁
  | some v =>
    refine wpAny_bind (wpAny_of_eq (ht v) ?_)
    exact wpAny_bind (wpAny_mono h₁ (fun _ s₂ h₂ => wpAny_bind (wpAny_bind (wpAny_mono h₂ (fun x s₃ h₃ => wpAny_bind (wpAny_mono h₃
      (fun _ s₄ h₄ => wpAny_pure (wpAny_pure ⟨rfl, h₄⟩)) fun _ _ h' => h')) fun _ _ h' => h'))) fun _ _ h' => h')
theorem comp_out {elt t1 i1 t2 i2 : Expr} {scope : Scope} {pos : Pos} {it acc : Value} {env : Env} (I : Nat → Shared → Prop)
    (turn : ∀ n s, I n s → wpAny (model prog w) A (pyNext it) (fun r s₁ => match r with
      | none => R (.ok .next) s₁
      | some v => wpAny (model prog w) A (assign t1 env v) (fun _ s₂ => wpAny (model prog w) A (eval i2 env) (fun x s₃ =>
          wpAny (model prog w) A (pyIter x) (fun it2 s₄ =>
            wpAny (model prog w) A (runOwn (.compStart (.ListComp elt [⟨t1, i1, [], 0⟩, ⟨t2, i2, [], 0⟩] scope pos) 1 it2 acc env) env) (fun _ s₅ => ∃ m, m < n ∧ I m s₅) (notedBy (model prog w) A env fun e s' => R (.error e) s') s₄)
            (notedBy (model prog w) A env fun e s' => R (.error e) s') s₃)
          (notedBy (model prog w) A env fun e s' => R (.error e) s') s₂) (notedBy (model prog w) A env fun e s' => R (.error e) s') s₁) (notedBy (model prog w) A env fun e s' => R (.error e) s') s)
    (n : Nat) (h : I n s) (hfs : ∀ x, foldedSetIterable i2 env x = pure x) (ht : ∀ v, letOwnedTupleGo t1 it v = pure () := by intro _; rfl) :
    codeAny (model prog w) A (.compLoop (.ListComp elt [⟨t1, i1, [], 0⟩, ⟨t2, i2, [], 0⟩] scope pos) 0 it acc env) R s := by
  refine codeAny_loop rfl I (fun n s hI => ?_) n h
  show wpAny _ _ ((compTurn (.ListComp elt [⟨t1, i1, [], 0⟩, ⟨t2, i2, [], 0⟩] scope pos) 0 it acc env).onRaise (fun x => do noteFrame x env; theTreesLotGoes x)) _ _ s
  refine wpAny_noted ?_
  rw [compTurn_out]
  refine wpAny_bind (wpAny_standAt (wpAny_bind (wpAny_mono (turn n s hI) (fun r s₁ h₁ => ?_) fun _ _ h' => h')))
  cases r with
  | none => exact wpAny_pure h₁
  | some v =>
    refine wpAny_bind (wpAny_of_eq (ht v) ?_)
    refine wpAny_bind (wpAny_mono h₁ (fun _ s₂ h₂ => ?_) fun _ _ h' => h')
    refine wpAny_bind (wpAny_mono h₂ (fun x s₃ h₃ => ?_) fun _ _ h' => h')
    refine wpAny_bind (wpAny_standAt (wpAny_bind (wpAny_of_eq (hfs x) ?_)))
    refine wpAny_bind (wpAny_holding (wpAny_mono h₃ (fun it2 s₄ h₄ => ?_) fun _ _ h' => h'))
    exact wpAny_bind (wpAny_mono h₄ (fun _ s₅ h₅ => wpAny_pure ⟨rfl, h₅⟩) fun _ _ h' => h')
/-- the inner clause starts -/
theorem start_in {elt t1 i1 t2 i2 : Expr} {scope : Scope} {pos : Pos} {it acc : Value} {env : Env}
    (h0 : codeAny (model prog w) A (.compLoop (.ListComp elt [⟨t1, i1, [], 0⟩, ⟨t2, i2, [], 0⟩] scope pos) 1 it acc env) R s)
    (h : wpAny (model prog w) A (pyIter it) (fun it' s' => codeAny (model prog w) A (.compLoop (.ListComp elt [⟨t1, i1, [], 0⟩, ⟨t2, i2, [], 0⟩] scope pos) 1 it' acc env) R s')
      (notedBy (model prog w) A env fun x s' => R (.error x) s') s) :
    codeAny (model prog w) A (.compStart (.ListComp elt [⟨t1, i1, [], 0⟩, ⟨t2, i2, [], 0⟩] scope pos) 1 it acc env) R s := by
  refine codeAny_of_tree ?_
  show wpAny _ _ ((compStart (.ListComp elt [⟨t1, i1, [], 0⟩, ⟨t2, i2, [], 0⟩] scope pos) 1 it acc env).onRaise (fun x => do noteFrame x env; standAt theWindowsPlace)) _ _ s
  refine wpAny_notedAt ?_
  unfold compStart
  show wpAny _ _ (ask >>= _) _ _ s
  refine wpAny_bind (wpAny_askSetting (wpAny_ite ?_))
  split
  · first
      | exact wpAny_bind (wpAny_pure (wpAny_pure (And.intro rfl h0)))
      | exact wpAny_pure (And.intro rfl h0)
  · first
      | exact wpAny_bind (wpAny_rule (wpAny_bind (wpAny_standAt (wpAny_bind (wpAny_mono h (fun it' s' h' => wpAny_pure (And.intro rfl h')) fun _ _ x => x)))))
      | (refine wpAny_bind (wpAny_rule ?_); show wpAny _ _ (standAt i2.pos >>= _) _ _ s; exact wpAny_bind (wpAny_standAt (wpAny_bind (wpAny_mono h (fun it' s' h' => wpAny_pure (And.intro rfl h')) fun _ _ x => x))))
end
end Mine

namespace Mine
def stepsN (a c : Int) (n : Nat) : List Int := (List.range n).map fun (j : Nat) => a + (j : Int) * c
theorem stepsN_succ (a c : Int) (n : Nat) : stepsN a c (n + 1) = stepsN a c n ++ [a + (n : Int) * c] := by
  unfold stepsN; rw [List.range_succ, List.map_append]; rfl
section
variable {prog : Program} {w : World} {A : Around} {R : Result → Shared → Prop} {s : Shared}
theorem in_range {t1 i1 i2 : Expr} {xm : Str} {pe pm : Pos} {scope : Scope} {pos : Pos} {cenv : Env} {I2 D : Addr} {a c : Int} {n : Nat} {ys : List Value} {m : Str → Option Value}
    (hh : A.handled = none) (hx : cenv.kindOf xm = some .local) (hkf : cenv.scope.kind = .function) (hdb : (xm == ("__debug__" : Str)) = false)
    (hst : IsRangeIter s.heap I2 a n c) (hD : s.heap.get? D = some (LCg.lst ys)) (hn : s.heap.Ns cenv.locals m) (hDC : D ≠ cenv.locals) (hDI : D ≠ I2) (hCI : cenv.locals ≠ I2) (hsz : ys.length + n ≤ sizeLine)
    (hR : ∀ h' tk ys' m', h'.get? D = some (LCg.lst (ys ++ ys')) → IntsAre ys' (stepsN a c n) → h'.Ns cenv.locals m' → (∀ y, y ≠ xm → m' y = m y) →
      (∀ b o, b ≠ I2 → b ≠ cenv.locals → b ≠ D → s.heap.get? b = some o → h'.get? b = some o) → R (.ok .next) { s with heap := h', toks := tk }) :
    codeAny (model prog w) A (.compLoop (.ListComp (.Name xm pe) [⟨t1, i1, [], 0⟩, ⟨.Name xm pm, i2, [], 0⟩] scope pos) 1 (.ref I2) (.ref D) cenv) R s := by
  have W := Walks.range (prog := prog) (w := w) (A := A) hh I2 a c n
  refine comp_in (fun k s' => ∃ (h' : Heap) (tk i : Nat) (ys' : List Value) (m' : Str → Option Value), s' = { s with heap := h', toks := tk } ∧ i ≤ n ∧ k = n + 1 - i ∧ IsRangeIter h' I2 (a + (i : Nat) * c) ((n : Int) - (i : Nat)) c ∧
      h'.get? D = some (LCg.lst (ys ++ ys')) ∧ IntsAre ys' (stepsN a c i) ∧ h'.Ns cenv.locals m' ∧ (∀ y, y ≠ xm → m' y = m y) ∧ (∀ b o, b ≠ I2 → b ≠ cenv.locals → b ≠ D → s.heap.get? b = some o → h'.get? b = some o)) ?_ (n + 1)
    ⟨s.heap, s.toks, 0, [], m, rfl, Nat.zero_le _, rfl, by simpa using hst, by rw [List.append_nil]; exact hD, .nil, hn, fun _ _ => rfl, fun _ _ _ _ _ e => e⟩
  rintro k s' ⟨h', tk, i, ys', m', rfl, hi, rfl, hit, hD', hys, hn', hm', hk⟩
  by_cases hlt : i < n
  · refine W.item i _ _ _ hlt hit fun v h₂ tk₂ hv hit₂ hk₂ => ?_
    obtain ⟨t, rfl⟩ := hv
    refine wpAny_assign_Name (wpAny_storeName_local hx (hn'.at' fun o e => hk₂ _ o (by simpa using hCI) e) (fun h₃ hn₃ hs₃ => ?_) (by rw [hkf]; rfl))
    refine wpAny_Name (wpAny_loadName_local hkf hx hn₃ (v := .int (a + (i : Int) * c) t) (by simp) ?_) hdb
    have hD₃ : h₃.get? D = some (LCg.lst (ys ++ ys')) := hs₃.extBut _ _ hDC (hk₂ _ _ (by simpa using hDI) hD')
    have hyl := hys.length
    have hyl2 : (stepsN a c i).length = i := by unfold stepsN; simp
    refine append_at (hsz := by show (ys ++ ys').toArray.size ≤ sizeLine; rw [List.size_toArray, List.length_append]; omega) hD₃ fun h₅ hs₅ hD₅ => ?_
    refine ⟨n + 1 - (i + 1), by omega, h₅, _, i + 1, ys' ++ [.int (a + (i : Int) * c) t], _, rfl, hlt, rfl, ?_, ?_, ?_, (hn₃.sameBut hs₅ (Ne.symm hDC)), ?_, ?_⟩
    · have e1 : h₂.get? I2 = some _ := hit₂
      exact hs₅.extBut _ _ (Ne.symm hDI) (hs₃.extBut _ _ (Ne.symm hCI) e1)
    · rw [← List.append_assoc]; exact hD₅.trans (congrArg some (LCg.lst_snoc _ _))
    · rw [stepsN_succ]; exact hys.append (.cons _ t .nil)
    · intro y hy
      first | (rw [if_neg hy]; exact hm' y hy) | (simp only [hy, if_false]; exact hm' y hy)
    · intro b o h1 h2 h3 e
      exact hs₅.extBut b o h3 (hs₃.extBut b o h2 (hk₂ b o (by simpa using h1) (hk b o h1 h2 h3 e)))
  · obtain rfl : i = n := Nat.le_antisymm hi (Nat.not_lt.mp hlt)
    refine W.done _ _ _ hit fun h₂ tk₂ hk₂ => ?_
    exact hR h₂ tk₂ ys' m' (hk₂ _ _ (by simpa using hDI) hD') hys (hn'.at' fun o e => hk₂ _ o (by simpa using hCI) e) hm' fun b o h1 h2 h3 e => hk₂ b o (by simpa using h1) (hk b o h1 h2 h3 e)
end
end Mine

namespace Mine
/-- what the inner clause's range must be -/
def InSrc (h₀ : Heap) (L : Addr) (m : Str → Option Value) (s : Shared) (led : List (Addr × Obj)) (out : List Int) (xv : Value) (s₂ : Shared) : Prop :=
  ∃ (r : Addr) (a b c : Int) (n : Nat) (t u v : Tok) (h' : Heap) (tk : Nat), s₂ = { s with heap := h', toks := tk } ∧ xv = .ref r ∧ IsRange h' r a b c t u v ∧ Builtin.Range.small a b c = true ∧ Builtin.Range.rangeSize a b c = ((n : Nat) : Int) ∧
    n ≤ 100 ∧ stepsN a c n = out ∧ Fr h₀ L h' m ∧ News h₀ L h' led
def OutI (h₀ : Heap) (L : Addr) (m : Str → Option Value) (s : Shared) (news : List (Addr × Obj)) (I ax C D : Addr) (vs : List Value) (ds : List Int) (g : Int → List Int) (k : Nat) (s' : Shared) : Prop :=
  ∃ (h' : Heap) (tk i : Nat) (ys : List Value) (m' : Str → Option Value), s' = { s with heap := h', toks := tk } ∧ i ≤ ds.length ∧ k = ds.length + 1 - i ∧ (h'.IsListIter I ax i ∧ h'.IsList ax vs.toArray) ∧
      Fr h₀ L h' m ∧ News h₀ L h' ((D, LCg.lst ys) :: news) ∧ h'.Ns C m' ∧ IntsAre ys ((ds.take i).flatMap g) ∧ ys.length ≤ 100 * i
section
variable {prog : Program} {w : World} {A : Around} {E : Value → Shared → Prop} {h₀ : Heap} {L : Addr} {m : Str → Option Value} {env : Env} {news : List (Addr × Obj)}

theorem outer_loop {i1 i2 : Expr} {x1 xm : Str} {p1 pe pm pos : Pos} {scope : Scope} {cl : List (Str × Addr)} {s : Shared} {I ax C D : Addr} {vs : List Value} {kk : Nat} {ds : List Int} {g : Int → List Int} {R : Result → Shared → Prop} {h : Heap} {tk : Nat} {m₀ : Str → Option Value}
    (hh : A.handled = none) (hkind : scope.kind = .function) (hx1 : scope.names.lookup x1 = some .local) (hxm : scope.names.lookup xm = some .local) (hdb : (xm == ("__debug__" : Str)) = false) (hfs : ∀ C x, foldedSetIterable i2 (compEnvC scope cl C env) x = pure x)
    (hax : (ax, listOf vs.toArray kk) ∈ news) (hvs : IntsAre vs ds) (hlen : ds.length ≤ 100)
    (hit : h.get? I = some { cls := .type "list_iterator", data := .fields #[.ref ax, .int 0 0] }) (hD : h.get? D = some (LCg.lst [])) (hn : h.Ns C m₀) (F : Fr h₀ L h m) (N : News h₀ L h news)
    (hI0 : h₀.get? I = none) (hC0 : h₀.get? C = none) (hD0 : h₀.get? D = none) (hIL : I ≠ L) (hCL : C ≠ L) (hDL : D ≠ L) (hIC : I ≠ C) (hID : I ≠ D) (hCD : C ≠ D) (hoI : ∀ p ∈ news, p.1 ≠ I) (hoC : ∀ p ∈ news, p.1 ≠ C) (hoD : ∀ p ∈ news, p.1 ≠ D)
    (turn : ∀ d t oI oC ys m₂ h tk (E' : Value → Shared → Prop), d ∈ ds → LCg.NsObj oC m₂ → m₂ x1 = some (.int d t) → Fr h₀ L h m → News h₀ L h ((I, oI) :: (C, oC) :: (D, LCg.lst ys) :: news) →
      wpAny (model prog w) A (eval i2 (compEnvC scope cl C env)) (InSrc h₀ L m s ((I, oI) :: (C, oC) :: (D, LCg.lst ys) :: news) (g d)) E' { s with heap := h, toks := tk })
    (hg : ∀ d ∈ ds, (g d).length ≤ 100)
    (hR : ∀ h' tk' ys m', Fr h₀ L h' m → News h₀ L h' ((D, LCg.lst ys) :: news) → h'.Ns C m' → IntsAre ys (ds.flatMap g) → R (.ok .next) { s with heap := h', toks := tk' }) :
    codeAny (model prog w) A (.compLoop (.ListComp (.Name xm pe) [⟨.Name x1 p1, i1, [], 0⟩, ⟨.Name xm pm, i2, [], 0⟩] scope pos) 0 (.ref I) (.ref D) (compEnvC scope cl C env)) R { s with heap := h, toks := tk } := by
  have W := Walks.list (prog := prog) (w := w) (A := A) hh I ax (hoI _ hax) vs.toArray
  have hvl := hvs.length
  have hkf : (compEnvC scope cl C env).scope.kind = .function := hkind
  refine comp_out (OutI h₀ L m s news I ax C D vs ds g) ?_ (ds.length + 1)
    ⟨h, tk, 0, [], m₀, rfl, Nat.zero_le _, rfl, ⟨⟨_, hit, rfl, rfl⟩, N.isList hax⟩, F, ?_, hn, by simpa using IntsAre.nil, Nat.zero_le _⟩ (hfs C)
  · rintro k s' ⟨h', tk, i, ys, m', rfl, hi, rfl, hst, F', N', hn', hys, hyl⟩
    by_cases hlt : i < ds.length
    · refine W.item i _ _ _ (by simpa [hvl] using hlt) hst fun v h₂ tk₂ hv hst₂ hk₂ => ?_
      have hv' : vs[i]? = some v := by simpa using hv
      obtain ⟨d, t, rfl, hd⟩ := IntsAre.at hvs i v hv'
      refine wpAny_assign_Name (wpAny_storeName_local (lookup_relabel_local hx1) (hn'.at' fun o e => hk₂ _ o (by simpa using Ne.symm hIC) e) (fun h₃ hn₃ hs₃ => ?_) (by rw [hkf]; rfl))
      obtain ⟨oI, heI, _⟩ := hst₂.1
      obtain ⟨oC, heC, hoCn⟩ := LCg.ns_obj hn₃
      have F₂ : Fr h₀ L h₂ m := LCg.fr_but F' hk₂ (Ne.symm hIL) hI0
      have F₃ : Fr h₀ L h₃ m := F₂.change hs₃ hCL hC0
      have N₃ : News h₀ L h₃ ((I, oI) :: (C, oC) :: (D, LCg.lst ys) :: news) := by
        intro q hq
        rcases List.mem_cons.mp hq with rfl | hq
        · exact ⟨hs₃.extBut _ _ hIC heI, hIL, hI0⟩
        rcases List.mem_cons.mp hq with rfl | hq
        · exact ⟨heC, hCL, hC0⟩
        have hz := N' q hq
        refine ⟨hs₃.extBut _ _ ?_ (hk₂ _ _ ?_ hz.1), hz.2⟩
        · rcases List.mem_cons.mp hq with rfl | hq
          · exact Ne.symm hCD
          · exact hoC q hq
        · rcases List.mem_cons.mp hq with rfl | hq
          · simpa using Ne.symm hID
          · simpa using hoI q hq
      refine wpAny_mono (turn d t oI oC ys _ h₃ _ _ (List.mem_of_getElem? hd) hoCn (by simp) F₃ N₃) (fun xv s₄ h₄ => ?_) fun _ _ e => e
      obtain ⟨r, a, b, c, n, t1, u1, v1, h4, tk4, rfl, rfl, hr, hsm, hsz, hn100, hout, F₄, N₄⟩ := h₄
      refine wpAny_pyIter_range hr hsm ?_
      refine wpAny_runOwn ?_
      have hlt4 : ∀ q ∈ (I, oI) :: (C, oC) :: (D, LCg.lst ys) :: news, q.1 < h4.objs.size := fun q hq => Heap.lt_size (N₄ q hq).1
      have hIlt := hlt4 (I, oI) (.head _)
      have hClt := hlt4 (C, oC) (.tail _ (.head _))
      have hDlt := hlt4 (D, LCg.lst ys) (.tail _ (.tail _ (.head _)))
      have up : ∀ z o, h4.get? z = some o → (h4.push { cls := .type "range_iterator", data := .fields #[rawInt a, rawInt (Builtin.Range.rangeSize a b c), rawInt c] }).get? z = some o := fun z o e => Heap.get?_push_of_some _ e
      have hii : IsRangeIter (h4.push { cls := .type "range_iterator", data := .fields #[rawInt a, rawInt (Builtin.Range.rangeSize a b c), rawInt c] }) h4.objs.size a n c := by
        show IsRangeIter _ _ _ _ _; rw [hsz]; exact Heap.get?_push_size _ rfl
      have Wr := Walks.range (prog := prog) (w := w) (A := A) hh h4.objs.size a c n
      have body : ∀ R' : Result → Shared → Prop, (∀ s₆, (∃ k, k < ds.length + 1 - i ∧ OutI h₀ L m s news I ax C D vs ds g k s₆) → R' (.ok .next) s₆) →
          codeAny (model prog w) A (.compLoop (.ListComp (.Name xm pe) [⟨.Name x1 p1, i1, [], 0⟩, ⟨.Name xm pm, i2, [], 0⟩] scope pos) 1 (.ref h4.objs.size) (.ref D) (compEnvC scope cl C env)) R' { s with heap := h4.push { cls := .type "range_iterator", data := .fields #[rawInt a, rawInt (Builtin.Range.rangeSize a b c), rawInt c] }, toks := tk4 } := by
        intro R' hR'
        refine in_range (m := _) (ys := ys) (n := n) hh (lookup_relabel_local hxm) hkf hdb hii (up _ _ (N₄ (D, LCg.lst ys) (.tail _ (.tail _ (.head _)))).1) ((hoCn.ns (N₄ (C, oC) (.tail _ (.head _))).1).keeps up) (Ne.symm hCD) (Nat.ne_of_lt hDlt) (Nat.ne_of_lt hClt) (by rw [sizeLine_eq]; omega) ?_
        intro h5 tk5 ys5 m5 g1 g2 g3 g4 g5
        have gl := g2.length
        have gg := hg d (List.mem_of_getElem? hd)
        rw [← hout] at gg
        have hne5 : ∀ q ∈ news, q.1 ≠ h4.objs.size := fun q hq => Nat.ne_of_lt (hlt4 q (.tail _ (.tail _ (.tail _ hq))))
        have kp5 : ∀ b o, b ≠ C → b ≠ D → h4.get? b = some o → h5.get? b = some o := fun b o q1 q2 e => g5 b o (Nat.ne_of_lt (Heap.lt_size e)) q1 q2 (up b o e)
        refine hR' _ ⟨ds.length + 1 - (i + 1), by omega, h5, tk5, i + 1, ys ++ ys5, m5, rfl, hlt, rfl, ⟨?_, ?_⟩, ?_, ?_, g3, ?_, by rw [List.length_append]; omega⟩
        · have e1 := kp5 I oI hIC hID (N₄ (I, oI) (.head _)).1
          obtain ⟨o9, e9, r9⟩ := hst₂.1
          rw [heI] at e9; cases e9
          exact ⟨oI, e1, r9⟩
        · exact ⟨_, kp5 _ _ (hoC _ hax) (hoD _ hax) (N₄ (ax, listOf vs.toArray kk) (.tail _ (.tail _ (.tail _ hax)))).1, rfl, _, rfl⟩
        · exact ⟨F₄.ns.at' fun o e => kp5 L o (Ne.symm hCL) (Ne.symm hDL) e, fun b o e => kp5 b o (fun q => by rw [q, hC0] at e; cases e) (fun q => by rw [q, hD0] at e; cases e) (F₄.keep b o e), F₄.above⟩
        · intro q hq
          rcases List.mem_cons.mp hq with rfl | hq
          · exact ⟨g1, hDL, hD0⟩
          · have hz := N₄ q (.tail _ (.tail _ (.tail _ hq)))
            exact ⟨kp5 _ _ (hoC q hq) (hoD q hq) hz.1, hz.2⟩
        · rw [List.take_add_one, hd, List.flatMap_append]
          have e9 : (Option.toList (some d)).flatMap g = g d := by simp
          rw [e9, ← hout]
          exact hys.append g2
      refine start_in (body _ fun s₆ h6 => h6) (Wr.self 0 _ _ _ (by simpa using hii) (body _ fun s₆ h6 => h6))
    · obtain rfl : i = ds.length := Nat.le_antisymm hi (Nat.not_lt.mp hlt)
      refine W.done _ _ _ (by simpa [hvl] using hst) fun h₂ tk₂ hk₂ => ?_
      rw [List.take_length] at hys
      refine hR h₂ tk₂ ys m' (LCg.fr_but F' hk₂ (Ne.symm hIL) hI0) (LCg.news_but N' hk₂ ?_) (hn'.at' fun o e => hk₂ _ o (by simpa using Ne.symm hIC) e) hys
      intro q hq
      rcases List.mem_cons.mp hq with rfl | hq
      · exact Ne.symm hID
      · exact hoI q hq
  · intro q hq
    rcases List.mem_cons.mp hq with rfl | hq
    · exact ⟨hD, hDL, hD0⟩
    · exact N q hq
end
end Mine

namespace Mine
section
variable {prog : Program} {w : World} {A : Around} {E : Value → Shared → Prop} {h₀ : Heap} {L : Addr} {m : Str → Option Value} {env : Env} {s : Shared}
/-- what the first iterable must be, and what is done behind -/
def NestSrc (prog : Program) (w : World) (A : Around) (h₀ : Heap) (L : Addr) (m : Str → Option Value) (env : Env) (i2 : Expr) (x1 y : Str) (scope : Scope) (cl : List (Str × Addr)) (Q : Flow → Shared → Prop) (xv : Value) (s₁ : Shared) : Prop :=
  ∃ (ax : Addr) (vs : List Value) (kk : Nat) (ds : List Int) (g : Int → List Int) (news : List (Addr × Obj)), xv = .ref ax ∧ A.handled = none ∧ Fr h₀ L s₁.heap m ∧ News h₀ L s₁.heap news ∧ (ax, listOf vs.toArray kk) ∈ news ∧ IntsAre vs ds ∧ ds.length ≤ 100 ∧ (∀ d ∈ ds, (g d).length ≤ 100) ∧
    (∀ I C D d t oI oC ys m₂ h tk (E' : Value → Shared → Prop), d ∈ ds → LCg.NsObj oC m₂ → m₂ x1 = some (.int d t) → Fr h₀ L h m → News h₀ L h ((I, oI) :: (C, oC) :: (D, LCg.lst ys) :: news) →
      wpAny (model prog w) A (eval i2 (compEnvC scope cl C env)) (InSrc h₀ L m s₁ ((I, oI) :: (C, oC) :: (D, LCg.lst ys) :: news) (g d)) E' { s₁ with heap := h, toks := tk }) ∧
    (∀ D h tk ys, Fr h₀ L h (fun z => if z = y then some (.ref D) else m z) → News h₀ L h ((D, LCg.lst ys) :: news) → (∀ p ∈ news, p.1 < D) → IntsAre ys (ds.flatMap g) → Q .next { s₁ with heap := h, toks := tk })

theorem Assign_Nest {i1 i2 : Expr} {x1 xm y : Str} {p1 pe pm py : Pos} {scope : Scope} {cl : List (Str × Addr)} {pos spos : Pos} {Q : Flow → Shared → Prop} (F₀ : Fr h₀ L s.heap m) (hLe : env.locals = L)
    (hsw : swapsWith (.ListComp (.Name xm pe) [⟨.Name x1 p1, i1, [], 0⟩, ⟨.Name xm pm, i2, [], 0⟩] scope pos) (some (.Name y py)) spos.line env = pure true)
    (hclos : closureFor scope env = pure cl) (hcell : ∀ z ∈ scope.names, z.2 ≠ .cell) (hkind : scope.kind = .function)
    (hnames : ∀ z ∈ scope.names, z.2 = .local → scope.names.lookup z.1 = some .local) (hx1 : scope.names.lookup x1 = some .local) (hxm : scope.names.lookup xm = some .local) (hdb : (xm == ("__debug__" : Str)) = false)
    (hy : env.kindOf y = some .local) (hp : (env.scope.kind == .class || (env.scope.kind == .module && env.locals != env.globals)) = false) (hfs : ∀ C x, foldedSetIterable i2 (compEnvC scope cl C env) x = pure x)
    (h : wpAny (model prog w) A (eval i1 env) (NestSrc prog w A h₀ L m env i2 x1 y scope cl Q) E s)
    (hs : ∀ x, foldedSetIterable i1 env x = pure x := by intro _; rfl) :
    wpAny (model prog w) A (exec (.Assign [.Name y py] (.ListComp (.Name xm pe) [⟨.Name x1 p1, i1, [], 0⟩, ⟨.Name xm pm, i2, [], 0⟩] scope pos) spos) env) Q E s := by
  subst hLe
  rw [exec_Assign_Name_used _ _ _ _ hsw]
  refine wpAny_bind (wpAny_standAt (wpAny_bind ?_))
  show wpAny _ A (do let _ ← comprehension (.ListComp (.Name xm pe) [⟨.Name x1 p1, i1, [], 0⟩, ⟨.Name xm pm, i2, [], 0⟩] scope pos) scope env _ (newList []) false (eval i1 env) (some (assign (.Name y py) env))) _ _ s
  refine wpAny_bind (wpAny_mono (wpAny_comprehension_free (use := some (assign (.Name y py) env)) (Q := fun _ s' => Q .next s') rfl hs hclos hkind hnames
    (wpAny_mono h (fun xv s₁ h₁ => ?_) fun _ _ e => e)) (fun _ s' hq => wpAny_pure (wpAny_pure hq)) fun _ _ e => e)
  obtain ⟨ax, vs, kk, ds, g, news, rfl, hh, F, N, hax, hvs, hlen, hg, turn, fin⟩ := h₁
  refine wpAny_pyIter_list (N.isList hax) ?_
  generalize hH : s₁.heap.push { cls := .type "list_iterator", data := .fields #[.ref ax, .int 0 0] } = H1
  have hI : H1.get? s₁.heap.objs.size = some { cls := .type "list_iterator", data := .fields #[.ref ax, .int 0 0] } := hH ▸ Heap.get?_push_size _ rfl
  have up1 : ∀ b o, s₁.heap.get? b = some o → H1.get? b = some o := fun b o e => hH ▸ Heap.get?_push_of_some _ e
  have hs1 : H1.objs.size = s₁.heap.objs.size + 1 := by rw [← hH, Heap.size_push]
  refine wpAny_newObj_type (wpAny_newFunctionEnv hcell (by intro y hy; simp at hy) (fun h₁ hns₁ hsb₁ => ?_) hkind)
  dsimp only at hns₁ hsb₁ ⊢
  generalize hH2 : H1.push { cls := .type "list", dict := none, data := .seq ([] : List Value).toArray } = H2 at hns₁ hsb₁ ⊢
  have hC : H2.objs.size = H1.objs.size + 1 := by rw [← hH2, Heap.size_push]
  have old : ∀ b o, H1.get? b = some o → h₁.get? b = some o := fun b o e => hsb₁.extBut b o (by have := Heap.lt_size e; rw [hC]; exact Nat.ne_of_lt (Nat.lt_succ_of_lt this)) (Heap.get?_push_of_some _ (hH2 ▸ Heap.get?_push_of_some _ e))
  have hDC : H1.objs.size ≠ H2.objs.size := by rw [hC]; exact Nat.ne_of_lt (Nat.lt_succ_self _)
  have hacc : h₁.get? H1.objs.size = some (LCg.lst []) := hsb₁.extBut _ _ hDC (Heap.get?_push_of_some _ (hH2 ▸ Heap.get?_push_size _ rfl))
  have hIh : h₁.get? s₁.heap.objs.size = some { cls := .type "list_iterator", data := .fields #[.ref ax, .int 0 0] } := old _ _ hI
  have oldS : ∀ b o, s₁.heap.get? b = some o → h₁.get? b = some o := fun b o e => old b o (up1 b o e)
  have fresh₀ : ∀ a, s₁.heap.objs.size ≤ a → h₀.get? a = none := fun a ha => by
    cases e : h₀.get? a with
    | none => rfl
    | some o' => exact absurd (Nat.lt_of_lt_of_le (Heap.lt_size (F.keep a o' e)) ha) (Nat.lt_irrefl _)
  have hI0 := fresh₀ _ (Nat.le_refl _)
  have hD0 : h₀.get? H1.objs.size = none := fresh₀ _ (by rw [hs1]; exact Nat.le_succ _)
  have hC0 : h₀.get? H2.objs.size = none := fresh₀ _ (by rw [hC, hs1]; exact Nat.le_trans (Nat.le_succ _) (Nat.le_succ _))
  have hLlt : env.locals < s₁.heap.objs.size := F.ns.lt
  have hlt : ∀ p ∈ news, p.1 < s₁.heap.objs.size := fun p hp => Heap.lt_size (N p hp).1
  have hIL : s₁.heap.objs.size ≠ env.locals := Nat.ne_of_gt hLlt
  have hDL : H1.objs.size ≠ env.locals := by rw [hs1]; exact Nat.ne_of_gt (Nat.lt_succ_of_lt hLlt)
  have hCL : H2.objs.size ≠ env.locals := by rw [hC, hs1]; exact Nat.ne_of_gt (Nat.lt_succ_of_lt (Nat.lt_succ_of_lt hLlt))
  have hIC : s₁.heap.objs.size ≠ H2.objs.size := by rw [hC, hs1]; exact Nat.ne_of_lt (Nat.lt_succ_of_lt (Nat.lt_succ_self _))
  have hID : s₁.heap.objs.size ≠ H1.objs.size := by rw [hs1]; exact Nat.ne_of_lt (Nat.lt_succ_self _)
  have hltD : ∀ p ∈ news, p.1 < H1.objs.size := fun p hp => by rw [hs1]; exact Nat.lt_succ_of_lt (hlt p hp)
  have hltC : ∀ p ∈ news, p.1 < H2.objs.size := fun p hp => by rw [hC]; exact Nat.lt_succ_of_lt (hltD p hp)
  have loop : ∀ s₃ : Shared, s₃ = { s₁ with heap := h₁, toks := s₁.toks + ([] : List (Str × Value)).length } →
      codeAny (model prog w) A (.compLoop (.ListComp (.Name xm pe) [⟨.Name x1 p1, i1, [], 0⟩, ⟨.Name xm pm, i2, [], 0⟩] scope pos) 0 (.ref s₁.heap.objs.size) (.ref H1.objs.size) (compEnvC scope cl H2.objs.size env))
        (compPost (model prog w) A E (some (assign (.Name y py) env)) (fun _ s' => Q .next s') (.ref H1.objs.size) H2.objs.size) s₃ := by
    rintro s₃ rfl
    refine outer_loop (s := s₁) (h₀ := h₀) (L := env.locals) (m := m) (news := news) (vs := vs) (kk := kk) (ds := ds) (g := g) (ax := ax) hh hkind hx1 hxm hdb hfs hax hvs hlen hIh hacc hns₁ (F.keeps oldS) (fun p hp => ⟨oldS _ _ (N p hp).1, (N p hp).2⟩)
      hI0 hC0 hD0 hIL hCL hDL hIC hID (Ne.symm hDC) (fun p hp => Nat.ne_of_lt (hlt p hp)) (fun p hp => Nat.ne_of_lt (hltC p hp)) (fun p hp => Nat.ne_of_lt (hltD p hp)) (fun d t oI oC ys m₂ h tk E' => turn _ _ _ d t oI oC ys m₂ h tk E') hg ?_
    intro h' tk' ys m' F' N' hn hys
    show wpAny _ A (assign (.Name y py) env (.ref H1.objs.size)) _ _ _
    refine wpAny_assign_Name (wpAny_storeName_local hy F'.ns (fun h₂ hn₂ hs₂ => ?_) hp)
    have hL₀ : h₀.get? env.locals = none := Heap.get?_none_of_le F'.above
    have F₂ : Fr h₀ env.locals h₂ (fun z => if z = y then some (.ref H1.objs.size) else m z) := ⟨hn₂, fun b o e => hs₂.extBut b o (fun q => by rw [q, hL₀] at e; cases e) (F'.keep b o e), F'.above⟩
    refine ⟨m', hn.sameBut hs₂ hCL, fun h'' hs'' => fin H1.objs.size h'' _ ys (F₂.change hs'' hCL hC0) (fun p hp => ?_) hltD hys⟩
    have z : h₂.get? p.1 = some p.2 := hs₂.extBut _ _ (N' p hp).2.1 (N' p hp).1
    refine ⟨hs''.extBut _ _ ?_ z, (N' p hp).2⟩
    rcases List.mem_cons.mp hp with rfl | hp
    · exact hDC
    · exact Nat.ne_of_lt (hltC p hp)
  exact codeAny_compStart_list (loop _ rfl) ((Walks.list (prog := prog) (w := w) (A := A) hh s₁.heap.objs.size ax (Nat.ne_of_lt (hlt _ hax)) vs.toArray).self 0 _ _ _ ⟨⟨_, hIh, rfl, rfl⟩, ⟨_, oldS _ _ (N _ hax).1, rfl, _, rfl⟩⟩ (loop _ rfl))
end
end Mine

namespace Mine
abbrev triObj (a b c : Int) (ta tb tc : Tok) : Obj := { cls := .type "tuple", data := .seq #[.int a ta, .int b tb, .int c tc] }
def FirstEl (news : List (Addr × Obj)) (a : Int) (y : Value) (news' : List (Addr × Obj)) : Prop := news' = news ∧ ∃ t : Tok, y = .int a t
section
variable {prog : Program} {w : World} {A : Around} {h₀ : Heap} {L : Addr} {m : Str → Option Value} {env : Env} {elt : Expr} {x : Str} {scope : Scope} {cl : List (Str × Addr)} {s : Shared} {S : List (Addr × Obj) → Prop} {Fin : List Value → List (Addr × Obj) → Prop} {news : List (Addr × Obj)}
/-- the turns of [t[0] for t in tris] -/
theorem first_rest {vs : List Value} {tl : List (Addr × Obj)} {ds : List (Int × Int × Int)} (ht : TrisAre tl vs ds) (hsub : ∀ p ∈ tl, p ∈ news)
    (turn : ∀ T a b c ta tb tc I oI C oC D m₂ ys h tk (E' : Value → Shared → Prop), LCg.NsObj oC m₂ → m₂ x = some (.ref T) → Fr h₀ L h m → News h₀ L h ((T, triObj a b c ta tb tc) :: (I, oI) :: (C, oC) :: (D, LCg.lst ys) :: news) → LCg.Off3 I C D news → ((@Ne Nat I C) ∧ (@Ne Nat I D) ∧ (@Ne Nat C D)) →
      wpAny (model prog w) A (eval elt (compEnvC scope cl C env)) (LCg.CompEnd h₀ L m { s with heap := h, toks := tk } I oI C oC D (LCg.lst ys) S (FirstEl news a)) E' { s with heap := h, toks := tk })
    (fin : ∀ ys, IntsAre ys (ds.map (·.1)) → Fin ys news) : LCg.CompRest prog w A h₀ L m env elt x scope cl s S (fun i v => vs.toArray[i]? = some v) Fin vs.toArray.size 0 [] news := by
  have hlen := ht.length
  have key : ∀ (j i : Nat) (ys : List Value), i + j = ds.length → IntsAre ys ((ds.take i).map (·.1)) → LCg.CompRest prog w A h₀ L m env elt x scope cl s S (fun i v => vs.toArray[i]? = some v) Fin j i ys news := by
    intro j
    induction j with
    | zero =>
      intro i ys hi hy
      have e : i = ds.length := by omega
      subst e
      rw [List.take_length] at hy
      exact LCg.CompRest.zero (fin ys hy)
    | succ j ih =>
      intro i ys hi hy
      refine LCg.CompRest.succ ?_
      intro v I oI C oC D m₂ h tk E' hv hC hx F N off ne
      obtain ⟨T, a, b, c, ta, tb, tc, hv', hd, hm⟩ := ht.get (i := i) (v := v) (by simpa using hv)
      rw [hv'] at hx
      refine wpAny_mono (turn T a b c ta tb tc I oI C oC D m₂ ys h tk E' hC hx F (List.forall_mem_cons.mpr ⟨N _ (.tail _ (.tail _ (.tail _ (hsub _ hm)))), N⟩) off ne) (fun y s₂ hq => ?_) fun _ _ e => e
      obtain ⟨h', tk', nw, e, F', N', off', hS, hn, t', hy'⟩ := hq
      rw [hn] at N' off' hS
      refine ⟨h', tk', news, e, F', N', off', hS, ?_⟩
      rw [hy']
      refine ih (i + 1) _ (by omega) ?_
      rw [List.take_add_one, hd, List.map_append]
      exact hy.append (.cons _ t' .nil)
  rw [List.size_toArray, hlen]
  exact key ds.length 0 [] (by omega) (by simp only [List.take_zero, List.map_nil]; exact .nil)
end

/-- the multiples of d up to z -/
def mulN (z d : Int) : List Int := stepsN d d (Builtin.Range.rangeSize d (z + 1) d).toNat
end Mine

namespace Mine
def longN (cnt : List Int) (b : Int) : Int := if b > (cnt.length : Int) - 1 then b else (cnt.length : Int) - 1
theorem longN_of {cnt : List Int} {b v : Int} (h : LongIs cnt b v) : v = longN cnt b := by
  unfold LongIs at h; unfold longN; split <;> omega
/-- the witnesses of a row, reckoned -/
def wits (ns : List Int) : List (Int × Int × Int) :=
  let p := scan (textC (ns.map fun k => k - 1))
  let q := scan (textC ns)
  witN (lvl p.1 p.2.1 p.2.2) (lvl q.1 q.2.1 q.2.2) ((if longN q.1 q.2.1 > longN p.1 p.2.1 then longN q.1 q.2.1 else longN p.1 p.2.1) + 1).toNat
theorem witR_to {ns : List Int} {h h' : Heap} {r : Value} (H : WitR ns h h' r) :
    ∃ la vs k tl, r = .ref la ∧ (∀ p ∈ (la, listOf vs.toArray k) :: tl, h'.get? p.1 = some p.2 ∧ h.get? p.1 = none) ∧ OwnOff tl [la] ∧ TrisAre tl vs (wits ns) := by
  obtain ⟨cnt, b, nt, cnt', b', nt', v, v', h1, h2, h3, h4, h5⟩ := H
  have e3 := longN_of h3
  have e4 := longN_of h4
  subst e3; subst e4
  have e : wits ns = witN (lvl cnt b nt) (lvl cnt' b' nt') ((if longN cnt' b' > longN cnt b then longN cnt' b' else longN cnt b) + 1).toNat := by
    unfold wits; rw [h1, h2]
  rw [e]
  exact h5
/-- what was made lies at the ledger's end -/
theorem news_end {h₀ h h' : Heap} {L : Addr} {m : Str → Option Value} {p₀ : Addr × Obj} {news tl : List (Addr × Obj)} (F : Fr h₀ L h m) (N : News h₀ L h' news) (ha : ∀ p ∈ p₀ :: tl, h'.get? p.1 = some p.2 ∧ h.get? p.1 = none) : News h₀ L h' (p₀ :: (news ++ tl)) := by
  have N2 := news_more F N ha
  intro p hp
  refine N2 p ?_
  rcases List.mem_cons.mp hp with rfl | hp
  · exact .head _
  rcases List.mem_append.mp hp with hp | hp
  · exact List.mem_append.mpr (.inr hp)
  · exact List.mem_append.mpr (.inl (.tail _ hp))

/-- the numerators of a size, reckoned -/
def divs (z : Int) : List Int := ((wits [z]).map (·.1)).drop 1
def upto (z : Int) : List Int := rangeKs 1 (z + 1 - 1).toNat
def nums (z : Int) : List Int := leftN (upto z) ((divs z).flatMap (mulN z)) (upto z).length
theorem ten_of {P : Int → Bool} (h : ∀ n : Fin 10, P ((n.val : Int) + 1) = true) {z : Int} (h1 : 1 ≤ z) (h2 : z ≤ 10) : P z = true := by
  have := h ⟨(z - 1).toNat, by omega⟩
  have e : (((z - 1).toNat : Nat) : Int) + 1 = z := by omega
  rwa [e] at this
theorem num_facts {z : Int} (h1 : 1 ≤ z) (h2 : z ≤ 10) : (wits [z]).length ≤ 20 ∧ (divs z).length ≤ 20 ∧ (∀ d ∈ divs z, 2 ≤ d ∧ d ≤ 10) ∧ (∀ d ∈ divs z, (mulN z d).length ≤ 20 ∧ Builtin.Range.small d (z + 1) d = true ∧ 0 ≤ Builtin.Range.rangeSize d (z + 1) d ∧ Builtin.Range.rangeSize d (z + 1) d ≤ 20) ∧ ((divs z).flatMap (mulN z)).length ≤ 30 ∧ (upto z).length ≤ 10 :=
  of_decide_eq_true (ten_of (P := fun z => decide ((wits [z]).length ≤ 20 ∧ (divs z).length ≤ 20 ∧ (∀ d ∈ divs z, 2 ≤ d ∧ d ≤ 10) ∧ (∀ d ∈ divs z, (mulN z d).length ≤ 20 ∧ Builtin.Range.small d (z + 1) d = true ∧ 0 ≤ Builtin.Range.rangeSize d (z + 1) d ∧ Builtin.Range.rangeSize d (z + 1) d ≤ 20) ∧ ((divs z).flatMap (mulN z)).length ≤ 30 ∧ (upto z).length ≤ 10)) (by decide +kernel) h1 h2)
theorem in_src {h₀ : Heap} {L : Addr} {m : Str → Option Value} {s : Shared} {led : List (Addr × Obj)} {z d : Int} {r : Addr} {t u v : Tok} {h' : Heap} {tk : Nat} (h1 : 1 ≤ z) (h2 : z ≤ 10) (hd : d ∈ divs z) (hr : IsRange h' r d (z + 1) d t u v) (F : Fr h₀ L h' m) (N : News h₀ L h' led) :
    InSrc h₀ L m s led (mulN z d) (.ref r) { s with heap := h', toks := tk } := by
  have f := (num_facts h1 h2).2.2.2.1 d hd
  exact ⟨r, d, z + 1, d, _, t, u, v, h', tk, rfl, rfl, hr, f.2.1, (Int.toNat_of_nonneg f.2.2.1).symm, by omega, rfl, F, N⟩
end Mine

namespace Mine
theorem nx_ne {w : World} {h₀ h : Heap} {L x dx J D B la : Addr} {o : Obj} {vs : List Value} {k : Nat} {bs : List Int} {led : List (Addr × Obj)} (N : News h₀ L h led) (hJ : (J, itObj la 0) ∈ led)
    (sub : ∀ p ∈ [(x, ffObj dx J B), (dx, dictOf [] 0), (B, boundC D), (D, o), (la, listOf vs.toArray k)], p ∈ led) (hS : SetIs PG w o bs) : ∀ p ∈ [(x, ffObj dx J B), (dx, dictOf [] 0), (B, boundC D), (D, o), (la, listOf vs.toArray k)], p.1 ≠ J := by
  have key : ∀ p ∈ led, p.1 = J → p.2 = itObj la 0 := by
    intro p hp e
    have h1 := (N p hp).1
    have h2 := (N _ hJ).1
    rw [e] at h1
    exact Option.some.inj (h1.symm.trans h2)
  intro p hp e
  have q := key p (sub p hp) e
  obtain ⟨S, n, hs, _⟩ := hS
  obtain ⟨_, es, ep, t, hd, _⟩ := hs
  rcases List.mem_cons.mp hp with rfl | hp
  · exact absurd (congrArg Obj.cls q) (by simp)
  rcases List.mem_cons.mp hp with rfl | hp
  · exact absurd (congrArg Obj.data q) (by simp [dictOf])
  rcases List.mem_cons.mp hp with rfl | hp
  · exact absurd (congrArg Obj.cls q) (by simp)
  rcases List.mem_cons.mp hp with rfl | hp
  · have := congrArg Obj.data q
    rw [hd] at this; cases this
  · rw [List.mem_singleton.mp hp] at q
    exact absurd (congrArg Obj.data q) (by simp)
/-- what _law_numerators hands back -/
def NumQ (A : Around) (s : Shared) (z : Int) (Q : Value → Shared → Prop) : Prop :=
  ∀ Sd h' tk vs' c', s.heap.get? Sd = none → h'.get? Sd = some (listOf vs'.toArray c') → IntsAre vs' (nums z) → (∀ b ob, b ∉ frs A → s.heap.get? b = some ob → h'.get? b = some ob) →
    (∀ b ob, s.heap.get? b = some ob → (∀ vs, ob.data ≠ .fields vs) → ∃ sl, h'.get? b = some { ob with slots := sl }) → Q (.ref Sd) { s with heap := h', toks := tk }
end Mine

namespace Mine

local macro_rules | `(tactic| walk_at "CompEnd") => `(tactic| ((rename News _ _ _ _ => nE'); (rename LCg.Off3 _ _ _ _ => oE'); (refine LCg.CompEnd.intro (by assumption) nE' _ (fun _ h9 => .tail _ h9) oE' (by lcg_src) ⟨rfl, _, rfl⟩)))
local macro_rules | `(tactic| walk_at "exec Assign cons ListComp") => `(tactic| (k_here; k_dflt (refine LCg.Assign_ListComp_U (F₀ := by k_asm) (by rfl) (by with_unfolding_all rfl) (by with_unfolding_all rfl) (by decide) (by rfl) (by decide) (by rfl) (by rfl) (by rfl) ?_)))
local macro_rules | `(tactic| walk_at "exec Assign cons ListComp") => `(tactic| (k_here; (with_reducible show wpAny _ _ (exec (Stmt.Assign _ (Expr.ListComp _ (_ :: _ :: _) _ _) _) _) _ _ _); k_dflt (refine Assign_Nest (F₀ := by k_asm) (by rfl) (by with_unfolding_all rfl) (by with_unfolding_all rfl) (by decide) (by rfl) (by decide) (by rfl) (by rfl) (by decide) (by rfl) (by rfl) (by intro _ _; rfl) ?_)))
local macro_rules | `(tactic| walk_at "subscriptTail Name Slice ref ref") => `(tactic| (k_here; (with_reducible show wpAny _ _ (subscriptTail _ (PySem.Expr.Slice _ _ none _) (Value.ref _) (Value.ref _)) _ _ _); (rename IntsAre _ _ => i9); k_dflt (refine' kmk_slice_ints ?F ?N ?l ?pa ?pb i9 ?mm rfl ?_ ?s ?t ?z; (case F => k_asm); (case N => k_asm); (case l => kmk_list); (case pa => kmk_part); (case pb => kmk_part); (case mm => exact kmk_from i9 (by decide)); (case s => with_unfolding_all rfl); (case t => kmk_pure); (case z => (rw [List.size_toArray, IntsAre.length i9, List.length_map, sizeLine_eq]; exact Nat.le_trans (num_facts (by assumption) (by assumption)).1 (by decide)))); intro D' ws' h' F' N' l1 hI' hC' hL'; (try k_lt l1); (try k_sweep)))
set_option maxHeartbeats 4000000 in
theorem num_says (w : World) (z : Int) (tz : Tok) (h1 : 1 ≤ z) (h2 : z ≤ 10) (A : Around) (s : Shared) (Q E : Value → Shared → Prop) (S : Site w A 7 300 [] s) (hret : NumQ A s z Q) :
    wpAny (model PG w) A (call (.ref 141) [.int z tz]) Q E s := by
  ((rename Site _ _ _ _ _ _ => S9); refine wpAny_call ?_; k_dflt (refine' enterC S9 (by decide) ?k6ze ?k7ze ?k9ze ?kBze ?kDze ?_ ?c2ze ?c3ze ?c4ze; (case k6ze => k_is); (case k7ze => k_is); (case k9ze => exact BindsTo.of_eq rfl); (case kBze => exact kindsX rfl); (case kDze => decide +kernel); (case c2ze => exact rfl); (case c3ze => exact rfl); (case c4ze => exact rfl)); clear S9)
  intro p loose mean mg mb dp un gd base g env outer L' h₁ tk cells hA I F N Y B X T
  subst hA
  have hY := CellsAre.one Y
  obtain ⟨oz, hE', dz'⟩ := hY; subst hE'; clear Y
  have dz : oz.data = .cell (some (.int z tz)) := dz'
  clear dz'
  simp only [List.cons_append, List.nil_append] at N
  have kMk := kstMark
  (try dsimp only)
  (try k_fold)
  w_top off
  k_with_none
  k_with "call ref" =>
    (k_here; k_dflt (show wpAny _ _ (call (Value.ref 136) [Value.ref _]) _ _ _); (rename Inn _ _ _ _ _ _ _ _ => in9); (rename Fr _ _ _ _ => oF); (rename News _ _ _ _ => oN); k_dflt (refine' fn_use (wit_says _ _ _ _ [_] (.cons _ _ .nil) ?hlz0 ?hnz0) ?Bz0 oF ?Xz0 ?Tz0 ?hhz0 ?hAz0 ?hfz0 ?hkz0 ?hdz0 ?huz0 oN ?halz0 ?hpz0 ?_; (case Bz0 => k_asm); (case Xz0 => k_asm); (case Tz0 => k_asm); (case hhz0 => exact rfl); (case hAz0 => exact rfl); (case hfz0 => exact rfl); (case hkz0 => exact rfl); (case halz0 => k_allIn); (case hlz0 => exact Nat.le_of_ble_eq_true rfl); (case hnz0 => (intro n9 hn9; rw [List.mem_singleton.mp hn9]; exact ⟨by assumption, by assumption⟩)); (case hpz0 => trivial); (case hdz0 => (have q9 := in9.room; simp only [depth_deeper]; omega)); (case huz0 => (have q9 := in9.units; simp only [units_deeper]; omega)); k_whole); intro r' h' tk' hs' F' N' hn' ho'; obtain ⟨la', vs', k', tl', e', ha', hoff', tr'⟩ := witR_to ho'; subst e'; have N2 := news_end oF N' ha'; (simp only [List.cons_append, List.nil_append] at N2); clear oF oN N' hs' hn' ha' ho'; (try dsimp only); (try k_sweep))
  k_with "call ref" =>
    (k_here; k_dflt (show wpAny _ _ (call (Value.ref 65) [Value.ref _, Value.ref _]) _ _ _); (rename Inn _ _ _ _ _ _ _ _ => in9); (rename Fr _ _ _ _ => oF); (rename News _ _ _ _ => oN); (rename IntsAre _ (rangeKs _ _) => iA); (rename IntsAre _ (List.flatMap _ _) => iB); (rename _ ∧ List.length _ ≤ 10 => ff9); k_dflt (refine' fn_use (diff_says _ _ _ _ _ _ _ _ _ iA iB (Nat.le_trans ff9.2 (by decide)) (Nat.le_trans ff9.1 (by decide))) ?Bz1 oF ?Xz1 ?Tz1 ?hhz1 ?hAz1 ?hfz1 ?hkz1 ?hdz1 ?huz1 oN ?halz1 ?hpz1 ?_; (case Bz1 => k_asm); (case Xz1 => k_asm); (case Tz1 => k_asm); (case hhz1 => exact rfl); (case hAz1 => exact rfl); (case hfz1 => exact rfl); (case hkz1 => exact rfl); (case halz1 => k_allIn); (case hpz1 => trivial); (case hdz1 => (have q9 := in9.room; simp only [depth_deeper]; omega)); (case huz1 => (have q9 := in9.units; simp only [units_deeper]; omega)); k_whole); intro r' h' tk' hs' F' N' hn' ho'; obtain ⟨x', dx', J', D', B', o', e', hS', ha'⟩ := ho'; subst e'; have N2 := news_more oF N' ha'; (simp only [diffAl, List.cons_append, List.nil_append] at N2); clear oF oN N' hs' hn' ha'; (try dsimp only); (try k_sweep))
  k_with "NestSrc" =>
    (k_here; (rename IntsAre _ _ => i9); (have ff9 := num_facts (z := _) (by assumption) (by assumption)); (refine' ⟨_, _, _, divs _, mulN _, _, rfl, rfl, ?Fz2, ?Nz2, ?mz2, i9, Nat.le_trans ff9.2.1 (by decide), fun d9 hd9 => Nat.le_trans (ff9.2.2.2.1 d9 hd9).1 (by decide), fun I' C' D' d' t' oI' oC' ys' m' h' tk' E' hd' hC' hx' F' N' => ?turnz2, fun D' h' tk' ys' F' N' l1 hys' => ?finz2⟩; (case Fz2 => k_asm); (case Nz2 => k_asm); (case mz2 => k_mem); (case' turnz2 => (obtain ⟨hlo', hhi'⟩ := ff9.2.2.1 d' hd'); clear ff9); (case' finz2 => (replace ff9 := ff9.2.2.2.2))))
  k_with "InSrc" =>
    (k_here; exact in_src (by assumption) (by assumption) (by assumption) (by assumption) (by assumption) (by assumption))
  k_with "CompSrc" =>
    (k_here; (rename TrisAre _ _ _ => tr9); k_dflt (refine LCg.CompSrc.ledger (by rfl) (by k_asm) (by k_asm) (by k_mem) (by rw [List.size_toArray, TrisAre.length tr9, sizeLine_eq]; exact Nat.le_trans (num_facts (by assumption) (by assumption)).1 (by decide)) ?_; intro g'; (refine' first_rest tr9 ?subz4 (fun T a b c ta tb tc I' oI' C' oC' D' m' ys' h' tk' E' hC' hx' F' N' off' ne' => ?_) ?_); (case subz4 => (intro p9 h9; kst_mem)); kcf_last))
  k_steps
  rename Inn _ _ _ _ _ _ _ _ => I
  rename Fr _ _ _ _ => oF
  rename News _ _ _ _ => oN
  rename SetIs _ _ _ _ => hS
  rename IntsAre _ (rangeKs _ _) => iA
  have hst := I.back _ _ _ oF oN (fun _ h9 => nomatch h9)
  have hne := nx_ne oN (.head _) (fun p9 h9 => by kst_mem) hS
  have hJ := oN _ (.head _)
  k_dflt (refine' list_ff iA hS ?hlen B oF X T ?hh ?hA ?hf ?hk ?hd ?hu (fun p9 h9 => oN p9 (by kst_mem)) hne ?_; (case hlen => exact Nat.le_trans (num_facts h1 h2).2.2.2.2.2 (by decide)); (case hh => exact rfl); (case hA => exact rfl); (case hf => exact rfl); (case hk => exact rfl); (case hd => (have q9 := I.room; simp only [depth_deeper]; omega)); (case hu => (have q9 := I.units; simp only [units_deeper]; omega)))
  intro Sd h9 tk9 vs9 c9 g1 g2 g3 g4 g5
  have hnJ : ∀ b ob, s.heap.get? b = some ob → b ≠ _ := fun b ob e q => by
    have e2 := I.old b ob e (fun h => nomatch h)
    rw [q, hJ.2.2] at e2; cases e2
  refine hret Sd h9 tk9 vs9 c9 ?_ g2 g3 ?_ ?_
  · cases q : s.heap.get? Sd with
    | none => rfl
    | some o9 => rw [hst _ _ q] at g1; cases g1
  · intro b ob hb e
    refine g4 b ob (hnJ b ob e) ?_ (hst b ob e)
    intro hm
    rcases List.mem_cons.mp hm with q | q
    · have := Nat.lt_of_lt_of_le (Heap.lt_size e) I.low
      rw [q] at this; exact Nat.lt_irrefl _ this
    · exact hb q
  · intro b ob e hd9
    exact g5 b ob (hnJ b ob e) (hst b ob e) hd9
end Mine

namespace Mine
/-- _law_numerators called from the law's own frame -/
theorem num_use {w : World} {p : Program} {loose : List Str} {mean : ExcName → Option Value} {mg mb : Str → Option Value} {A A₀ : Around} {base h₀ : Heap} {env : Env} {L : Addr} {m : Str → Option Value} {s : Shared} {news : List (Addr × Obj)} {Q E : Value → Shared → Prop} {z : Int} {tz : Tok}
    (h1 : 1 ≤ z) (h2 : z ≤ 10) (B : Below A₀ base [] h₀) (F : Fr h₀ L s.heap m) (X : (Mine.hd.heap_39 w.params).In h₀) (T : Top p loose mean mg mb h₀) (hh : A.handled = none) (hA : A.frames = some [env]) (hf : env.frame = some L) (hk : env.scope.kind = .function)
    (hd : A.depth + 7 < recursionLimit) (hu : A.units + 300 < cLine) (N : News h₀ L s.heap news)
    (k : ∀ Sd h' tk vs' c', Fr h₀ L h' m → News h₀ L h' ((Sd, listOf vs'.toArray c') :: news) → (∀ q ∈ news, q.1 ≠ Sd) → IntsAre vs' (nums z) → Q (.ref Sd) { s with heap := h', toks := tk }) :
    wpAny (model PG w) A (call (.ref 141) [.int z tz]) Q E s := by
  have hfr : frs A = [L] := by unfold frs; rw [hA]; simp [hf]
  have hL0 : h₀.get? L = none := Heap.get?_none_of_le F.above
  refine num_says w z tz h1 h2 A s Q E ⟨p, loose, mean, mg, mb, A₀, base, h₀, env, [], L, m, B, F, X, T, hh, hA, hf, hk, hd, hu, fun _ h => nomatch h⟩ ?_
  intro Sd h' tk vs' c' g0 g1 g2 g3 g4
  rw [hfr] at g3
  have keep : ∀ b ob, b ≠ L → s.heap.get? b = some ob → h'.get? b = some ob := fun b ob hb e => g3 b ob (by simpa using hb) e
  have hSL : Sd ≠ L := fun e => by
    obtain ⟨o, _, _, ho, _⟩ := F.ns
    rw [e, ho] at g0; cases g0
  refine k Sd h' tk vs' c' ⟨?_, fun b o e => keep b o (fun q => by rw [q, hL0] at e; cases e) (F.keep b o e), F.above⟩ ?_ ?_ g2
  · obtain ⟨o, es, ep, ho, hd9, r⟩ := F.ns
    obtain ⟨sl, hsl⟩ := g4 L o ho (fun vs e => by rw [hd9] at e; cases e)
    exact ⟨_, es, ep, hsl, hd9, r⟩
  · intro q hq
    rcases List.mem_cons.mp hq with rfl | hq
    · refine ⟨g1, hSL, ?_⟩
      cases e : h₀.get? Sd with
      | none => rfl
      | some o => rw [F.keep _ _ e] at g0; cases g0
    · exact ⟨keep _ _ (N q hq).2.1 (N q hq).1, (N q hq).2⟩
  · intro q hq e
    rw [← e, (N q hq).1] at g0; cases g0

def toldIn (d k : Int) (as : List Int) : List (Int × Int) := as.flatMap fun a => List.replicate k.toNat (d, a)
def toldOf (ws : List (Int × Int × Int)) : List (Int × Int) := ws.flatMap fun w => toldIn w.1 (Int.fdiv (w.2.2 - w.2.1) w.1) (nums w.1)
theorem toldOf_snoc {ws : List (Int × Int × Int)} {i : Nat} {a b c : Int} (h : ws[i]? = some (a, b, c)) : toldOf (ws.take (i + 1)) = toldOf (ws.take i) ++ toldIn a (Int.fdiv (c - b) a) (nums a) := by
  unfold toldOf
  rw [List.take_add_one, h, List.flatMap_append]
  simp
theorem toldIn_snoc {d k : Int} {as : List Int} {j : Nat} {a : Int} (h : as[j]? = some a) : toldIn d k (as.take (j + 1)) = toldIn d k (as.take j) ++ List.replicate k.toNat (d, a) := by
  unfold toldIn
  rw [List.take_add_one, h, List.flatMap_append]
  simp
theorem PairsAre.rep {tl : List (Addr × Obj)} {T : Addr} {a b : Int} {ta tb : Tok} (h : (T, ({ cls := .type "tuple", data := .seq #[.int a ta, .int b tb] } : Obj)) ∈ tl) : ∀ n, PairsAre tl (List.replicate n (.ref T)) (List.replicate n (a, b))
  | 0 => .nil
  | n + 1 => .cons h (PairsAre.rep h n)
end Mine

namespace Mine
def rowOf (sc : List Int) : List Int := (sc.take 5).map (fun k => k.fmod 10 + 1) ++ [6, 4]
theorem row_len (sc : List Int) : (rowOf sc).length ≤ 7 := by
  unfold rowOf; rw [List.length_append, List.length_map, List.length_take]; simp; omega
theorem row_mem (sc : List Int) : ∀ n ∈ rowOf sc, 1 ≤ n ∧ n ≤ 10 := by
  intro n hn
  rcases List.mem_append.mp hn with hn | hn
  · obtain ⟨k, _, rfl⟩ := List.mem_map.mp hn
    have e : k.fmod 10 = k % 10 := Int.fmod_eq_emod_of_nonneg _ (by decide)
    have h1 := Int.emod_nonneg k (show (10 : Int) ≠ 0 by decide)
    have h2 := Int.emod_lt_of_pos k (show (0 : Int) < 10 by decide)
    omega
  · simp at hn; omega
/-- what holds of each witness of a row -/
def WFacts (ws : List (Int × Int × Int)) : Prop := ws.length ≤ 11 ∧ ∀ a b c, (a, b, c) ∈ ws → (1 ≤ a ∧ a ≤ 10) ∧ (0 ≤ b ∧ b ≤ 10000 ∧ 0 ≤ c ∧ c ≤ 10000) ∧ (1 ≤ Int.fdiv (c - b) a ∧ Int.fdiv (c - b) a ≤ 7)
theorem WFacts.at {ws : List (Int × Int × Int)} (h : WFacts ws) {i : Nat} {a b c : Int} (hi : ws[i]? = some (a, b, c)) : (1 ≤ a ∧ a ≤ 10) ∧ (0 ≤ b ∧ b ≤ 10000 ∧ 0 ≤ c ∧ c ≤ 10000) ∧ (1 ≤ Int.fdiv (c - b) a ∧ Int.fdiv (c - b) a ≤ 7) := h.2 a b c (List.mem_of_getElem? hi)
theorem tris_refs {tl : List (Addr × Obj)} {vs : List Value} {ds : List (Int × Int × Int)} (h : TrisAre tl vs ds) : ∀ v ∈ vs, ∃ T, v = .ref T := by
  induction h with
  | nil => exact fun _ h => nomatch h
  | cons _ _ ih =>
    intro v hv
    rcases List.mem_cons.mp hv with rfl | hv
    · exact ⟨_, rfl⟩
    · exact ih v hv
section
variable {prog : Program} {w : World} {A : Around} {E : Value → Shared → Prop} {s : Shared} {env : Env} {h₀ : Heap} {target : Expr} {body : List Stmt} {Q : Flow → Shared → Prop}
abbrev OutPi (tr : List (Addr × Obj)) (ws : List (Int × Int × Int)) (i : Nat) (vs : List Value) (tl : List (Addr × Obj)) : Prop := (∀ p ∈ tr, p ∈ tl) ∧ PairsAre tl vs (toldOf (ws.take i))
/-- the law's outer loop -/
theorem outer_grow {la l₀ D : Addr} {us rws : List Value} {ku k₀ kr : Nat} {x1 x2 x3 : Addr × Obj} {tr : List (Addr × Obj)} {ws : List (Int × Int × Int)} {m : Str → Option Value} (ts : List Str)
    (hh : A.handled = none) (tri : TrisAre tr us ws) (htg : ∃ es k p, target = .Tuple es k p) (F : Fr h₀ env.locals s.heap m) (N : News h₀ env.locals s.heap ((la, listOf us.toArray ku) :: (l₀, listOf [].toArray k₀) :: (D, listOf rws.toArray kr) :: x1 :: x2 :: x3 :: tr))
    (hoff : OwnOff tr [la]) (hDl : @Ne Nat D l₀) (hne : ∀ p ∈ (la, listOf us.toArray ku) :: tr, ∀ q ∈ (l₀, listOf [].toArray k₀) :: (D, listOf rws.toArray kr) :: [x1, x2, x3], p.1 ≠ q.1)
    (turn : ∀ (i : Nat) T a b c ta tb tc vs k tl I oI (u : Str → Option Value) h tk, @Ne Nat la l₀ → @Ne Nat D l₀ → us[i]? = some (.ref T) → ws[i]? = some (a, b, c) → OutPi tr ws i vs tl → OwnOff tl [l₀] → (∀ p ∈ tl, ∀ q ∈ [(la, listOf us.toArray ku), (D, listOf rws.toArray kr)], p.1 ≠ q.1) → @Ne Nat l₀ I → (∀ p ∈ [(la, listOf us.toArray ku), (D, listOf rws.toArray kr)], p.1 ≠ I) → (∀ p ∈ tl, p.1 ≠ I) → Fr h₀ env.locals h (fun y => if ts.contains y then u y else m y) → News h₀ env.locals h ((T, triObj a b c ta tb tc) :: (I, oI) :: (l₀, listOf vs.toArray k) :: (la, listOf us.toArray ku) :: (D, listOf rws.toArray kr) :: tl) →
      wpAny (model prog w) A (assign target env (.ref T)) (fun _ s₂ => wpAny (model prog w) A (execs body env) (GEnd h₀ env.locals I oI m l₀ [(la, listOf us.toArray ku), (D, listOf rws.toArray kr)] (OutPi tr ws) ts (i + 1) s Q) E s₂) E { s with heap := h, toks := tk })
    (done : ∀ vs k tl (u : Str → Option Value) h tk, PairsAre tl vs (toldOf ws) → OwnOff tl [l₀] → (∀ p ∈ tl, ∀ q ∈ [(la, listOf us.toArray ku), (D, listOf rws.toArray kr)], p.1 ≠ q.1) → Fr h₀ env.locals h (fun y => if ts.contains y then u y else m y) → News h₀ env.locals h ((l₀, listOf vs.toArray k) :: (la, listOf us.toArray ku) :: (D, listOf rws.toArray kr) :: tl) → Q .next { s with heap := h, toks := tk })
    (hE : PassesOwn (model prog w) A env E) :
    wpAny (model prog w) A (pyIter (.ref la)) (fun it s₂ => LoopS prog w A env target body Q E it s₂) E s := by
  refine growS_listN (l₀ := l₀) (k₀ := k₀) (vs₀ := []) (tl₀ := tr) (rest := [(la, listOf us.toArray ku), (D, listOf rws.toArray kr)]) ts (OutPi tr ws) hh (.head _) (.inr ⟨htg, tris_refs tri⟩) F N ?_ ⟨fun _ h9 => h9, .nil⟩ ?_ ?_ ?_ ?_ hE
  · intro p hp
    rcases List.mem_cons.mp hp with rfl | hp
    · exact .tail _ (.head _)
    rcases List.mem_cons.mp hp with rfl | hp
    · exact .head _
    rcases List.mem_cons.mp hp with rfl | hp
    · exact .tail _ (.tail _ (.head _))
    · exact .tail _ (.tail _ (.tail _ (.tail _ (.tail _ (.tail _ hp)))))
  · intro p hp b hb
    rw [List.mem_singleton.mp hb]
    exact hne p (.tail _ hp) _ (.head _)
  · intro p hp q hq
    rcases List.mem_cons.mp hq with rfl | hq
    · exact hoff p hp _ (.head _)
    · rw [List.mem_singleton.mp hq]; exact hne p (.tail _ hp) _ (.tail _ (.head _))
  · intro i v vs k tl I oI u h tk hv hPi h1 h2 h3 h4 h5 F' N'
    obtain ⟨T, a, b, c, ta, tb, tc, rfl, hd, hm⟩ := tri.get hv
    refine turn i T a b c ta tb tc vs k tl I oI u h tk (hne _ (.head _) _ (.head _)) hDl hv hd hPi h1 h2 h3 h4 h5 F' ?_
    refine List.forall_mem_cons.mpr ⟨N' _ (.tail _ (.tail _ (List.mem_append.mpr (.inr (hPi.1 _ hm))))), N'⟩
  · intro vs k tl u h tk hPi h1 h2 F' N'
    refine done vs k tl u h tk ?_ h1 h2 F' N'
    have := hPi.2
    rwa [tri.length, List.take_length] at this
abbrev InPi (tr : List (Addr × Obj)) (ws : List (Int × Int × Int)) (i : Nat) (d k : Int) (as : List Int) (j : Nat) (vs : List Value) (tl : List (Addr × Obj)) : Prop := (∀ p ∈ tr, p ∈ tl) ∧ PairsAre tl vs (toldOf (ws.take i) ++ toldIn d k (as.take j))
/-- the law's inner loop -/
theorem inner_grow {Sd T I la l₀ D : Addr} {oT oI : Obj} {vs9 us rws vs₀ : List Value} {c9 ku k₀ kr : Nat} {tr tl₀ : List (Addr × Obj)} {ws : List (Int × Int × Int)} {i : Nat} {as : List Int} {m : Str → Option Value} (d kk : Int) (ts : List Str)
    (hh : A.handled = none) (hI9 : IntsAre vs9 as) (htg : ∃ x px, target = .Name x px) (F : Fr h₀ env.locals s.heap m)
    (N : News h₀ env.locals s.heap ((Sd, listOf vs9.toArray c9) :: (T, oT) :: (I, oI) :: (l₀, listOf vs₀.toArray k₀) :: (la, listOf us.toArray ku) :: (D, listOf rws.toArray kr) :: tl₀))
    (hla : @Ne Nat la l₀) (hDl : @Ne Nat D l₀) (hIl : @Ne Nat l₀ I) (hPi : OutPi tr ws i vs₀ tl₀) (hoff : OwnOff tl₀ [l₀]) (hap : ∀ p ∈ tl₀, ∀ q ∈ [(la, listOf us.toArray ku), (D, listOf rws.toArray kr)], p.1 ≠ q.1) (hIt : ∀ p ∈ tl₀, p.1 ≠ I)
    (hSd : ∀ q ∈ (T, oT) :: (I, oI) :: (l₀, listOf vs₀.toArray k₀) :: (la, listOf us.toArray ku) :: (D, listOf rws.toArray kr) :: tl₀, q.1 ≠ Sd)
    (turn : ∀ (j : Nat) a ta vs k tl Ib oIb (u : Str → Option Value) h tk, @Ne Nat l₀ Sd → as[j]? = some a → InPi tr ws i d kk as j vs tl → OwnOff tl [l₀] → (∀ p ∈ tl, ∀ q ∈ [(Sd, listOf vs9.toArray c9), (I, oI), (la, listOf us.toArray ku), (D, listOf rws.toArray kr)], p.1 ≠ q.1) → @Ne Nat l₀ Ib →
      (∀ p ∈ [(Sd, listOf vs9.toArray c9), (I, oI), (la, listOf us.toArray ku), (D, listOf rws.toArray kr)], p.1 ≠ Ib) → (∀ p ∈ tl, p.1 ≠ Ib) → Fr h₀ env.locals h (fun y => if ts.contains y then u y else m y) →
      News h₀ env.locals h ((Ib, oIb) :: (l₀, listOf vs.toArray k) :: (Sd, listOf vs9.toArray c9) :: (I, oI) :: (la, listOf us.toArray ku) :: (D, listOf rws.toArray kr) :: tl) →
      wpAny (model prog w) A (assign target env (.int a ta)) (fun _ s₂ => wpAny (model prog w) A (execs body env) (GEnd h₀ env.locals Ib oIb m l₀ [(Sd, listOf vs9.toArray c9), (I, oI), (la, listOf us.toArray ku), (D, listOf rws.toArray kr)] (InPi tr ws i d kk as) ts (j + 1) s Q) E s₂) E { s with heap := h, toks := tk })
    (done : ∀ vs k tl (u : Str → Option Value) h tk, InPi tr ws i d kk as as.length vs tl → OwnOff tl [l₀] → (∀ p ∈ tl, ∀ q ∈ [(la, listOf us.toArray ku), (D, listOf rws.toArray kr)], p.1 ≠ q.1) → (∀ p ∈ tl, p.1 ≠ I) → Fr h₀ env.locals h (fun y => if ts.contains y then u y else m y) →
      News h₀ env.locals h ((l₀, listOf vs.toArray k) :: (Sd, listOf vs9.toArray c9) :: (I, oI) :: (la, listOf us.toArray ku) :: (D, listOf rws.toArray kr) :: tl) → Q .next { s with heap := h, toks := tk })
    (hE : PassesOwn (model prog w) A env E) :
    wpAny (model prog w) A (pyIter (.ref Sd)) (fun it s₂ => LoopS prog w A env target body Q E it s₂) E s := by
  refine growS_listN (l₀ := l₀) (k₀ := k₀) (vs₀ := vs₀) (tl₀ := tl₀) (rest := [(Sd, listOf vs9.toArray c9), (I, oI), (la, listOf us.toArray ku), (D, listOf rws.toArray kr)]) ts (InPi tr ws i d kk as) hh (.head _) (.inl htg) F N ?_ ⟨hPi.1, ?_⟩ hoff ?_ ?_ ?_ hE
  · intro p hp
    simp only [List.cons_append, List.nil_append, List.mem_cons] at hp ⊢
    rcases hp with h | h | h | h | h | h
    · exact .inr (.inr (.inr (.inl h)))
    · exact .inl h
    · exact .inr (.inr (.inl h))
    · exact .inr (.inr (.inr (.inr (.inl h))))
    · exact .inr (.inr (.inr (.inr (.inr (.inl h)))))
    · exact .inr (.inr (.inr (.inr (.inr (.inr h)))))
  · have := hPi.2
    simpa [toldIn] using this
  · intro p hp q hq
    rcases List.mem_cons.mp hq with rfl | hq
    · exact hSd p (.tail _ (.tail _ (.tail _ (.tail _ (.tail _ hp)))))
    rcases List.mem_cons.mp hq with rfl | hq
    · exact hIt p hp
    · exact hap p hp q hq
  · intro j v vs k tl Ib oIb u h tk hv hPj h1 h2 h3 h4 h5 F' N'
    obtain ⟨a, ta, rfl, ha⟩ := IntsAre.at hI9 j v hv
    exact turn j a ta vs k tl Ib oIb u h tk (hSd _ (.tail _ (.tail _ (.head _)))) ha hPj h1 h2 h3 h4 h5 F' N'
  · intro vs k tl u h tk hPj h1 h2 F' N'
    rw [hI9.length] at hPj
    exact done vs k tl u h tk hPj h1 (fun p hp q hq => h2 p hp q (.tail _ (.tail _ hq))) (fun p hp => h2 p hp _ (.tail _ (.head _))) F' N'
theorem in_more {tr tl : List (Addr × Obj)} {ws : List (Int × Int × Int)} {i : Nat} {d k : Int} {as : List Int} {j : Nat} {vs : List Value} {a : Int} {T : Addr} {ta tb : Tok} (h : InPi tr ws i d k as j vs tl) (ha : as[j]? = some a) :
    InPi tr ws i d k as (j + 1) (vs ++ List.replicate k.toNat (.ref T)) ((T, ({ cls := .type "tuple", data := .seq #[.int d ta, .int a tb] } : Obj)) :: tl) := by
  refine ⟨fun p hp => .tail _ (h.1 p hp), ?_⟩
  rw [toldIn_snoc ha, ← List.append_assoc]
  exact (h.2.mono fun p hp => .tail _ hp).append (PairsAre.rep (.head _) _)
theorem out_more {tr tl : List (Addr × Obj)} {ws : List (Int × Int × Int)} {i : Nat} {a b c : Int} {vs : List Value} (hd : ws[i]? = some (a, b, c)) (h : InPi tr ws i a (Int.fdiv (c - b) a) (nums a) (nums a).length vs tl) : OutPi tr ws (i + 1) vs tl := by
  refine ⟨h.1, ?_⟩
  rw [toldOf_snoc hd]
  have := h.2
  rwa [List.take_length] at this
end
theorem toldIn_length (d k : Int) (as : List Int) : (toldIn d k as).length = as.length * k.toNat := by
  unfold toldIn
  induction as with
  | nil => simp
  | cons a r ih => rw [List.flatMap_cons, List.length_append, ih, List.length_replicate, List.length_cons, Nat.succ_mul, Nat.add_comm]
theorem nums_len {z : Int} (h1 : 1 ≤ z) (h2 : z ≤ 10) : (nums z).length ≤ 10 := by
  unfold nums leftN
  refine Nat.le_trans (List.length_filter_le _ _) (Nat.le_trans ?_ (num_facts h1 h2).2.2.2.2.2)
  rw [List.length_take]; exact Nat.min_le_right _ _
theorem toldIn_le {a k : Int} {as : List Int} (h1 : as.length ≤ 10) (h2 : k ≤ 7) : (toldIn a k as).length ≤ 70 := by
  rw [toldIn_length]
  exact Nat.le_trans (Nat.mul_le_mul h1 (show k.toNat ≤ 7 by omega)) (by decide)
theorem toldOf_le {ws : List (Int × Int × Int)} (h : ∀ a b c, (a, b, c) ∈ ws → (1 ≤ a ∧ a ≤ 10) ∧ Int.fdiv (c - b) a ≤ 7) : (toldOf ws).length ≤ 70 * ws.length := by
  unfold toldOf
  induction ws with
  | nil => simp
  | cons x r ih =>
    have h1 := ih fun a b c hm => h a b c (.tail _ hm)
    obtain ⟨a, b, c⟩ := x
    have h2 := h a b c (.head _)
    have h3 := toldIn_le (a := a) (nums_len h2.1.1 h2.1.2) h2.2
    rw [List.flatMap_cons, List.length_append, List.length_cons]
    dsimp only at h3 ⊢
    omega
theorem in_len {tr tl : List (Addr × Obj)} {ws : List (Int × Int × Int)} {i : Nat} {a b c : Int} {j : Nat} {vs : List Value} (wf : WFacts ws) (hd : ws[i]? = some (a, b, c)) (h : InPi tr ws i a (Int.fdiv (c - b) a) (nums a) j vs tl) : vs.length ≤ 1000 := by
  have f := wf.at hd
  rw [h.2.length, List.length_append]
  have h1 := toldOf_le (ws := ws.take i) fun a b c hm => ⟨(wf.2 a b c (List.mem_of_mem_take hm)).1, (wf.2 a b c (List.mem_of_mem_take hm)).2.2.2⟩
  have h2 := toldIn_le (a := a) (k := Int.fdiv (c - b) a) (as := (nums a).take j) (by rw [List.length_take]; exact Nat.le_trans (Nat.min_le_right _ _) (nums_len f.1.1 f.1.2)) f.2.2.2
  have h3 : (ws.take i).length ≤ 11 := by rw [List.length_take]; exact Nat.le_trans (Nat.min_le_right _ _) wf.1
  omega
end Mine

namespace Mine
def pd (d : Int × Int) : PyData := .tuple [.int d.1, .int d.2]
theorem PairsAre.reads {h : Heap} {tl : List (Addr × Obj)} (N : ∀ p ∈ tl, h.get? p.1 = some p.2) {vs : List Value} {ds : List (Int × Int)} (hp : PairsAre tl vs ds) : ∃ as, ReadsAll h vs (ds.map pd) as := by
  induction hp with
  | nil => exact ⟨_, .nil⟩
  | @cons T a b ta tb vs ds hm _ ih =>
    obtain ⟨as, ha⟩ := ih
    exact ⟨_, .cons (reads_tuple_at (N _ hm) rfl rfl (.cons (.int a ta) (.cons (.int b tb) .nil))) ha⟩
theorem pd_lay : ∀ ds : List (Int × Int), PyData.canLayAll0 (ds.map pd) = true
  | [] => rfl
  | _ :: r => by simp [PyData.canLayAll0, PyData.canLay0, pd, pd_lay r]
theorem pd_depth : ∀ ds : List (Int × Int), PyData.depthAll (ds.map pd) ≤ 5
  | [] => by simp [PyData.depthAll]
  | d :: r => by
    have := pd_depth r
    have e : PyData.depth (pd d) ≤ 5 := by simp [pd, PyData.depth, PyData.depthAll]
    simp only [List.map_cons, PyData.depthAll]
    omega
theorem pd_shaped (ds : List (Int × Int)) : PySem.SeqAt.shaped (.list (ds.map pd)) = true := by
  have := pd_depth ds
  have e : PyData.depth (.list (ds.map pd)) ≤ 64 := by simp only [PyData.depth]; omega
  simp [SeqAt.shaped, PyData.canLay0, pd_lay, e]
theorem pd_eqv (ds : List (Int × Int)) : PyData.eqv (.list (ds.map pd)) (.list (ds.map pd)) = true := by
  simp only [PyData.eqv]
  exact SeqAt.eqvAll_refl _ (pd_lay ds)
section
variable {prog : Program} {w : World} {A : Around} {E : Value → Shared → Prop} {s : Shared} {h₀ : Heap} {L : Addr} {m : Str → Option Value} {news : List (Addr × Obj)}
/-- two lists of the same pairs are equal -/
theorem eq_pairs {l l' : Addr} {vs vs' : List Value} {k k' : Nat} {tl tl' : List (Addr × Obj)} {ds : List (Int × Int)} {Q : Value → Shared → Prop} (hl : s.heap.get? l = some (listOf vs.toArray k)) (hl' : s.heap.get? l' = some (listOf vs'.toArray k')) (h1 : ∀ p ∈ tl, s.heap.get? p.1 = some p.2) (h2 : ∀ p ∈ tl', s.heap.get? p.1 = some p.2)
    (p1 : PairsAre tl vs ds) (p2 : PairsAre tl' vs' ds) (hu : A.units + 64 < cLine) (h : Q (.bool true) s) : wpAny (model prog w) A (compareOp .Eq (.ref l) (.ref l')) Q E s := by
  obtain ⟨as, r1⟩ := p1.reads h1
  obtain ⟨bs, r2⟩ := p2.reads h2
  refine eq_dataH (reads_list_at hl rfl rfl r1) (reads_list_at hl' rfl rfl r2) (pd_shaped ds) (pd_shaped ds) hu ?_
  rw [pd_eqv]; exact h
theorem mul_one_ref {l T : Addr} {c : Nat} {x : Int} {u : Tok} {Q : Value → Shared → Prop} (F : Fr h₀ L s.heap m) (N : News h₀ L s.heap news) (hl : (l, listOf [Value.ref T].toArray c) ∈ news) (h1 : 1 ≤ x) (h2 : x ≤ 7)
    (h : ∀ D h', Fr h₀ L h' m → News h₀ L h' ((D, listOf (List.replicate x.toNat (Value.ref T)).toArray 0) :: news) → (∀ p ∈ news, p.1 < D) → Q (.ref D) { s with heap := h' }) : wpAny (model prog w) A (binaryOp .Mult (.ref l) (.int x u)) Q E s := by
  refine KMa.mul F N (News.isList N hl) (by omega) (by omega) (by simp; omega) (ws := List.replicate x.toNat (Value.ref T)) ?_ h
  generalize x.toNat = n
  induction n with
  | zero => rfl
  | succ n ih => rw [List.replicate_succ, List.flatten_cons, ih, List.replicate_succ]; rfl
theorem ext_rep {D b T : Addr} {vs : List Value} {k k9 : Nat} {x : Int} {news' : List (Addr × Obj)} {Q : Value → Shared → Prop} (F : Fr h₀ L s.heap m) (N : News h₀ L s.heap news) (hb : (b, listOf (List.replicate x.toNat (Value.ref T)).toArray k9) ∈ news) (h1 : 1 ≤ x) (h2 : x ≤ 7) (hv : vs.length ≤ 1000)
    (U : Upd D (listOf vs.toArray k) (listOf (vs ++ List.replicate x.toNat (Value.ref T)).toArray (k + 1)) news news')
    (h : ∀ h', Fr h₀ L h' m → News h₀ L h' news' → Q .none { s with heap := h' }) : wpAny (model prog w) A (call (.builtin "list.extend") [.ref D, .ref b]) Q E s := by
  refine kl_extend F N hb rfl (by simp; omega) U ?_ ?_ ?_ h
  · simp [Builtin.List.listTooLong, sizeLine]; omega
  · rw [sizeLine_eq]; simp; omega
  · rw [sizeLine_eq]; simp; omega
def EqReady (h : Heap) (l l' : Addr) : Prop := ∃ (vs vs' : List Value) (k k' : Nat) (tl tl' : List (Addr × Obj)) (ds : List (Int × Int)), h.get? l = some (listOf vs.toArray k) ∧ h.get? l' = some (listOf vs'.toArray k') ∧ (∀ p ∈ tl, h.get? p.1 = some p.2) ∧ (∀ p ∈ tl', h.get? p.1 = some p.2) ∧ PairsAre tl vs ds ∧ PairsAre tl' vs' ds
theorem eqReady_of {h : Heap} {l l' : Addr} {vs vs' : List Value} {k k' : Nat} {tl tl' : List (Addr × Obj)} {ds : List (Int × Int)} (h1 : h.get? l = some (listOf vs.toArray k)) (h2 : h.get? l' = some (listOf vs'.toArray k')) (h3 : ∀ p ∈ tl, h.get? p.1 = some p.2) (h4 : ∀ p ∈ tl', h.get? p.1 = some p.2) (h5 : PairsAre tl vs ds) (h6 : PairsAre tl' vs' ds) : EqReady h l l' :=
  ⟨vs, vs', k, k', tl, tl', ds, h1, h2, h3, h4, h5, h6⟩
theorem lowR_to {ns : List Int} {h h' : Heap} {r : Value} (H : LowR ns h h' r) : ∃ la vs k tl ds, r = .ref la ∧ h'.get? la = some (listOf vs.toArray k) ∧ (∀ p ∈ tl, h'.get? p.1 = some p.2) ∧ PairsAre tl vs ds ∧ ds.Perm (fracs ns) ∧ ds.Pairwise (fun x y => enc x ≤ enc y) := by
  obtain ⟨la, vs, k, tl, ds, e, ha, h1, h2, h3⟩ := H
  exact ⟨la, vs, k, tl, ds, e, (ha _ (.head _)).1, fun p hp => (ha p (.tail _ hp)).1, h1, h2, h3⟩
theorem news_at {h₀ h : Heap} {L a : Addr} {o : Obj} {news : List (Addr × Obj)} (N : News h₀ L h ((a, o) :: news)) : h.get? a = some o := (N (a, o) (.head _)).1
theorem news_tl {h₀ h : Heap} {L : Addr} {x y z : Addr × Obj} {tl : List (Addr × Obj)} (N : News h₀ L h (x :: y :: z :: tl)) : ∀ p ∈ tl, h.get? p.1 = some p.2 := fun p hp => (N p (.tail _ (.tail _ (.tail _ hp)))).1
theorem eq_ready {l l' : Addr} {Q : Value → Shared → Prop} (H : EqReady s.heap l l') (hu : A.units + 64 < cLine) (h : Q (.bool true) s) : wpAny (model prog w) A (compareOp .Eq (.ref l) (.ref l')) Q E s := by
  obtain ⟨vs, vs', k, k', tl, tl', ds, h1, h2, h3, h4, h5, h6⟩ := H
  exact eq_pairs h1 h2 h3 h4 h5 h6 hu h
end
theorem in_end {h₀ : Heap} {L Ib : Addr} {oIb : Obj} {m m' : Str → Option Value} {l₀ T : Addr} {x1 x2 y1 y2 y3 y4 : Addr × Obj} {vs : List Value} {kk : Nat} {tr tl : List (Addr × Obj)} {ws : List (Int × Int × Int)} {i : Nat} {d k : Int} {as : List Int} {j : Nat} {a : Int} {ta tb : Tok} {ts : List Str} {s₁ : Shared} {h' : Heap} {tk : Nat}
    (F : Fr h₀ L h' m') (N : News h₀ L h' (x1 :: x2 :: (T, ({ cls := .type "tuple", data := .seq #[.int d ta, .int a tb] } : Obj)) :: (Ib, oIb) :: (l₀, listOf (vs ++ List.replicate k.toNat (Value.ref T)).toArray kk) :: y1 :: y2 :: y3 :: y4 :: tl))
    (h : InPi tr ws i d k as j vs tl) (ha : as[j]? = some a) (h1 : @Ne Nat l₀ Ib) (h2 : ∀ p ∈ tl, p.1 ≠ Ib) (h3 : ∀ p ∈ [y1, y2, y3, y4], p.1 ≠ Ib) (h4 : OwnOff tl [l₀]) (h5 : ∀ p ∈ tl, ∀ q ∈ [y1, y2, y3, y4], p.1 ≠ q.1)
    (hr : ∀ z, (∀ p ∈ ([] : List (Str × Value)), z ≠ p.1) → ts.contains z = false → m' z = m z) (hTI : @LT.lt Nat _ Ib T) (hTl : @LT.lt Nat _ l₀ T) (hTr : AllLt T [y1, y2, y3, y4]) :
    EndS h₀ L Ib oIb (fun (_ : NS) => kstB m []) (GLed l₀ [y1, y2, y3, y4]) (GPi l₀ [y1, y2, y3, y4] (InPi tr ws i d k as)) ts (j + 1) s₁ { s₁ with heap := h', toks := tk } :=
  grow_one F N (.tail _ (.tail _ (.head _))) (.tail _ (.tail _ (.tail _ (.tail _ (.head _))))) (fun _ h9 => .tail _ (.tail _ (.tail _ (.tail _ (.tail _ (.tail _ (.tail _ (.tail _ (.tail _ h9)))))))))
    (fun p hp => by
      refine .tail _ (.tail _ (.tail _ (.tail _ (.tail _ ?_))))
      have e : y1 :: y2 :: y3 :: y4 :: tl = [y1, y2, y3, y4] ++ tl := rfl
      rw [e]; exact List.mem_append.mpr (.inl hp)) (.tail _ (.tail _ (.tail _ (.head _)))) h1 h2 h3 h4 h5 hr hTI hTl hTr (in_more h ha)
theorem fracs_row (sc : List Int) : 2 ≤ (fracs (rowOf sc)).length ∧ (fracs (rowOf sc)).length < 64 := by
  have e : fracs (rowOf sc) = fracs ((sc.take 5).map (fun k => k.fmod 10 + 1)) ++ fracs [6, 4] := by
    unfold fracs rowOf; rw [List.map_append, List.flatten_append]
  have h1 := fracs_le (ns := (sc.take 5).map (fun k => k.fmod 10 + 1)) fun n hn => (row_mem sc n (List.mem_append.mpr (.inl hn))).2
  have h2 : (fracs [6, 4]).length = 10 := by decide
  rw [List.length_map, List.length_take] at h1
  rw [e, List.length_append, h2]
  omega
end Mine

namespace Mine
theorem getD_grow (cnt : List Int) (b i : Nat) : (grow cnt b).getD i 0 = cnt.getD i 0 := by
  unfold grow
  split
  · by_cases h : i < cnt.length
    · rw [List.getD_eq_getElem?_getD, List.getD_eq_getElem?_getD, List.getElem?_append_left h]
    · rw [List.getD_eq_getElem?_getD, List.getD_eq_getElem?_getD, List.getElem?_append_right (by omega), List.getElem?_eq_none (by omega : cnt.length ≤ i)]
      by_cases h2 : i - cnt.length < b - cnt.length + 1
      · rw [List.getElem?_replicate, if_pos h2]; rfl
      · rw [List.getElem?_replicate, if_neg h2]
  · rfl
theorem getD_bump (cnt : List Int) (b i : Nat) : (bump cnt b).getD i 0 = cnt.getD i 0 + if i = b then 1 else 0 := by
  unfold bump
  have hl : b < (grow cnt b).length := by rw [grow_length]; omega
  by_cases h : i = b
  · subst h
    rw [List.getD_eq_getElem?_getD, List.getElem?_set_self hl, if_pos rfl, getD_grow]; rfl
  · rw [List.getD_eq_getElem?_getD, List.getElem?_set_ne (Ne.symm h), ← List.getD_eq_getElem?_getD, getD_grow, if_neg h, Int.add_zero]
theorem scan_sp (cnt : List Int) (nt : Int) : ∀ (n : Nat) (b : Int), (List.replicate n 32).foldl scanStep (cnt, b, nt) = (cnt, b + n, nt)
  | 0, b => by simp
  | n + 1, b => by
    rw [List.replicate_succ, List.foldl_cons]
    have e : scanStep (cnt, b, nt) 32 = (cnt, b + 1, nt) := rfl
    rw [e, scan_sp cnt nt n]
    have : b + 1 + (n : Int) = b + ((n + 1 : Nat) : Int) := by omega
    rw [this]
theorem scan_seg (cnt : List Int) (nt k : Int) : (segC k).foldl scanStep (cnt, 0, nt) = (bump cnt k.toNat, 0, nt + 1) := by
  unfold segC
  rw [List.foldl_append, scan_sp, List.foldl_cons, List.foldl_nil]
  show (bump cnt (0 + (k.toNat : Int)).toNat, (0 : Int), nt + 1) = _
  rw [Int.zero_add, Int.toNat_natCast]
def cntOf (cnt : List Int) (ns : List Int) : List Int := ns.foldl (fun c k => bump c k.toNat) cnt
theorem scan_text : ∀ (ns : List Int) (cnt : List Int) (nt : Int), (textC ns).foldl scanStep (cnt, 0, nt) = (cntOf cnt ns, 0, nt + ns.length)
  | [], cnt, nt => by simp [textC, cntOf]
  | n :: r, cnt, nt => by
    have e : textC (n :: r) = segC n ++ textC r := rfl
    rw [e, List.foldl_append, scan_seg, scan_text r]
    have e2 : nt + 1 + (r.length : Int) = nt + ((n :: r).length : Nat) := by rw [List.length_cons]; omega
    rw [e2]; rfl
theorem scan_row (ns : List Int) : scan (textC ns) = (cntOf [] ns, 0, (ns.length : Int)) := by
  unfold scan
  rw [scan_text]; simp

theorem lvlN_bump (cnt : List Int) (b : Nat) (ts : Int) (h : 1 ≤ ts) : ∀ k : Nat, lvlN (bump cnt b) ts k = lvlN cnt ts k + if ts ≤ b ∧ (b : Int) < ts + k then Int.fdiv b ts else 0
  | 0 => by
    rw [if_neg (by omega)]; rfl
  | k + 1 => by
    unfold lvlN
    rw [lvlN_bump cnt b ts h k, getD_bump]
    by_cases h1 : (ts + (k : Int)).toNat = b
    · have e : (b : Int) = ts + k := by omega
      rw [if_pos h1, if_neg (by omega), if_pos (by omega), e, Int.mul_add, Int.mul_one]; omega
    · rw [if_neg h1, Int.add_zero (cnt.getD _ 0)]
      by_cases h2 : ts ≤ b ∧ (b : Int) < ts + k
      · rw [if_pos h2, if_pos (by omega)]; omega
      · rw [if_neg h2, if_neg (by omega)]; omega
theorem lvlN_more (cnt : List Int) (ts : Int) (h : 1 ≤ ts) (k : Nat) (hk : (cnt.length : Int) ≤ ts + k) : ∀ e : Nat, lvlN cnt ts (k + e) = lvlN cnt ts k
  | 0 => rfl
  | e + 1 => by
    show lvlN cnt ts (k + e) + Int.fdiv (ts + ((k + e : Nat) : Int)) ts * cnt.getD (ts + ((k + e : Nat) : Int)).toNat 0 = _
    rw [lvlN_more cnt ts h k hk e, List.getD_eq_getElem?_getD, List.getElem?_eq_none (by omega)]
    simp
/-- the sum of u // ts -/
def sumD (ts : Int) : List Int → Int
  | [] => 0
  | u :: r => Int.fdiv u ts + sumD ts r
theorem fdiv_small {u ts : Int} (h0 : 0 ≤ u) (h : u < ts) : Int.fdiv u ts = 0 := by
  rw [Int.fdiv_eq_ediv_of_nonneg _ (by omega)]
  exact Int.ediv_eq_zero_of_lt h0 h
theorem lvlN_cnt (ts : Int) (h : 1 ≤ ts) (k : Nat) : ∀ (ns : List Int) (cnt : List Int), (∀ n ∈ ns, 0 ≤ n ∧ n < ts + k) → lvlN (cntOf cnt ns) ts k = lvlN cnt ts k + sumD ts ns
  | [], cnt, _ => by simp [cntOf, sumD]
  | n :: r, cnt, hn => by
    have h1 := hn n (.head _)
    show lvlN (cntOf (bump cnt n.toNat) r) ts k = _
    rw [lvlN_cnt ts h k r _ (fun m hm => hn m (.tail _ hm)), lvlN_bump cnt _ ts h]
    have e : ((n.toNat : Nat) : Int) = n := by omega
    rw [e]
    by_cases h2 : ts ≤ n
    · rw [if_pos ⟨h2, h1.2⟩]; simp only [sumD]; omega
    · rw [if_neg (by omega)]
      have := fdiv_small h1.1 (show n < ts by omega)
      simp only [sumD]; omega
theorem lvlN_nil (ts : Int) : ∀ k, lvlN [] ts k = 0
  | 0 => rfl
  | k + 1 => by unfold lvlN; rw [lvlN_nil ts k]; simp
theorem cntOf_length : ∀ (ns : List Int) (cnt : List Int), (∀ n ∈ ns, n ≤ 10) → cnt.length ≤ 11 → (cntOf cnt ns).length ≤ 11 ∧ cnt.length ≤ (cntOf cnt ns).length ∧ ∀ n ∈ ns, n.toNat + 1 ≤ (cntOf cnt ns).length
  | [], cnt, _, h => ⟨h, Nat.le_refl _, fun _ h => nomatch h⟩
  | n :: r, cnt, hn, h => by
    have h1 := hn n (.head _)
    have hb := bump_length cnt n.toNat
    have ih := cntOf_length r (bump cnt n.toNat) (fun m hm => hn m (.tail _ hm)) (by omega)
    have e : cntOf cnt (n :: r) = cntOf (bump cnt n.toNat) r := rfl
    rw [e]
    refine ⟨ih.1, by omega, fun m hm => ?_⟩
    rcases List.mem_cons.mp hm with rfl | hm
    · omega
    · exact ih.2.2 m hm
/-- a row's level -/
theorem lvl_row {ns : List Int} (hn : ∀ n ∈ ns, 0 ≤ n ∧ n ≤ 10) {ts : Int} (h : 1 ≤ ts) : lvl (cntOf [] ns) 0 (ns.length : Int) ts = ts * (sumD ts ns + ns.length) := by
  unfold lvl
  have hl := cntOf_length ns [] (fun n hm => (hn n hm).2) (by simp)
  have e1 : lvlN (cntOf [] ns) ts ((((cntOf [] ns).length : Int) - ts).toNat) = lvlN (cntOf [] ns) ts ((((cntOf [] ns).length : Int) - ts).toNat + 20) := (lvlN_more _ ts h _ (by omega) 20).symm
  rw [e1, lvlN_cnt ts h _ ns [] (fun n hm => by have := hn n hm; omega), lvlN_nil, Int.zero_add, Int.zero_add]
/-- how many of a row ts divides -/
def cN (ts : Int) : List Int → Int
  | [] => 0
  | u :: r => (if u % ts = 0 then 1 else 0) + cN ts r
theorem div_step {u ts : Int} (h1 : 1 ≤ u) (h : 1 ≤ ts) : Int.fdiv u ts = Int.fdiv (u - 1) ts + if u % ts = 0 then 1 else 0 := by
  rw [Int.fdiv_eq_ediv_of_nonneg _ (by omega), Int.fdiv_eq_ediv_of_nonneg _ (by omega)]
  have e1 := Int.mul_ediv_add_emod u ts
  have h2 := Int.emod_nonneg u (show ts ≠ 0 by omega)
  have h3 := Int.emod_lt_of_pos u (show 0 < ts by omega)
  by_cases h4 : u % ts = 0
  · rw [if_pos h4]
    have e : u - 1 = ts - 1 + ts * (u / ts - 1) := by rw [Int.mul_sub]; omega
    have : (u - 1) / ts = u / ts - 1 := by
      rw [e, Int.add_mul_ediv_left _ _ (by omega), Int.ediv_eq_zero_of_lt (by omega) (by omega)]; omega
    omega
  · rw [if_neg h4]
    have e : u - 1 = (u % ts - 1) + ts * (u / ts) := by omega
    have : (u - 1) / ts = u / ts := by
      rw [e, Int.add_mul_ediv_left _ _ (by omega), Int.ediv_eq_zero_of_lt (by omega) (by omega)]; omega
    omega
theorem sumD_step {ts : Int} (h : 1 ≤ ts) : ∀ {ns : List Int}, (∀ n ∈ ns, 1 ≤ n) → sumD ts ns = sumD ts (ns.map fun k => k - 1) + cN ts ns
  | [], _ => by simp [sumD, cN]
  | n :: r, hn => by
    have ih := sumD_step h (ns := r) fun m hm => hn m (.tail _ hm)
    have := div_step (hn n (.head _)) h
    simp only [List.map_cons, sumD, cN]
    omega
theorem cN_le (ts : Int) : ∀ ns : List Int, 0 ≤ cN ts ns ∧ cN ts ns ≤ ns.length
  | [] => by simp [cN]
  | n :: r => by
    have := cN_le ts r
    simp only [cN, List.length_cons]
    split <;> omega
theorem cN_zero {ts : Int} (h : 1 ≤ ts) : ∀ {ns : List Int}, (∀ n ∈ ns, 1 ≤ n ∧ n < ts) → cN ts ns = 0
  | [], _ => rfl
  | n :: r, hn => by
    have ih := cN_zero h (ns := r) fun m hm => hn m (.tail _ hm)
    have h1 := hn n (.head _)
    have : n % ts = n := Int.emod_eq_of_lt (by omega) h1.2
    simp only [cN]
    rw [if_neg (by omega), ih]; rfl
theorem sumD_le {ts : Int} (h : 1 ≤ ts) : ∀ {ns : List Int}, (∀ n ∈ ns, 0 ≤ n ∧ n ≤ 10) → 0 ≤ sumD ts ns ∧ sumD ts ns ≤ 10 * ns.length
  | [], _ => by simp [sumD]
  | n :: r, hn => by
    have ih := sumD_le h (ns := r) fun m hm => hn m (.tail _ hm)
    have h1 := hn n (.head _)
    have h2 := fdiv_le (a := n) (g := ts) h1.1 h
    simp only [sumD, List.length_cons]
    omega
end Mine

namespace Mine
theorem shorts {ns : List Int} (hn : ∀ n ∈ ns, 1 ≤ n ∧ n ≤ 10) : ∀ n ∈ ns.map (fun k => k - 1), 0 ≤ n ∧ n ≤ 10 := by
  intro n hm
  obtain ⟨k, hk, rfl⟩ := List.mem_map.mp hm
  have := hn k hk
  omega
def lv1 (ns : List Int) (ts : Int) : Int := lvl (cntOf [] (ns.map fun k => k - 1)) 0 (ns.length : Int) ts
def lv2 (ns : List Int) (ts : Int) : Int := lvl (cntOf [] ns) 0 (ns.length : Int) ts
def topN (ns : List Int) : Nat := ((if longN (cntOf [] ns) 0 > longN (cntOf [] (ns.map fun k => k - 1)) 0 then longN (cntOf [] ns) 0 else longN (cntOf [] (ns.map fun k => k - 1)) 0) + 1).toNat
theorem wits_row (ns : List Int) : wits ns = witN (lv1 ns) (lv2 ns) (topN ns) := by
  unfold wits
  rw [scan_row, scan_row, List.length_map]
  rfl
theorem lv_step {ns : List Int} (hn : ∀ n ∈ ns, 1 ≤ n ∧ n ≤ 10) {ts : Int} (h : 1 ≤ ts) : lv2 ns ts = lv1 ns ts + ts * cN ts ns := by
  unfold lv1 lv2
  have e : (ns.length : Int) = ((ns.map fun k => k - 1).length : Int) := by rw [List.length_map]
  rw [lvl_row (fun n hm => by have := hn n hm; omega) h]
  conv => rhs; rw [e, lvl_row (shorts hn) h]
  rw [sumD_step h fun n hm => (hn n hm).1, List.length_map, ← Int.mul_add]
  congr 1
  omega
theorem lv1_bound {ns : List Int} (hl : ns.length ≤ 7) (hn : ∀ n ∈ ns, 1 ≤ n ∧ n ≤ 10) {ts : Int} (h : 1 ≤ ts) (h2 : ts ≤ 11) : 0 ≤ lv1 ns ts ∧ lv1 ns ts ≤ 1000 ∧ 0 ≤ lv2 ns ts ∧ lv2 ns ts ≤ 1000 := by
  have e : (ns.length : Int) = ((ns.map fun k => k - 1).length : Int) := by rw [List.length_map]
  have b1 := sumD_le h (shorts hn)
  have b2 := sumD_le h (ns := ns) (fun n hm => by have := hn n hm; omega)
  rw [List.length_map] at b1
  have key : ∀ x : Int, 0 ≤ x → x ≤ 77 → 0 ≤ ts * x ∧ ts * x ≤ 1000 := by
    intro x h0 hx
    refine ⟨Int.mul_nonneg (by omega) h0, ?_⟩
    have := Int.mul_le_mul h2 hx h0 (by decide)
    omega
  have k1 := key (sumD ts (ns.map fun k => k - 1) + ns.length) (by omega) (by omega)
  have k2 := key (sumD ts ns + ns.length) (by omega) (by omega)
  unfold lv1 lv2
  rw [lvl_row (ns := ns) (fun n hm => by have := hn n hm; omega) h]
  have e3 : lvl (cntOf [] (ns.map fun k => k - 1)) 0 (ns.length : Int) ts = ts * (sumD ts (ns.map fun k => k - 1) + ns.length) := by
    rw [e, lvl_row (shorts hn) h]
  rw [e3]
  exact ⟨k1.1, k1.2, k2.1, k2.2⟩
theorem topN_le {ns : List Int} (hn : ∀ n ∈ ns, 1 ≤ n ∧ n ≤ 10) : topN ns ≤ 11 ∧ ∀ n ∈ ns, n < topN ns := by
  have h1 := cntOf_length ns [] (fun n hm => (hn n hm).2) (by simp)
  have h2 := cntOf_length (ns.map fun k => k - 1) [] (fun n hm => (shorts hn n hm).2) (by simp)
  have g1 := h1.1
  have g2 := h2.1
  have l1 : longN (cntOf [] ns) 0 ≤ 10 ∧ ((cntOf [] ns).length : Int) - 1 ≤ longN (cntOf [] ns) 0 := by unfold longN; split <;> omega
  have l2 : longN (cntOf [] (ns.map fun k => k - 1)) 0 ≤ 10 := by unfold longN; split <;> omega
  unfold topN
  refine ⟨by split <;> omega, fun n hm => ?_⟩
  have g3 := h1.2.2 n hm
  have g4 := hn n hm
  split <;> omega
/-- the witnesses, one by one -/
theorem witN_flat (l1 l2 : Int → Int) : ∀ N : Nat, witN l1 l2 N = (List.range N).flatMap fun (k : Nat) => if l1 (1 + (k : Int)) = l2 (1 + (k : Int)) then [] else [(1 + (k : Int), l1 (1 + (k : Int)), l2 (1 + (k : Int)))]
  | 0 => rfl
  | N + 1 => by
    unfold witN
    rw [witN_flat l1 l2 N, List.range_succ, List.flatMap_append]
    simp
theorem witN_mem {l1 l2 : Int → Int} {N : Nat} {a b c : Int} (h : (a, b, c) ∈ witN l1 l2 N) : ∃ k : Nat, k < N ∧ a = 1 + (k : Int) ∧ b = l1 a ∧ c = l2 a ∧ l1 a ≠ l2 a := by
  rw [witN_flat] at h
  obtain ⟨k, hk, h⟩ := List.mem_flatMap.mp h
  split at h
  · exact nomatch h
  · rename_i hne
    have e := List.mem_singleton.mp h
    cases e
    exact ⟨k, List.mem_range.mp hk, rfl, rfl, rfl, hne⟩
theorem fdiv_mul {a c : Int} (h : 1 ≤ a) : Int.fdiv (a * c) a = c := by
  rw [Int.fdiv_eq_ediv_of_nonneg _ (by omega)]
  exact Int.mul_ediv_cancel_left _ (by omega)
theorem wits_facts {ns : List Int} (hl : ns.length ≤ 7) (hn : ∀ n ∈ ns, 1 ≤ n ∧ n ≤ 10) : WFacts (wits ns) := by
  rw [wits_row]
  have ht := topN_le hn
  refine ⟨Nat.le_trans (witN_length _ _ _) ht.1, ?_⟩
  intro a b c hm
  obtain ⟨k, hk, ha, hb, hc, hne⟩ := witN_mem hm
  have h1 : 1 ≤ a := by omega
  have hs := lv_step hn h1
  have hbd := lv1_bound hl hn h1 (by omega)
  have hc2 := cN_le a ns
  have e : c - b = a * cN a ns := by rw [hb, hc, hs]; omega
  have hpos : cN a ns ≠ 0 := fun q => hne (by rw [hs, q]; omega)
  have ha10 : a ≤ 10 := by
    by_cases q : a ≤ 10
    · exact q
    · exact absurd (cN_zero h1 fun n hm => by have := hn n hm; omega) hpos
  rw [e, fdiv_mul h1]
  subst hb; subst hc
  refine ⟨⟨h1, ha10⟩, ⟨hbd.1, by omega, hbd.2.2.1, by omega⟩, by omega, by omega⟩

theorem flatMap_vanish {β : Type} {f : Nat → List β} {N : Nat} : ∀ e : Nat, (∀ k, N ≤ k → k < N + e → f k = []) → (List.range (N + e)).flatMap f = (List.range N).flatMap f
  | 0, _ => rfl
  | e + 1, h => by
    rw [← Nat.add_assoc, List.range_succ, List.flatMap_append, flatMap_vanish e fun k h1 h2 => h k h1 (by omega)]
    have : f (N + e) = [] := h _ (by omega) (by omega)
    simp [this]
def TT (g : Int → Int) (n : Nat) : List (Int × Int) := (List.range n).flatMap fun (k : Nat) => toldIn (1 + (k : Int)) (g (1 + (k : Int))) (nums (1 + (k : Int)))
theorem toldIn_zero (d : Int) (as : List Int) : toldIn d 0 as = [] := by
  unfold toldIn
  induction as with
  | nil => rfl
  | cons a r ih => rw [List.flatMap_cons, ih]; rfl
theorem flatMap_flatMap' {α β γ : Type} (l : List α) (f : α → List β) (g : β → List γ) : (l.flatMap f).flatMap g = l.flatMap fun a => (f a).flatMap g := List.flatMap_assoc
theorem told_TT {ns : List Int} (hn : ∀ n ∈ ns, 1 ≤ n ∧ n ≤ 10) : toldOf (wits ns) = TT (fun d => cN d ns) 10 := by
  have ht := topN_le hn
  have e1 : toldOf (wits ns) = TT (fun d => cN d ns) (topN ns) := by
    rw [wits_row, witN_flat]
    unfold toldOf TT
    rw [flatMap_flatMap']
    congr 1
    funext k
    have hs := lv_step hn (ts := 1 + (k : Int)) (by omega)
    split
    · rename_i he
      have : cN (1 + (k : Int)) ns = 0 := by
        have h0 : (1 + (k : Int)) * cN (1 + (k : Int)) ns = 0 := by omega
        rcases Int.mul_eq_zero.mp h0 with q | q
        · omega
        · exact q
      dsimp only
      rw [this, toldIn_zero]; rfl
    · have e : lv2 ns (1 + (k : Int)) - lv1 ns (1 + (k : Int)) = (1 + (k : Int)) * cN (1 + (k : Int)) ns := by rw [hs]; omega
      simp only [List.flatMap_cons, List.flatMap_nil, List.append_nil]
      rw [e, fdiv_mul (by omega)]
  have z : ∀ k : Nat, (∀ n ∈ ns, n < 1 + (k : Int)) → toldIn (1 + (k : Int)) (cN (1 + (k : Int)) ns) (nums (1 + (k : Int))) = [] := by
    intro k hk
    rw [cN_zero (by omega) fun n hm => ⟨(hn n hm).1, hk n hm⟩, toldIn_zero]
  have e2 : TT (fun d => cN d ns) 11 = TT (fun d => cN d ns) (topN ns) := by
    have := flatMap_vanish (f := fun (k : Nat) => toldIn (1 + (k : Int)) (cN (1 + (k : Int)) ns) (nums (1 + (k : Int)))) (N := topN ns) (11 - topN ns) (fun k h1 h2 => z k fun n hm => by have := ht.2 n hm; omega)
    rwa [show topN ns + (11 - topN ns) = 11 by omega] at this
  have e3 : TT (fun d => cN d ns) 11 = TT (fun d => cN d ns) 10 :=
    flatMap_vanish (f := fun (k : Nat) => toldIn (1 + (k : Int)) (cN (1 + (k : Int)) ns) (nums (1 + (k : Int)))) (N := 10) 1 (fun k h1 h2 => z k fun n hm => by have := (hn n hm).2; omega)
  rw [e1, ← e2, e3]
end Mine

namespace Mine
theorem count_rep (x : Int × Int) (d : Int) (n : Nat) (a : Int) : (List.replicate n (d, a)).count x = n * (if (d, a) = x then 1 else 0) := by
  rw [List.count_replicate]
  by_cases h : (d, a) = x
  · subst h; simp
  · rw [if_neg h]
    have : ((d, a) == x) = false := by simpa using h
    rw [this]; simp
theorem count_told (x : Int × Int) (d : Int) {k1 k2 : Int} (h1 : 0 ≤ k1) (h2 : 0 ≤ k2) : ∀ as : List Int, (toldIn d (k1 + k2) as).count x = (toldIn d k1 as).count x + (toldIn d k2 as).count x
  | [] => rfl
  | a :: r => by
    have ih := count_told x d h1 h2 r
    unfold toldIn at ih ⊢
    rw [List.flatMap_cons, List.flatMap_cons, List.flatMap_cons, List.count_append, List.count_append, List.count_append, ih, count_rep, count_rep, count_rep]
    have e : (k1 + k2).toNat = k1.toNat + k2.toNat := by omega
    rw [e, Nat.add_mul]
    omega
theorem count_TT (x : Int × Int) {g1 g2 : Int → Int} (h1 : ∀ d, 0 ≤ g1 d) (h2 : ∀ d, 0 ≤ g2 d) : ∀ n : Nat, (TT (fun d => g1 d + g2 d) n).count x = (TT g1 n).count x + (TT g2 n).count x
  | 0 => rfl
  | n + 1 => by
    have ih := count_TT x h1 h2 n
    unfold TT at ih ⊢
    rw [List.range_succ, List.flatMap_append, List.flatMap_append, List.flatMap_append, List.count_append, List.count_append, List.count_append, ih]
    simp only [List.flatMap_cons, List.flatMap_nil, List.append_nil]
    rw [count_told x _ (h1 _) (h2 _)]
    omega
theorem TT_zero : ∀ n : Nat, TT (fun _ => 0) n = []
  | 0 => rfl
  | n + 1 => by
    have ih := TT_zero n
    unfold TT at ih ⊢
    rw [List.range_succ, List.flatMap_append, ih]
    simp [toldIn_zero]
theorem one_perm {u : Int} (h1 : 1 ≤ u) (h2 : u ≤ 10) : (TT (fun d => if u % d = 0 then 1 else 0) 10).Perm (innerF u u.toNat) :=
  of_decide_eq_true (ten_of (P := fun u => decide ((TT (fun d => if u % d = 0 then 1 else 0) 10).Perm (innerF u u.toNat))) (by decide +kernel) h1 h2)
theorem count_all (x : Int × Int) : ∀ {ns : List Int}, (∀ n ∈ ns, 1 ≤ n ∧ n ≤ 10) → (TT (fun d => cN d ns) 10).count x = (fracs ns).count x
  | [], _ => by
    have : (fun d => cN d []) = fun _ => (0 : Int) := by funext d; rfl
    rw [this, TT_zero]; rfl
  | n :: r, hn => by
    have ih := count_all x (ns := r) fun m hm => hn m (.tail _ hm)
    have e : (fun d => cN d (n :: r)) = fun d => (if n % d = 0 then 1 else 0) + cN d r := by funext d; rfl
    have e2 : fracs (n :: r) = innerF n n.toNat ++ fracs r := rfl
    have h := hn n (.head _)
    rw [e, count_TT x (g1 := fun d => if n % d = 0 then 1 else 0) (g2 := fun d => cN d r) (fun d => by split <;> omega) (fun d => (cN_le d r).1), ih, e2, List.count_append, (one_perm h.1 h.2).count_eq]
theorem told_perm {ns : List Int} (hn : ∀ n ∈ ns, 1 ≤ n ∧ n ≤ 10) : (TT (fun d => cN d ns) 10).Perm (fracs ns) :=
  List.perm_iff_count.mpr fun x => count_all x hn

theorem nums_facts {z : Int} (h1 : 1 ≤ z) (h2 : z ≤ 10) : (nums z).Pairwise (· ≤ ·) ∧ ∀ a ∈ nums z, 1 ≤ a ∧ a ≤ 10 :=
  of_decide_eq_true (ten_of (P := fun z => decide ((nums z).Pairwise (· ≤ ·) ∧ ∀ a ∈ nums z, 1 ≤ a ∧ a ≤ 10)) (by decide +kernel) h1 h2)
theorem toldIn_mem {d k : Int} {as : List Int} {x : Int × Int} (h : x ∈ toldIn d k as) : x.1 = d ∧ x.2 ∈ as := by
  unfold toldIn at h
  obtain ⟨a, ha, hx⟩ := List.mem_flatMap.mp h
  have := List.eq_of_mem_replicate hx
  subst this
  exact ⟨rfl, ha⟩
theorem toldIn_sorted (d k : Int) : ∀ {as : List Int}, as.Pairwise (· ≤ ·) → (toldIn d k as).Pairwise (fun x y => enc x ≤ enc y)
  | [], _ => .nil
  | a :: r, h => by
    obtain ⟨h1, h2⟩ := List.pairwise_cons.mp h
    have e : toldIn d k (a :: r) = List.replicate k.toNat (d, a) ++ toldIn d k r := rfl
    rw [e]
    refine List.pairwise_append.mpr ⟨List.pairwise_replicate.mpr (.inr (Int.le_refl _)), toldIn_sorted d k h2, ?_⟩
    intro x hx y hy
    have ex := List.eq_of_mem_replicate hx
    have ey := toldIn_mem hy
    have := h1 _ ey.2
    subst ex
    unfold enc
    rw [ey.1]
    dsimp only
    omega
theorem TT_mem {g : Int → Int} {n : Nat} (hn : n ≤ 10) {x : Int × Int} (h : x ∈ TT g n) : 1 ≤ x.1 ∧ x.1 ≤ n ∧ 1 ≤ x.2 ∧ x.2 ≤ 10 := by
  unfold TT at h
  obtain ⟨k, hk, hx⟩ := List.mem_flatMap.mp h
  have := List.mem_range.mp hk
  have hm := toldIn_mem hx
  have f := (nums_facts (z := 1 + (k : Int)) (by omega) (by omega)).2 _ hm.2
  omega
theorem TT_sorted (g : Int → Int) : ∀ n : Nat, n ≤ 10 → (TT g n).Pairwise (fun x y => enc x ≤ enc y)
  | 0, _ => .nil
  | n + 1, hn => by
    have e : TT g (n + 1) = TT g n ++ toldIn (1 + (n : Int)) (g (1 + (n : Int))) (nums (1 + (n : Int))) := by
      unfold TT
      rw [List.range_succ, List.flatMap_append]; simp
    rw [e]
    refine List.pairwise_append.mpr ⟨TT_sorted g n (by omega), toldIn_sorted _ _ (nums_facts (by omega) (by omega)).1, ?_⟩
    intro x hx y hy
    have ex := TT_mem (by omega) hx
    have ey := toldIn_mem hy
    have f := (nums_facts (z := 1 + (n : Int)) (by omega) (by omega)).2 _ ey.2
    unfold enc
    omega
theorem sorted_eq : ∀ {l₁ l₂ : List (Int × Int)}, l₁.Perm l₂ → l₁.Pairwise (fun x y => enc x ≤ enc y) → l₂.Pairwise (fun x y => enc x ≤ enc y) → (∀ x ∈ l₂, 0 ≤ x.2 ∧ x.2 < 16) → l₁ = l₂
  | [], l₂, h, _, _, _ => by rw [List.Perm.nil_eq h]
  | x :: r, [], h, _, _, _ => by have := h.length_eq; simp at this
  | x :: r, y :: t, h, h1, h2, hb => by
    have hx : x ∈ y :: t := h.subset (.head _)
    have hy : y ∈ x :: r := h.symm.subset (.head _)
    have e : enc x = enc y := by
      apply Int.le_antisymm
      · rcases List.mem_cons.mp hy with q | q
        · rw [q]; exact Int.le_refl _
        · exact (List.pairwise_cons.mp h1).1 y q
      · rcases List.mem_cons.mp hx with q | q
        · rw [q]; exact Int.le_refl _
        · exact (List.pairwise_cons.mp h2).1 x q
    have bx := hb x hx
    have b := hb y (.head _)
    have exy : x = y := by
      unfold enc at e
      apply Prod.ext <;> omega
    subst exy
    rw [sorted_eq (List.perm_cons x |>.mp h) (List.pairwise_cons.mp h1).2 (List.pairwise_cons.mp h2).2 fun z hz => hb z (.tail _ hz)]
theorem told_sorted {ns : List Int} (hn : ∀ n ∈ ns, 1 ≤ n ∧ n ≤ 10) {ds : List (Int × Int)} (hp : ds.Perm (fracs ns)) (hs : ds.Pairwise (fun x y => enc x ≤ enc y)) : ds = toldOf (wits ns) := by
  rw [told_TT hn]
  exact sorted_eq (hp.trans (told_perm hn).symm) hs (TT_sorted _ 10 (Nat.le_refl _)) fun x hx => by have := TT_mem (Nat.le_refl 10) hx; omega
end Mine

end
open Mine
local macro_rules | `(tactic| walk_at "exec For Tuple Call cons nil") => `(tactic| (k_here; k_dflt (refine For_S ?_ (by intro _; rfl))))
local macro_rules | `(tactic| walk_at "exec For Name Call cons nil") => `(tactic| (k_here; k_dflt (refine For_S ?_ (by intro _; rfl))))
local macro_rules | `(tactic| walk_at "PostS") => `(tactic| (dsimp only [GEnd, PostS]))
local macro_rules | `(tactic| walk_at "compareOp Eq ref ref") => `(tactic| (k_here; (with_reducible show wpAny _ _ (compareOp CmpOp.Eq (Value.ref _) (Value.ref _)) _ _ _); k_dflt (refine eq_ready (by assumption) (by simp only [units_deeper]; decide) ?_)))
local macro_rules | `(tactic| walk_at "binaryOp Mult ref int") => `(tactic| (k_here; (with_reducible show wpAny _ _ (binaryOp Operator.Mult (Value.ref _) (Value.int _ _)) _ _ _); k_dflt (refine' mul_one_ref ?F ?N ?l ?lo ?hi ?_; (case F => k_asm); (case N => k_asm); (case l => k_mem); (case lo => assumption); (case hi => assumption)); intro D' h' F' N' l1; (try k_lt l1); (try k_sweep)))
set_option maxHeartbeats 8000000 in
theorem PySem.Challenge.cw_ij0031_01_holds : PySem.Challenge.rw_ij0031_01.Holds := by
  refine Mine.hd ?_
  k_go0
  (all_goals try k_fold)
  have kMk := kstMark
  k_with_none
  k_with "call ref" =>
    k_dflt (show wpAny _ _ (call (Value.ref 136) [Value.ref _]) _ _ _)
    (rename Fr _ _ _ _ => oF)
    (rename News _ _ _ _ => oN)
    (rename IntsAre _ (_ ++ _) => iR0)
    have iR : IntsAre _ (rowOf _) := iR0
    clear iR0
    k_dflt (refine' fn_use (wit_says _ _ _ _ (rowOf _) iR (row_len _) (row_mem _)) ?B oF ?X ?T ?hh ?hA ?hf ?hk ?hd ?hu oN ?hal ?hp ?_; (case B => k_asm); (case X => k_asm); (case T => k_asm); (case hh => exact rfl); (case hA => exact rfl); (case hf => exact rfl); (case hk => exact rfl); (case hal => k_allIn); (case hp => trivial); (case hd => k_room); (case hu => (simp only [units_deeper]; decide)))
    intro r' h' tk' hs' F' N' hn' ho'
    obtain ⟨la, us, ku, tr, e', ha', hoff', tri⟩ := witR_to ho'
    subst e'
    have N2 := news_end oF N' ha'
    have hne := new_ne hn' (fun p hp => (ha' p hp).2)
    (simp only [List.cons_append, List.nil_append] at N2)
    clear oF oN N' hs' hn' ha' ho'
    (try dsimp only)
    (try k_sweep)
  k_with "pyIter ref" =>
    ((rename Fr _ _ _ _ => lF'); (rename News _ _ _ _ => lN'))
    (rename TrisAre _ _ _ => tri9)
    refine outer_grow [Str.ofString "size", Str.ofString "column", Str.ofString "farther", Str.ofString "numerator"] rfl tri9 ⟨_, _, _, rfl⟩ lF' lN' (by assumption) (by k_ne) (by assumption) ?turn ?done (by passes_own)
    all_goals (try clear lF' lN')
    (case' turn => intro i T a b c ta tb tc vs k tl I oI u h tk hla hDl hui hwi hPi hoff hap hl₀ hIr hIt F N; have wf := WFacts.at (wits_facts (row_len _) (row_mem _)) hwi; obtain ⟨⟨wa1, wa2⟩, ⟨wb1, wb2, wc1, wc2⟩, wk1, wk2⟩ := wf; (dsimp only); (try k_fold))
    (case' done => intro vs k tl u h tk hPi hoff hap F N; (dsimp only); (try k_fold))
  k_with "call ref" =>
    k_dflt (show wpAny _ _ (call (Value.ref 141) [Value.int _ _]) _ _ _)
    (rename Fr _ _ _ _ => oF)
    (rename News _ _ _ _ => oN)
    k_dflt (refine' num_use ?n1 ?n2 ?nB oF ?nX ?nT ?nhh ?nhA ?nhf ?nhk ?nhd ?nhu oN ?_; (case n1 => assumption); (case n2 => assumption); (case nB => k_asm); (case nX => k_asm); (case nT => k_asm); (case nhh => exact rfl); (case nhA => exact rfl); (case nhf => exact rfl); (case nhk => exact rfl); (case nhd => k_room); (case nhu => (simp only [units_deeper]; decide)))
    intro Sd h9 tk9 vs9 c9 F9 N9 hSd hI9
    clear oF oN
    (try dsimp only)
    (try k_sweep)
  k_with "pyIter ref" =>
    ((rename Fr _ _ _ _ => lF'); (rename News _ _ _ _ => lN'))
    refine inner_grow a (Int.fdiv (c - b) a) [Str.ofString "numerator"] rfl hI9 ⟨_, _, rfl⟩ lF' lN' hla hDl hl₀ hPi hoff hap hIt hSd ?turnB ?doneB (by passes_own)
    all_goals (try clear lF' lN')
    (case' turnB => intro j x tx vs' k' tl' Ib oIb u' h' tk' hSl hxj hPj hoff' hap' hl₀' hIr' hIt' F N; have hvl := in_len (wits_facts (row_len _) (row_mem _)) hwi hPj; (dsimp only); (try k_fold))
    (case' doneB => intro vs' k' tl' u' h' tk' hPj hoff' hap' hIt2 F N; have hPn := out_more hwi hPj; clear hPj; (dsimp only); (try k_fold))
  k_with "call ref" =>
    k_dflt (show wpAny _ _ (call (Value.ref 155) [Value.ref _]) _ _ _)
    (rename Fr _ _ _ _ => oF)
    (rename News _ _ _ _ => oN)
    k_dflt (refine' fn_use (lowest_says _ _ _ _ (rowOf _) iR (row_len _) (row_mem _) (fracs_row _).1 (fracs_row _).2) ?lB oF ?lX ?lT ?lhh ?lhA ?lhf ?lhk ?lhd ?lhu oN ?lhal ?lhp ?_; (case lB => k_asm); (case lX => k_asm); (case lT => k_asm); (case lhh => exact rfl); (case lhA => exact rfl); (case lhf => exact rfl); (case lhk => exact rfl); (case lhal => k_allIn); (case lhp => trivial); (case lhd => k_room); (case lhu => (simp only [units_deeper]; decide)))
    intro r9 h9 tk9 hs9 F9 N9 hn9 ho9
    obtain ⟨lo, vs9, k9, tl9, ds9, e9, hl9, ha9, hp9, hpm9, hpw9⟩ := lowR_to ho9
    subst e9
    have hds : ds9 = toldOf (wits (rowOf _)) := told_sorted (row_mem _) hpm9 hpw9
    subst hds
    have hEq := eqReady_of (news_at N9) hl9 (news_tl N9) ha9 hPi hp9
    clear oF oN hs9 hn9 ha9 ho9
    (try dsimp only)
    (try k_sweep)
  k_with "EndS" =>
    ((rename News _ _ _ _ => nE'); first
      | (refine' in_end (by assumption) nE' (by assumption) (by assumption) ?h1q0 ?h2q0 ?h3q0 ?h4q0 ?h5q0 ?hrq0 ?hTIq0 ?hTlq0 ?hTrq0; (case h1q0 => assumption); (case h2q0 => assumption); (case h3q0 => assumption); (case h4q0 => assumption); (case h5q0 => assumption); (case hrq0 => ksw_same); (case hTIq0 => omega); (case hTlq0 => omega); (case hTrq0 => (simp only [AllLt, and_true]; (try dsimp only); omega)))
      | (refine' grow_end (by assumption) nE' ?hlq1 ?htlq1 ?hreq1 ?hIq1 ?h1q1 ?h2q1 ?h3q1 ?h4q1 ?h5q1 ?hrq1 ?hpq1; (case hlq1 => k_memK); (case hIq1 => k_memK); (case h1q1 => assumption); (case h3q1 => assumption); (case hrq1 => ksw_same); (case hpq1 => assumption); (case htlq1 => (intro p9 h9; kst_mem)); (case hreq1 => k_allIn); (case h2q1 => assumption); (case h4q1 => assumption); (case h5q1 => assumption)))
  k_with "call builtin:list.extend" =>
    (k_here; (with_reducible show wpAny _ _ (call (Value.builtin _) [Value.ref _, Value.ref _]) _ _ _); k_dflt (refine' ext_rep ?Fx0 ?Nx0 ?bx0 ?lox0 ?hix0 ?vx0 ?Ux0 ?_; (case Fx0 => k_asm); (case Nx0 => k_asm); (case bx0 => k_mem); (case lox0 => assumption); (case hix0 => assumption); (case vx0 => assumption); (case Ux0 => k_upd)); intro h' F' N'; (try dsimp only at N'); (try k_sweep))
  k_steps
