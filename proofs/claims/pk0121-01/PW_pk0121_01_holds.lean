import PyProof.Rows.All
import Wide.All
import OpenK.AllK
import Wide.FinOn
import PySem.Challenge.RW_pk0121_01
open PySem PySem.W PyProof.Rows PyProof.V PySem.Calls PySem.Spec
set_option Elab.async false
set_option maxRecDepth 100000
set_option maxHeartbeats 8000000
namespace Mine
/-- the top's statements that the walk looks at, by their places in the text -/
noncomputable def topView : Program := view Challenge.pw_pk0121_01 [0, 1, 3, 4, 5, 6, 8, 9, 11, 12, 13, 15, 17, 18, 19, 20, 21, 22, 23]
abbrev looseN : List Str := [Str.ofString "tspecials", Str.ofString "_name_disallowed_re", Str.ofString "_value_disallowed_re", Str.ofString "_formatparam"]
local macro_rules | `(tactic| o_head $H) => `(tactic| (
  refine holds_open (q := topView) (loose := looseN) (Xt := fun s => xlAt topView [] s && recOk [] s) (XP := XL topView []) (Yf := Hook.obs $H) (Ya := Hook.val $H) (YP := Hook.says $H) (N := 3436) ?hl (Hook.of $H) (Hook.keeps $H) (fun s e => xl_of s (Bool.and_eq_true_iff.mp e).1) XL.keeps (by rfl) (by rfl) (by rfl) (fun s e => recFacts_of (Bool.and_eq_true_iff.mp e).2) (by rfl) (by first | assumption | decide +kernel) (by decide +kernel) ⟨rfl, rfl, rfl, rfl, rfl, by decide +kernel⟩ ?hw ?hc
  (case hl => (
    intro w
    unfold openEnds fencedOpening topFrom
    rw [PySem.W.Fast.te14364793385576792824, PySem.W.Fast.te14082659384304107361, PySem.W.Fast.te10274390034422433532, PySem.W.Fast.te1435165496053646825, PySem.W.Fast.te14289696077712309145, PySem.W.Fast.te4187177175401517315]
    kernel_rfl))))
open_top hd for PySem.Challenge.rw_pk0121_01
noncomputable abbrev PR : Program := Challenge.rw_pk0121_01.row.prog
noncomputable abbrev loose0 : List Str := looseW topView [Str.ofString "tspecials", Str.ofString "_name_disallowed_re", Str.ofString "_value_disallowed_re", Str.ofString "_formatparam"]

/-- what a flow hands back -/
abbrev back : Flow → Value := fun fl => match fl with | .ret v => v | _ => .none

section
variable {w : World} {mean : ExcName → Option Value} {mg mb : Str → Option Value} {A : Around} {s : Shared} {Q E : Value → Shared → Prop}

theorem enter {f : Addr} {args : List Value} {name qual : Str} {params : Arguments} {body : List Stmt} {scope : Scope} {dV kV doc pm cdv ct oc : Value} {an od : Option Addr} {osl : Array (Option Value)} {binds : List (Str × Value)}
    (X : (hd.heap_39 w.params).In s.heap) (T : Top topView loose0 mean mg mb s.heap)
    (ho : (hd.heap_39 w.params).lookup f = some ⟨oc, od, .func (fnOf name qual params body scope dV kV doc pm an cdv ct), osl⟩) (hcd : codeIn (hd.heap_39 w.params) cdv qual = true) (hroom : A.depth < recursionLimit)
    (hbind : BindsTo s (fnOf name qual params body scope dV kV doc pm an cdv ct) ⟨args, []⟩ binds) (hloc : ∀ y ∈ binds, scope.names.lookup y.1 = some .local)
    (h : ∀ L h₁, Fr s.heap L h₁ (fun y => binds.reverse.lookup y) → News s.heap L h₁ [] →
      wpAny (model PR w) (A.deeper (envOf qual scope L f cdv)) (execs body (envOf qual scope L f cdv)) (fun fl s' => Q (back fl) s') (fun _ _ => False) { s with heap := h₁, toks := s.toks + binds.length })
    (hco : scope.isCoroutine = false) (hgen : scope.isGenerator = false) (hk : scope.kind = .function) (hcell : ∀ x ∈ scope.names, x.2 ≠ .cell) :
    wpAny (model PR w) A (call (.ref f) args) Q E s := by
  refine wpAny_call ?_
  refine codeAny_call_def (fd := fnOf name qual params body scope dV kV doc pm an cdv ct) (body := body) (binds := binds) hroom (X _ _ ho) rfl T.nolimit (codeRec_of X hcd) rfl hbind hcell hloc (fun h₁ hns hk₁ => ?_) hco hgen hk
  exact wpAny_mono (h s.heap.objs.size h₁ ⟨hns, hk₁, Nat.le_refl _⟩ News.nil) (fun fl s' hl => hl) fun _ _ y => y.elim

theorem enterC {f : Addr} {args : List Value} {name qual : Str} {params : Arguments} {body : List Stmt} {scope : Scope} {dV kV doc pm cdv ct oc : Value} {an od : Option Addr} {osl : Array (Option Value)} {binds : List (Str × Value)}
    (X : (hd.heap_39 w.params).In s.heap) (T : Top topView loose0 mean mg mb s.heap)
    (ho : (hd.heap_39 w.params).lookup f = some ⟨oc, od, .func (fnOf name qual params body scope dV kV doc pm an cdv ct), osl⟩) (hcd : codeIn (hd.heap_39 w.params) cdv qual = true) (hroom : A.depth < recursionLimit)
    (hbind : BindsTo s (fnOf name qual params body scope dV kV doc pm an cdv ct) ⟨args, []⟩ binds)
    (hkind : (binds.all fun y => scope.names.lookup y.1 == some .local || scope.names.lookup y.1 == some .cell) = true) (hnd : ((cellsFrom 0 scope.names []).map (·.1)).Nodup)
    (h : ∀ L h₁ tk cells, Fr s.heap L h₁ (bindL (envOfC qual scope L f cdv).kindOf binds fun _ => none) → News s.heap L h₁ cells →
      CellsAre (bindC (envOfC qual scope L f cdv).kindOf binds fun _ => none) (cellsFrom (L + 1) scope.names []) cells →
      wpAny (model PR w) (A.deeper (envOfC qual scope L f cdv)) (execs body (envOfC qual scope L f cdv)) (fun fl s' => Q (back fl) s') (fun _ _ => False) { s with heap := h₁, toks := tk })
    (hco : scope.isCoroutine = false) (hgen : scope.isGenerator = false) (hk : scope.kind = .function) :
    wpAny (model PR w) A (call (.ref f) args) Q E s := by
  refine wpAny_call ?_
  refine codeAny_call_function hroom (X _ _ ho) rfl hco hgen rfl (codeRec_of X hcd) (hbind _ _ _ _ ?_)
  refine wpAny_newFunctionEnv_cells hk (kindsX hkind _) fun env' he s' x => ?_
  subst he
  refine ⟨T.nolimit.keeps x.toInCall.keep, codeAny_func ?_⟩
  obtain ⟨h₁, tk, rfl, _⟩ := x.done
  have hk₁ := x.toInCall.keep
  obtain ⟨cells, NC, Y⟩ := Cl.news (h₀ := s.heap) (Nat.le_refl _) fun n c hm => ⟨x.cell n c (lookup_of_mem_nodup (cellsFrom_names scope.names 0 (s.heap.objs.size + 1) [] [] rfl ▸ hnd) hm), x.above n c hm⟩
  exact wpAny_mono (h s.heap.objs.size h₁ tk cells ⟨x.toInCall.ns, hk₁, Nat.le_refl _⟩ NC Y) (fun fl s' hl => hl) fun _ _ y => y.elim
end

section
variable {w : World} {A : Around} {E : Value → Shared → Prop} {s : Shared} {env : Env} {h₀ : Heap} {target : Expr} {body : List Stmt} {Q : Flow → Shared → Prop}

/-- a loop by an invariant over the frame's map and the ledger, whatever the target -/
theorem loopK {I : Addr} {fp wr : List Addr} {n : Nat} {P Md : Nat → Value → Heap → Prop} {St : Nat → Heap → Prop} {m₀ : Str → Option Value} {news : List (Addr × Obj)} (J : Nat → (Str → Option Value) → List (Addr × Obj) → Prop)
    (W : KTurns PR w A target I fp wr n P Md St) (hLf : env.locals ∉ fp) (hwr : ∀ b ∈ wr, h₀.get? b = none) (hnw : ∀ p ∈ news, p.1 ∉ wr) (hfp : ∀ q ∈ news, q.1 ∈ fp → False) (hst : St 0 s.heap) (F : Fr h₀ env.locals s.heap m₀) (N : News h₀ env.locals s.heap news) (hj : J 0 m₀ news)
    (turn : ∀ i v m₁ news₁ h tk own, i < n → P i v h → news₁.map (·.1) = news.map (·.1) → OwnOff own (news.map (·.1)) → J i m₁ news₁ → Fr h₀ env.locals h m₁ → News h₀ env.locals h (news₁ ++ own) →
      wpAny (model PR w) A (assign target env v) (fun _ s₂ => wpAny (model PR w) A (execs body env) (InvPostN h₀ env.locals (J (i + 1)) own (news.map (·.1)) { s with heap := h, toks := tk } Q) E s₂) E { s with heap := h, toks := tk })
    (done : ∀ m₁ news₁ h tk, J n m₁ news₁ → news₁.map (·.1) = news.map (·.1) → Fr h₀ env.locals h m₁ → News h₀ env.locals h news₁ → Q .next { s with heap := h, toks := tk }) :
    TurnsAt PR w A h₀ env target body Q E (.ref I) s := by
  let J' : Nat → (Str → Option Value) → List (Addr × Obj) → Prop := fun i m₁ news₁ => news₁.map (·.1) = news.map (·.1) ∧ J i m₁ news₁
  refine ⟨I, fp, wr, n, P, Md, St, m₀, news, J', rfl, W, hLf, hwr, hnw, hst, F, N, ⟨rfl, hj⟩, ?_, ?_⟩
  · rintro i v m₁ news₁ hh' tk' own hin hP ⟨hadr, hJ⟩ hoff hown _ _ _ F₁ N₁
    have hsep : OwnOff own (news.map (·.1)) := by
      intro p hp b hb e
      obtain ⟨q, hq, rfl⟩ := List.mem_map.mp hb
      exact hfp q hq (e ▸ hown p hp)
    have N₂ : News h₀ env.locals hh' (news₁ ++ own) := fun p hp => N₁ p ((List.mem_append.mp hp).elim (fun h => List.mem_append.mpr (.inr h)) fun h => List.mem_append.mpr (.inl h))
    refine wpAny_mono (turn i v m₁ news₁ hh' tk' own hin hP hadr hsep hJ F₁ N₂) (fun _ s₃ p₃ => wpAny_mono p₃ (fun f s₂ p => ?_) fun _ _ e => e) fun _ _ e => e
    have fin : InvEndN h₀ env.locals (J (i + 1)) own (news.map (·.1)) { s with heap := hh', toks := tk' } s₂ → LoopStepU h₀ env.locals wr own (J' (i + 1)) { s with heap := hh', toks := tk' } .next s₂ := by
      rintro ⟨h', tk, m', news', nx, e, F', N', hn, ho, ha, hm⟩
      refine ⟨rfl, h', tk, m', nx, e, F', fun p hp => N' p ((List.mem_append.mp hp).elim (ho p) (hn p)), fun p hp hq => ?_, ha, hm⟩
      have h1 : p.1 ∈ nx.map (·.1) := List.mem_map.mpr ⟨p, hp, rfl⟩
      rw [ha, ← hadr] at h1
      obtain ⟨q, hq1, hq2⟩ := List.mem_map.mp h1
      exact hoff q hq1 (by rw [hq2]; exact hq)
    cases f with
    | ret v => exact .ret p
    | brk => exact .brk p
    | next => exact .next (fin p)
    | cont => exact .cont (fin p)
  · rintro h' tk m' news' F' N' _ ⟨ha, hJ⟩
    exact done m' news' h' tk hJ ha F' N'
end

/-- what a turn leaves: a flow that goes on, the frame, the ledger with the iterator's object and the words' part, the word itself; or a value handed back -/
def Turned (h₀ : Heap) (L I : Addr) (io : Obj) (J : (Str → Option Value) → List (Addr × Obj) → Prop) (s₀ : Shared) (Qr : Value → Shared → Prop) (f : Flow) (s₂ : Shared) : Prop :=
  match f with
  | .ret v => Qr v s₂
  | .brk => False
  | _ => ∃ h' tk m' news' nx, s₂ = { s₀ with heap := h', toks := tk } ∧ Fr h₀ L h' m' ∧ News h₀ L h' news' ∧ (∀ p ∈ nx, p ∈ news') ∧ (I, io) ∈ news' ∧ (∀ p ∈ nx, p.1 ≠ I) ∧ J m' nx

section
variable {w : World} {A : Around} {s : Shared} {env : Env} {h₀ : Heap} {target : Expr} {body : List Stmt} {Q : Flow → Shared → Prop}

theorem loopM {I : Addr} {fp wr : List Addr} {n : Nat} {P Md : Nat → Value → Heap → Prop} {St : Nat → Heap → Prop} {m₀ : Str → Option Value} {news : List (Addr × Obj)} (J : Nat → (Str → Option Value) → List (Addr × Obj) → Prop)
    (W : KTurns PR w A target I fp wr n P Md St) (hwr : ∀ b ∈ wr, b = I)
    (hfp : ∀ b ∈ fp, b = I ∨ (∃ o, h₀.get? b = some o) ∨ ∃ o, ∀ i m n, J i m n → (b, o) ∈ n)
    (hI0 : h₀.get? I = none) (hIL : I ≠ env.locals) (hIn : ∀ p ∈ news, p.1 ≠ I) (hIfp : I ∈ fp)
    (hst : St 0 s.heap) (hlive : ∃ io, s.heap.get? I = some io) (F : Fr h₀ env.locals s.heap m₀) (N : News h₀ env.locals s.heap news) (hj : J 0 m₀ news)
    (hStI : ∀ i h, St i h → ∃ io, h.get? I = some io)
    (turn : ∀ i v m₁ news₁ h tk io, i < n → P i v h → (∀ p ∈ news₁, p.1 ≠ I) → J i m₁ news₁ → Fr h₀ env.locals h m₁ → News h₀ env.locals h ((I, io) :: news₁) →
      wpAny (model PR w) A (assign target env v) (fun _ s₂ => wpAny (model PR w) A (execs body env) (Turned h₀ env.locals I io (J (i + 1)) s fun v s' => Q (.ret v) s') (fun _ _ => False) s₂) (fun _ _ => False) { s with heap := h, toks := tk })
    (done : ∀ m₁ news₁ h tk, J n m₁ news₁ → Fr h₀ env.locals h m₁ → News h₀ env.locals h news₁ → Q .next { s with heap := h, toks := tk }) :
    codeAny (model PR w) A (.forLoop target (.ref I) body [] env) (fun r s' => match r with | .ok f => Q f s' | .error e => cameBackBy (model PR w) A env (fun _ _ => False) e s') s := by
  have nr : ∀ {α : Type} {t : Sem α} {R : α → Shared → Prop} {E : Value → Shared → Prop} {s' : Shared}, wpAny (model PR w) A t R (fun _ _ => False) s' → wpAny (model PR w) A t R E s' := fun h => wpAny_noRaise h
  refine codeAny_forLoop_any
    (fun k s' => ∃ h' tk m' news' i, s' = { s with heap := h', toks := tk } ∧ St i h' ∧ Fr h₀ env.locals h' m' ∧ News h₀ env.locals h' news' ∧ (∀ p ∈ news', p.1 ≠ I) ∧ J i m' news' ∧ i ≤ n ∧ k = n + 1 - i) ?_ (n + 1)
    ⟨s.heap, s.toks, m₀, news, 0, rfl, hst, F, N, hIn, hj, Nat.zero_le _, rfl⟩
  rintro k s' ⟨h', tk, m', news', i, rfl, hst', F', N', ha', hJ, hi, rfl⟩
  have next : ∀ h₁ : Heap, (∀ b o, b ∉ wr → h'.get? b = some o → h₁.get? b = some o) → Fr h₀ env.locals h₁ m' ∧ News h₀ env.locals h₁ news' := fun h₁ hk₁ => by
    have off : ∀ b, b ≠ I → b ∉ wr := fun b hb hw => hb (hwr b hw)
    refine ⟨⟨F'.ns.at' fun o e => hk₁ _ o (off _ hIL.symm) e, fun b o e => hk₁ b o (off b (fun q => by rw [q, hI0] at e; cases e)) (F'.keep b o e), F'.above⟩, fun p hp => ⟨hk₁ _ _ (off _ (ha' p hp)) (N' p hp).1, (N' p hp).2⟩⟩
  by_cases hlt : i < n
  · refine W.item i _ _ _ hlt hst' fun v h₁ tk₁ hMd hk₁ => ?_
    refine W.go i v _ _ _ hMd fun h₂ hP hst₂ hk₂ => ?_
    obtain ⟨F₂, N₂⟩ := next h₂ fun b o hb x => hk₂ b o hb (hk₁ b o hb x)
    obtain ⟨io, hio⟩ := hStI _ _ hst₂
    have N₃ : News h₀ env.locals h₂ ((I, io) :: news') := fun p hp => by
      rcases List.mem_cons.mp hp with rfl | hp
      · exact ⟨hio, hIL, hI0⟩
      · exact N₂ p hp
    refine nr (wpAny_mono (turn i v m' news' h₂ tk₁ io hlt hP ha' hJ F₂ N₃) (fun _ s₂ p₂ => nr (wpAny_mono p₂ (fun f s₃ p₃ => ?_) fun _ _ e => e)) fun _ _ e => e)
    have fin : (∃ h' tk m' news'' nx, s₃ = { s with heap := h', toks := tk } ∧ Fr h₀ env.locals h' m' ∧ News h₀ env.locals h' news'' ∧ (∀ p ∈ nx, p ∈ news'') ∧ (I, io) ∈ news'' ∧ (∀ p ∈ nx, p.1 ≠ I) ∧ J (i + 1) m' nx) →
        ∃ m, m < n + 1 - i ∧ ∃ h' tk m' news' i, s₃ = { s with heap := h', toks := tk } ∧ St i h' ∧ Fr h₀ env.locals h' m' ∧ News h₀ env.locals h' news' ∧ (∀ p ∈ news', p.1 ≠ I) ∧ J i m' news' ∧ i ≤ n ∧ m = n + 1 - i := by
      rintro ⟨h₃, tk₃, m₃, ns₃, nx, rfl, F₃, N₃', hsub, hIm, hnx, hJ₃⟩
      refine ⟨n + 1 - (i + 1), by omega, h₃, tk₃, m₃, nx, i + 1, rfl, ?_, F₃, fun p hp => N₃' p (hsub p hp), hnx, hJ₃, hlt, rfl⟩
      refine W.frame _ _ _ hst₂ fun b hb o e => ?_
      rcases hfp b hb with rfl | ⟨o₀, e₀⟩ | ⟨o₀, hk⟩
      · have : io = o := Option.some.inj (hio.symm.trans e)
        subst this
        exact (N₃' _ hIm).1
      · have : o₀ = o := by have q := F₂.keep b o₀ e₀; rw [e] at q; exact (Option.some.inj q).symm
        subst this
        exact F₃.keep b o₀ e₀
      · have : o₀ = o := by have q := (N₂ _ (hk _ _ _ hJ)).1; rw [e] at q; exact (Option.some.inj q).symm
        subst this
        exact (N₃' _ (hsub _ (hk _ _ _ hJ₃))).1
    cases f with
    | ret v => exact p₃
    | brk => exact p₃.elim
    | next => exact fin p₃
    | cont => exact fin p₃
  · have hin : i = n := by omega
    subst hin
    refine W.done _ _ _ hst' fun h₁ tk₁ hk₁ => wpAny_execs_nil ?_
    obtain ⟨F₁, N₁⟩ := next h₁ hk₁
    exact done m' news' h₁ tk₁ hJ F₁ N₁

theorem forM {iter : Expr} {pos : Pos}
    (h : wpAny (model PR w) A (eval iter env) (fun xv s₁ => wpAny (model PR w) A (pyIter xv) (fun it s₂ => codeAny (model PR w) A (.forLoop target it body [] env) (fun r s' => match r with | .ok f => Q f s' | .error e => cameBackBy (model PR w) A env (fun _ _ => False) e s') s₂) (fun _ _ => False) s₁) (fun _ _ => False) s)
    (hs : ∀ x, foldedSetIterable iter env x = pure x := by intro _; rfl) :
    wpAny (model PR w) A (exec (.For target iter body [] pos) env) Q (fun _ _ => False) s := wpAny_For h hs

end
abbrev ForEnd (w : World) (A : Around) (env : Env) (Q : Flow → Shared → Prop) : Result → Shared → Prop :=
  fun r s' => match r with | .ok f => Q f s' | .error e => cameBackBy (model PR w) A env (fun _ _ => False) e s'
abbrev KeptBy (h₀ : Heap) (d : Addr) (J : Nat → (Str → Option Value) → List (Addr × Obj) → Prop) : Prop := (∃ o, h₀.get? d = some o) ∨ ∃ o, ∀ i m n, J i m n → (d, o) ∈ n

section
variable {w : World} {A : Around} {s : Shared} {env : Env} {h₀ : Heap} {body : List Stmt} {Q : Flow → Shared → Prop} {m₀ : Str → Option Value} {news : List (Addr × Obj)}

theorem newsPush {h : Heap} {L : Addr} (N : News h₀ L h news) (o : Obj) : News h₀ L (h.push o) news := fun p hp => ⟨Heap.get?_push_of_some _ (N p hp).1, (N p hp).2⟩
theorem newsOff {h : Heap} {L : Addr} (N : News h₀ L h news) : ∀ p ∈ news, p.1 ≠ h.objs.size := fun p hp => Nat.ne_of_lt (Heap.lt_size (N p hp).1)

theorem fp2 {a b : Addr} {p : Addr → Prop} (h1 : p a) (h2 : p b) : ∀ x ∈ [a, b], p x := fun x hx => by
  rcases List.mem_cons.mp hx with rfl | hx
  · exact h1
  · rw [List.mem_singleton.mp hx]; exact h2

/-- a loop over a fresh iterator, the target one name -/
theorem loopF {fp wr : List Addr} {n : Nat} {P : Nat → Value → Prop} {St : Nat → Heap → Prop} {x : Str} {px : Pos} {ob : Obj} (J : Nat → (Str → Option Value) → List (Addr × Obj) → Prop)
    (W : Walks PR w A s.heap.objs.size fp wr n P St) (hwr : ∀ b ∈ wr, b = s.heap.objs.size)
    (hfp : ∀ b ∈ fp, b = s.heap.objs.size ∨ KeptBy h₀ b J) (hIfp : s.heap.objs.size ∈ fp)
    (hst : St 0 (s.heap.push ob)) (F : Fr h₀ env.locals s.heap m₀) (N : News h₀ env.locals s.heap news) (hj : J 0 m₀ news)
    (hStI : ∀ i h, St i h → ∃ io, h.get? s.heap.objs.size = some io)
    (hx : env.kindOf x = some .local) (hp : (env.scope.kind == .class || (env.scope.kind == .module && env.locals != env.globals)) = false)
    (turn : ∀ i v m₁ news₁ h tk I io, i < n → P i v → (∀ p ∈ news₁, p.1 ≠ I) → J i m₁ news₁ → Fr h₀ env.locals h (fun y => if y = x then some v else m₁ y) → News h₀ env.locals h ((I, io) :: news₁) →
      wpAny (model PR w) A (execs body env) (Turned h₀ env.locals I io (J (i + 1)) s fun v s' => Q (.ret v) s') (fun _ _ => False) { s with heap := h, toks := tk })
    (done : ∀ m₁ news₁ h tk, J n m₁ news₁ → Fr h₀ env.locals h m₁ → News h₀ env.locals h news₁ → Q .next { s with heap := h, toks := tk }) :
    codeAny (model PR w) A (.forLoop (.Name x px) (.ref s.heap.objs.size) body [] env) (ForEnd w A env Q) { s with heap := s.heap.push ob } := by
  have hIn := newsOff N
  refine loopM (s := { s with heap := s.heap.push ob }) J (KTurns.ofWalks W fun i v s Q E _ hQ => wpAny_pure hQ) hwr hfp (next_is_new F) (Nat.ne_of_gt F.ns.lt) hIn hIfp hst (hStI _ _ hst) (F.push _) (newsPush N _) hj hStI (fun i v m₁ news₁ h tk io hi hP ha hJ F₁ N₁ => ?_) done
  exact wpAny_assign_Name (wpAny_storeName_local hx F₁.ns (fun h' hn hs => turn i v m₁ news₁ h' (tk + 1) _ io hi hP ha hJ (F₁.set hn hs) (N₁.set hs)) hp)

theorem iterVals {d v : Addr} {c : List (Str × Int)} {x : Str} {px : Pos} (J : Nat → (Str → Option Value) → List (Addr × Obj) → Prop) (hh : A.handled = none) (F : Fr h₀ env.locals s.heap m₀) (N : News h₀ env.locals s.heap news)
    (hv : s.heap.IsValuesView v d) (Tb : StrTab PR w s.heap d (kdpD c)) (hd : KeptBy h₀ d J) (hj : J 0 m₀ news)
    (turn : ∀ i k n t m₁ news₁ h tk I io, c[i]? = some (k, n) → (∀ p ∈ news₁, p.1 ≠ I) → J i m₁ news₁ → Fr h₀ env.locals h (fun y => if y = x then some (.int n t) else m₁ y) → News h₀ env.locals h ((I, io) :: news₁) →
      wpAny (model PR w) A (execs body env) (Turned h₀ env.locals I io (J (i + 1)) s fun v s' => Q (.ret v) s') (fun _ _ => False) { s with heap := h, toks := tk })
    (done : ∀ m₁ news₁ h tk, J c.length m₁ news₁ → Fr h₀ env.locals h m₁ → News h₀ env.locals h news₁ → Q .next { s with heap := h, toks := tk })
    (hx : env.kindOf x = some .local) (hp : (env.scope.kind == .class || (env.scope.kind == .module && env.locals != env.globals)) = false) :
    wpAny (model PR w) A (pyIter (.ref v)) (fun it s₂ => codeAny (model PR w) A (.forLoop (.Name x px) it body [] env) (ForEnd w A env Q) s₂) (fun _ _ => False) s := by
  obtain ⟨lo, kvs, hD, hf⟩ := Tb
  obtain ⟨ep, hA⟩ := hD.dictAt
  have hlen : kvs.length = c.length := by rw [← kdpD_length c, hf.length]
  refine wpAny_pyIter_values hv hA ?_
  have hne : d ≠ s.heap.objs.size := Nat.ne_of_lt hA.lt_size
  refine loopF J (Walks.dictValues (knd := PySem.strKind PR w) hh s.heap.objs.size d hne kvs ep) (by simp) (fp2 (.inl rfl) (.inr hd)) (by simp)
    ⟨⟨_, Heap.get?_push_size _ rfl, rfl, rfl⟩, hA.push _⟩ F N hj (fun i h st => let ⟨o, ho, _⟩ := st.1; ⟨o, ho⟩) hx hp (fun i v m₁ news₁ h tk I io hi hP ha hJ F₁ N₁ => ?_) (fun m₁ news₁ h tk hJ => done m₁ news₁ h tk (hlen ▸ hJ))
  obtain ⟨k, hk⟩ := hP
  obtain ⟨⟨k', n⟩, hc, t, rfl⟩ := kdz_valAt hf hk
  exact turn i k' n t m₁ news₁ h tk I io hc ha hJ F₁ N₁

theorem keyAt {c : List (Str × Int)} {kvs : List (Str × Value)} (hf : FlatPairs PyData.str kvs (kdpD c)) {j : Nat} {k : Str} {v : Value} (hx : kvs[j]? = some (k, v)) : ∃ n t, c[j]? = some (k, n) ∧ v = Value.int n t := by
  induction c generalizing kvs j with
  | nil => cases hf; simp at hx
  | cons p c ih =>
    obtain ⟨k', n⟩ := p
    generalize hD : kdpD ((k', n) :: c) = D at hf
    cases hf with
    | nil => cases hD
    | @cons k₂ v₂ d₂ kvs₂ D₂ fl hr =>
      simp only [kdpD, List.map_cons, List.cons.injEq, Prod.mk.injEq] at hD
      obtain ⟨⟨h1, h2⟩, h3⟩ := hD
      cases j with
      | zero =>
        simp at hx
        obtain ⟨rfl, rfl⟩ := hx
        subst h2
        obtain ⟨t, rfl⟩ := fl.int_inv
        cases h1
        exact ⟨n, t, rfl, rfl⟩
      | succ j => exact ih (h3 ▸ hr) (by simpa using hx)

theorem strKey {w : World} {k : Str} {key : Value} (h : (PySem.strKind PR w).is k key = true) : ∃ u, key = .str k u := by
  cases key <;> simp [PySem.strKind, Value.isStrOf] at h
  subst h
  exact ⟨_, rfl⟩

theorem iterItems {d v : Addr} {c : List (Str × Int)} {xk xv : Str} {pk pv pt : Pos} {x1 : Nat} (J : Nat → (Str → Option Value) → List (Addr × Obj) → Prop) (hh : A.handled = none) (F : Fr h₀ env.locals s.heap m₀) (N : News h₀ env.locals s.heap news)
    (hv : s.heap.IsItemsView v d) (Tb : StrTab PR w s.heap d (kdpD c)) (hd : KeptBy h₀ d J) (hj : J 0 m₀ news)
    (turn : ∀ i k n t u m₁ news₁ h tk I io, c[i]? = some (k, n) → (∀ p ∈ news₁, p.1 ≠ I) → J i m₁ news₁ →
      Fr h₀ env.locals h (fun y => if y = xv then some (.int n t) else if y = xk then some (.str k u) else m₁ y) → News h₀ env.locals h ((I, io) :: news₁) →
      wpAny (model PR w) A (execs body env) (Turned h₀ env.locals I io (J (i + 1)) s fun v s' => Q (.ret v) s') (fun _ _ => False) { s with heap := h, toks := tk })
    (done : ∀ m₁ news₁ h tk, J c.length m₁ news₁ → Fr h₀ env.locals h m₁ → News h₀ env.locals h news₁ → Q .next { s with heap := h, toks := tk })
    (hxk : env.kindOf xk = some .local) (hxv : env.kindOf xv = some .local) (hp : (env.scope.kind == .class || (env.scope.kind == .module && env.locals != env.globals)) = false) :
    wpAny (model PR w) A (pyIter (.ref v)) (fun it s₂ => codeAny (model PR w) A (.forLoop (.Tuple [.Name xk pk, .Name xv pv] x1 pt) it body [] env) (ForEnd w A env Q) s₂) (fun _ _ => False) s := by
  obtain ⟨lo, kvs, hD, hf⟩ := Tb
  obtain ⟨ep, hA⟩ := hD.dictAt
  have hlen : kvs.length = c.length := by rw [← kdpD_length c, hf.length]
  refine wpAny_pyIter_items hv hA ?_
  have hne : d ≠ s.heap.objs.size := Nat.ne_of_lt hA.lt_size
  have hIn := newsOff N
  refine loopM (s := { s with heap := s.heap.push _ }) J (kti_itemsTurns (knd := PySem.strKind PR w) hh s.heap.objs.size d hne kvs ep) (by simp) (fp2 (.inl rfl) (.inr hd))
    (next_is_new F) (Nat.ne_of_gt F.ns.lt) hIn (by simp) ⟨⟨_, _, Heap.get?_push_size _ rfl⟩, hA.push _⟩ ⟨_, Heap.get?_push_size _ rfl⟩ (F.push _) (newsPush N _) hj (fun i h st => let ⟨⟨_, _, ho⟩, _⟩ := st; ⟨_, ho⟩)
    (fun i v m₁ news₁ h tk io hi hP ha hJ F₁ N₁ => ?_) (fun m₁ news₁ h tk hJ => done m₁ news₁ h tk (hlen ▸ hJ))
  obtain ⟨T, key, k, x, rfl, hk, hkey, hT⟩ := hP
  obtain ⟨n, t, hc, rfl⟩ := keyAt hf hk
  obtain ⟨u, rfl⟩ := strKey hkey
  refine wpAny_assign_Tuple hh hT rfl rfl fun h₃ hx₃ => ?_
  have hx₃' : Heap.ExtBut h.objs.size h h₃ := hx₃
  have old₃ : ∀ b o, h.get? b = some o → h₃.get? b = some o := fun b o e => hx₃' b o (Nat.ne_of_lt (Heap.lt_size e)) e
  have F₃ := F₁.keeps old₃
  have N₃ := N₁.grown old₃
  show wpAny _ _ (do holding [_] (assign (.Name xk pk) env _); do holding [] (assign (.Name xv pv) env _); pure ()) _ _ _
  refine wpAny_bind (wpAny_holding (wpAny_assign_Name (wpAny_storeName_local hxk F₃.ns (fun h₄ hn₄ hs₄ => ?_) hp)))
  refine wpAny_bind (wpAny_holding (wpAny_assign_Name (wpAny_storeName_local hxv hn₄ (fun h₅ hn₅ hs₅ => wpAny_pure ?_) hp)))
  exact turn i k n t u m₁ news₁ h₅ _ _ io hc ha hJ ((F₃.set hn₄ hs₄).set hn₅ hs₅) ((N₃.set hs₄).set hs₅)

theorem iterList {l : Addr} {vs : List Value} {x : Str} {px : Pos} (J : Nat → (Str → Option Value) → List (Addr × Obj) → Prop) (hh : A.handled = none) (F : Fr h₀ env.locals s.heap m₀) (N : News h₀ env.locals s.heap news)
    (hl : s.heap.IsList l vs.toArray) (hd : KeptBy h₀ l J) (hj : J 0 m₀ news)
    (turn : ∀ i v m₁ news₁ h tk I io, vs[i]? = some v → (∀ p ∈ news₁, p.1 ≠ I) → J i m₁ news₁ → Fr h₀ env.locals h (fun y => if y = x then some v else m₁ y) → News h₀ env.locals h ((I, io) :: news₁) →
      wpAny (model PR w) A (execs body env) (Turned h₀ env.locals I io (J (i + 1)) s fun v s' => Q (.ret v) s') (fun _ _ => False) { s with heap := h, toks := tk })
    (done : ∀ m₁ news₁ h tk, J vs.length m₁ news₁ → Fr h₀ env.locals h m₁ → News h₀ env.locals h news₁ → Q .next { s with heap := h, toks := tk })
    (hx : env.kindOf x = some .local) (hp : (env.scope.kind == .class || (env.scope.kind == .module && env.locals != env.globals)) = false) :
    wpAny (model PR w) A (pyIter (.ref l)) (fun it s₂ => codeAny (model PR w) A (.forLoop (.Name x px) it body [] env) (ForEnd w A env Q) s₂) (fun _ _ => False) s := by
  refine wpAny_pyIter_list hl ?_
  obtain ⟨ol, hol, _⟩ := id hl
  have hne : l ≠ s.heap.objs.size := Nat.ne_of_lt (Heap.lt_size hol)
  refine loopF J (Walks.list hh s.heap.objs.size l hne vs.toArray) (by simp) (fp2 (.inl rfl) (.inr hd)) (by simp)
    ⟨⟨_, Heap.get?_push_size _ rfl, rfl, rfl⟩, hl.at fun o e => Heap.get?_push_of_some _ e⟩ F N hj (fun i h st => let ⟨o, ho, _⟩ := st.1; ⟨o, ho⟩) hx hp (fun i v m₁ news₁ h tk I io hi hP ha hJ F₁ N₁ => ?_) (fun m₁ news₁ h tk hJ => done m₁ news₁ h tk (by simpa using hJ))
  exact turn i v m₁ news₁ h tk I io (by simpa using hP) ha hJ F₁ N₁

theorem iterStr {z : Str} {tz : Tok} {x : Str} {px : Pos} (J : Nat → (Str → Option Value) → List (Addr × Obj) → Prop) (hh : A.handled = none) (F : Fr h₀ env.locals s.heap m₀) (N : News h₀ env.locals s.heap news)
    (hz : z.cps.all (· < 128) = true) (hj : J 0 m₀ news)
    (turn : ∀ i c t m₁ news₁ h tk I io, z.cps.toList[i]? = some c → (∀ p ∈ news₁, p.1 ≠ I) → J i m₁ news₁ → Fr h₀ env.locals h (fun y => if y = x then some (.str ⟨#[c]⟩ t) else m₁ y) → News h₀ env.locals h ((I, io) :: news₁) →
      wpAny (model PR w) A (execs body env) (Turned h₀ env.locals I io (J (i + 1)) s fun v s' => Q (.ret v) s') (fun _ _ => False) { s with heap := h, toks := tk })
    (done : ∀ m₁ news₁ h tk, J z.cps.toList.length m₁ news₁ → Fr h₀ env.locals h m₁ → News h₀ env.locals h news₁ → Q .next { s with heap := h, toks := tk })
    (hx : env.kindOf x = some .local) (hp : (env.scope.kind == .class || (env.scope.kind == .module && env.locals != env.globals)) = false) :
    wpAny (model PR w) A (pyIter (.str z tz)) (fun it s₂ => codeAny (model PR w) A (.forLoop (.Name x px) it body [] env) (ForEnd w A env Q) s₂) (fun _ _ => False) s := by
  refine wpAny_pyIter_ascii hz ?_
  refine loopF J (Walks.strAscii hh s.heap.objs.size z tz) (by simp) (by rintro b hb; simp at hb; exact .inl hb) (by simp)
    ⟨_, Heap.get?_push_size _ rfl, rfl, rfl⟩ F N hj (fun i h st => let ⟨o, ho, _⟩ := st; ⟨o, ho⟩) hx hp (fun i v m₁ news₁ h tk I io hi hP ha hJ F₁ N₁ => ?_) (fun m₁ news₁ h tk hJ => done m₁ news₁ h tk (by simpa using hJ))
  obtain ⟨c, u, hc, rfl⟩ := hP
  exact turn i c u m₁ news₁ h tk I io (by simpa using hc) ha hJ F₁ N₁

theorem iterRange {r : Addr} {a b : Int} {t u v : Tok} {n : Nat} {x : Str} {px : Pos} (J : Nat → (Str → Option Value) → List (Addr × Obj) → Prop) (hh : A.handled = none) (F : Fr h₀ env.locals s.heap m₀) (N : News h₀ env.locals s.heap news)
    (hr : IsRange s.heap r a b 1 t u v) (hn : b = a + (n : Int)) (ha0 : 0 ≤ a) (hb : b < 1000000) (hj : J 0 m₀ news)
    (turn : ∀ (i : Nat) t m₁ news₁ h tk I io, i < n → (∀ p ∈ news₁, p.1 ≠ I) → J i m₁ news₁ → Fr h₀ env.locals h (fun y => if y = x then some (.int (a + (i : Int)) t) else m₁ y) → News h₀ env.locals h ((I, io) :: news₁) →
      wpAny (model PR w) A (execs body env) (Turned h₀ env.locals I io (J (i + 1)) s fun v s' => Q (.ret v) s') (fun _ _ => False) { s with heap := h, toks := tk })
    (done : ∀ m₁ news₁ h tk, J n m₁ news₁ → Fr h₀ env.locals h m₁ → News h₀ env.locals h news₁ → Q .next { s with heap := h, toks := tk })
    (hx : env.kindOf x = some .local) (hp : (env.scope.kind == .class || (env.scope.kind == .module && env.locals != env.globals)) = false) :
    wpAny (model PR w) A (pyIter (.ref r)) (fun it s₂ => codeAny (model PR w) A (.forLoop (.Name x px) it body [] env) (ForEnd w A env Q) s₂) (fun _ _ => False) s := by
  refine wpAny_pyIter_range hr (small_one (by omega) (by omega) (by omega) (by omega)) ?_
  have hsz : Builtin.Range.rangeSize a b 1 = (n : Int) := by rw [rangeSize_one]; split <;> omega
  refine loopF J (Walks.range hh s.heap.objs.size a 1 n) (by simp) (by rintro b hb; simp at hb; exact .inl hb) (by simp)
    (by rw [hsz]; simpa using Heap.get?_push_size _ rfl) F N hj (fun i h st => ⟨_, st⟩) hx hp (fun i v m₁ news₁ h tk I io hi hP ha hJ F₁ N₁ => ?_) done
  obtain ⟨t, rfl⟩ := hP
  exact turn i t m₁ news₁ h tk I io hi ha hJ (by simpa using F₁) N₁
end
section
variable {w : World} {A : Around} {s : Shared} {E : Value → Shared → Prop} {env : Env}

theorem evVals {o : Expr} {pa pc : Pos} {Q : Value → Shared → Prop}
    (h : wpAny (model PR w) A (eval o env) (fun ov s₁ => ∃ d c, ov = .ref d ∧ StrTab PR w s₁.heap d (kdpD c) ∧ ∀ h', h'.IsValuesView s₁.heap.objs.size d → (∀ b o, s₁.heap.get? b = some o → h'.get? b = some o) → Q (.ref s₁.heap.objs.size) { s₁ with heap := h' }) E s)
    (hbase : attributeBase o "values" env (eval o env) = eval o env) (hline : (pa.endLine == pc.line) = true) :
    wpAny (model PR w) A (eval (.Call (.Attribute o "values" pa) [] [] pc) env) Q E s := by
  refine wpAny_Call_method (T := "dict") (id := "dict.values") hbase rfl hline F.plainAttrs_dict F.slot_dict_values F.type_dict_values (wpAny_mono h (fun ov s₁ h₁ => ?_) fun _ _ e => e)
  obtain ⟨d, c, rfl, ⟨lo, kvs, hd, hf⟩, hQ⟩ := h₁
  refine ⟨hd.typeIs, hd.mapOf.noDict, ?_⟩
  show wpAny _ _ (callWith pc (.builtin "dict.values") [.ref d] [] []) Q E s₁
  exact method_meetsIn F.slot_dict_values F.entry_dict_values rfl (PySem.evalArgs_none ⟨rfl, hd.typeIs, F.args_dict_values_1 _, _, meets_dict_values (PySem.strKind PR w) d lo, ⟨kvs, hd⟩, hQ _ ⟨_, Heap.get?_push_size _ rfl, rfl, rfl⟩ fun _ _ e => Heap.get?_push_of_some _ e⟩)

theorem evItems {o : Expr} {pa pc : Pos} {Q : Value → Shared → Prop}
    (h : wpAny (model PR w) A (eval o env) (fun ov s₁ => ∃ d c, ov = .ref d ∧ StrTab PR w s₁.heap d (kdpD c) ∧ ∀ h', h'.IsItemsView s₁.heap.objs.size d → (∀ b o, s₁.heap.get? b = some o → h'.get? b = some o) → Q (.ref s₁.heap.objs.size) { s₁ with heap := h' }) E s)
    (hbase : attributeBase o "items" env (eval o env) = eval o env) (hline : (pa.endLine == pc.line) = true) :
    wpAny (model PR w) A (eval (.Call (.Attribute o "items" pa) [] [] pc) env) Q E s := by
  refine wpAny_Call_method (T := "dict") (id := "dict.items") hbase rfl hline F.plainAttrs_dict F.slot_dict_items F.type_dict_items (wpAny_mono h (fun ov s₁ h₁ => ?_) fun _ _ e => e)
  obtain ⟨d, c, rfl, ⟨lo, kvs, hd, hf⟩, hQ⟩ := h₁
  refine ⟨hd.typeIs, hd.mapOf.noDict, ?_⟩
  show wpAny _ _ (callWith pc (.builtin "dict.items") [.ref d] [] []) Q E s₁
  exact method_meetsIn F.slot_dict_items F.entry_dict_items rfl (PySem.evalArgs_none ⟨rfl, hd.typeIs, F.args_dict_items_1 _, _, meets_dict_items (PySem.strKind PR w) d lo, ⟨kvs, hd⟩, hQ _ ⟨_, Heap.get?_push_size _ rfl, rfl, rfl⟩ fun _ _ e => Heap.get?_push_of_some _ e⟩)
end

theorem tabBase {w : World} {h : Heap} {d : Addr} {c : List (Str × Int)} (T : StrTab PR w h d (kdpD c)) : ∃ o, h.get? d = some o := by
  obtain ⟨_, kvs, ⟨o, _, _, ho, _⟩, _⟩ := T
  exact ⟨o, ho⟩
/-- the written part and the top, at one heap -/
structure Ground0 (w : World) (mean : ExcName → Option Value) (mg mb : Str → Option Value) (h : Heap) : Prop where
  X : (hd.heap_39 w.params).In h
  T : Top topView loose0 mean mg mb h
theorem Ground0.keeps {w : World} {mean : ExcName → Option Value} {mg mb : Str → Option Value} {h h' : Heap} (G : Ground0 w mean mg mb h) (k : ∀ b o, h.get? b = some o → h'.get? b = some o) : Ground0 w mean mg mb h' :=
  ⟨G.X.keeps k, G.T.keeps k⟩

section
variable {w : World} {mean : ExcName → Option Value} {mg mb : Str → Option Value} {A : Around} {s : Shared} {E : Value → Shared → Prop} {env : Env} {h₀ : Heap} {Q : Value → Shared → Prop}

theorem gK {x : Str} {pos : Pos} {v : Value} (G : Ground0 w mean mg mb h₀) (k : ∀ b o, h₀.get? b = some o → s.heap.get? b = some o) (e : nsIn (hd.heap_39 w.params) mainGlobals x = some (some v)) (h : Q v s)
    (hg : env.globals = mainGlobals := by rfl) (hk : env.scope.kind = .function := by rfl) (hx : env.kindOf x = some .globalImplicit := by rfl) (hd : (x == ("__debug__" : Str)) = false := by decide) :
    wpAny (model PR w) A (eval (.Name x pos) env) Q E s :=
  Name_function_global hk hx (loadGlobal_global (env := env) (hg ▸ G.T.g.keeps k) (mg_of G.X G.T.g e) h) hd
theorem gB {x : Str} {pos : Pos} {v : Value} (G : Ground0 w mean mg mb h₀) (k : ∀ b o, h₀.get? b = some o → s.heap.get? b = some o) (e : nsIn (hd.heap_39 w.params) mainGlobals x = some none) (hv : bootBuiltins x = some v) (hn : x ≠ "__name__") (h : Q v s)
    (hg : env.globals = mainGlobals := by rfl) (hb : env.builtins = builtinsNs := by rfl) (hk : env.scope.kind = .function := by rfl) (hx : env.kindOf x = some .globalImplicit := by rfl) (hd : (x == ("__debug__" : Str)) = false := by decide) :
    wpAny (model PR w) A (eval (.Name x pos) env) Q E s :=
  Name_function_global hk hx (loadGlobal_builtin (env := env) (hg ▸ G.T.g.keeps k) (mg_none_of G.X G.T.g e) (hb ▸ G.T.b.keeps k) ((G.T.builtins x hn).trans hv) h) hd

theorem callEq {f : Str} {pf pos : Pos} {args : List Expr} : eval (.Call (.Name f pf) args [] pos) env = (do callWith pos (← eval (.Name f pf) env) [] (backTo pos (starEach args env)) (backToKw pos (keywordEach [] env))) := rfl
theorem cB1 {id : String} {pos : Pos} {a : Expr} (h : wpAny (model PR w) A (eval a env) (fun v s₁ => wpAny (model PR w) A (call (.builtin id) [v]) Q E s₁) E s)
    (ha : starEach [a] env = [(false, eval a env)] := by rfl) : wpAny (model PR w) A (callWith pos (.builtin id) [] (backTo pos (starEach [a] env)) []) Q E s :=
  PyProof.Rows.callWith_builtin1 (PyProof.Rows.args_cons (wpAny_mono h (fun _ _ x => PyProof.Rows.args_nil x) fun _ _ x => x) ha) ha
theorem cB2 {id : String} {pos : Pos} {a b : Expr} (h : wpAny (model PR w) A (eval a env) (fun v s₁ => wpAny (model PR w) A (eval b env) (fun u s₂ => wpAny (model PR w) A (call (.builtin id) [v, u]) Q E s₂) E s₁) E s)
    (ha : starEach [a, b] env = (false, eval a env) :: starEach [b] env := by rfl) (hb : starEach [b] env = [(false, eval b env)] := by rfl) : wpAny (model PR w) A (callWith pos (.builtin id) [] (backTo pos (starEach [a, b] env)) []) Q E s :=
  PyProof.Rows.callWith_builtin1 (PyProof.Rows.args_cons (wpAny_mono h (fun _ _ x => PyProof.Rows.args_cons (wpAny_mono x (fun _ _ y => PyProof.Rows.args_nil y) fun _ _ y => y) hb) fun _ _ x => x) ha) ha (by rw [hb]; rfl)
theorem cT1 {T : String} {pos : Pos} {a : Expr} (h : wpAny (model PR w) A (eval a env) (fun v s₁ => wpAny (model PR w) A (call (.type T) [v]) Q E s₁) E s)
    (ha : starEach [a] env = [(false, eval a env)] := by rfl) : wpAny (model PR w) A (callWith pos (.type T) [] (backTo pos (starEach [a] env)) []) Q E s :=
  PyProof.Rows.callWith_type1 (PyProof.Rows.args_cons (wpAny_mono h (fun _ _ x => PyProof.Rows.args_nil x) fun _ _ x => x) ha) ha
theorem cT2 {T : String} {pos : Pos} {a b : Expr} (h : wpAny (model PR w) A (eval a env) (fun v s₁ => wpAny (model PR w) A (eval b env) (fun u s₂ => wpAny (model PR w) A (call (.type T) [v, u]) Q E s₂) E s₁) E s)
    (ha : starEach [a, b] env = (false, eval a env) :: starEach [b] env := by rfl) (hb : starEach [b] env = [(false, eval b env)] := by rfl) : wpAny (model PR w) A (callWith pos (.type T) [] (backTo pos (starEach [a, b] env)) []) Q E s :=
  PyProof.Rows.callWith_type1 (PyProof.Rows.args_cons (wpAny_mono h (fun _ _ x => PyProof.Rows.args_cons (wpAny_mono x (fun _ _ y => PyProof.Rows.args_nil y) fun _ _ y => y) hb) fun _ _ x => x) ha) ha (by rw [hb]; rfl)

/-- a def of the text called by its name, one argument -/
theorem evF1 {f : Str} {pf pos : Pos} {a : Expr} {fv : Value} (G : Ground0 w mean mg mb h₀) (k : ∀ b o, h₀.get? b = some o → s.heap.get? b = some o) (e : nsIn (hd.heap_39 w.params) mainGlobals f = some (some fv)) (hkeep : keepIn (hd.heap_39 w.params) fv = true)
    (h : wpAny (model PR w) A (eval a env) (fun v s₁ => (∀ b o, h₀.get? b = some o → s₁.heap.get? b = some o) ∧ wpAny (model PR w) A (call fv [v]) Q E s₁) E s)
    (ha : starEach [a] env = [(false, eval a env)] := by rfl)
    (hg : env.globals = mainGlobals := by rfl) (hk : env.scope.kind = .function := by rfl) (hx : env.kindOf f = some .globalImplicit := by rfl) (hd : (f == ("__debug__" : Str)) = false := by decide) :
    wpAny (model PR w) A (eval (.Call (.Name f pf) [a] [] pos) env) Q E s :=
  PyProof.Rows.Call_ (gK G k e (callWith_K G.X hkeep (PyProof.Rows.args_cons (wpAny_mono h (fun _ _ x => PyProof.Rows.args_nil ⟨G.X.keeps x.1, x.2⟩) fun _ _ x => x) ha) ha) hg hk hx hd) callEq
theorem evF2 {f : Str} {pf pos : Pos} {a b : Expr} {fv : Value} (G : Ground0 w mean mg mb h₀) (k : ∀ b o, h₀.get? b = some o → s.heap.get? b = some o) (e : nsIn (hd.heap_39 w.params) mainGlobals f = some (some fv)) (hkeep : keepIn (hd.heap_39 w.params) fv = true)
    (h : wpAny (model PR w) A (eval a env) (fun v s₁ => wpAny (model PR w) A (eval b env) (fun u s₂ => (∀ b o, h₀.get? b = some o → s₂.heap.get? b = some o) ∧ wpAny (model PR w) A (call fv [v, u]) Q E s₂) E s₁) E s)
    (ha : starEach [a, b] env = (false, eval a env) :: starEach [b] env := by rfl) (hb : starEach [b] env = [(false, eval b env)] := by rfl)
    (hg : env.globals = mainGlobals := by rfl) (hk : env.scope.kind = .function := by rfl) (hx : env.kindOf f = some .globalImplicit := by rfl) (hd : (f == ("__debug__" : Str)) = false := by decide) :
    wpAny (model PR w) A (eval (.Call (.Name f pf) [a, b] [] pos) env) Q E s :=
  PyProof.Rows.Call_ (gK G k e (callWith_K G.X hkeep (PyProof.Rows.args_cons (wpAny_mono h (fun _ _ x => PyProof.Rows.args_cons (wpAny_mono x (fun _ _ y => PyProof.Rows.args_nil ⟨G.X.keeps y.1, y.2⟩) fun _ _ y => y) hb) fun _ _ x => x) ha) ha (by rw [hb]; rfl)) hg hk hx hd) callEq

/-- a built-in function or class called by its name -/
theorem evN {f : Str} {pf pos : Pos} {args : List Expr} {fv : Value} (G : Ground0 w mean mg mb h₀) (k : ∀ b o, h₀.get? b = some o → s.heap.get? b = some o) (e : nsIn (hd.heap_39 w.params) mainGlobals f = some none) (hv : bootBuiltins f = some fv) (hn : f ≠ "__name__")
    (h : wpAny (model PR w) A (callWith pos fv [] (backTo pos (starEach args env)) []) Q E s)
    (hg : env.globals = mainGlobals := by rfl) (hb : env.builtins = builtinsNs := by rfl) (hk : env.scope.kind = .function := by rfl) (hx : env.kindOf f = some .globalImplicit := by rfl) (hd : (f == ("__debug__" : Str)) = false := by decide) :
    wpAny (model PR w) A (eval (.Call (.Name f pf) args [] pos) env) Q E s :=
  PyProof.Rows.Call_ (gB G k e hv hn h hg hb hk hx hd) callEq
end
theorem filled {w : World} {h : Heap} (_ : Challenge.rw_pk0121_01 = Challenge.rw_pk0121_01) : (hd.heap_39 w.params).In h → Challenge.rw_pk0121_01 = Challenge.rw_pk0121_01 → True := by
  k_fill
  intros
  trivial
theorem ng_isinstance (w : World) : nsIn (hd.heap_39 w.params) mainGlobals (Str.ofString "isinstance") = some none := by k_is
theorem bb_isinstance : bootBuiltins (Str.ofString "isinstance") = some (.builtin "isinstance") := by boot_by_name
theorem nn_isinstance : Str.ofString "isinstance" ≠ Str.ofString "__name__" := by decide
theorem ng_tuple (w : World) : nsIn (hd.heap_39 w.params) mainGlobals (Str.ofString "tuple") = some none := by k_is
theorem bb_tuple : bootBuiltins (Str.ofString "tuple") = some (.type "tuple") := by boot_by_name
theorem nn_tuple : Str.ofString "tuple" ≠ Str.ofString "__name__" := by decide
theorem ng_len (w : World) : nsIn (hd.heap_39 w.params) mainGlobals (Str.ofString "len") = some none := by k_is
theorem bb_len : bootBuiltins (Str.ofString "len") = some (.builtin "len") := by boot_by_name
theorem nn_len : Str.ofString "len" ≠ Str.ofString "__name__" := by decide
theorem ng_list (w : World) : nsIn (hd.heap_39 w.params) mainGlobals (Str.ofString "list") = some none := by k_is
theorem bb_list : bootBuiltins (Str.ofString "list") = some (.type "list") := by boot_by_name
theorem nn_list : Str.ofString "list" ≠ Str.ofString "__name__" := by decide
theorem ng_range (w : World) : nsIn (hd.heap_39 w.params) mainGlobals (Str.ofString "range") = some none := by k_is
theorem bb_range : bootBuiltins (Str.ofString "range") = some (.type "range") := by boot_by_name
theorem nn_range : Str.ofString "range" ≠ Str.ofString "__name__" := by decide
theorem ng_sorted (w : World) : nsIn (hd.heap_39 w.params) mainGlobals (Str.ofString "sorted") = some none := by k_is
theorem bb_sorted : bootBuiltins (Str.ofString "sorted") = some (.builtin "sorted") := by boot_by_name
theorem nn_sorted : Str.ofString "sorted" ≠ Str.ofString "__name__" := by decide
theorem ng_str (w : World) : nsIn (hd.heap_39 w.params) mainGlobals (Str.ofString "str") = some none := by k_is
theorem bb_str : bootBuiltins (Str.ofString "str") = some (.type "str") := by boot_by_name
theorem nn_str : Str.ofString "str" ≠ Str.ofString "__name__" := by decide
theorem ng_int (w : World) : nsIn (hd.heap_39 w.params) mainGlobals (Str.ofString "int") = some none := by k_is
theorem bb_int : bootBuiltins (Str.ofString "int") = some (.type "int") := by boot_by_name
theorem nn_int : Str.ofString "int" ≠ Str.ofString "__name__" := by decide
theorem ng_sum (w : World) : nsIn (hd.heap_39 w.params) mainGlobals (Str.ofString "sum") = some none := by k_is
theorem bb_sum : bootBuiltins (Str.ofString "sum") = some (.builtin "sum") := by boot_by_name
theorem nn_sum : Str.ofString "sum" ≠ Str.ofString "__name__" := by decide
theorem kg_TupleComp (w : World) : nsIn (hd.heap_39 w.params) mainGlobals (Str.ofString "TupleComp") = some (some (.ref 62)) := by k_is
theorem kg_add_func_stats (w : World) : nsIn (hd.heap_39 w.params) mainGlobals (Str.ofString "add_func_stats") = some (some (.ref 73)) := by k_is
theorem ki_add_func_stats (w : World) : keepIn (hd.heap_39 w.params) (.ref 73) = true := by k_is
theorem kg_add_callers (w : World) : nsIn (hd.heap_39 w.params) mainGlobals (Str.ofString "add_callers") = some (some (.ref 80)) := by k_is
theorem ki_add_callers (w : World) : keepIn (hd.heap_39 w.params) (.ref 80) = true := by k_is
theorem kg_count_calls (w : World) : nsIn (hd.heap_39 w.params) mainGlobals (Str.ofString "count_calls") = some (some (.ref 87)) := by k_is
theorem ki_count_calls (w : World) : keepIn (hd.heap_39 w.params) (.ref 87) = true := by k_is
theorem kg_ellipsis_match (w : World) : nsIn (hd.heap_39 w.params) mainGlobals (Str.ofString "_ellipsis_match") = some (some (.ref 94)) := by k_is
theorem ki_ellipsis_match (w : World) : keepIn (hd.heap_39 w.params) (.ref 94) = true := by k_is
theorem kg_Headers (w : World) : nsIn (hd.heap_39 w.params) mainGlobals (Str.ofString "Headers") = some (some (.ref 238)) := by k_is
theorem kg_law_scattered (w : World) : nsIn (hd.heap_39 w.params) mainGlobals (Str.ofString "_law_scattered") = some (some (.ref 249)) := by k_is
theorem ki_law_scattered (w : World) : keepIn (hd.heap_39 w.params) (.ref 249) = true := by k_is
theorem kg_law_row (w : World) : nsIn (hd.heap_39 w.params) mainGlobals (Str.ofString "_law_row") = some (some (.ref 256)) := by k_is
theorem ki_law_row (w : World) : keepIn (hd.heap_39 w.params) (.ref 256) = true := by k_is
theorem kg_law_pieces (w : World) : nsIn (hd.heap_39 w.params) mainGlobals (Str.ofString "_law_pieces") = some (some (.ref 261)) := by k_is
theorem ki_law_pieces (w : World) : keepIn (hd.heap_39 w.params) (.ref 261) = true := by k_is
theorem kg_law_laid (w : World) : nsIn (hd.heap_39 w.params) mainGlobals (Str.ofString "_law_laid") = some (some (.ref 266)) := by k_is
theorem ki_law_laid (w : World) : keepIn (hd.heap_39 w.params) (.ref 266) = true := by k_is
theorem kg_law_product (w : World) : nsIn (hd.heap_39 w.params) mainGlobals (Str.ofString "_law_product") = some (some (.ref 271)) := by k_is
theorem ki_law_product (w : World) : keepIn (hd.heap_39 w.params) (.ref 271) = true := by k_is
theorem kg_law_counts (w : World) : nsIn (hd.heap_39 w.params) mainGlobals (Str.ofString "_law_counts") = some (some (.ref 278)) := by k_is
theorem ki_law_counts (w : World) : keepIn (hd.heap_39 w.params) (.ref 278) = true := by k_is
section
variable {w : World} {A : Around} {s : Shared} {E : Value → Shared → Prop} {env : Env} {rest : List Expr} {pos : Pos} {Q : List Value → Shared → Prop}
theorem starConst {c : Const} {k : Nat} {p : Pos} : starEach (.Constant c k p :: rest) env = (false, eval (.Constant c k p) env) :: starEach rest env := rfl
theorem aConst {c : Const} {k : Nat} {p : Pos} (h : wpAny (model PR w) A (eval (.Constant c k p) env) (fun v s₁ => wpAny (model PR w) A (spliced (backTo pos (starEach rest env))) (fun vs s₂ => Q (v :: vs) s₂) E s₁) E s) : wpAny (model PR w) A (spliced (backTo pos (starEach (.Constant c k p :: rest) env))) Q E s := PyProof.Rows.args_cons h starConst
theorem swapsConst {c : Const} {k : Nat} {p : Pos} {t : Option Expr} {ln : Nat} : swapsWith (.Constant c k p) t ln env = pure false := rfl
theorem starName {x : Str} {p : Pos} : starEach (.Name x p :: rest) env = (false, eval (.Name x p) env) :: starEach rest env := rfl
theorem aName {x : Str} {p : Pos} (h : wpAny (model PR w) A (eval (.Name x p) env) (fun v s₁ => wpAny (model PR w) A (spliced (backTo pos (starEach rest env))) (fun vs s₂ => Q (v :: vs) s₂) E s₁) E s) : wpAny (model PR w) A (spliced (backTo pos (starEach (.Name x p :: rest) env))) Q E s := PyProof.Rows.args_cons h starName
theorem swapsName {x : Str} {p : Pos} {t : Option Expr} {ln : Nat} : swapsWith (.Name x p) t ln env = pure false := rfl
theorem starBin {l r : Expr} {op : Operator} {p : Pos} : starEach (.BinOp l op r p :: rest) env = (false, eval (.BinOp l op r p) env) :: starEach rest env := rfl
theorem aBin {l r : Expr} {op : Operator} {p : Pos} (h : wpAny (model PR w) A (eval (.BinOp l op r p) env) (fun v s₁ => wpAny (model PR w) A (spliced (backTo pos (starEach rest env))) (fun vs s₂ => Q (v :: vs) s₂) E s₁) E s) : wpAny (model PR w) A (spliced (backTo pos (starEach (.BinOp l op r p :: rest) env))) Q E s := PyProof.Rows.args_cons h starBin
theorem swapsBin {l r : Expr} {op : Operator} {p : Pos} {t : Option Expr} {ln : Nat} : swapsWith (.BinOp l op r p) t ln env = pure false := rfl
theorem starCall {f : Expr} {as : List Expr} {ks : List Keyword} {p : Pos} : starEach (.Call f as ks p :: rest) env = (false, eval (.Call f as ks p) env) :: starEach rest env := rfl
theorem aCall {f : Expr} {as : List Expr} {ks : List Keyword} {p : Pos} (h : wpAny (model PR w) A (eval (.Call f as ks p) env) (fun v s₁ => wpAny (model PR w) A (spliced (backTo pos (starEach rest env))) (fun vs s₂ => Q (v :: vs) s₂) E s₁) E s) : wpAny (model PR w) A (spliced (backTo pos (starEach (.Call f as ks p :: rest) env))) Q E s := PyProof.Rows.args_cons h starCall
theorem swapsCall {f : Expr} {as : List Expr} {ks : List Keyword} {p : Pos} {t : Option Expr} {ln : Nat} : swapsWith (.Call f as ks p) t ln env = pure false := rfl
theorem starDict {ks : List (Option Expr)} {vs : List Expr} {p : Pos} : starEach (.Dict ks vs p :: rest) env = (false, eval (.Dict ks vs p) env) :: starEach rest env := rfl
theorem aDict {ks : List (Option Expr)} {vs : List Expr} {p : Pos} (h : wpAny (model PR w) A (eval (.Dict ks vs p) env) (fun v s₁ => wpAny (model PR w) A (spliced (backTo pos (starEach rest env))) (fun vs s₂ => Q (v :: vs) s₂) E s₁) E s) : wpAny (model PR w) A (spliced (backTo pos (starEach (.Dict ks vs p :: rest) env))) Q E s := PyProof.Rows.args_cons h starDict
theorem swapsDict {ks : List (Option Expr)} {vs : List Expr} {p : Pos} {t : Option Expr} {ln : Nat} : swapsWith (.Dict ks vs p) t ln env = pure false := rfl
theorem starSub {v i : Expr} {p : Pos} : starEach (.Subscript v i p :: rest) env = (false, eval (.Subscript v i p) env) :: starEach rest env := rfl
theorem aSub {v i : Expr} {p : Pos} (h : wpAny (model PR w) A (eval (.Subscript v i p) env) (fun v s₁ => wpAny (model PR w) A (spliced (backTo pos (starEach rest env))) (fun vs s₂ => Q (v :: vs) s₂) E s₁) E s) : wpAny (model PR w) A (spliced (backTo pos (starEach (.Subscript v i p :: rest) env))) Q E s := PyProof.Rows.args_cons h starSub
theorem swapsSub {v i : Expr} {p : Pos} {t : Option Expr} {ln : Nat} : swapsWith (.Subscript v i p) t ln env = pure false := rfl
theorem starTup {es : List Expr} {k : Nat} {p : Pos} : starEach (.Tuple es k p :: rest) env = (false, eval (.Tuple es k p) env) :: starEach rest env := rfl
theorem aTup {es : List Expr} {k : Nat} {p : Pos} (h : wpAny (model PR w) A (eval (.Tuple es k p) env) (fun v s₁ => wpAny (model PR w) A (spliced (backTo pos (starEach rest env))) (fun vs s₂ => Q (v :: vs) s₂) E s₁) E s) : wpAny (model PR w) A (spliced (backTo pos (starEach (.Tuple es k p :: rest) env))) Q E s := PyProof.Rows.args_cons h starTup
theorem swapsTup {es : List Expr} {k : Nat} {p : Pos} {t : Option Expr} {ln : Nat} : swapsWith (.Tuple es k p) t ln env = pure false := rfl
theorem starAttr {v : Expr} {x : Str} {p : Pos} : starEach (.Attribute v x p :: rest) env = (false, eval (.Attribute v x p) env) :: starEach rest env := rfl
theorem aAttr {v : Expr} {x : Str} {p : Pos} (h : wpAny (model PR w) A (eval (.Attribute v x p) env) (fun v s₁ => wpAny (model PR w) A (spliced (backTo pos (starEach rest env))) (fun vs s₂ => Q (v :: vs) s₂) E s₁) E s) : wpAny (model PR w) A (spliced (backTo pos (starEach (.Attribute v x p :: rest) env))) Q E s := PyProof.Rows.args_cons h starAttr
theorem swapsAttr {v : Expr} {x : Str} {p : Pos} {t : Option Expr} {ln : Nat} : swapsWith (.Attribute v x p) t ln env = pure false := rfl
theorem starComp {e : Expr} {gs : List Comprehension} {sc : Scope} {p : Pos} : starEach (.ListComp e gs sc p :: rest) env = (false, eval (.ListComp e gs sc p) env) :: starEach rest env := rfl
theorem aComp {e : Expr} {gs : List Comprehension} {sc : Scope} {p : Pos} (h : wpAny (model PR w) A (eval (.ListComp e gs sc p) env) (fun v s₁ => wpAny (model PR w) A (spliced (backTo pos (starEach rest env))) (fun vs s₂ => Q (v :: vs) s₂) E s₁) E s) : wpAny (model PR w) A (spliced (backTo pos (starEach (.ListComp e gs sc p :: rest) env))) Q E s := PyProof.Rows.args_cons h starComp
theorem starList {es : List Expr} {p : Pos} : starEach (.List es p :: rest) env = (false, eval (.List es p) env) :: starEach rest env := rfl
theorem aList {es : List Expr} {p : Pos} (h : wpAny (model PR w) A (eval (.List es p) env) (fun v s₁ => wpAny (model PR w) A (spliced (backTo pos (starEach rest env))) (fun vs s₂ => Q (v :: vs) s₂) E s₁) E s) : wpAny (model PR w) A (spliced (backTo pos (starEach (.List es p :: rest) env))) Q E s := PyProof.Rows.args_cons h starList
theorem swapsList {es : List Expr} {p : Pos} {t : Option Expr} {ln : Nat} : swapsWith (.List es p) t ln env = pure false := rfl
theorem aNil (h : Q [] s) : wpAny (model PR w) A (spliced (backTo pos (starEach [] env))) Q E s := PyProof.Rows.args_nil h
end
section
variable {w : World} {mean : ExcName → Option Value} {mg mb : Str → Option Value} {A : Around} {s : Shared} {E : Value → Shared → Prop}

theorem count_calls_spec {d : Addr} {c : List (Str × Int)} (G : Ground0 w mean mg mb s.heap) (hh : A.handled = none) (hroom : A.depth < recursionLimit)
    (Tb : StrTab PR w s.heap d (kdpD c)) :
    wpAny (model PR w) A (call (.ref 87) [.ref d]) (fun v s' => (∃ t, v = .int (c.map (·.2)).sum t) ∧ Keeps s s') E s := by
  refine enter (binds := [(Str.ofString "callers", .ref d)]) G.X G.T (by k_is) (by k_is) hroom (by exact BindsTo.of_eq rfl) (by exact locs rfl) ?_ (by rfl) (by rfl) (by rfl) (by decide)
  intro L h₁ F N
  refine wpAny_execs_cons (wpAny_Assign_Name (wpAny_Constant_int (storeX_L F N fun h₂ F₂ N₂ => ?_)))
  dsimp only
  refine wpAny_execs_cons (forM (evVals ?_ rfl rfl) (fun _ => rfl))
  refine nameX_L F₂ rfl ⟨d, c, rfl, Tb.keep F₂.keep, fun h₃ hv hk => ?_⟩
  refine iterVals (w := w) (fun i m n => n = [] ∧ ∃ t, m (Str.ofString "nc") = some (.int ((c.take i).map (·.2)).sum t)) hh (F₂.keeps hk) (N₂.grown hk) hv ((Tb.keep F₂.keep).keep hk) (.inl (tabBase (w := w) Tb)) ⟨rfl, _, rfl⟩ ?_ ?_ rfl rfl
  · rintro i k n t m₁ news₁ h tk I io hc ha ⟨rfl, tn, hm⟩ F₃ N₃
    refine wpAny_execs_cons (wpAny_AugAssign_Name (ldn F₃ hm (nameX_L F₃ rfl (iadd_int (storeX_L F₃ N₃ fun h₄ F₄ N₄ => wpAny_execs_nil ?_)))))
    have e : ((c.take (i + 1)).map (·.2)).sum = ((c.take i).map (·.2)).sum + n := by rw [List.take_add_one, hc]; simp
    exact ⟨_, _, _, _, [], rfl, F₄, N₄, fun p hp => (by cases hp), .head _, fun p hp => (by cases hp), rfl, _, by rw [e]; rfl⟩
  · rintro m₁ news₁ h tk ⟨rfl, t, hm⟩ F₃ N₃
    refine wpAny_execs_cons (wpAny_Return_some (nameX_L F₃ hm ?_))
    rw [List.take_length]
    exact ⟨⟨_, rfl⟩, _, _, rfl, F₃.keep⟩
end
section
variable {w : World} {mean : ExcName → Option Value} {mg mb : Str → Option Value} {A : Around} {s : Shared} {E : Value → Shared → Prop}

/-- a dict of the call's own, handed back -/
def MadeTab (w : World) (s s' : Shared) (v : Value) (c : List (Str × Int)) : Prop :=
  ∃ d o kvs, v = .ref d ∧ s.heap.get? d = none ∧ s'.heap.get? d = some o ∧ o.IsDictOf (PySem.strKind PR w) kvs ∧ FlatPairs PyData.str kvs (kdpD c) ∧ (d == sysModules) = false

def putAll (acc : List (Str × Int)) (c : List (Str × Int)) : List (Str × Int) := c.foldl (fun acc p => kdpPut acc p.1 p.2) acc
def addOne (acc : List (Str × Int)) (p : Str × Int) : List (Str × Int) := if kdpHas acc p.1 then kdpPut acc p.1 (kdpLook acc p.1 0 + p.2) else kdpPut acc p.1 p.2
def addTab (t c : List (Str × Int)) : List (Str × Int) := c.foldl addOne (putAll [] t)

theorem putAll_len (c : List (Str × Int)) : ∀ acc, (putAll acc c).length ≤ acc.length + c.length := by
  induction c with
  | nil => intro acc; exact Nat.le_refl _
  | cons p c ih =>
    intro acc
    have h1 := ih (kdpPut acc p.1 p.2)
    have h2 := kdpPut_len acc p.1 p.2
    show (putAll (kdpPut acc p.1 p.2) c).length ≤ _
    rw [List.length_cons]; omega
theorem addOne_len (acc : List (Str × Int)) (p : Str × Int) : (addOne acc p).length ≤ acc.length + 1 := by
  unfold addOne; split <;> exact kdpPut_len ..
theorem addOne_has {acc : List (Str × Int)} {k : Str} {n : Int} (h : kdpHas acc k = true) : addOne acc (k, n) = kdpPut acc k (kdpLook acc k 0 + n) := by unfold addOne; rw [if_pos h]
theorem addOne_new {acc : List (Str × Int)} {k : Str} {n : Int} (h : kdpHas acc k = false) : addOne acc (k, n) = kdpPut acc k n := by unfold addOne; rw [if_neg (by rw [h]; decide)]
theorem addAll_len (c : List (Str × Int)) : ∀ acc, (c.foldl addOne acc).length ≤ acc.length + c.length := by
  induction c with
  | nil => intro acc; exact Nat.le_refl _
  | cons p c ih =>
    intro acc
    have h1 := ih (addOne acc p)
    have h2 := addOne_len acc p
    show (c.foldl addOne (addOne acc p)).length ≤ _
    rw [List.length_cons]; omega
theorem addTab_len (t c : List (Str × Int)) : (addTab t c).length ≤ t.length + c.length := by
  have h1 := addAll_len c (putAll [] t)
  have h2 := putAll_len t []
  unfold addTab
  simp only [List.length_nil, Nat.zero_add] at h2
  omega
theorem take_foldl {α β : Type} (f : β → α → β) (z : β) (l : List α) {i : Nat} {a : α} (h : l[i]? = some a) : (l.take (i + 1)).foldl f z = f ((l.take i).foldl f z) a := by
  rw [List.take_add_one, h]
  simp
theorem take_len_le {α : Type} (l : List α) (i : Nat) : (l.take i).length ≤ l.length := by rw [List.length_take]; omega

theorem add_callers_spec {d e : Addr} {c g : List (Str × Int)} (G : Ground0 w mean mg mb s.heap) (hh : A.handled = none) (hroom : A.depth < recursionLimit)
    (Tc : StrTab PR w s.heap d (kdpD c)) (Tg : StrTab PR w s.heap e (kdpD g)) (hlen : c.length + g.length ≤ 1000000) :
    wpAny (model PR w) A (call (.ref 80) [.ref d, .ref e]) (fun v s' => MadeTab w s s' v (addTab c g) ∧ Keeps s s') E s := by
  refine enter (binds := [(Str.ofString "target", .ref d), (Str.ofString "source", .ref e)]) G.X G.T (by k_is) (by k_is) hroom (by exact BindsTo.of_eq rfl) (by exact locs rfl) ?_ (by rfl) (by rfl) (by rfl) (by decide)
  intro L h₁ F N
  refine wpAny_execs_cons (wpAny_Assign_Name (Dict_empty_made2 (w := w) F N (modules_low G.T.nolimit) fun h₂ o₂ F₂ N₂ lo hd₂ hf₂ _ _ _ => ?_) rfl)
  generalize hD : h₁.objs.size = D at *
  refine storeX_L F₂ N₂ fun h₃ F₃ N₃ => ?_
  dsimp only
  refine wpAny_execs_cons (forM (evItems ?_ rfl rfl) (fun _ => rfl))
  refine nameX_L F₃ rfl ⟨d, c, rfl, Tc.keep F₃.keep, fun h₄ hv hk => ?_⟩
  dsimp only at hv hk ⊢
  refine iterItems (w := w) (fun i m n => ∃ o kvs, n = [(D, o)] ∧ o.IsDictOf (PySem.strKind PR w) kvs ∧ FlatPairs PyData.str kvs (kdpD (putAll [] (c.take i))) ∧ m (Str.ofString "new_callers") = some (.ref D) ∧ m (Str.ofString "source") = some (.ref e))
    hh (F₃.keeps hk) (N₃.grown hk) hv ((Tc.keep F₃.keep).keep hk) (.inl (tabBase (w := w) Tc)) ⟨o₂, [], rfl, hd₂, hf₂, rfl, rfl⟩ ?_ ?_ rfl rfl rfl
  · rintro i k n t u m₁ news₁ h tk I io hc ha ⟨o, kvs, rfl, hdo, hfo, hm1, hm2⟩ F₅ N₅
    have hDI : I ≠ D := fun q => ha _ (.head _) q.symm
    refine wpAny_execs_cons (wpAny_Assign_Subscript (nameX_L F₅ rfl (nameX_L F₅ hm1 (nameX_L F₅ rfl (kdp_setItem F₅ N₅ (.tail hDI (.head (by simp))) hdo hfo (by have := putAll_len (c.take i) []; have := take_len_le c i; simp at *; omega) fun h' o' kvs' F' N' hd' hf' => ?_)))) rfl)
    refine wpAny_execs_nil ?_
    refine ⟨_, _, _, _, [(D, o')], rfl, F', N', by simp, by simp, by simpa using hDI.symm, o', kvs', rfl, hd', ?_, hm1, hm2⟩
    unfold putAll
    rw [take_foldl _ _ _ hc]
    exact hf'
  · rintro m₁ news₁ h tk ⟨o, kvs, rfl, hdo, hfo, hm1, hm2⟩ F₅ N₅
    rw [List.take_length] at hfo
    refine wpAny_execs_cons (forM (evItems ?_ rfl rfl) (fun _ => rfl))
    refine nameX_L F₅ hm2 ⟨e, g, rfl, Tg.keep F₅.keep, fun h₆ hv hk => ?_⟩
    dsimp only at hv hk ⊢
    refine iterItems (w := w) (fun i m n => ∃ o kvs, n = [(D, o)] ∧ o.IsDictOf (PySem.strKind PR w) kvs ∧ FlatPairs PyData.str kvs (kdpD ((g.take i).foldl addOne (putAll [] c))) ∧ m (Str.ofString "new_callers") = some (.ref D))
      hh (F₅.keeps hk) (N₅.grown hk) hv ((Tg.keep F₅.keep).keep hk) (.inl (tabBase (w := w) Tg)) ⟨o, kvs, rfl, hdo, hfo, hm1⟩ ?_ ?_ rfl rfl rfl
    · rintro i k n t u m₁ news₁ h tk I io hc ha ⟨o, kvs, rfl, hdo, hfo, hm1⟩ F₆ N₆
      have hDI : I ≠ D := fun q => ha _ (.head _) q.symm
      have TD : StrTab PR w h D (kdpD ((g.take i).foldl addOne (putAll [] c))) := TabAt.ofObj lo (N₆.get (by simp)) hdo hfo
      have hsz : ((g.take i).foldl addOne (putAll [] c)).length ≤ 16777216 := by
        have := putAll_len c []
        have := addAll_len (g.take i) (putAll [] c)
        have := take_len_le g i
        simp at *
        omega
      refine wpAny_execs_cons (wpAny_If (wpAny_isTrue_Compare1 (nameX_L F₆ rfl (nameX_L F₆ hm1 (kdp_in TD (wpAny_truthy_bool ?_)))) rfl))
      by_cases hk : kdpHas ((g.take i).foldl addOne (putAll [] c)) k = true
      · rw [hk, if_pos rfl]
        refine wpAny_execs_cons (wpAny_If (isTrue_plain (evN G F₆.keep (ng_isinstance w) bb_isinstance nn_isinstance (cB2 (nameX_L F₆ rfl (gB G F₆.keep (ng_tuple w) bb_tuple nn_tuple (IsiPair.int_tuple (wpAny_truthy_bool ?_))))))))
        rw [if_neg (by decide)]
        dsimp only
        refine wpAny_execs_cons (wpAny_AugAssign_Subscript (nameX_L F₆ hm1 (nameX_L F₆ rfl (kdp_getItem TD hk fun t' => nameX_L F₆ rfl (iadd_int (kdp_setItem F₆ N₆ (.tail hDI (.head (by simp))) hdo hfo hsz fun h' o' kvs' F' N' hd' hf' => ?_))))))
        refine wpAny_execs_nil (wpAny_execs_nil (wpAny_execs_nil ?_))
        refine ⟨_, _, _, _, [(D, o')], rfl, F', N', by simp, by simp, by simpa using hDI.symm, o', kvs', rfl, hd', ?_, hm1⟩
        rw [take_foldl _ _ _ hc, addOne_has hk]
        exact hf'
      · rw [Bool.not_eq_true] at hk
        rw [hk, if_neg (by decide)]
        refine wpAny_execs_cons (wpAny_Assign_Subscript (nameX_L F₆ rfl (nameX_L F₆ hm1 (nameX_L F₆ rfl (kdp_setItem F₆ N₆ (.tail hDI (.head (by simp))) hdo hfo hsz fun h' o' kvs' F' N' hd' hf' => ?_)))) rfl)
        refine wpAny_execs_nil (wpAny_execs_nil ?_)
        refine ⟨_, _, _, _, [(D, o')], rfl, F', N', by simp, by simp, by simpa using hDI.symm, o', kvs', rfl, hd', ?_, hm1⟩
        rw [take_foldl _ _ _ hc, addOne_new hk]
        exact hf'
    · rintro m₁ news₁ h tk ⟨o, kvs, rfl, hdo, hfo, hm1⟩ F₆ N₆
      rw [List.take_length] at hfo
      refine wpAny_execs_cons (wpAny_Return_some (nameX_L F₆ hm1 ?_))
      exact ⟨⟨D, o, kvs, rfl, N₆.fresh (.head _), N₆.get (.head _), hdo, hfo, lo⟩, _, _, rfl, F₆.keep⟩
end
def bindAll : (Str → Option Value) → List (Str × Pos) → List Value → (Str → Option Value)
  | m, t :: ts, v :: vs => bindAll (fun y => if y = t.1 then some v else m y) ts vs
  | m, _, _ => m

section
variable {w : World} {mean : ExcName → Option Value} {mg mb : Str → Option Value} {A : Around} {s : Shared} {env : Env} {h₀ : Heap} {news : List (Addr × Obj)}

theorem assignNames {E : Value → Shared → Prop} (hp : (env.scope.kind == .class || (env.scope.kind == .module && env.locals != env.globals)) = false) : ∀ (ts : List (Str × Pos)) (vs : List Value) {s : Shared} {m : Str → Option Value} {Q : Unit → Shared → Prop}, (∀ t ∈ ts, env.kindOf t.1 = some .local) → Fr h₀ env.locals s.heap m → News h₀ env.locals s.heap news →
    (∀ h' tk, Fr h₀ env.locals h' (bindAll m ts vs) → News h₀ env.locals h' news → Q () { s with heap := h', toks := tk }) → wpAny (model PR w) A (assignInOrder (ts.map fun t => assign (.Name t.1 t.2) env) vs) Q E s
  | [], _, s, m, Q, _, F, N, h => wpAny_pure (h s.heap s.toks F N)
  | _ :: _, [], s, m, Q, _, F, N, h => wpAny_pure (h s.heap s.toks F N)
  | t :: ts, v :: vs, s, m, Q, hl, F, N, h => by
    show wpAny _ _ (do holding vs (assign (.Name t.1 t.2) env v); assignInOrder (ts.map fun t => assign (.Name t.1 t.2) env) vs) _ _ _
    refine wpAny_bind (wpAny_holding (wpAny_assign_Name (wpAny_storeName_local (hl t (.head _)) F.ns (fun h' hn hs => ?_) hp)))
    exact assignNames hp ts vs (fun t ht => hl t (.tail _ ht)) (F.set hn hs) (N.set hs) h

theorem unpackT {E : Value → Shared → Prop} {elts : List Expr} {ts : List (Str × Pos)} {x1 : Nat} {pos : Pos} {t : Addr} {vs : List Value} {m : Str → Option Value} {Q : Unit → Shared → Prop} (hh : A.handled = none) (ht : s.heap.IsTuple t vs.toArray) (F : Fr h₀ env.locals s.heap m) (N : News h₀ env.locals s.heap news)
    (h : ∀ h' tk, Fr h₀ env.locals h' (bindAll m ts vs) → News h₀ env.locals h' news → Q () { s with heap := h', toks := tk })
    (he : (assignEach elts env).map (·.2) = ts.map (fun t => assign (.Name t.1 t.2) env)) (hn : (assignEach elts env).length = vs.length) (hstar : (assignEach elts env).findIdx? (·.1) = none)
    (hloc : (ts.all fun t => env.kindOf t.1 == some .local) = true) (hp : (env.scope.kind == .class || (env.scope.kind == .module && env.locals != env.globals)) = false) :
    wpAny (model PR w) A (assign (.Tuple elts x1 pos) env (.ref t)) Q E s := by
  refine wpAny_assign_Tuple hh ht (by simpa using hn) hstar fun h₃ hx₃ => ?_
  have old₃ : ∀ b o, s.heap.get? b = some o → h₃.get? b = some o := fun b o e => hx₃ b o (Nat.ne_of_lt (Heap.lt_size e)) e
  rw [he]
  exact assignNames hp ts vs (fun t ht => by simpa using List.all_eq_true.mp hloc t ht) (F.keeps old₃) (N.grown old₃) h
end

theorem newsAdd {h₀ h h' : Heap} {L D : Addr} {m : Str → Option Value} {news : List (Addr × Obj)} {o : Obj} (F : Fr h₀ L h m) (N : News h₀ L h news) (hk : ∀ b o, h.get? b = some o → h'.get? b = some o) (hn : h.get? D = none) (ho : h'.get? D = some o) : News h₀ L h' ((D, o) :: news) := by
  intro p hp
  rcases List.mem_cons.mp hp with rfl | hp
  · refine ⟨ho, fun q => ?_, ?_⟩
    · obtain ⟨oL, _, _, hL, _⟩ := F.ns
      rw [← q, hn] at hL; cases hL
    · cases e : h₀.get? D with
      | none => rfl
      | some x => rw [F.keep _ _ e] at hn; cases hn
  · exact N.grown hk p hp
theorem newsNe {h₀ h : Heap} {L D : Addr} {news : List (Addr × Obj)} (N : News h₀ L h news) (hn : h.get? D = none) : ∀ p ∈ news, p.1 ≠ D := fun p hp q => by
  have := (N p hp).1; rw [q, hn] at this; cases this

/-- what a dict's object says -/
def DictIs (w : World) (o : Obj) (c : List (Str × Int)) : Prop := ∃ kvs, o.IsDictOf (PySem.strKind PR w) kvs ∧ FlatPairs PyData.str kvs (kdpD c)
/-- what an entry's object says -/
def EntryIs (o : Obj) (D : Addr) (a b : Int) : Prop := o.cls = .type "tuple" ∧ ∃ t1 t2 t3 t4 n, o.data = .seq #[.int a t1, .int b t2, .int 0 t3, .int 0 t4, .ref D] n
/-- an entry at a heap -/
def EntryAt (w : World) (h : Heap) (T : Addr) (a b : Int) (c : List (Str × Int)) : Prop := ∃ D o, h.get? T = some o ∧ EntryIs o D a b ∧ StrTab PR w h D (kdpD c)
/-- an entry of the call's own, handed back -/
def MadeEntry (w : World) (s s' : Shared) (v : Value) (a b : Int) (c : List (Str × Int)) : Prop :=
  ∃ T to D do_, v = .ref T ∧ s.heap.get? T = none ∧ s.heap.get? D = none ∧ T ≠ D ∧ s'.heap.get? T = some to ∧ s'.heap.get? D = some do_ ∧ EntryIs to D a b ∧ DictIs w do_ c ∧ (D == sysModules) = false

section
variable {w : World} {mean : ExcName → Option Value} {mg mb : Str → Option Value} {A : Around} {s : Shared} {E : Value → Shared → Prop}

theorem add_func_stats_spec {d e : Addr} {a₁ b₁ a₂ b₂ : Int} {c g : List (Str × Int)} (G : Ground0 w mean mg mb s.heap) (hh : A.handled = none) (hroom : A.depth + 10 < recursionLimit)
    (Tc : EntryAt w s.heap d a₁ b₁ c) (Tg : EntryAt w s.heap e a₂ b₂ g) (hlen : c.length + g.length ≤ 1000000) :
    wpAny (model PR w) A (call (.ref 73) [.ref d, .ref e]) (fun v s' => MadeEntry w s s' v (a₂ + a₁) (b₂ + b₁) (addTab c g) ∧ Keeps s s') E s := by
  refine enter (binds := [(Str.ofString "target", .ref d), (Str.ofString "source", .ref e)]) G.X G.T (by k_is) (by k_is) (by omega) (by exact BindsTo.of_eq rfl) (by exact locs rfl) ?_ (by rfl) (by rfl) (by rfl) (by decide)
  intro L h₁ F N
  obtain ⟨Dc, oc, hoc, ⟨hcc, t1, t2, t3, t4, nc, hdc⟩, Tc⟩ := Tc
  obtain ⟨Dg, og, hog, ⟨hcg, u1, u2, u3, u4, ng, hdg⟩, Tg⟩ := Tg
  refine wpAny_execs_cons (Assign_Tuple (nameX_L F rfl ?_) rfl rfl)
  refine unpackT (ts := [(Str.ofString "cc", _), (Str.ofString "nc", _), (Str.ofString "tt", _), (Str.ofString "ct", _), (Str.ofString "callers", _)]) (vs := [.int a₂ u1, .int b₂ u2, .int 0 u3, .int 0 u4, .ref Dg]) hh ⟨og, F.keep _ _ hog, hcg, ng, hdg⟩ F N ?_ rfl rfl rfl rfl rfl
  intro h₂ tk₂ F₂ N₂
  dsimp only
  refine wpAny_execs_cons (Assign_Tuple (nameX_L F₂ rfl ?_) rfl rfl)
  refine unpackT (ts := [(Str.ofString "t_cc", _), (Str.ofString "t_nc", _), (Str.ofString "t_tt", _), (Str.ofString "t_ct", _), (Str.ofString "t_callers", _)]) (vs := [.int a₁ t1, .int b₁ t2, .int 0 t3, .int 0 t4, .ref Dc]) hh ⟨oc, F₂.keep _ _ hoc, hcc, nc, hdc⟩ F₂ N₂ ?_ rfl rfl rfl rfl rfl
  intro h₃ tk₃ F₃ N₃
  dsimp only
  refine wpAny_execs_cons (wpAny_Return_some (PyProof.Rows.Tuple_ (PyProof.Rows.args_cons (wpAny_BinOp (nameX_L F₃ rfl (nameX_L F₃ rfl (add_int ?_)))) rfl)))
  refine PyProof.Rows.args_cons (wpAny_BinOp (nameX_L F₃ rfl (nameX_L F₃ rfl (add_int ?_)))) rfl
  refine PyProof.Rows.args_cons (wpAny_BinOp (nameX_L F₃ rfl (nameX_L F₃ rfl (add_int ?_)))) rfl
  refine PyProof.Rows.args_cons (wpAny_BinOp (nameX_L F₃ rfl (nameX_L F₃ rfl (add_int ?_)))) rfl
  refine PyProof.Rows.args_cons (evF2 G F₃.keep (kg_add_callers w) (ki_add_callers w) (nameX_L F₃ rfl (nameX_L F₃ rfl ⟨F₃.keep, ?_⟩)) rfl rfl rfl rfl rfl rfl) rfl
  dsimp only
  refine wpAny_mono (add_callers_spec (G.keeps F₃.keep) hh (by show A.depth + 1 < _; omega) (Tc.keep F₃.keep) (Tg.keep F₃.keep) hlen) (fun v s₄ h₄ => ?_) fun _ _ x => x
  obtain ⟨⟨D, o, kvs, rfl, hn, ho, hdo, hfo, lo⟩, h₄, tk₄, rfl, hk₄⟩ := h₄
  have F₄ := F₃.keeps hk₄
  have N₄ := newsAdd F₃ N₃ hk₄ hn ho
  refine PyProof.Rows.args_nil (newTuple_N F₄ N₄ fun h₅ F₅ N₅ => ?_)
  dsimp only at N₅ ⊢
  refine ⟨⟨_, _, D, o, rfl, N₅.fresh (.head _), N₅.fresh (.tail _ (.head _)), Nat.ne_of_gt (Heap.lt_size (N₄.get (.head _))), N₅.get (.head _), N₅.get (.tail _ (.head _)), ⟨rfl, _, _, _, _, _, rfl⟩, ⟨kvs, hdo, hfo⟩, lo⟩, _, _, rfl, F₅.keep⟩
end
section
variable {P : Str → Prop}
theorem put_keys {c : List (Str × Int)} {k : Str} {v : Int} (h : ∀ p ∈ c, P p.1) (hk : P k) : ∀ p ∈ kdpPut c k v, P p.1 := by
  intro p hp
  unfold kdpPut at hp
  split at hp
  · obtain ⟨q, hq, rfl⟩ := List.mem_map.mp hp
    split
    · exact h q hq
    · exact h q hq
  · rcases List.mem_append.mp hp with hp | hp
    · exact h p hp
    · rw [List.mem_singleton.mp hp]; exact hk
theorem putAll_keys {c : List (Str × Int)} (hc : ∀ p ∈ c, P p.1) : ∀ {acc : List (Str × Int)}, (∀ p ∈ acc, P p.1) → ∀ p ∈ putAll acc c, P p.1 := by
  induction c with
  | nil => intro acc h; exact h
  | cons q c ih => intro acc h; exact ih (fun p hp => hc p (.tail _ hp)) (put_keys h (hc q (.head _)))
theorem addOne_keys {acc : List (Str × Int)} {q : Str × Int} (h : ∀ p ∈ acc, P p.1) (hq : P q.1) : ∀ p ∈ addOne acc q, P p.1 := by
  unfold addOne; split <;> exact put_keys h hq
theorem addAll_keys {c : List (Str × Int)} (hc : ∀ p ∈ c, P p.1) : ∀ {acc : List (Str × Int)}, (∀ p ∈ acc, P p.1) → ∀ p ∈ c.foldl addOne acc, P p.1 := by
  induction c with
  | nil => intro acc h; exact h
  | cons q c ih => intro acc h; exact ih (fun p hp => hc p (.tail _ hp)) (addOne_keys h (hc q (.head _)))
theorem addTab_keys {t c : List (Str × Int)} (ht : ∀ p ∈ t, P p.1) (hc : ∀ p ∈ c, P p.1) : ∀ p ∈ addTab t c, P p.1 :=
  addAll_keys hc (putAll_keys ht (by intro p hp; cases hp))
end

section
variable {w : World} {A : Around} {s : Shared} {E : Value → Shared → Prop} {env : Env} {h₀ : Heap} {L : Addr} {m : Str → Option Value} {news : List (Addr × Obj)} {Q : Value → Shared → Prop}
theorem dictOne {k : Str} {n : Int} {kk nk : Nat} {kp np pos : Pos} (F : Fr h₀ L s.heap m) (N : News h₀ L s.heap news) (hbig : h₀.NoLimit)
    (h : ∀ (d : Addr) h' o tk, Fr h₀ L h' m → News h₀ L h' ((d, o) :: news) → (∀ p ∈ news, p.1 < d) → (d == sysModules) = false → DictIs w o [(k, n)] → Q (.ref d) { s with heap := h', toks := tk }) :
    wpAny (model PR w) A (eval (.Dict [some (.Constant (.str k) kk kp)] [.Constant (.int n) nk np] pos) env) Q E s := by
  refine kdn_str rfl F N hbig rfl rfl (by simp) (by simp) fun d h₁ o F₁ N₁ hlt lo hd => ?_
  refine pairTrees_cons_walk (Calls.Constant_str (wpAny_Constant_int (pairTrees_nil_walk ?_)))
  exact kdn_made_strF F₁ N₁ (.head fun p hp => Nat.ne_of_lt (hlt p hp)) hd rfl (by simp [strPairs]) rfl fun h₂ o₂ F₂ N₂ hd₂ hf₂ => h d h₂ o₂ _ F₂ N₂ hlt lo ⟨_, hd₂, hf₂⟩
end

theorem entryAt_of {w : World} {h : Heap} {T D : Addr} {to do_ : Obj} {a b : Int} {c : List (Str × Int)} (hT : h.get? T = some to) (hD : h.get? D = some do_) (ht : EntryIs to D a b) (hd : DictIs w do_ c) (lo : (D == sysModules) = false) : EntryAt w h T a b c :=
  ⟨D, to, hT, ht, let ⟨_, x, y⟩ := hd; TabAt.ofObj lo hD x y⟩
theorem EntryAt.keep {w : World} {h h' : Heap} {T : Addr} {a b : Int} {c : List (Str × Int)} (x : EntryAt w h T a b c) (k : ∀ b o, h.get? b = some o → h'.get? b = some o) : EntryAt w h' T a b c :=
  let ⟨D, o, ho, e, t⟩ := x; ⟨D, o, k _ _ ho, e, t.keep k⟩
theorem EntryIs.tup {h : Heap} {T D : Addr} {o : Obj} {a b : Int} (e : EntryIs o D a b) (ho : h.get? T = some o) : ∃ t1 t2 t3 t4, IsTup h T [Value.int a t1, .int b t2, .int 0 t3, .int 0 t4, .ref D].toArray :=
  let ⟨hc, t1, t2, t3, t4, n, hd⟩ := e; ⟨t1, t2, t3, t4, o, ho, hc, n, hd⟩

/-- the words that lie scattered: one letter more -/
def longerBy (a : Nat) (c : List (Str × Int)) : List (Str × Int) := c.map fun p => (p.1 ++ ⟨#[a]⟩, p.2)
def scatStep (c : List (Str × Int)) (a : Nat) : List (Str × Int) := addTab c (putAll [] (longerBy a c))
def scat (l : List Nat) : List (Str × Int) := l.foldl scatStep [(Str.ofString "", 1)]

def ScOk (n : Nat) (c : List (Str × Int)) : Prop := c.length ≤ 2 ^ n ∧ ∀ p ∈ c, p.1.length ≤ n
theorem scOk_step {n a : Nat} {c : List (Str × Int)} (h : ScOk n c) : ScOk (n + 1) (scatStep c a) := by
  refine ⟨?_, ?_⟩
  · have h1 := addTab_len c (putAll [] (longerBy a c))
    have h2 := putAll_len (longerBy a c) []
    have h3 : (longerBy a c).length = c.length := by unfold longerBy; rw [List.length_map]
    have := h.1
    have : 2 ^ (n + 1) = 2 ^ n * 2 := Nat.pow_succ 2 n
    simp only [List.length_nil, Nat.zero_add] at h2
    unfold scatStep
    omega
  · refine addTab_keys (P := fun k => k.length ≤ n + 1) (fun p hp => Nat.le_succ_of_le (h.2 p hp)) (putAll_keys (P := fun k => k.length ≤ n + 1) (fun p hp => ?_) (by intro p hp; cases hp))
    obtain ⟨q, hq, rfl⟩ := List.mem_map.mp hp
    show (q.1 ++ (⟨#[a]⟩ : Str)).length ≤ _
    rw [Str.length_append]
    exact Nat.succ_le_succ (h.2 q hq)
theorem scOk_take (l : List Nat) (i : Nat) : ScOk (l.take i).length (scat (l.take i)) := by
  have key : ∀ (l : List Nat) (n : Nat) (c : List (Str × Int)), ScOk n c → ScOk (n + l.length) (l.foldl scatStep c) := by
    intro l
    induction l with
    | nil => intro n c h; exact h
    | cons a l ih =>
      intro n c h
      have := ih (n + 1) (scatStep c a) (scOk_step h)
      rw [List.length_cons, Nat.add_comm l.length 1, ← Nat.add_assoc]
      exact this
  have := key (l.take i) 0 [(Str.ofString "", 1)] ⟨by simp, by simp; rfl⟩
  rwa [Nat.zero_add] at this

section
variable {w : World} {mean : ExcName → Option Value} {mg mb : Str → Option Value} {A : Around} {s : Shared} {E : Value → Shared → Prop}

theorem scattered_spec {z : Str} {tz : Tok} (G : Ground0 w mean mg mb s.heap) (hh : A.handled = none) (hroom : A.depth + 20 < recursionLimit) (hz : z.cps.all (· < 128) = true) (hlen : z.cps.toList.length ≤ 5) :
    wpAny (model PR w) A (call (.ref 249) [.str z tz]) (fun v s' => (∃ a b, MadeEntry w s s' v a b (scat z.cps.toList)) ∧ Keeps s s') E s := by
  refine enter (binds := [(Str.ofString "word", .str z tz)]) G.X G.T (by k_is) (by k_is) (by omega) (by exact BindsTo.of_eq rfl) (by exact locs rfl) ?_ (by rfl) (by rfl) (by rfl) (by decide)
  intro L h₁ F N
  refine wpAny_execs_cons ?_
  refine wpAny_Assign_Name ?_ ?hs
  case hs => exact swapsTup
  refine PyProof.Rows.Tuple_ ?_
  refine aConst ?_
  refine wpAny_Constant_int ?_
  refine aConst ?_
  refine wpAny_Constant_int ?_
  refine aConst ?_
  refine wpAny_Constant_int ?_
  refine aConst ?_
  refine wpAny_Constant_int ?_
  refine aDict ?_
  refine (dictOne (w := w) F N G.T.nolimit fun d h₂ o₂ tk₂ F₂ N₂ _ lo hd₂ => ?_)
  refine aNil ?_
  refine newTuple_N F₂ N₂ fun h₃ F₃ N₃ => ?_
  generalize hT : h₂.objs.size = T at *
  have hTd : T ≠ d := fun q => absurd (Heap.lt_size (N₂.get (.head _))) (by rw [hT, q]; exact Nat.lt_irrefl _)
  dsimp only at N₃ ⊢
  refine storeX_L F₃ N₃ fun h₄ F₄ N₄ => ?_
  dsimp only
  refine wpAny_execs_cons (forM (nameX_L F₄ rfl ?_) (fun _ => rfl))
  refine iterStr (w := w) (fun i m n => ∃ a b T to D do_, n = [(T, to), (D, do_)] ∧ T ≠ D ∧ EntryIs to D a b ∧ DictIs w do_ (scat (z.cps.toList.take i)) ∧ (D == sysModules) = false ∧ m (Str.ofString "entry") = some (.ref T))
    hh F₄ N₄ hz ⟨0, 0, T, _, d, o₂, rfl, hTd, ⟨rfl, _, _, _, _, _, rfl⟩, hd₂, lo, rfl⟩ ?_ ?_ rfl rfl
  · rintro i a t m₁ news₁ h tk I io hc ha ⟨x, y, T, to, D, do_, rfl, hTD, hte, hdd, lo, hm⟩ F₅ N₅
    have hsc := scOk_take z.cps.toList i
    have hI1 : T ≠ I := ha _ (.head _)
    have hI2 : D ≠ I := ha _ (.tail _ (.head _))
    generalize hcc : scat (z.cps.toList.take i) = c at *
    have hcl : c.length ≤ 32 ∧ ∀ p ∈ c, p.1.length ≤ 5 := by
      have : (z.cps.toList.take i).length ≤ 5 := Nat.le_trans (take_len_le _ _) hlen
      refine ⟨Nat.le_trans hsc.1 (Nat.le_trans (Nat.pow_le_pow_right (by decide) this) (by decide)), fun p hp => Nat.le_trans (hsc.2 p hp) this⟩
    refine wpAny_execs_cons (wpAny_Assign_Name (Dict_empty_made2 (w := w) F₅ N₅ (modules_low G.T.nolimit) fun h₆ o₆ F₆ N₆ lo₆ hd₆ hf₆ _ _ hne => ?_) rfl)
    generalize hD : h.objs.size = D' at *
    refine storeX_L F₆ N₆ fun h₇ F₇ N₇ => ?_
    dsimp only at hne ⊢
    have hneI : I ≠ D' := hne _ (.head _)
    have hneT : T ≠ D' := hne _ (.tail _ (.head _))
    have hneD : D ≠ D' := hne _ (.tail _ (.tail _ (.head _)))
    refine wpAny_execs_cons ?_
    refine forM ?_ (fun _ => rfl)
    refine evItems ?_ rfl rfl
    refine PyProof.Rows.Subscript_ ?_
    refine nameX_L F₇ hm ?_
    refine wpAny_Constant_int ?_
    obtain ⟨t1, t2, t3, t4, hTup⟩ := hte.tup (N₇.get (.tail _ (.tail _ (.head _))))
    refine item_tupleT (j := 4) (x := .ref D) hTup (by decide) (by decide) rfl rfl ?_ rfl
    obtain ⟨kvD, hdD, hfD⟩ := id hdd
    have TbD : StrTab PR w h₇ D (kdpD c) := TabAt.ofObj lo (N₇.get (.tail _ (.tail _ (.tail _ (.head _))))) hdD hfD
    refine ⟨D, c, rfl, TbD, fun h₈ hv hk => ?_⟩
    dsimp only at hv hk ⊢
    refine iterItems (w := w) (fun j m n => ∃ og kvs, n = [(D', og), (I, io), (T, to), (D, do_)] ∧ og.IsDictOf (PySem.strKind PR w) kvs ∧ FlatPairs PyData.str kvs (kdpD (putAll [] ((longerBy a c).take j))) ∧
        m (Str.ofString "longer") = some (.ref D') ∧ m (Str.ofString "sign") = some (.str ⟨#[a]⟩ t) ∧ m (Str.ofString "entry") = some (.ref T))
      hh (F₇.keeps hk) (N₇.grown hk) hv (TbD.keep hk) (.inr ⟨do_, ?_⟩) ⟨o₆, [], rfl, hd₆, hf₆, rfl, rfl, hm⟩ ?_ ?_ rfl rfl rfl
    · rintro j m n ⟨og, kvs, rfl, _⟩
      simp
    · rintro j k n tn tk' m₂ news₂ h₉ tk₉ I₂ io₂ hcj ha₂ ⟨og, kvs, rfl, hdo, hfo, hm1, hm2, hm3⟩ F₉ N₉
      have hI2 : I₂ ≠ D' := fun q => ha₂ _ (.head _) q.symm
      have hkl : k.length ≤ 5 := hcl.2 _ (List.mem_of_getElem? hcj)
      refine wpAny_execs_cons ?_
      refine wpAny_Assign_Subscript ?_ (by exact swapsName)
      refine nameX_L F₉ rfl ?_
      refine nameX_L F₉ hm1 ?_
      refine wpAny_BinOp ?_
      refine nameX_L F₉ rfl ?_
      refine nameX_L F₉ hm2 ?_
      refine PyProof.Rows.add_str ?_ (by rw [sizeLine_eq]; show k.length + 1 ≤ _; omega)
      intro t' tk''
      refine kdp_setItem F₉ N₉ (.tail hI2 (.head ?_)) hdo hfo ?_ ?_
      · intro p hp
        rcases List.mem_cons.mp hp with rfl | hp
        · exact hneI
        rcases List.mem_cons.mp hp with rfl | hp
        · exact hneT
        rw [List.mem_singleton.mp hp]; exact hneD
      · have h1 := putAll_len ((longerBy a c).take j) []
        have h2 := take_len_le (longerBy a c) j
        have h3 : (longerBy a c).length = c.length := by unfold longerBy; rw [List.length_map]
        simp only [List.length_nil] at h1
        omega
      · intro h' o' kvs' F' N' hd' hf'
        refine wpAny_execs_nil ?_
        refine ⟨_, _, _, _, [(D', o'), (I, io), (T, to), (D, do_)], rfl, F', N', ?_, .head _, ?_, o', kvs', rfl, hd', ?_, hm1, hm2, hm3⟩
        · intro p hp; exact .tail _ hp
        · intro p hp
          rcases List.mem_cons.mp hp with rfl | hp
          · exact hI2.symm
          · exact ha₂ p (.tail _ hp)
        · unfold putAll at hf' ⊢
          have e : (longerBy a c)[j]? = some (k ++ ⟨#[a]⟩, n) := by unfold longerBy; rw [List.getElem?_map, hcj]; rfl
          rw [take_foldl _ _ _ e]
          exact hf'
    · rintro m₂ news₂ h₉ tk₉ ⟨og, kvs, rfl, hdo, hfo, hm1, hm2, hm3⟩ F₉ N₉
      have h3 : (longerBy a c).length = c.length := by unfold longerBy; rw [List.length_map]
      rw [← h3, List.take_length] at hfo
      have Tg : StrTab PR w h₉ D' (kdpD (putAll [] (longerBy a c))) := TabAt.ofObj lo₆ (N₉.get (.head _)) hdo hfo
      have hgl : (putAll [] (longerBy a c)).length ≤ 32 := by
        have h1 := putAll_len (longerBy a c) []
        have h3 : (longerBy a c).length = c.length := by unfold longerBy; rw [List.length_map]
        simp only [List.length_nil] at h1
        omega
      refine wpAny_execs_cons ?_
      refine wpAny_Assign_Name ?_ ?hs
      case hs => exact swapsCall
      refine evF2 G F₉.keep (kg_add_func_stats w) (ki_add_func_stats w) ?_ starName starTup rfl rfl rfl
      refine nameX_L F₉ hm3 ?_
      refine PyProof.Rows.Tuple_ ?_
      refine aConst ?_
      refine wpAny_Constant_int ?_
      refine aCall ?_
      refine evF1 G F₉.keep (kg_count_calls w) (ki_count_calls w) ?_ starName rfl rfl rfl
      refine nameX_L F₉ hm1 ⟨F₉.keep, ?_⟩
      refine wpAny_mono (count_calls_spec (G.keeps F₉.keep) hh (by show A.depth + 1 < _; omega) Tg) (fun v s₁ hq => ?_) fun _ _ x => x
      obtain ⟨⟨tv, rfl⟩, ha, tka, rfl, hka⟩ := hq
      have Fa := F₉.keeps hka
      have Na := N₉.grown hka
      refine aConst ?_
      refine wpAny_Constant_int ?_
      refine aConst ?_
      refine wpAny_Constant_int ?_
      refine aName ?_
      refine nameX_L Fa hm1 ?_
      refine aNil ?_
      refine newTuple_N Fa Na fun hb Fb Nb => ?_
      refine ⟨Fb.keep, ?_⟩
      dsimp only at Nb ⊢
      generalize hT2 : ha.objs.size = T2 at *
      have eA : EntryAt w hb T x y c := entryAt_of (Nb.get (.tail _ (.tail _ (.tail _ (.head _))))) (Nb.get (.tail _ (.tail _ (.tail _ (.tail _ (.head _)))))) hte hdd lo
      have eB : EntryAt w hb T2 1 (((putAll [] (longerBy a c)).map (·.2)).sum) (putAll [] (longerBy a c)) := entryAt_of (Nb.get (.head _)) (Nb.get (.tail _ (.head _))) ⟨rfl, _, _, _, _, _, rfl⟩ ⟨kvs, hdo, hfo⟩ lo₆
      refine wpAny_mono (add_func_stats_spec (G.keeps Fb.keep) hh (by show A.depth + 1 + 10 < _; omega) eA eB (by omega)) (fun v s₁ hq => ?_) fun _ _ x => x
      obtain ⟨⟨Tn, ton, Dn, don, rfl, hTn, hDn, hTDn, hgT, hgD, hen, hdn, lon⟩, hc', tkc, rfl, hkc⟩ := hq
      dsimp only at hTn hDn hgT hgD hkc
      have Fc := Fb.keeps hkc
      have N1 := newsAdd Fb Nb hkc hDn hgD
      have N2 := newsAdd Fb Nb hkc hTn hgT
      have Nc : News s.heap L hc' ((Tn, ton) :: (Dn, don) :: (I, io) :: []) := by
        intro p hp
        rcases List.mem_cons.mp hp with rfl | hp
        · exact N2 _ (.head _)
        rcases List.mem_cons.mp hp with rfl | hp
        · exact N1 _ (.head _)
        rw [List.mem_singleton.mp hp]
        exact N1 _ (.tail _ (.tail _ (.tail _ (.head _))))
      have hIn := newsNe Nb hTn (I, io) (.tail _ (.tail _ (.head _)))
      have hIn2 := newsNe Nb hDn (I, io) (.tail _ (.tail _ (.head _)))
      refine storeX_L Fc Nc fun hd' Fd Nd => ?_
      refine wpAny_execs_nil ?_
      refine ⟨_, _, _, _, [(Tn, ton), (Dn, don)], rfl, Fd, Nd, ?_, ?_, ?_, _, _, Tn, ton, Dn, don, rfl, hTDn, hen, ?_, lon, rfl⟩
      · intro p hp
        rcases List.mem_cons.mp hp with rfl | hp
        · exact .head _
        · rw [List.mem_singleton.mp hp]; exact .tail _ (.head _)
      · exact .tail _ (.tail _ (.head _))
      · intro p hp
        rcases List.mem_cons.mp hp with rfl | hp
        · exact Ne.symm hIn
        · rw [List.mem_singleton.mp hp]; exact Ne.symm hIn2
      · unfold scat at hcc ⊢
        rw [take_foldl _ _ _ hc, hcc]
        exact hdn
  · rintro m₁ news₁ h tk ⟨x, y, T, to, D, do_, rfl, hTD, hte, hdd, lo, hm⟩ F₅ N₅
    rw [List.take_length] at hdd
    refine wpAny_execs_cons (wpAny_Return_some (nameX_L F₅ hm ?_))
    exact ⟨⟨x, y, T, to, D, do_, rfl, N₅.fresh (.head _), N₅.fresh (.tail _ (.head _)), hTD, N₅.get (.head _), N₅.get (.tail _ (.head _)), hte, hdd, lo⟩, _, _, rfl, F₅.keep⟩
end
/-- a list of texts of the call's own -/
def ListIs (o : Obj) (xs : List Str) : Prop := ∃ vs n, o = { cls := .type "list", data := .seq vs.toArray n } ∧ StrsAre vs xs
def StrList (h : Heap) (l : Addr) (xs : List Str) : Prop := ∃ vs, h.IsList l vs.toArray ∧ StrsAre vs xs
theorem StrList.keep {h h' : Heap} {l : Addr} {xs : List Str} (x : StrList h l xs) (k : ∀ b o, h.get? b = some o → h'.get? b = some o) : StrList h' l xs := let ⟨vs, a, b⟩ := x; ⟨vs, a.at fun o e => k _ o e, b⟩
theorem ListIs.at {h : Heap} {l : Addr} {o : Obj} {xs : List Str} (x : ListIs o xs) (ho : h.get? l = some o) : StrList h l xs := let ⟨vs, n, e, r⟩ := x; ⟨vs, ⟨o, ho, by rw [e], n, by rw [e]⟩, r⟩
def MadeList (s s' : Shared) (v : Value) (xs : List Str) : Prop := ∃ l o, v = .ref l ∧ s.heap.get? l = none ∧ s'.heap.get? l = some o ∧ ListIs o xs

def signsOf (x : Str) : List Str := x.cps.toList.map fun c => ⟨#[c]⟩
def rowOf (x : Str) (n : Nat) : List Str := signsOf x ++ List.replicate (n - x.length) (Str.ofString "")

theorem strsAre_append {vs us : List Value} {xs ys : List Str} (a : StrsAre vs xs) (b : StrsAre us ys) : StrsAre (vs ++ us) (xs ++ ys) := by
  induction a with
  | nil => exact b
  | cons y t _ ih => exact .cons y t ih
theorem strsAre_replicate (x : Str) (t : Tok) : ∀ n, StrsAre (List.replicate n (.str x t)) (List.replicate n x)
  | 0 => .nil
  | n + 1 => .cons x t (strsAre_replicate x t n)
theorem strsAre_len {vs : List Value} {xs : List Str} (a : StrsAre vs xs) : vs.length = xs.length := by
  induction a with
  | nil => rfl
  | cons y t _ ih => rw [List.length_cons, List.length_cons, ih]
theorem strsAre_get {vs : List Value} {xs : List Str} (a : StrsAre vs xs) : ∀ {i : Nat} {x : Str}, xs[i]? = some x → ∃ t, vs[i]? = some (.str x t) := by
  induction a with
  | nil => intro i x h; simp at h
  | cons y t _ ih =>
    intro i x h
    cases i with
    | zero => simp at h; subst h; exact ⟨t, rfl⟩
    | succ i => simpa using ih (by simpa using h)
theorem strsAre_inv {vs : List Value} {xs : List Str} (a : StrsAre vs xs) : ∀ {i : Nat} {v : Value}, vs[i]? = some v → ∃ x t, xs[i]? = some x ∧ v = .str x t := by
  induction a with
  | nil => intro i x h; simp at h
  | cons y t _ ih =>
    intro i x h
    cases i with
    | zero => simp at h; subst h; exact ⟨y, t, rfl, rfl⟩
    | succ i => simpa using ih (by simpa using h)
theorem strsAre_signs {x : Str} {acc : Array Value} (h : ItemsOf (SignAt x) acc x.cps.size) : StrsAre acc.toList (signsOf x) := by
  refine kdy_strs (by unfold signsOf; simpa using h.1) fun j v hj => ?_
  obtain ⟨c, u, hc, rfl⟩ := h.2 j v (by simpa using hj)
  exact ⟨⟨#[c]⟩, by unfold signsOf; rw [List.getElem?_map]; simp [hc], u, rfl⟩

theorem foldRep (v : Value) : ∀ (k : Nat) (z : Array Value), List.foldl (fun x1 x2 => x1 ++ x2) z (List.replicate k #[v]) = (z.toList ++ List.replicate k v).toArray
  | 0, z => by simp
  | k + 1, z => by
    rw [List.replicate_succ, List.foldl_cons, foldRep v k, List.replicate_succ]
    apply Array.ext'
    simp

section
variable {w : World} {mean : ExcName → Option Value} {mg mb : Str → Option Value} {A : Around} {s : Shared} {E : Value → Shared → Prop}

theorem row_spec {x : Str} {tx tn : Tok} {n : Nat} (G : Ground0 w mean mg mb s.heap) (hh : A.handled = none) (hroom : A.depth < recursionLimit) (hx : x.length ≤ n) (hn : n ≤ 1000) :
    wpAny (model PR w) A (call (.ref 256) [.str x tx, .int (n : Int) tn]) (fun v s' => MadeList s s' v (rowOf x n) ∧ Keeps s s') E s := by
  refine enter (binds := [(Str.ofString "text", .str x tx), (Str.ofString "size", .int (n : Int) tn)]) G.X G.T (by k_is) (by k_is) hroom (by exact BindsTo.of_eq rfl) (by exact locs rfl) ?_ (by rfl) (by rfl) (by rfl) (by decide)
  intro L h₁ F N
  have hxl : x.cps.size = x.length := rfl
  refine wpAny_execs_cons (wpAny_Return_some ?_)
  refine wpAny_BinOp ?_
  refine evN G F.keep (ng_list w) bb_list nn_list ?_
  refine cT1 ?_
  refine nameX_L F rfl ?_
  refine call_list_str (by exact hh) x tx ?_ (by rw [sizeLine_eq]; omega)
  intro h₂ tk₂ acc c hk₂ hS hacc
  dsimp only at hk₂ hS ⊢
  have F₂ := F.keeps hk₂
  have N₂ := newsAdd F N hk₂ (Heap.get?_none_of_le (Nat.le_refl _)) hS
  have hA := strsAre_signs hacc
  refine wpAny_BinOp ?_
  refine PyProof.Rows.List_ ?_
  refine aConst ?_
  refine Calls.Constant_str ?_
  refine aNil ?_
  refine newList_N F₂ N₂ fun h₃ F₃ N₃ => ?_
  dsimp only at N₃ ⊢
  refine wpAny_BinOp ?_
  refine nameX_L F₃ rfl ?_
  refine evN G F₃.keep (ng_len w) bb_len nn_len ?_
  refine cB1 ?_
  refine nameX_L F₃ rfl ?_
  refine PyProof.Rows.len_str (by omega) ?_
  refine sub_int ?_
  have ek : ((n : Int) - (x.length : Int)).toNat = n - x.length := by omega
  refine mul_list F₃ N₃ (N₃.get (.head _)) (by omega) (by omega) ?_ ?_
  · show 1 * ((n : Int) - (x.length : Int)).toNat ≤ 2 ^ 24
    omega
  intro h₄ F₄ N₄
  dsimp only at N₄ ⊢
  rw [ek] at N₄
  have eu : List.foldl (fun x1 x2 => x1 ++ x2) #[] (List.replicate (if ([Value.str (Str.ofString "") tk₂].toArray).isEmpty = true then 0 else n - x.length) [Value.str (Str.ofString "") tk₂].toArray) = (List.replicate (n - x.length) (Value.str (Str.ofString "") tk₂)).toArray := by
    rw [if_neg (by simp), foldRep]
    simp
  rw [eu] at N₄
  refine add_lists F₄ N₄ (vs := acc.toList) (ws := List.replicate (n - x.length) (Value.str (Str.ofString "") tk₂)) ?_ ?_ ?_ ?_
  · exact ⟨_, N₄.get (.tail _ (.tail _ (.head _))), rfl, c, by simp⟩
  · exact ⟨_, N₄.get (.head _), rfl, 0, rfl⟩
  · intro h₅ F₅ N₅
    dsimp only at N₅ ⊢
    exact ⟨⟨_, _, rfl, N₅.fresh (.head _), N₅.get (.head _), _, 0, rfl, strsAre_append hA (strsAre_replicate _ _ _)⟩, _, _, rfl, F₅.keep⟩
  · have := strsAre_len hA
    have e2 : (signsOf x).length = x.length := by unfold signsOf; rw [List.length_map]; exact hxl
    rw [List.length_replicate, sizeLine_eq]
    omega
end
section
variable {w : World} {A : Around} {s : Shared} {env : Env} {h₀ : Heap} {body : List Stmt} {Q : Flow → Shared → Prop} {m₀ : Str → Option Value} {news : List (Addr × Obj)}

/-- a for over a list of pairs of the base -/
theorem iterPairs {l : Addr} {n : Nat} {Ts : Nat → Addr} {v1 v2 : Nat → Value} {xk xv : Str} {pk pv pt : Pos} {x1 : Nat} (J : Nat → (Str → Option Value) → List (Addr × Obj) → Prop) (hh : A.handled = none) (F : Fr h₀ env.locals s.heap m₀) (N : News h₀ env.locals s.heap news)
    (hl : h₀.IsList l ((List.range n).map fun j => Value.ref (Ts j)).toArray) (ht : ∀ j, j < n → h₀.IsTuple (Ts j) #[v1 j, v2 j]) (hj : J 0 m₀ news)
    (turn : ∀ i m₁ news₁ h tk I io, i < n → (∀ p ∈ news₁, p.1 ≠ I) → J i m₁ news₁ → Fr h₀ env.locals h (fun y => if y = xv then some (v2 i) else if y = xk then some (v1 i) else m₁ y) → News h₀ env.locals h ((I, io) :: news₁) →
      wpAny (model PR w) A (execs body env) (Turned h₀ env.locals I io (J (i + 1)) s fun v s' => Q (.ret v) s') (fun _ _ => False) { s with heap := h, toks := tk })
    (done : ∀ m₁ news₁ h tk, J n m₁ news₁ → Fr h₀ env.locals h m₁ → News h₀ env.locals h news₁ → Q .next { s with heap := h, toks := tk })
    (hxk : env.kindOf xk = some .local) (hxv : env.kindOf xv = some .local) (hp : (env.scope.kind == .class || (env.scope.kind == .module && env.locals != env.globals)) = false) :
    wpAny (model PR w) A (pyIter (.ref l)) (fun it s₂ => codeAny (model PR w) A (.forLoop (.Tuple [.Name xk pk, .Name xv pv] x1 pt) it body [] env) (ForEnd w A env Q) s₂) (fun _ _ => False) s := by
  have hls : s.heap.IsList l _ := hl.at fun o e => F.keep _ o e
  have hts : ∀ j, j < n → s.heap.IsTuple (Ts j) #[v1 j, v2 j] := fun j q => (ht j q).at fun o e => F.keep _ o e
  refine wpAny_pyIter_list hls ?_
  obtain ⟨ol, hol, _⟩ := id hls
  have hne : l ≠ s.heap.objs.size := Nat.ne_of_lt (Heap.lt_size hol)
  have hsz : (((List.range n).map fun j => Value.ref (Ts j)).toArray).size = n := by simp
  have hIn := newsOff N
  have base : ∀ b, (∃ o, h₀.get? b = some o) → b = s.heap.objs.size ∨ KeptBy h₀ b J := fun b h => .inr (.inl h)
  refine loopM (s := { s with heap := s.heap.push _ }) J (KTurns.ofWalksU (WalksU.listOfTuples hh s.heap.objs.size l hne ((List.range n).map fun j => Value.ref (Ts j)).toArray Ts (fun j => #[v1 j, v2 j]) (fun j hj => by simp at hj ⊢; exact ⟨j, by simp [hj], rfl⟩)
      (fun j hj => by obtain ⟨o, ho, _⟩ := hts j (hsz ▸ hj); exact Nat.ne_of_lt (Heap.lt_size ho)))) (by simp) ?_ (next_is_new F) (Nat.ne_of_gt F.ns.lt) hIn (by simp)
    ⟨⟨_, Heap.get?_push_size _ rfl, rfl, rfl⟩, hls.at fun o e => Heap.get?_push_of_some _ e, fun k hk => (hts k (hsz ▸ hk)).at fun o e => Heap.get?_push_of_some _ e⟩ ⟨_, Heap.get?_push_size _ rfl⟩ (F.push _) (newsPush N _) hj (fun i h st => let ⟨⟨o, ho, _⟩, _⟩ := st; ⟨_, ho⟩)
    (fun i v m₁ news₁ h tk io hi hP ha hJ F₁ N₁ => ?_) (fun m₁ news₁ h tk hJ => done m₁ news₁ h tk (hsz ▸ hJ))
  · intro b hb
    rcases List.mem_cons.mp hb with rfl | hb
    · exact .inl rfl
    rcases List.mem_cons.mp hb with rfl | hb
    · obtain ⟨o, ho, _⟩ := hl; exact base _ ⟨o, ho⟩
    obtain ⟨j, hj, rfl⟩ := List.mem_map.mp hb
    obtain ⟨o, ho, _⟩ := ht j (hsz ▸ List.mem_range.mp hj)
    exact base _ ⟨o, ho⟩
  obtain ⟨T, vals, rfl, rfl, hT⟩ := hP
  refine wpAny_assign_Tuple hh hT rfl rfl fun h₃ hx₃ => ?_
  have hx₃' : Heap.ExtBut h.objs.size h h₃ := hx₃
  have old₃ : ∀ b o, h.get? b = some o → h₃.get? b = some o := fun b o e => hx₃' b o (Nat.ne_of_lt (Heap.lt_size e)) e
  have F₃ := F₁.keeps old₃
  have N₃ := N₁.grown old₃
  show wpAny _ _ (do holding [_] (assign (.Name xk pk) env _); do holding [] (assign (.Name xv pv) env _); pure ()) _ _ _
  refine wpAny_bind (wpAny_holding (wpAny_assign_Name (wpAny_storeName_local hxk F₃.ns (fun h₄ hn₄ hs₄ => ?_) hp)))
  refine wpAny_bind (wpAny_holding (wpAny_assign_Name (wpAny_storeName_local hxv hn₄ (fun h₅ hn₅ hs₅ => wpAny_pure ?_) hp)))
  exact turn i m₁ news₁ h₅ _ _ io (hsz ▸ hi) ha hJ ((F₃.set hn₄ hs₄).set hn₅ hs₅) ((N₃.set hs₄).set hs₅)
end

/-- an object of TupleComp over the places 0 .. n - 1 -/
def RuleAt (h : Heap) (ob : Addr) (n : Nat) : Prop :=
  ∃ dx k hsh t cl, ∃ (Ts : Nat → Addr) (t1 t2 : Nat → Tok), h.get? ob = some (instObj 62 dx) ∧ h.get? dx = some (W.dictOf [⟨hsh, .str (Str.ofString "comp_select_list") t, .ref cl⟩] k) ∧
    h.IsList cl ((List.range n).map fun j => Value.ref (Ts j)).toArray ∧ ∀ j, j < n → h.IsTuple (Ts j) #[.int (j : Int) (t1 j), .int 1 (t2 j)]
theorem RuleAt.keep {h h' : Heap} {ob : Addr} {n : Nat} (x : RuleAt h ob n) (k : ∀ b o, h.get? b = some o → h'.get? b = some o) : RuleAt h' ob n := by
  obtain ⟨dx, kk, hsh, t, cl, Ts, t1, t2, h1, h2, h3, h4⟩ := x
  exact ⟨dx, kk, hsh, t, cl, Ts, t1, t2, k _ _ h1, k _ _ h2, h3.at fun o e => k _ o e, fun j hj => (h4 j hj).at fun o e => k _ o e⟩

def cmpRows : List Str → List Str → Int
  | x :: xs, y :: ys => if x.cps.toList < y.cps.toList then -1 else if y.cps.toList < x.cps.toList then 1 else cmpRows xs ys
  | _, _ => 0

section
variable (w : World)
theorem pg_62 : plainGet (hd.heap_39 w.params) 62 (Str.ofString "comp_select_list") = true := by k_is
theorem pm_62 : plainGet (hd.heap_39 w.params) 62 (Str.ofString "compare") = true := by k_is
theorem hd_62 : hasDictIn (hd.heap_39 w.params) 62 = true := by k_is
theorem fi_62 : findIn (hd.heap_39 w.params) (.ref 62) (Str.ofString "comp_select_list") = some none := by k_is
theorem fm_62 : findIn (hd.heap_39 w.params) (.ref 62) (Str.ofString "compare") = some (some (.ref 59)) := by k_is
theorem ng_62 : noGet (hd.heap_39 w.params) none = true := by k_is
theorem if_59 : isFn (hd.heap_39 w.params) (.ref 59) = true := by k_is
theorem ki_59 : keepIn (hd.heap_39 w.params) (.ref 59) = true := by k_is
end

section
variable {w : World} {mean : ExcName → Option Value} {mg mb : Str → Option Value} {A : Around} {s : Shared} {E : Value → Shared → Prop}

theorem compare_spec {ob l r : Addr} {n : Nat} {xs ys : List Str} (G : Ground0 w mean mg mb s.heap) (hh : A.handled = none) (hroom : A.depth < recursionLimit) (R : RuleAt s.heap ob n) (hl : StrList s.heap l xs) (hr : StrList s.heap r ys)
    (hx : xs.length = n) (hy : ys.length = n) (hn : n ≤ 1000) :
    wpAny (model PR w) A (call (.ref 59) [.ref ob, .ref l, .ref r]) (fun v s' => (∃ t, v = .int (cmpRows xs ys) t) ∧ Keeps s s') E s := by
  obtain ⟨dx, kk, hsh, tt, cl, Ts, t1, t2, h1, h2, h3, h4⟩ := R
  obtain ⟨vl, hlv, hls⟩ := hl
  obtain ⟨vr, hrv, hrs⟩ := hr
  refine enter (binds := [(Str.ofString "self", .ref ob), (Str.ofString "left", .ref l), (Str.ofString "right", .ref r)]) G.X G.T (by k_is) (by k_is) hroom (by exact BindsTo.of_eq rfl) (by exact locs rfl) ?_ (by rfl) (by rfl) (by rfl) (by decide)
  intro L h₁ F N
  refine wpAny_execs_cons ?_
  refine forM ?_ (fun _ => rfl)
  refine PyProof.Rows.Attribute_Name_ ?_
  refine nameX_L F rfl ?_
  refine get_own F G.X ⟨F.keep _ _ h1, rfl, rfl, F.keep _ _ h2⟩ (pg_62 w) (hd_62 w) (fi_62 w) (ng_62 w) rfl rfl ?_
  dsimp only
  refine iterPairs (w := w) (Ts := Ts) (fun i m nw => nw = [] ∧ m (Str.ofString "left") = some (.ref l) ∧ m (Str.ofString "right") = some (.ref r) ∧ cmpRows xs ys = cmpRows (xs.drop i) (ys.drop i)) hh F N h3 h4 ⟨rfl, rfl, rfl, rfl⟩ ?_ ?_ rfl rfl rfl
  · rintro i m₁ news₁ h tk I io hi ha ⟨rfl, hml, hmr, hcmp⟩ F₂ N₂
    obtain ⟨x, hxi⟩ : ∃ x, xs[i]? = some x := ⟨xs[i]'(by omega), List.getElem?_eq_getElem (by omega)⟩
    obtain ⟨y, hyi⟩ : ∃ y, ys[i]? = some y := ⟨ys[i]'(by omega), List.getElem?_eq_getElem (by omega)⟩
    obtain ⟨tx, hvx⟩ := strsAre_get hls hxi
    obtain ⟨ty, hvy⟩ := strsAre_get hrs hyi
    have ex : xs.drop i = x :: xs.drop (i + 1) := by
      obtain ⟨hlt, e⟩ := List.getElem?_eq_some_iff.mp hxi
      rw [List.drop_eq_getElem_cons hlt, e]
    have ey : ys.drop i = y :: ys.drop (i + 1) := by
      obtain ⟨hlt, e⟩ := List.getElem?_eq_some_iff.mp hyi
      rw [List.drop_eq_getElem_cons hlt, e]
    rw [ex, ey] at hcmp
    simp only [cmpRows] at hcmp
    refine wpAny_execs_cons ?_
    refine wpAny_Assign_Name ?_ ?hs
    case hs => exact swapsSub
    refine PyProof.Rows.Subscript_ ?_
    refine nameX_L F₂ hml ?_
    refine nameX_L F₂ rfl ?_
    refine item_listL (hlv.at fun o e => F₂.keep _ o e) (by omega) (by omega) (by simpa using hvx) ?_
    refine storeX_L F₂ N₂ fun h₃ F₃ N₃ => ?_
    dsimp only
    refine wpAny_execs_cons ?_
    refine wpAny_Assign_Name ?_ ?hs
    case hs => exact swapsSub
    refine PyProof.Rows.Subscript_ ?_
    refine nameX_L F₃ hmr ?_
    refine nameX_L F₃ rfl ?_
    refine item_listL (hrv.at fun o e => F₃.keep _ o e) (by omega) (by omega) (by simpa using hvy) ?_
    refine storeX_L F₃ N₃ fun h₄ F₄ N₄ => ?_
    dsimp only
    refine wpAny_execs_cons ?_
    refine wpAny_If ?_
    refine wpAny_isTrue_Compare1 ?_ rfl
    refine nameX_L F₄ rfl ?_
    refine nameX_L F₄ rfl ?_
    refine PyProof.Rows.lt_str ?_
    refine wpAny_truthy_bool ?_
    by_cases c1 : x.cps.toList < y.cps.toList
    · rw [if_pos c1] at hcmp
      rw [decide_eq_true c1, if_pos rfl]
      refine wpAny_execs_cons (wpAny_Return_some ?_)
      refine PyProof.Rows.UnaryOp_ ?_
      refine nameX_L F₄ rfl ?_
      refine PyProof.Rows.neg_int ?_
      exact ⟨⟨_, by rw [hcmp]⟩, _, _, rfl, F₄.keep⟩
    rw [if_neg c1] at hcmp
    rw [decide_eq_false c1, if_neg (by decide)]
    refine wpAny_execs_nil ?_
    dsimp only
    refine wpAny_execs_cons ?_
    refine wpAny_If ?_
    refine wpAny_isTrue_Compare1 ?_ rfl
    refine nameX_L F₄ rfl ?_
    refine nameX_L F₄ rfl ?_
    refine PySem.P.gt_str ?_
    refine wpAny_truthy_bool ?_
    by_cases c2 : y.cps.toList < x.cps.toList
    · rw [if_pos c2] at hcmp
      rw [decide_eq_true c2, if_pos rfl]
      refine wpAny_execs_cons (wpAny_Return_some ?_)
      refine nameX_L F₄ rfl ?_
      exact ⟨⟨_, by rw [hcmp]⟩, _, _, rfl, F₄.keep⟩
    rw [if_neg c2] at hcmp
    rw [decide_eq_false c2, if_neg (by decide)]
    refine wpAny_execs_nil ?_
    dsimp only
    refine wpAny_execs_nil ?_
    exact ⟨_, _, _, _, [], rfl, F₄, N₄, fun p hp => (by cases hp), .head _, fun p hp => (by cases hp), rfl, hml, hmr, hcmp⟩
  · rintro m₁ news₁ h tk ⟨rfl, hml, hmr, hcmp⟩ F₂ N₂
    refine wpAny_execs_cons (wpAny_Return_some ?_)
    refine wpAny_Constant_int ?_
    rw [← hx, List.drop_length] at hcmp
    exact ⟨⟨_, by rw [hcmp]; rfl⟩, _, _, rfl, F₂.keep⟩
end
def wordsN (al : List Nat) : Nat → List (List Nat)
  | 0 => [[]]
  | n + 1 => (wordsN al n).flatMap fun l => al.map fun c => c :: l
theorem mem_wordsN {al : List Nat} : ∀ {n : Nat} {l : List Nat}, l.length = n → (∀ c ∈ l, c ∈ al) → l ∈ wordsN al n
  | 0, l, h, _ => by rw [List.length_eq_zero_iff.mp h]; exact .head _
  | n + 1, [], h, _ => by cases h
  | n + 1, c :: l, h, ha => List.mem_flatMap.mpr ⟨l, mem_wordsN (by simpa using h) (fun c hc => ha c (.tail _ hc)), List.mem_map.mpr ⟨c, ha c (.head _), rfl⟩⟩
def wordsTo (al : List Nat) (n : Nat) : List (List Nat) := (List.range (n + 1)).flatMap (wordsN al)
theorem mem_wordsTo {al : List Nat} {n : Nat} {l : List Nat} (h : l.length ≤ n) (ha : ∀ c ∈ l, c ∈ al) : l ∈ wordsTo al n :=
  List.mem_flatMap.mpr ⟨l.length, List.mem_range.mpr (by omega), mem_wordsN rfl ha⟩
abbrev abc : List Nat := [97, 98, 99]
def IsAbc (x : Str) : Prop := x.cps.toList ∈ wordsTo abc 5

theorem dots_split : ∀ l ∈ wordsTo abc 5, Txt.split (Str.ofString "..." ++ ⟨l.toArray⟩) (Str.ofString "...") = [Str.ofString "", ⟨l.toArray⟩] := by decide +kernel
theorem dots_in : ∀ l ∈ wordsTo abc 5, Txt.contains (Str.ofString "..." ++ ⟨l.toArray⟩) (Str.ofString "...") = true := by decide +kernel
theorem find_nil : ∀ l ∈ wordsTo abc 5, ∀ e ∈ List.range 6, Builtin.Str.occurrences ⟨l.toArray⟩ (Str.ofString "") 0 e 1 = [0] := by decide +kernel
section
variable {prog : Program} {w : World} {A : Around} {E : Value → Shared → Prop} {s : Shared} {x y : Str} {t u v r : Tok} {i j : Int} {Q : Value → Shared → Prop}
theorem gives_find4 (x y : Str) (i j : Int) (t u v r : Tok) : Gives (Builtin.«str.find» ⟨[.str x t, .str y u, .int i v, .int j r], []⟩) (.int (match Builtin.Str.occurrences x y (fromIndex x.length i) (min (fromIndex x.length j) x.length) 1 with | k :: _ => (k : Int) | [] => -1)) := by
  show Gives (match Builtin.Str.occurrences x y (fromIndex x.length i) (min (fromIndex x.length j) x.length) 1 with | k :: _ => retInt k | [] => (do rule "str.find.not-found"; retInt (-1))) _
  cases Builtin.Str.occurrences x y (fromIndex x.length i) (min (fromIndex x.length j) x.length) 1 with
  | nil => exact .rule (.of_eq rfl)
  | cons k _ => exact .of_eq rfl
theorem args_find4 (a b c d : Value) : argsOk "str.find" ⟨[a, b, c, d], []⟩ := by unfold argsOk; kernel_rfl
theorem find4 (hq : Q (.int (match Builtin.Str.occurrences x y (fromIndex x.length i) (min (fromIndex x.length j) x.length) 1 with | k :: _ => (k : Int) | [] => -1) s.toks) { s with toks := s.toks + 1 }) :
    wpAny (model prog w) A (call (.builtin "str.find") [.str x t, .str y u, .int i v, .int j r]) Q E s :=
  call_gives F.slot_str_find (typeIs_str _ _ _) F.entry_str_find (args_find4 _ _ _ _) (gives_find4 x y i j t u v r) hq
end

theorem kg_dots (w : World) : nsIn (hd.heap_39 w.params) mainGlobals (Str.ofString "ELLIPSIS_MARKER") = some (some (.str (Str.ofString "...") 373)) := by k_is

section
variable {w : World} {mean : ExcName → Option Value} {mg mb : Str → Option Value} {A : Around} {s : Shared} {E : Value → Shared → Prop}

theorem ellipsis_spec {x z : Str} {tx tz : Tok} (G : Ground0 w mean mg mb s.heap) (hh : A.handled = none) (hroom : A.depth < recursionLimit) (hx : IsAbc x) (hne : x.length ≠ 0) (hxl : x.length ≤ 5) (hz : IsAbc z) (hzl : z.length ≤ 5) :
    wpAny (model PR w) A (call (.ref 94) [.str (Str.ofString "..." ++ x) tx, .str z tz]) (fun v s' => v = .bool (Txt.endswith z x) ∧ Keeps s s') E s := by
  have e1 : Txt.split (Str.ofString "..." ++ x) (Str.ofString "...") = [Str.ofString "", x] := dots_split _ hx
  have e2 : Txt.contains (Str.ofString "..." ++ x) (Str.ofString "...") = true := dots_in _ hx
  have hxx : (Str.ofString "..." ++ x).length ≤ 8 := by rw [Str.length_append]; show 3 + x.length ≤ 8; omega
  refine enter (binds := [(Str.ofString "want", .str (Str.ofString "..." ++ x) tx), (Str.ofString "got", .str z tz)]) G.X G.T (by k_is) (by k_is) hroom (by exact BindsTo.of_eq rfl) (by exact locs rfl) ?_ (by rfl) (by rfl) (by rfl) (by decide)
  intro L h₁ F N
  refine wpAny_execs_cons ?_
  refine wpAny_If ?_
  refine wpAny_isTrue_Compare1 ?_ rfl
  refine gK G F.keep (kg_dots w) ?_
  refine nameX_L F rfl ?_
  refine SB.notContains ?_
  refine wpAny_truthy_bool ?_
  rw [e2, if_neg (by decide)]
  refine wpAny_execs_nil ?_
  dsimp only
  refine wpAny_execs_cons ?_
  refine wpAny_Assign_Name ?_ ?hs
  case hs => exact swapsCall
  refine PyProof.Rows.MethodCall_ ?_
  refine nameX_L F rfl ?_
  refine GM.split ?_
  refine callWith_method1 ?_ rfl rfl
  refine aName ?_
  refine gK G F.keep (kg_dots w) ?_
  refine aNil ?_
  refine splitN1 F N rfl ?_ (by rw [sizeLine_eq]; omega)
  intro l h₂ tk₂ hl F₂ N₂
  rw [e1] at hl
  obtain ⟨t1, t2, rfl⟩ : ∃ t1 t2, l = [(Str.ofString "", t1), (x, t2)] := by
    match l, hl with
    | [(a, t1), (b, t2)], hl => simp at hl; exact ⟨t1, t2, by rw [hl.1, hl.2]⟩
  dsimp only at N₂ ⊢
  generalize hW : h₁.objs.size = W at *
  refine storeX_L F₂ N₂ fun h₃ F₃ N₃ => ?_
  dsimp only
  refine wpAny_execs_cons ?_
  refine wpAny_Assert_holds ?_
  refine wpAny_isTrue_Compare1 ?_ rfl
  refine evN G F₃.keep (ng_len w) bb_len nn_len ?_
  refine cB1 ?_
  refine nameX_L F₃ rfl ?_
  refine Calls.call_len_list (items := (strValues [(Str.ofString "", t1), (x, t2)]).toArray) ⟨_, N₃.get (.head _), rfl, 0, rfl⟩ (by show (2 : Int) < 2 ^ 63; decide) ?_
  refine wpAny_Constant_int ?_
  refine PyProof.Rows.ge_int ?_
  refine wpAny_truthy_bool ⟨rfl, ?_⟩
  dsimp only
  refine wpAny_execs_cons ?_
  refine Assign_Tuple_swapped (names := [Str.ofString "startpos", Str.ofString "endpos"]) ?_ rfl rfl
  refine PyProof.Rows.Tuple_ ?_
  refine aConst ?_
  refine wpAny_Constant_int ?_
  refine aCall ?_
  refine evN G F₃.keep (ng_len w) bb_len nn_len ?_
  refine cB1 ?_
  refine nameX_L F₃ rfl ?_
  refine PyProof.Rows.len_str (by omega) ?_
  refine aNil ?_
  refine newTuple_N F₃ N₃ fun h₄ F₄ N₄ => ?_
  dsimp only at N₄ ⊢
  refine unpackItemsN_ F₄ N₄ ⟨_, N₄.get (.head _), rfl, 0, rfl⟩ (by exact hh) rfl ?_
  intro h₅ F₅ N₅
  have N₅' : News s.heap L h₅ [(W, _)] := fun p hp => N₅ p (.tail _ hp)
  dsimp only
  show wpAny _ _ (do holding [_] (bindName _ (Str.ofString "endpos") (.int z.length _)); do holding [] (bindName _ (Str.ofString "startpos") (.int 0 _)); pure ()) _ _ _
  refine wpAny_bind (wpAny_holding (wpAny_bindName ?_))
  refine storeX_L F₅ N₅' fun h₆ F₆ N₆ => ?_
  refine wpAny_bind (wpAny_holding (wpAny_bindName ?_))
  refine storeX_L F₆ N₆ fun h₇ F₇ N₇ => ?_
  refine wpAny_pure ?_
  dsimp only
  -- w = ws[0]
  refine wpAny_execs_cons ?_
  refine wpAny_Assign_Name ?_ ?hs
  case hs => exact swapsSub
  refine PyProof.Rows.Subscript_ ?_
  refine nameX_L F₇ rfl ?_
  refine wpAny_Constant_int ?_
  refine item_listL (l := strValues [(Str.ofString "", t1), (x, t2)]) ⟨_, N₇.get (.head _), rfl, 0, rfl⟩ (by decide) (by decide) rfl ?_
  refine storeX_L F₇ N₇ fun h₈ F₈ N₈ => ?_
  dsimp only
  -- if w
  refine wpAny_execs_cons ?_
  refine wpAny_If ?_
  refine isTrue_plain ?_ rfl
  refine nameX_L F₈ rfl ?_
  refine SBL.truthy (by show ((Str.ofString "").length : Int) < _; decide) ?_
  rw [show (((Str.ofString "").length : Int) != 0) = false from by decide, if_neg (by decide)]
  refine wpAny_execs_nil ?_
  dsimp only
  -- w = ws[-1]
  refine wpAny_execs_cons ?_
  refine wpAny_Assign_Name ?_ ?hs
  case hs => exact swapsSub
  refine PyProof.Rows.Subscript_ ?_
  refine nameX_L F₈ rfl ?_
  refine PyProof.Rows.UnaryOp_ ?_
  refine wpAny_Constant_int ?_
  refine PyProof.Rows.neg_int ?_
  have hLs : h₈.IsList W (strValues [(Str.ofString "", t1), (x, t2)]).toArray := ⟨_, N₈.get (.head _), rfl, 0, rfl⟩
  refine subscriptTail_builtin (T := "list") (by exact hLs.typeIs) slot_list_getitem.lookup ?_
  refine wpAny_getItem_list_neg hLs (by decide) (by show -(2 : Int) ≤ -1; decide) (by decide) (x := .str x t2) rfl ?_
  refine storeX_L F₈ N₈ fun h₉ F₉ N₉ => ?_
  dsimp only
  -- if w
  refine wpAny_execs_cons ?_
  refine wpAny_If ?_
  refine isTrue_plain ?_ rfl
  refine nameX_L F₉ rfl ?_
  refine SBL.truthy (by omega) ?_
  rw [show ((x.length : Int) != 0) = true from by simp; omega, if_pos rfl]
  refine wpAny_execs_cons ?_
  refine wpAny_If ?_
  refine isTrue_plain ?_ rfl
  refine PyProof.Rows.MethodCall_ ?_
  refine nameX_L F₉ rfl ?_
  refine GM.endswith ?_
  refine callWith_method1 ?_ rfl rfl
  refine aName ?_
  refine nameX_L F₉ rfl ?_
  refine aNil ?_
  refine SC.endswith ?_
  refine wpAny_truthy_bool ?_
  by_cases he : Txt.endswith z x = true
  · rw [he, if_pos rfl]
    have hle : x.length ≤ z.length := by
      unfold Txt.endswith at he
      simp at he
      exact he.1
    refine wpAny_execs_cons ?_
    refine wpAny_AugAssign_Name ?_
    refine ldn F₉ rfl ?_
    refine evN G F₉.keep (ng_len w) bb_len nn_len ?_
    refine cB1 ?_
    refine nameX_L F₉ rfl ?_
    refine PyProof.Rows.len_str (by omega) ?_
    refine isub_int ?_
    refine storeX_L F₉ N₉ fun hA FA NA => ?_
    dsimp only
    refine wpAny_execs_cons ?_
    refine wpAny_Delete ?_
    refine wpAny_deleteEach_cons ?_
    refine wpAny_delete_Subscript ?_
    refine nameX_L FA rfl ?_
    refine PyProof.Rows.UnaryOp_ ?_
    refine wpAny_Constant_int ?_
    refine PyProof.Rows.neg_int ?_
    have hW1 := NA (W, _) (.head _)
    refine wpAny_delItem_plain (items := (strValues [(Str.ofString "", t1), (x, t2)]).toArray) (k := 1) ⟨0, hW1.1⟩ rfl rfl ?_ (by rw [sizeLine_eq]; show 2 ≤ _; omega)
    intro hB hPB hsB
    obtain ⟨nB, hgB⟩ := hPB
    rw [show (strValues [(Str.ofString "", t1), (x, t2)]).toArray.eraseIdxIfInBounds 1 = (strValues [(Str.ofString "", t1)]).toArray from by simp [strValues, Array.eraseIdxIfInBounds]] at hgB
    have FB := FA.change hsB hW1.2.1 hW1.2.2
    have NB : News s.heap L hB [(W, { cls := .type "list", data := .seq (strValues [(Str.ofString "", t1)]).toArray nB })] := by
      intro p hp
      rw [List.mem_singleton.mp hp]
      exact ⟨hgB, hW1.2⟩
    refine wpAny_deleteEach_nil ?_
    dsimp only
    refine wpAny_execs_nil ?_
    dsimp only
    refine wpAny_execs_nil ?_
    dsimp only
    -- if startpos > endpos
    refine wpAny_execs_cons ?_
    refine wpAny_If ?_
    refine wpAny_isTrue_Compare1 ?_ rfl
    refine nameX_L FB rfl ?_
    refine nameX_L FB rfl ?_
    refine PyProof.Rows.gt_int ?_
    refine wpAny_truthy_bool ?_
    rw [decide_eq_false (by omega), if_neg (by decide)]
    refine wpAny_execs_nil ?_
    dsimp only
    -- the loop
    refine wpAny_execs_cons ?_
    refine forM ?_ (fun _ => rfl)
    refine nameX_L FB rfl ?_
    refine iterList (w := w) (vs := strValues [(Str.ofString "", t1)]) (fun i m n => n = [(W, { cls := .type "list", data := .seq (strValues [(Str.ofString "", t1)]).toArray nB })] ∧ m (Str.ofString "got") = some (.str z tz) ∧ (∃ t, m (Str.ofString "startpos") = some (.int 0 t)) ∧ (∃ t, m (Str.ofString "endpos") = some (.int ((z.length : Int) - (x.length : Int)) t)))
      hh FB NB ⟨_, hgB, rfl, nB, rfl⟩ (.inr ⟨{ cls := .type "list", data := .seq (strValues [(Str.ofString "", t1)]).toArray nB }, ?_⟩) ⟨rfl, rfl, ⟨_, rfl⟩, ⟨_, rfl⟩⟩ ?_ ?_ rfl rfl
    · rintro i m n ⟨rfl, _⟩
      exact .head _
    · rintro i v m₁ news₁ h tk I io hv ha ⟨rfl, hm1, ⟨ts, hm2⟩, ⟨te, hm3⟩⟩ FC NC
      obtain rfl : v = .str (Str.ofString "") t1 := by
        match i, hv with
        | 0, hv => simpa [strValues] using hv.symm
      refine wpAny_execs_cons ?_
      refine wpAny_Assign_Name ?_ ?hs
      case hs => exact swapsCall
      refine PyProof.Rows.MethodCall_ ?_
      refine nameX_L FC hm1 ?_
      refine GM.find ?_
      refine callWith_method1 ?_ rfl rfl
      refine aName ?_
      refine nameX_L FC rfl ?_
      refine aName ?_
      refine nameX_L FC hm2 ?_
      refine aName ?_
      refine nameX_L FC hm3 ?_
      refine aNil ?_
      refine find4 ?_
      have ef : Builtin.Str.occurrences z (Str.ofString "") (fromIndex z.length 0) (min (fromIndex z.length ((z.length : Int) - (x.length : Int))) z.length) 1 = [0] := by
        have e0 : fromIndex z.length 0 = 0 := rfl
        have e3 : fromIndex z.length ((z.length : Int) - (x.length : Int)) = z.length - x.length := by unfold fromIndex; rw [if_neg (by omega)]; omega
        rw [e0, e3]
        exact find_nil _ hz _ (List.mem_range.mpr (by omega))
      rw [ef]
      refine storeX_L FC NC fun hD FD ND => ?_
      dsimp only
      refine wpAny_execs_cons ?_
      refine wpAny_If ?_
      refine wpAny_isTrue_Compare1 ?_ rfl
      refine nameX_L FD rfl ?_
      refine wpAny_Constant_int ?_
      refine PyProof.Rows.lt_int ?_
      refine wpAny_truthy_bool ?_
      rw [decide_eq_false (by decide), if_neg (by decide)]
      refine wpAny_execs_nil ?_
      dsimp only
      refine wpAny_execs_cons ?_
      refine wpAny_AugAssign_Name ?_
      refine ldn FD rfl ?_
      refine evN G FD.keep (ng_len w) bb_len nn_len ?_
      refine cB1 ?_
      refine nameX_L FD rfl ?_
      refine PyProof.Rows.len_str (by show ¬ ((Str.ofString "").length : Int) ≥ _; decide) ?_
      refine iadd_int ?_
      refine storeX_L FD ND fun hE FE NE => ?_
      dsimp only
      refine wpAny_execs_nil ?_
      exact ⟨_, _, _, _, _, rfl, FE, NE, fun p hp => .tail _ hp, .head _, ha, rfl, hm1, ⟨_, rfl⟩, ⟨_, hm3⟩⟩
    · rintro m₁ news₁ h tk ⟨rfl, hm1, _, _⟩ FC NC
      refine wpAny_execs_cons (wpAny_Return_some ?_)
      refine PyProof.Rows.Constant_bool ?_
      exact ⟨rfl, _, _, rfl, FC.keep⟩
  · rw [Bool.not_eq_true] at he
    rw [he, if_neg (by decide)]
    refine wpAny_execs_cons (wpAny_Return_some ?_)
    refine PyProof.Rows.Constant_bool ?_
    exact ⟨rfl, _, _, rfl, F₉.keep⟩
end
section
variable {w : World} {mean : ExcName → Option Value} {mg mb : Str → Option Value} {A : Around} {s : Shared} {R : Result → Shared → Prop}

/-- into a def that may change what the ledger holds -/
theorem enterH {h₀ : Heap} {L₀ : Addr} {m₀ : Str → Option Value} {own : List (Addr × Obj)} {f : Addr} {args : Args} {name qual : Str} {params : Arguments} {body : List Stmt} {scope : Scope} {dV kV doc pm cdv ct oc : Value} {an od : Option Addr} {osl : Array (Option Value)} {binds : List (Str × Value)}
    (G : Ground0 w mean mg mb h₀) (F : Fr h₀ L₀ s.heap m₀) (N : News h₀ L₀ s.heap own)
    (ho : (hd.heap_39 w.params).lookup f = some ⟨oc, od, .func (fnOf name qual params body scope dV kV doc pm an cdv ct), osl⟩) (hcd : codeIn (hd.heap_39 w.params) cdv qual = true) (hroom : A.depth < recursionLimit)
    (hbind : BindsTo s (fnOf name qual params body scope dV kV doc pm an cdv ct) args binds) (hloc : ∀ y ∈ binds, scope.names.lookup y.1 = some .local)
    (h : ∀ g L h₁, Ground0 w mean mg mb g → (∀ b o, h₀.get? b = some o → g.get? b = some o) → Fr g L h₁ (fun y => binds.reverse.lookup y) → News g L h₁ own →
      wpAny (model PR w) (A.deeper (envOf qual scope L f cdv)) (execs body (envOf qual scope L f cdv))
        (fun fl s' => ∃ m' own', Fr g L s'.heap m' ∧ News g L s'.heap own' ∧ (Fr h₀ L₀ s'.heap m₀ → News h₀ L₀ s'.heap own' → R (.ok (.ret (back fl))) s')) (fun _ _ => False) { s with heap := h₁, toks := s.toks + binds.length })
    (hco : scope.isCoroutine = false) (hgen : scope.isGenerator = false) (hk : scope.kind = .function) (hcell : ∀ x ∈ scope.names, x.2 ≠ .cell) :
    codeAny (model PR w) A (.call (.ref f) args) R s := by
  have nm : ∀ b o, h₀.get? b = some o → b ∉ own.map (·.1) := fun b o e q => by
    obtain ⟨p, hp, rfl⟩ := List.mem_map.mp q
    rw [(N p hp).2.2] at e; cases e
  have st : ∀ b o, h₀.get? b = some o → (hideAll s.heap (own.map (·.1))).get? b = some o := fun b o e => hideAll_get _ (F.keep b o e) (nm b o e)
  obtain ⟨oL, es, ep, hL, hLd, hLk, hLf⟩ := id F.ns
  have nL : L₀ ∉ own.map (·.1) := fun q => by
    obtain ⟨p, hp, e⟩ := List.mem_map.mp q
    exact (N p hp).2.1 e
  have hLg := hideAll_get (own.map (·.1)) hL nL
  have Gs := G.keeps F.keep
  refine codeAny_call_def (fd := fnOf name qual params body scope dV kV doc pm an cdv ct) (body := body) (binds := binds) hroom (Gs.X _ _ ho) rfl Gs.T.nolimit (codeRec_of Gs.X hcd) rfl hbind hcell hloc (fun h₁ hns hk₁ => ?_) hco hgen hk
  refine wpAny_mono (h (hideAll s.heap (own.map (·.1))) s.heap.objs.size h₁ (G.keeps st) st ⟨hns, fun b o e => hk₁ b o (of_hideAll _ e), Nat.le_of_eq (hideAll_size _ _)⟩
    (fun p hp => ⟨hk₁ _ _ (N p hp).1, Nat.ne_of_lt (Heap.lt_size (N p hp).1), hideAll_none _ (List.mem_map_of_mem hp)⟩)) (fun fl s' hl => ?_) fun _ _ y => y.elim
  obtain ⟨m', own', F', N', k⟩ := hl
  refine k ⟨⟨oL, es, ep, F'.keep L₀ oL hLg, hLd, hLk, hLf⟩, fun b o e => F'.keep b o (st b o e), F.above⟩ fun p hp => ⟨(N' p hp).1, fun q => ?_, ?_⟩
  · have := (N' p hp).2.2; rw [q, hLg] at this; cases this
  · cases q : h₀.get? p.1 with
    | none => rfl
    | some o => have := (N' p hp).2.2; rw [st _ _ q] at this; cases this
end

section
variable (w : World)
theorem mk_62 : makesIn (hd.heap_39 w.params) 62 = true := by k_is
theorem in_62 : findIn (hd.heap_39 w.params) (.ref 62) (Str.ofString "__init__") = some (some (.ref 52)) := by k_is
theorem if_52 : isFn (hd.heap_39 w.params) (.ref 52) = true := by k_is
theorem sa_62 : findIn (hd.heap_39 w.params) (.ref 62) (Str.ofString "__setattr__") = some (some (.builtin "object.__setattr__")) := by k_is
theorem po_62 : plainOver (hd.heap_39 w.params) 62 = true := by k_is
theorem ti_62 : takerIn (hd.heap_39 w.params) 62 (Str.ofString "comp_select_list") = some none := by k_is
theorem ki_62 : keepIn (hd.heap_39 w.params) (.ref 62) = true := by k_is
end

section
variable {w : World} {mean : ExcName → Option Value} {mg mb : Str → Option Value} {A : Around} {s : Shared} {E Q : Value → Shared → Prop}

theorem tupleComp_call {h₀ : Heap} {L : Addr} {m : Str → Option Value} {news : List (Addr × Obj)} {cl : Addr} (G : Ground0 w mean mg mb h₀) (F : Fr h₀ L s.heap m) (N : News h₀ L s.heap news) (hroom : A.depth + 5 < recursionLimit)
    (h : ∀ x dx hsh t k h' tk, Fr h₀ L h' m → News h₀ L h' ((x, instObj 62 dx) :: (dx, W.dictOf [⟨hsh, .str (Str.ofString "comp_select_list") t, .ref cl⟩] k) :: news) → (∀ p ∈ news, p.1 < dx) → dx < x → Q (.ref x) { s with heap := h', toks := tk }) :
    wpAny (model PR w) A (call (.ref 62) [.ref cl]) Q E s := by
  refine call_cls F G.X N (mk_62 w) (in_62 w) (if_52 w) ?_
  intro x dx h₁ F₁ N₁ hlt hdx
  refine enterH (binds := [(Str.ofString "self", .ref x), (Str.ofString "comp_select_list", .ref cl)]) G F₁ N₁ (by k_is) (by k_is) (by show A.depth + 1 < _; omega) (by exact BindsTo.of_eq rfl) (by exact locs rfl) ?_ (by rfl) (by rfl) (by rfl) (by decide)
  intro g L' h₂ Gg _ F₂ N₂
  refine wpAny_execs_cons ?_
  refine plainObj_wpAny_Assign_Attribute ?_ ?hs
  case hs => exact swapsName
  refine nameX_L F₂ rfl ?_
  refine nameX_L F₂ rfl ?_
  refine set_dict (es := []) (n := 0) F₂ Gg.X N₂ ⟨N₂.get (.head _), rfl, rfl, N₂.get (.tail _ (.head _))⟩ rfl (sa_62 w) (po_62 w) (ti_62 w) (hd_62 w) rfl rfl (.tail (Nat.ne_of_gt hdx) (.head fun p hp => Nat.ne_of_lt (hlt p hp))) (Nat.le_of_ble_eq_true rfl) ?_
  intro h₃ F₃ N₃
  dsimp only
  refine wpAny_execs_nil ?_
  refine ⟨_, _, F₃, N₃, fun F₄ N₄ => ?_⟩
  exact ⟨rfl, h x dx _ _ _ h₃ _ F₄ N₄ hlt hdx⟩
end
abbrev tupO (j : Nat) (t1 t2 : Tok) : Obj := { cls := .type "tuple", data := .seq #[.int (j : Int) t1, .int 1 t2] }

section
variable {w : World} {A : Around} {env : Env}

/-- the loop of [(k, 1) for k in range(n)] -/
theorem ruleLoop {s : Shared} {R : Result → Shared → Prop} {iter : Expr} {px pk pc pt : Pos} {kc kt n : Nat} {scope : Scope} {pos : Pos} {I D : Addr} {cenv : Env} {m : Str → Option Value} (hh : A.handled = none)
    (hk : cenv.scope.kind = .function) (hx : cenv.kindOf (Str.ofString "k") = some .local) (hIC : I ≠ cenv.locals) (hDC : D < cenv.locals) (hID : I ≠ D) (hIlt : I < cenv.locals)
    (hst : IsRangeIter s.heap I 0 (n : Int) 1) (hacc : s.heap.PlainList D #[]) (hn : s.heap.Ns cenv.locals m) (hnn : n ≤ 1000)
    (hR : ∀ h' tk m' (es : List (Addr × Tok × Tok)), h'.Ns cenv.locals m' → es.length = n → h'.PlainList D (es.map fun e => Value.ref e.1).toArray → (∀ (j : Nat) (e : Addr × Tok × Tok), es[j]? = some e → h'.get? e.1 = some (tupO j e.2.1 e.2.2) ∧ cenv.locals < e.1) →
      (∀ b o, b ≠ cenv.locals → b ≠ I → b ≠ D → s.heap.get? b = some o → h'.get? b = some o) → R (.ok .next) { s with heap := h', toks := tk }) :
    codeAny (model PR w) A (.compLoop (.ListComp (.Tuple [.Name (Str.ofString "k") pk, .Constant (.int 1) kc pc] kt pt) [⟨.Name (Str.ofString "k") px, iter, [], 0⟩] scope pos) 0 (.ref I) (.ref D) cenv) R s := by
  have W := Walks.range (prog := PR) (w := w) hh I 0 1 n
  have hp : (cenv.scope.kind == .class || (cenv.scope.kind == .module && cenv.locals != cenv.globals)) = false := by rw [hk]; rfl
  refine codeAny_compLoop_tests
    (fun k s' => ∃ h' tk m', ∃ es : List (Addr × Tok × Tok), s' = { s with heap := h', toks := tk } ∧ IsRangeIter h' I (0 + (es.length : Nat) * 1) ((n : Int) - (es.length : Nat)) 1 ∧ h'.PlainList D (es.map fun e => Value.ref e.1).toArray ∧ h'.Ns cenv.locals m' ∧
      (∀ (j : Nat) (e : Addr × Tok × Tok), es[j]? = some e → h'.get? e.1 = some (tupO j e.2.1 e.2.2) ∧ cenv.locals < e.1) ∧ es.length ≤ n ∧ k = n + 1 - es.length ∧
      (∀ b o, b ≠ cenv.locals → b ≠ I → b ≠ D → s.heap.get? b = some o → h'.get? b = some o)) ?_ (n + 1)
    ⟨s.heap, s.toks, m, [], rfl, by simpa using hst, by simpa using hacc, hn, by simp, Nat.zero_le _, rfl, fun _ _ _ _ _ e => e⟩
  rintro k s' ⟨h', tk, m', es, rfl, hst', hacc', hn', hes, hle, rfl, hkeep⟩
  by_cases hlt : es.length < n
  · refine W.item es.length _ _ _ hlt hst' fun v h₁ tk₁ hv hst₁ hk₁ => ?_
    obtain ⟨tv, rfl⟩ := hv
    have k1 : ∀ b o, b ≠ I → h'.get? b = some o → h₁.get? b = some o := fun b o hb e => hk₁ b o (by simpa using hb) e
    refine wpAny_assign_Name (wpAny_storeName_local hx (hn'.at' fun o e => k1 _ o hIC.symm e) (fun h₂ hn₂ hs₂ => ?_) hp)
    have k2 : ∀ b o, b ≠ I → b ≠ cenv.locals → h'.get? b = some o → h₂.get? b = some o := fun b o hb hc e => hs₂.extBut b o hc (k1 b o hb e)
    refine wpAny_pure ?_
    rw [if_pos rfl]
    refine PyProof.Rows.Tuple_ ?_
    refine aName ?_
    refine wpAny_Name (wpAny_loadName_local hk hx hn₂ (by simp; rfl) ?_) (by decide)
    refine aConst ?_
    refine wpAny_Constant_int ?_
    refine aNil ?_
    refine wpAny_newObj_type ?_ (by show (2 : Nat) ≤ sizeLine; rw [sizeLine_eq]; omega)
    dsimp only
    generalize hT : h₂.objs.size = T
    have hTC : cenv.locals < T := hT ▸ hn₂.lt
    change wpAny _ _ _ _ _ { heap := h₂.push (tupO es.length tv (tk₁ + 1)), gens := s.gens, drawn := s.drawn, toks := tk₁ + 1 + 1, os := s.os }
    have hg3 : (h₂.push (tupO es.length tv (tk₁ + 1))).get? T = some (tupO es.length tv (tk₁ + 1)) := by rw [← hT]; exact Heap.get?_push_size _ rfl
    have k3 : ∀ b o, b ≠ I → b ≠ cenv.locals → h'.get? b = some o → (h₂.push (tupO es.length tv (tk₁ + 1))).get? b = some o := fun b o hb hc e => Heap.get?_push_of_some _ (k2 b o hb hc e)
    have hn3 : (h₂.push (tupO es.length tv (tk₁ + 1))).Ns cenv.locals _ := hn₂.push _
    have hit3 : IsRangeIter (h₂.push (tupO es.length tv (tk₁ + 1))) I (0 + ((es.length + 1 : Nat) : Int) * 1) ((n : Int) - ((es.length + 1 : Nat) : Int)) 1 := Heap.get?_push_of_some _ (hs₂.extBut _ _ hIC hst₁)
    generalize h₂.push (tupO es.length tv (tk₁ + 1)) = h₃ at hg3 k3 hn3 hit3
    have hDne : D ≠ cenv.locals := Nat.ne_of_lt hDC
    refine wpAny_list_append_plain (items := (es.map fun e => Value.ref e.1).toArray) (hacc'.at fun o e => k3 _ o hID.symm hDne e) (fun h₅ hl₅ hs₅ => ?_) (by rw [sizeLine_eq]; simp; omega)
    have k5 : ∀ b o, b ≠ D → h₃.get? b = some o → h₅.get? b = some o := fun b o hb e => hs₅.extBut b o hb e
    refine ⟨n + 1 - (es.length + 1), by omega, h₅, _, _, es ++ [(T, tv, tk₁ + 1)], rfl, ?_, ?_, hn3.sameBut hs₅ hDne.symm, ?_, by simp; omega, by simp, fun b o hbC hbI hbD e => k5 b o hbD (k3 b o hbI hbC (hkeep b o hbC hbI hbD e))⟩
    · have := k5 _ _ hID hit3
      simpa using this
    · simpa using hl₅
    · intro j e he
      rcases Nat.lt_or_ge j es.length with hj | hj
      · rw [List.getElem?_append_left hj] at he
        obtain ⟨q1, q2⟩ := hes j e he
        refine ⟨k5 _ _ (fun q => Nat.lt_irrefl _ (Nat.lt_trans hDC (q ▸ q2))) (k3 _ _ (fun q => Nat.lt_irrefl _ (Nat.lt_trans hIlt (q ▸ q2))) (Nat.ne_of_gt q2) q1), q2⟩
      · rw [List.getElem?_append_right hj] at he
        have hj0 : j - es.length = 0 := by
          cases hz : j - es.length with
          | zero => rfl
          | succ z => rw [hz] at he; simp at he
        rw [hj0] at he
        simp at he
        subst he
        have : j = es.length := by omega
        subst this
        exact ⟨k5 _ _ (fun q => Nat.lt_irrefl _ (Nat.lt_trans hDC (q ▸ hTC))) hg3, hTC⟩
  · have hin : es.length = n := by omega
    refine W.done _ _ _ (hin ▸ hst') fun h₁ tk₁ hk₁ => ?_
    have k1 : ∀ b o, b ≠ I → h'.get? b = some o → h₁.get? b = some o := fun b o hb e => hk₁ b o (by simpa using hb) e
    refine hR h₁ tk₁ m' es (hn'.at' fun o e => k1 _ o hIC.symm e) hin (hacc'.at fun o e => k1 _ o hID.symm e) (fun j e he => ?_) fun b o hbC hbI hbD e => k1 b o hbI (hkeep b o hbC hbI hbD e)
    exact ⟨k1 _ _ (fun q => Nat.lt_irrefl _ (Nat.lt_trans hIlt (q ▸ (hes j e he).2))) (hes j e he).1, (hes j e he).2⟩
end
/-- the objects of a rule, as a ledger -/
def RuleNews (ob : Addr) (n : Nat) (rn : List (Addr × Obj)) : Prop := ∀ h : Heap, (∀ p ∈ rn, h.get? p.1 = some p.2) → RuleAt h ob n

abbrev compScopeK : Scope := { kind := .function, names := [(Str.ofString ".0", .local), (Str.ofString "k", .local)], isGenerator := false, isCoroutine := false, more := [] }

section
variable {w : World} {mean : ExcName → Option Value} {mg mb : Str → Option Value} {A : Around} {s : Shared} {E Q : Value → Shared → Prop}

theorem ruleMake {h₀ : Heap} {L a : Addr} {m : Str → Option Value} {news : List (Addr × Obj)} {cn : Str} {cs : Scope} {ccd : Value} {cl : List (Str × Addr)} {c : Addr} {co : Obj} {z : Str} {tz : Tok}
    {pt pk pc px pr pl pw p1 p2 p3 p4 pos : Pos} {kc kt : Nat} (G : Ground0 w mean mg mb h₀) (F : Fr h₀ L s.heap m) (N : News h₀ L s.heap news) (hh : A.handled = none) (hroom : A.depth + 5 < recursionLimit)
    (hc : cl.lookup (Str.ofString "word") = some c) (hm : (c, co) ∈ news) (hd : co.data = .cell (some (.str z tz))) (hz : z.length ≤ 1000)
    (hk : cs.kind = .function) (hxw : (envX cn cs L a ccd cl).kindOf (Str.ofString "word") = some .cell) (hxl : (envX cn cs L a ccd cl).kindOf (Str.ofString "len") = some .globalImplicit) (hxr : (envX cn cs L a ccd cl).kindOf (Str.ofString "range") = some .globalImplicit) (hxt : (envX cn cs L a ccd cl).kindOf (Str.ofString "TupleComp") = some .globalImplicit)
    (hclos : closureFor compScopeK (envX cn cs L a ccd cl) = pure [])
    (h : ∀ ob rn h' tk, Fr h₀ L h' m → News h₀ L h' (rn ++ news) → RuleNews ob z.length rn → (∀ p ∈ rn, ∀ q ∈ news, q.1 < p.1) → Q (.ref ob) { s with heap := h', toks := tk }) :
    wpAny (model PR w) A (eval (.Call (.Name (Str.ofString "TupleComp") pt) [.ListComp (.Tuple [.Name (Str.ofString "k") pk, .Constant (.int 1) kc pc] kt p1) [⟨.Name (Str.ofString "k") px, .Call (.Name (Str.ofString "range") pr) [.Call (.Name (Str.ofString "len") pl) [.Name (Str.ofString "word") pw] [] p2] [] p3, [], 0⟩] compScopeK p4] [] pos) (envX cn cs L a ccd cl)) Q E s := by
  refine evF1 G F.keep (kg_TupleComp w) (ki_62 w) ?_ starComp rfl hk hxt
  rw [eval_ListComp]
  refine wpAny_comprehension_free (use := none) (cl := []) rfl (by intro _; rfl) hclos rfl (by intro y hy hl; simp at hy; rcases hy with rfl | rfl <;> rfl) ?_
  refine evN G F.keep (ng_range w) bb_range nn_range ?_ rfl rfl hk hxr
  refine cT1 ?_ starCall
  refine evN G F.keep (ng_len w) bb_len nn_len ?_ rfl rfl hk hxl
  refine cB1 ?_ starName
  refine nameX_C N hc hm hd ?_ hk hxw
  refine PyProof.Rows.len_str (by omega) ?_
  refine range1_rows F N ?_
  intro h₁ tk₁ t₁ u₁ v₁ hr F₁ N₁ hk₁
  dsimp only at hr hk₁ ⊢
  refine wpAny_pyIter_range hr (small_one (by omega) (by omega) (by omega) (by omega)) ?_
  have hsz : Builtin.Range.rangeSize 0 (z.length : Int) 1 = (z.length : Int) := by rw [rangeSize_one]; split <;> omega
  rw [hsz]
  dsimp only
  have F₂ := F₁.push (o := { cls := .type "range_iterator", data := .fields #[rawInt 0, rawInt (z.length : Int), rawInt 1] })
  have N₂ := newsPush N₁ { cls := .type "range_iterator", data := .fields #[rawInt 0, rawInt (z.length : Int), rawInt 1] }
  have hst : IsRangeIter (h₁.push { cls := .type "range_iterator", data := .fields #[rawInt 0, rawInt (z.length : Int), rawInt 1] }) h₁.objs.size 0 (z.length : Int) 1 := Heap.get?_push_size _ rfl
  have hI0 := next_is_new F₁
  have hIL : h₁.objs.size ≠ L := Nat.ne_of_gt F₁.ns.lt
  have hIn := newsOff N₁
  generalize hI : h₁.objs.size = I at *
  generalize h₁.push { cls := .type "range_iterator", data := .fields #[rawInt 0, rawInt (z.length : Int), rawInt 1] } = h₂ at *
  refine wpAny_newObj_type ?_
  refine wpAny_newFunctionEnv (by decide) (by intro y hy; simp at hy) (fun h₃ hns hsb => ?_) rfl
  dsimp only at hns hsb ⊢
  generalize hH : h₂.push { cls := .type "list", dict := none, data := .seq ([] : List Value).toArray } = H at hns hsb ⊢
  have hCs : H.objs.size = h₂.objs.size + 1 := by rw [← hH, Heap.size_push]
  have hgD : H.get? h₂.objs.size = some { cls := .type "list", dict := none, data := .seq ([] : List Value).toArray } := by rw [← hH]; exact Heap.get?_push_size _ rfl
  have hH2 : ∀ b o, h₂.get? b = some o → H.get? b = some o := fun b o e => by rw [← hH]; exact Heap.get?_push_of_some _ e
  have hIlt : I < h₂.objs.size := Heap.lt_size hst
  have hlow : ∀ b o, h₂.get? b = some o → b < h₂.objs.size := fun b o e => Heap.lt_size e
  have hfr : h₂.get? h₂.objs.size = none := Heap.get?_none_of_le (Nat.le_refl _)
  generalize hD : h₂.objs.size = D at *
  generalize hC : H.objs.size = C at *
  have hDC : D < C := by rw [hCs]; exact Nat.lt_succ_self _
  have hIC : I < C := Nat.lt_trans hIlt hDC
  have old : ∀ b o, h₂.get? b = some o → h₃.get? b = some o := fun b o e => hsb.extBut b o (Nat.ne_of_lt (Nat.lt_trans (hlow b o e) hDC)) (Heap.get?_push_of_some _ (hH2 b o e))
  have hgD3 : h₃.get? D = some { cls := .type "list", dict := none, data := .seq ([] : List Value).toArray } := hsb.extBut _ _ (Nat.ne_of_lt hDC) (Heap.get?_push_of_some _ hgD)
  have loop : codeAny (model PR w) A (.compLoop (.ListComp (.Tuple [.Name (Str.ofString "k") pk, .Constant (.int 1) kc pc] kt p1) [⟨.Name (Str.ofString "k") px, .Call (.Name (Str.ofString "range") pr) [.Call (.Name (Str.ofString "len") pl) [.Name (Str.ofString "word") pw] [] p2] [] p3, [], 0⟩] compScopeK p4) 0 (.ref I) (.ref D) (compEnvC compScopeK [] C (envX cn cs L a ccd cl)))
      (compPost (model PR w) A E none (fun v s₁ => (∀ b o, h₀.get? b = some o → s₁.heap.get? b = some o) ∧ wpAny (model PR w) A (call (.ref 62) [v]) Q E s₁) (.ref D) C) { s with heap := h₃, toks := tk₁ + ([] : List (Str × Value)).length } := by
    refine ruleLoop (cenv := compEnvC compScopeK [] C (envX cn cs L a ccd cl)) hh rfl (lookup_relabel_local rfl) (Nat.ne_of_lt hIC) hDC (Nat.ne_of_lt hIlt) hIC (old _ _ hst) ⟨_, hgD3⟩ hns hz ?_
    intro h' tk m' es hn' hlen hpl hes hkeep
    refine ⟨m', hn', fun h'' hs'' => ?_⟩
    dsimp only at hs'' hkeep ⊢
    have hk2 : ∀ b o, h₂.get? b = some o → b ≠ I → h''.get? b = some o := fun b o e hb =>
      hs''.extBut b o (Nat.ne_of_lt (Nat.lt_trans (hlow b o e) hDC)) (hkeep b o (Nat.ne_of_lt (Nat.lt_trans (hlow b o e) hDC)) hb (Nat.ne_of_lt (hlow b o e)) (old b o e))
    obtain ⟨ln, hpl⟩ := hpl
    have hplD := hs''.extBut _ _ (Nat.ne_of_lt hDC) hpl
    have F₄ : Fr h₀ L h'' m := ⟨F₂.ns.at' fun o e => hk2 _ o e hIL.symm, fun b o e => hk2 b o (F₂.keep b o e) (by rintro rfl; rw [hI0] at e; cases e), F₂.above⟩
    have hLD : L < D := hD ▸ F₂.ns.lt
    have hup : ∀ b, D ≤ b → b ≠ L ∧ h₀.get? b = none := fun b hb => ⟨Nat.ne_of_gt (Nat.lt_of_lt_of_le hLD hb), by
      cases e : h₀.get? b with
      | none => rfl
      | some o => exact absurd (hlow _ _ (F₂.keep b o e)) (Nat.not_lt.mpr hb)⟩
    have hel : ∀ j, j < z.length → es[j]? = some (es.getD j (0, 0, 0)) := fun j hj => by
      rw [List.getD_eq_getElem?_getD, List.getElem?_eq_getElem (hlen ▸ hj)]; rfl
    have hpair : ∀ j, j < z.length → h''.get? (es.getD j (0, 0, 0)).1 = some (tupO j (es.getD j (0, 0, 0)).2.1 (es.getD j (0, 0, 0)).2.2) ∧ C < (es.getD j (0, 0, 0)).1 := fun j hj =>
      have q := hes j _ (hel j hj)
      ⟨hs''.extBut _ _ (Nat.ne_of_gt q.2) q.1, q.2⟩
    have N₄ : News h₀ L h'' ((D, { cls := .type "list", data := .seq (es.map fun e => Value.ref e.1).toArray ln }) :: ((List.range z.length).map (fun j => ((es.getD j (0, 0, 0)).1, tupO j (es.getD j (0, 0, 0)).2.1 (es.getD j (0, 0, 0)).2.2)) ++ news)) := by
      intro p hp
      rcases List.mem_cons.mp hp with rfl | hp
      · exact ⟨hplD, hup D (Nat.le_refl _)⟩
      rcases List.mem_append.mp hp with hp | hp
      · obtain ⟨j, hj, rfl⟩ := List.mem_map.mp hp
        have q := hpair j (List.mem_range.mp hj)
        exact ⟨q.1, hup _ (Nat.le_of_lt (Nat.lt_trans hDC q.2))⟩
      · exact ⟨hk2 _ _ (N₂ p hp).1 (hIn p hp), (N₂ p hp).2⟩
    have hnl : ∀ q ∈ news, q.1 < D := fun q hq => hlow _ _ (N₂ q hq).1
    refine ⟨F₄.keep, ?_⟩
    refine tupleComp_call G F₄ N₄ hroom ?_
    intro x dx hsh t k h₅ tk₅ F₅ N₅ hlt hdx
    refine h x ((x, instObj 62 dx) :: (dx, W.dictOf [⟨hsh, .str (Str.ofString "comp_select_list") t, .ref D⟩] k) :: (D, { cls := .type "list", data := .seq (es.map fun e => Value.ref e.1).toArray ln }) :: (List.range z.length).map (fun j => ((es.getD j (0, 0, 0)).1, tupO j (es.getD j (0, 0, 0)).2.1 (es.getD j (0, 0, 0)).2.2))) h₅ tk₅ F₅ N₅ ?_ ?_
    · intro hp hq
      refine ⟨dx, k, hsh, t, D, fun j => (es.getD j (0, 0, 0)).1, fun j => (es.getD j (0, 0, 0)).2.1, fun j => (es.getD j (0, 0, 0)).2.2, hq _ (.head _), hq _ (.tail _ (.head _)), ⟨_, hq _ (.tail _ (.tail _ (.head _))), rfl, ln, ?_⟩, fun j hj => ?_⟩
      · dsimp only
        congr 2
        apply List.ext_getElem?
        intro j
        rw [List.getElem?_map, List.getElem?_map]
        rcases Nat.lt_or_ge j z.length with hj | hj
        · rw [hel j hj, List.getElem?_range hj]; rfl
        · rw [List.getElem?_eq_none (by omega), List.getElem?_eq_none (by simpa using hj)]; rfl
      · exact ⟨_, hq _ (.tail _ (.tail _ (.tail _ (List.mem_map.mpr ⟨j, List.mem_range.mpr hj, rfl⟩)))), rfl, 0, rfl⟩
    · intro p hp q hq
      have hqd : q.1 < D := hnl q hq
      have hDd : D < dx := hlt _ (.head _)
      rcases List.mem_cons.mp hp with rfl | hp
      · exact Nat.lt_trans hqd (Nat.lt_trans hDd hdx)
      rcases List.mem_cons.mp hp with rfl | hp
      · exact Nat.lt_trans hqd hDd
      rcases List.mem_cons.mp hp with rfl | hp
      · exact hqd
      obtain ⟨j, hj, rfl⟩ := List.mem_map.mp hp
      exact Nat.lt_trans hqd (Nat.lt_trans hDC (hpair j (List.mem_range.mp hj)).2)
  exact codeAny_compStart_list loop ((Walks.range (prog := PR) (w := w) hh I 0 1 z.length).self 0 _ _ _ (by simpa using old _ _ hst) loop)
end
abbrev lstO (ys : Array Value) (c : Nat) : Obj := { cls := .type "list", data := .seq ys c }
abbrev SrcE (w : World) (A : Around) (env : Env) (scope : Scope) (cl : List (Str × Addr)) (x : Str) (ifs : List Expr) (elt : Expr) (p : Value → Bool) (F : Value → Value → Prop) (Q : Value → Shared → Prop) (it : Value) (s₂ : Shared) : Prop :=
  ∃ I fp wr n P St, it = .ref I ∧ Walks PR w A I fp wr n P St ∧ n ≤ sizeLine ∧ St 0 s₂.heap ∧ (∀ b ∈ fp, b < s₂.heap.objs.size) ∧ QuietOnC PR w A env scope cl x ifs elt wr P p F s₂ ∧
    (∀ D h' tk ys (vs : List Value), s₂.heap.get? D = none → h'.IsList D ys → h'.PlainList D ys → vs.length = n → (∀ j v, vs[j]? = some v → P j v) → Paired F (vs.filter p) ys.toList →
        (∀ b o, b ∉ wr → s₂.heap.get? b = some o → h'.get? b = some o) → Q (.ref D) { s₂ with heap := h', toks := tk })
abbrev SrcA (w : World) (A : Around) (env : Env) (scope : Scope) (cl : List (Str × Addr)) (x y : Str) (ifs : List Expr) (elt : Expr) (p : Value → Bool) (F : Value → Value → Prop) (Q : Flow → Shared → Prop) (it : Value) (s₂ : Shared) : Prop :=
  ∃ I fp wr n P St m, it = .ref I ∧ Walks PR w A I fp wr n P St ∧ n ≤ sizeLine ∧ St 0 s₂.heap ∧ (∀ b ∈ fp, b < s₂.heap.objs.size) ∧
      env.locals ∉ wr ∧ s₂.heap.Ns env.locals m ∧ QuietOnC PR w A env scope cl x ifs elt wr P p F s₂ ∧
      (∀ D h' tk ys (vs : List Value), s₂.heap.get? D = none → h'.IsList D ys → h'.PlainList D ys → vs.length = n → (∀ j v, vs[j]? = some v → P j v) → Paired F (vs.filter p) ys.toList →
        h'.Ns env.locals (fun z => if z = y then some (.ref D) else m z) → (∀ b o, b ≠ env.locals → b ∉ wr → s₂.heap.get? b = some o → h'.get? b = some o) → Q .next { s₂ with heap := h', toks := tk })

section
variable {w : World} {A : Around} {env : Env} {s : Shared} {E : Value → Shared → Prop} {h₀ : Heap} {m : Str → Option Value} {news : List (Addr × Obj)} {scope : Scope} {cl : List (Str × Addr)} {x y : Str} {ifs : List Expr} {elt : Expr}

/-- what the tests and the element do, at any turn -/
structure Plain1 (w : World) (A : Around) (env : Env) (scope : Scope) (cl : List (Str × Addr)) (x : Str) (ifs : List Expr) (elt : Expr) (P : Value → Prop) (p : Value → Bool) (F : Value → Value → Prop) (h : Heap) : Prop where
  tests : ∀ C v s₃ m₃ E', P v → s₃.heap.Ns C m₃ → m₃ x = some v → (∀ b o, h.get? b = some o → s₃.heap.get? b = some o) →
    wpAny (model PR w) A (forIn ifs true fun c r => if r = true then do let ok ← isTrue c (compEnvC scope cl C env) (eval c (compEnvC scope cl C env)); pure (ForInStep.yield ok) else pure (ForInStep.yield r))
      (fun ok s₄ => ok = p v ∧ Keeps s₃ s₄) E' s₃
  elt : ∀ C v s₃ m₃ E', P v → p v = true → s₃.heap.Ns C m₃ → m₃ x = some v → (∀ b o, h.get? b = some o → s₃.heap.get? b = some o) →
    wpAny (model PR w) A (eval elt (compEnvC scope cl C env)) (fun y s₄ => F v y ∧ Keeps s₃ s₄) E' s₃

theorem srcQ {P : Nat → Value → Prop} {p : Value → Bool} {F : Value → Value → Prop} {wr : List Addr} {ob : Obj} (hwr : ∀ b ∈ wr, b = s.heap.objs.size) (H : Plain1 w A env scope cl x ifs elt (fun v => ∃ i, P i v) p F s.heap) :
    QuietOnC PR w A env scope cl x ifs elt wr P p F { s with heap := s.heap.push ob } := by
  have kp : ∀ s₃ : Shared, (∀ b o, b ∉ wr → (s.heap.push ob).get? b = some o → s₃.heap.get? b = some o) → ∀ b o, s.heap.get? b = some o → s₃.heap.get? b = some o := fun s₃ hk b o e =>
    hk b o (fun q => absurd (Heap.lt_size e) (by rw [hwr b q]; exact Nat.lt_irrefl _)) (Heap.get?_push_of_some _ e)
  exact ⟨fun C i v s₃ m₃ E' hC hP hn hm hk htk => H.tests C v s₃ m₃ E' ⟨i, hP⟩ hn hm (kp s₃ hk), fun C i v s₃ m₃ E' hC hP hp hn hm hk htk => H.elt C v s₃ m₃ E' ⟨i, hP⟩ hp hn hm (kp s₃ hk)⟩

theorem srcE {P : Nat → Value → Prop} {p : Value → Bool} {F : Value → Value → Prop} {fp wr : List Addr} {n : Nat} {St : Nat → Heap → Prop} {ob : Obj} {L : Addr} {Q : Value → Shared → Prop} (W : Walks PR w A s.heap.objs.size fp wr n P St) (hwr : ∀ b ∈ wr, b = s.heap.objs.size) (hn : n ≤ sizeLine) (hst : St 0 (s.heap.push ob)) (hfp : ∀ b ∈ fp, b < (s.heap.push ob).objs.size)
    (Fr₀ : Fr h₀ L s.heap m) (N : News h₀ L s.heap news) (H : Plain1 w A env scope cl x ifs elt (fun v => ∃ i, P i v) p F s.heap)
    (h : ∀ D h' tk ys c (vs : List Value), Fr h₀ L h' m → News h₀ L h' ((D, lstO ys c) :: news) → s.heap.get? D = none → (∀ q ∈ news, q.1 ≠ D) → vs.length = n → (∀ j v, vs[j]? = some v → P j v) → Paired F (vs.filter p) ys.toList → (∀ b o, s.heap.get? b = some o → h'.get? b = some o) → Q (.ref D) { s with heap := h', toks := tk }) :
    SrcE w A env scope cl x ifs elt p F Q (.ref s.heap.objs.size) { s with heap := s.heap.push ob } := by
  refine ⟨_, fp, wr, n, P, St, rfl, W, hn, hst, hfp, srcQ hwr H, ?_⟩
  intro D h' tk ys vs hD _ hpl hlen hP hpair hk
  have hk' : ∀ b o, s.heap.get? b = some o → h'.get? b = some o := fun b o e => hk b o (fun q => absurd (Heap.lt_size e) (by rw [hwr b q]; exact Nat.lt_irrefl _)) (Heap.get?_push_of_some _ e)
  have hD' : s.heap.get? D = none := by
    cases e : s.heap.get? D with
    | none => rfl
    | some o => rw [show ({ s with heap := s.heap.push ob } : Shared).heap.get? D = some o from Heap.get?_push_of_some _ e] at hD; cases hD
  obtain ⟨c, hc⟩ := hpl
  exact h D h' tk ys c vs (Fr₀.keeps hk') (newsAdd Fr₀ N hk' hD' hc) hD' (newsNe N hD') hlen hP hpair hk'

theorem srcA {P : Nat → Value → Prop} {p : Value → Bool} {F : Value → Value → Prop} {fp wr : List Addr} {n : Nat} {St : Nat → Heap → Prop} {ob : Obj} {Q : Flow → Shared → Prop} (W : Walks PR w A s.heap.objs.size fp wr n P St) (hwr : ∀ b ∈ wr, b = s.heap.objs.size) (hn : n ≤ sizeLine) (hst : St 0 (s.heap.push ob)) (hfp : ∀ b ∈ fp, b < (s.heap.push ob).objs.size)
    (Fr₀ : Fr h₀ env.locals s.heap m) (N : News h₀ env.locals s.heap news) (H : Plain1 w A env scope cl x ifs elt (fun v => ∃ i, P i v) p F s.heap)
    (h : ∀ D h' tk ys c (vs : List Value), Fr h₀ env.locals h' (fun z => if z = y then some (.ref D) else m z) → News h₀ env.locals h' ((D, lstO ys c) :: news) → s.heap.get? D = none → (∀ q ∈ news, q.1 ≠ D) → vs.length = n → (∀ j v, vs[j]? = some v → P j v) → Paired F (vs.filter p) ys.toList → Q .next { s with heap := h', toks := tk }) :
    SrcA w A env scope cl x y ifs elt p F Q (.ref s.heap.objs.size) { s with heap := s.heap.push ob } := by
  have hL : env.locals < s.heap.objs.size := Fr₀.ns.lt
  refine ⟨_, fp, wr, n, P, St, m, rfl, W, hn, hst, hfp, fun q => absurd hL (by rw [hwr _ q]; exact Nat.lt_irrefl _), (Fr₀.push _).ns, srcQ hwr H, ?_⟩
  intro D h' tk ys vs hD _ hpl hlen hP hpair hns hk
  have hk' : ∀ b o, b ≠ env.locals → s.heap.get? b = some o → h'.get? b = some o := fun b o hb e => hk b o hb (fun q => absurd (Heap.lt_size e) (by rw [hwr b q]; exact Nat.lt_irrefl _)) (Heap.get?_push_of_some _ e)
  have hD' : s.heap.get? D = none := by
    cases e : s.heap.get? D with
    | none => rfl
    | some o => rw [show ({ s with heap := s.heap.push ob } : Shared).heap.get? D = some o from Heap.get?_push_of_some _ e] at hD; cases hD
  obtain ⟨c, hc⟩ := hpl
  have hL0 : ∀ b o, h₀.get? b = some o → b ≠ env.locals := fun b o e => Nat.ne_of_lt (Nat.lt_of_lt_of_le (Heap.lt_size e) Fr₀.above)
  refine h D h' tk ys c vs ⟨hns, fun b o e => hk' b o (hL0 b o e) (Fr₀.keep b o e), Fr₀.above⟩ ?_ hD' (newsNe N hD') hlen hP hpair
  intro q hq
  rcases List.mem_cons.mp hq with rfl | hq
  · refine ⟨hc, fun e => ?_, ?_⟩
    · obtain ⟨oL, _, _, hL, _⟩ := Fr₀.ns
      rw [← e, hD'] at hL; cases hL
    · cases e : h₀.get? D with
      | none => rfl
      | some o => rw [Fr₀.keep _ _ e] at hD'; cases hD'
  · exact ⟨hk' _ _ (N q hq).2.1 (N q hq).1, (N q hq).2⟩

theorem fpL {a : Addr} {h : Heap} {ob : Obj} (ha : a < h.objs.size) : ∀ b ∈ [h.objs.size, a], b < (h.push ob).objs.size := fp2 (p := fun b => b < (h.push ob).objs.size) (by rw [Heap.size_push]; exact Nat.lt_succ_self _) (by rw [Heap.size_push]; exact Nat.lt_succ_of_lt ha)

theorem compL {l L : Addr} {vl : List Value} {p : Value → Bool} {F : Value → Value → Prop} {Q : Value → Shared → Prop} (hh : A.handled = none) (hl : s.heap.IsList l vl.toArray) (hz : vl.length ≤ 100000)
    (Fr₀ : Fr h₀ L s.heap m) (N : News h₀ L s.heap news) (H : Plain1 w A env scope cl x ifs elt (fun v => v ∈ vl) p F s.heap)
    (h : ∀ D h' tk ys c, Fr h₀ L h' m → News h₀ L h' ((D, lstO ys c) :: news) → s.heap.get? D = none → (∀ q ∈ news, q.1 ≠ D) → Paired F (vl.filter p) ys.toList → (∀ b o, s.heap.get? b = some o → h'.get? b = some o) → Q (.ref D) { s with heap := h', toks := tk }) :
    wpAny (model PR w) A (pyIter (.ref l)) (fun it s₂ => SrcE w A env scope cl x ifs elt p F Q it s₂) E s := by
  obtain ⟨o, ho, _⟩ := id hl
  refine wpAny_pyIter_list hl ?_
  refine srcE (Walks.list hh s.heap.objs.size l (Nat.ne_of_lt (Heap.lt_size ho)) vl.toArray) (by simp) (by rw [sizeLine_eq]; simp; omega) ⟨⟨_, Heap.get?_push_size _ rfl, rfl, rfl⟩, hl.at fun o e => Heap.get?_push_of_some _ e⟩ (fpL (Heap.lt_size ho)) Fr₀ N ?_ ?_
  · have up : ∀ v, (∃ i : Nat, vl.toArray[i]? = some v) → v ∈ vl := fun v ⟨i, e⟩ => List.mem_of_getElem? (by simpa using e)
    exact ⟨fun C v s₃ m₃ E' hP => H.tests C v s₃ m₃ E' (up v hP), fun C v s₃ m₃ E' hP => H.elt C v s₃ m₃ E' (up v hP)⟩
  · intro D h' tk ys c vs F' N' hD hne hlen hP hpair hk
    have e : vs = vl := by
      apply List.ext_getElem?
      intro j
      rcases Nat.lt_or_ge j vs.length with hj | hj
      · rw [List.getElem?_eq_getElem hj]
        have := hP j _ (List.getElem?_eq_getElem hj)
        simpa using this.symm
      · rw [List.getElem?_eq_none hj, List.getElem?_eq_none (by simp at hlen; omega)]
    subst e
    exact h D h' tk ys c F' N' hD hne hpair hk

theorem compLA {l : Addr} {vl : List Value} {p : Value → Bool} {F : Value → Value → Prop} {Q : Flow → Shared → Prop} (hh : A.handled = none) (hl : s.heap.IsList l vl.toArray) (hz : vl.length ≤ 100000)
    (Fr₀ : Fr h₀ env.locals s.heap m) (N : News h₀ env.locals s.heap news) (H : Plain1 w A env scope cl x ifs elt (fun v => v ∈ vl) p F s.heap)
    (h : ∀ D h' tk ys c, Fr h₀ env.locals h' (fun z => if z = y then some (.ref D) else m z) → News h₀ env.locals h' ((D, lstO ys c) :: news) → s.heap.get? D = none → (∀ q ∈ news, q.1 ≠ D) → Paired F (vl.filter p) ys.toList → Q .next { s with heap := h', toks := tk }) :
    wpAny (model PR w) A (pyIter (.ref l)) (fun it s₂ => SrcA w A env scope cl x y ifs elt p F Q it s₂) E s := by
  obtain ⟨o, ho, _⟩ := id hl
  refine wpAny_pyIter_list hl ?_
  refine srcA (Walks.list hh s.heap.objs.size l (Nat.ne_of_lt (Heap.lt_size ho)) vl.toArray) (by simp) (by rw [sizeLine_eq]; simp; omega) ⟨⟨_, Heap.get?_push_size _ rfl, rfl, rfl⟩, hl.at fun o e => Heap.get?_push_of_some _ e⟩ (fpL (Heap.lt_size ho)) Fr₀ N ?_ ?_
  · have up : ∀ v, (∃ i : Nat, vl.toArray[i]? = some v) → v ∈ vl := fun v ⟨i, e⟩ => List.mem_of_getElem? (by simpa using e)
    exact ⟨fun C v s₃ m₃ E' hP => H.tests C v s₃ m₃ E' (up v hP), fun C v s₃ m₃ E' hP => H.elt C v s₃ m₃ E' (up v hP)⟩
  · intro D h' tk ys c vs F' N' hD hne hlen hP hpair
    have e : vs = vl := by
      apply List.ext_getElem?
      intro j
      rcases Nat.lt_or_ge j vs.length with hj | hj
      · rw [List.getElem?_eq_getElem hj]
        have := hP j _ (List.getElem?_eq_getElem hj)
        simpa using this.symm
      · rw [List.getElem?_eq_none hj, List.getElem?_eq_none (by simp at hlen; omega)]
    subst e
    exact h D h' tk ys c F' N' hD hne hpair

theorem compR {r L : Addr} {n : Nat} {t u v : Tok} {F : Value → Value → Prop} {Q : Value → Shared → Prop} (hh : A.handled = none) (hr : IsRange s.heap r 0 (n : Int) 1 t u v) (hz : n ≤ 100000)
    (Fr₀ : Fr h₀ L s.heap m) (N : News h₀ L s.heap news) (H : Plain1 w A env scope cl x [] elt (fun v => ∃ (i : Nat) (t : Tok), i < n ∧ v = .int (i : Int) t) (fun _ => true) F s.heap)
    (h : ∀ D h' tk ys c (vs : List Value), Fr h₀ L h' m → News h₀ L h' ((D, lstO ys c) :: news) → s.heap.get? D = none → (∀ q ∈ news, q.1 ≠ D) → vs.length = n → (∀ (j : Nat) v, vs[j]? = some v → ∃ t, v = .int (j : Int) t) → Paired F vs ys.toList → (∀ b o, s.heap.get? b = some o → h'.get? b = some o) → Q (.ref D) { s with heap := h', toks := tk }) :
    wpAny (model PR w) A (pyIter (.ref r)) (fun it s₂ => SrcE w A env scope cl x [] elt (fun _ => true) F Q it s₂) E s := by
  refine wpAny_pyIter_range hr (small_one (by omega) (by omega) (by omega) (by omega)) ?_
  have hsz : Builtin.Range.rangeSize 0 (n : Int) 1 = (n : Int) := by rw [rangeSize_one]; split <;> omega
  rw [hsz]
  have W := Walks.range (prog := PR) (w := w) hh s.heap.objs.size 0 1 n
  refine srcE (n := n) (P := fun i v => i < n ∧ ∃ t : Tok, v = .int (i : Int) t) (St := fun i h => IsRangeIter h s.heap.objs.size (0 + (i : Int) * 1) ((n : Int) - (i : Int)) 1) (fp := [s.heap.objs.size]) (wr := [s.heap.objs.size]) ⟨W.sub, W.frame, fun i s' Q' E' hi hst hQ => W.item i s' Q' E' hi hst fun v h' tk hP => hQ v h' tk ⟨hi, ?_⟩, W.done, W.self⟩ (by simp) (by rw [sizeLine_eq]; omega) ?_ ?_ Fr₀ N ?_ ?_
  · obtain ⟨t, ht⟩ := hP
    exact ⟨t, by simpa using ht⟩
  · simpa using Heap.get?_push_size _ rfl
  · intro b hb; rw [List.mem_singleton.mp hb, Heap.size_push]; exact Nat.lt_succ_self _
  · have up : ∀ v : Value, (∃ i : Nat, i < n ∧ ∃ t : Tok, v = Value.int (i : Int) t) → ∃ (i : Nat) (t : Tok), i < n ∧ v = Value.int (i : Int) t := fun v ⟨i, hi, t, e⟩ => ⟨i, t, hi, e⟩
    exact ⟨fun C v s₃ m₃ E' hP => H.tests C v s₃ m₃ E' (up v hP), fun C v s₃ m₃ E' hP => H.elt C v s₃ m₃ E' (up v hP)⟩
  · intro D h' tk ys c vs F' N' hD hne hlen hP hpair hk
    exact h D h' tk ys c vs F' N' hD hne hlen (fun j v hv => (hP j v hv).2) (by rw [List.filter_eq_self.mpr (fun _ _ => rfl)] at hpair; exact hpair) hk
theorem evAssignComp {iter : Expr} {px py : Pos} {pos spos : Pos} {Q : Flow → Shared → Prop} (p : Value → Bool) (F : Value → Value → Prop)
    (hsw : swapsWith (.ListComp elt [⟨.Name x px, iter, ifs, 0⟩] scope pos) (some (.Name y py)) spos.line env = pure true)
    (hclos : closureFor scope env = pure cl) (hcell : ∀ z ∈ scope.names, z.2 ≠ .cell) (hkind : scope.kind = .function)
    (hnames : ∀ z ∈ scope.names, z.2 = .local → scope.names.lookup z.1 = some .local) (hx : scope.names.lookup x = some .local)
    (hy : env.kindOf y = some .local) (hp : (env.scope.kind == .class || (env.scope.kind == .module && env.locals != env.globals)) = false)
    (h : wpAny (model PR w) A (eval iter env) (fun xv s₁ => wpAny (model PR w) A (pyIter xv) (fun it s₂ => SrcA w A env scope cl x y ifs elt p F Q it s₂) E s₁) E s)
    (hs : ∀ x, foldedSetIterable iter env x = pure x := by intro _; rfl) :
    wpAny (model PR w) A (exec (.Assign [.Name y py] (.ListComp elt [⟨.Name x px, iter, ifs, 0⟩] scope pos) spos) env) Q E s :=
  wpAny_Assign_ListComp_free p F hsw hclos hcell hkind hnames hx hy hp h hs
theorem evComp {iter : Expr} {px : Pos} {pos : Pos} {Q : Value → Shared → Prop} (p : Value → Bool) (F : Value → Value → Prop)
    (hclos : closureFor scope env = pure cl) (hcell : ∀ z ∈ scope.names, z.2 ≠ .cell) (hkind : scope.kind = .function)
    (hnames : ∀ z ∈ scope.names, z.2 = .local → scope.names.lookup z.1 = some .local) (hx : scope.names.lookup x = some .local)
    (h : wpAny (model PR w) A (eval iter env) (fun xv s₁ => wpAny (model PR w) A (pyIter xv) (fun it s₂ => SrcE w A env scope cl x ifs elt p F Q it s₂) E s₁) E s)
    (hs : ∀ x, foldedSetIterable iter env x = pure x := by intro _; rfl) :
    wpAny (model PR w) A (eval (.ListComp elt [⟨.Name x px, iter, ifs, 0⟩] scope pos) env) Q E s :=
  wpAny_ListComp_free p F hclos hcell hkind hnames hx h hs
theorem testsNone {C : Addr} {v : Value} (p : Value → Bool) {s₃ : Shared} {E' : Value → Shared → Prop} (hp : p v = true) :
    wpAny (model PR w) A (forIn ([] : List Expr) true fun c r => if r = true then do let ok ← isTrue c (compEnvC scope cl C env) (eval c (compEnvC scope cl C env)); pure (ForInStep.yield ok) else pure (ForInStep.yield r)) (fun ok s₄ => ok = p v ∧ Keeps s₃ s₄) E' s₃ :=
  wpAny_pure ⟨hp.symm, _, _, rfl, fun _ _ e => e⟩
end
def txtOf : Value → Str | .str x _ => x | _ => Str.ofString ""
def endP (z x : Str) : Bool := (x.length != 0) && Txt.endswith z x
def tailsOf (z : Str) : List Str := (List.range z.length).map fun k => ⟨(z.cps.toList.drop k).toArray⟩
def startStep (n : Nat) (acc : List Str) (x : Str) : List Str := if acc.isEmpty || decide (cmpRows (rowOf x n) (rowOf (acc.getLastD (Str.ofString "")) n) < 0) then acc ++ [x] else acc
def startsOf (z : Str) : List Str := (tailsOf z).foldl (startStep z.length) []
def cutsOf (l : List Str) : List Str := (List.range (l.length - 1)).map fun k => Txt.slice (l.getD k Str.empty) none (some (((l.getD k Str.empty).length : Int) - ((l.getD (k + 1) Str.empty).length : Int)))
def piecesOf (z : Str) : List Str := cutsOf (startsOf z ++ [Str.ofString ""])

theorem rowOf_len {x : Str} {n : Nat} (h : x.length ≤ n) : (rowOf x n).length = n := by
  have e : (signsOf x).length = x.length := by unfold signsOf; rw [List.length_map]; rfl
  unfold rowOf
  rw [List.length_append, List.length_replicate, e]
  omega
theorem starts_mem (n : Nat) (P : Str → Prop) : ∀ (l : List Str) (acc : List Str), (∀ x ∈ l, P x) → (∀ x ∈ acc, P x) → ∀ x ∈ l.foldl (startStep n) acc, P x
  | [], _, _, ha => ha
  | y :: l, acc, hl, ha => starts_mem n P l _ (fun x hx => hl x (.tail _ hx)) fun x hx => by
    unfold startStep at hx
    split at hx
    · rcases List.mem_append.mp hx with h | h
      · exact ha x h
      · rw [List.mem_singleton.mp h]; exact hl _ (.head _)
    · exact ha x hx
theorem starts_len (n : Nat) : ∀ (l : List Str) (acc : List Str), (l.foldl (startStep n) acc).length ≤ acc.length + l.length
  | [], _ => Nat.le_refl _
  | y :: l, acc => by
    have h1 := starts_len n l (startStep n acc y)
    have h2 : (startStep n acc y).length ≤ acc.length + 1 := by
      unfold startStep; split
      · rw [List.length_append]; exact Nat.le_refl _
      · exact Nat.le_succ _
    rw [List.foldl_cons, List.length_cons]
    omega
theorem strsAre_reverse {vs : List Value} {xs : List Str} (h : StrsAre vs xs) : StrsAre vs.reverse xs.reverse := by
  induction h with
  | nil => exact .nil
  | cons x t _ ih => rw [List.reverse_cons, List.reverse_cons]; exact strsAre_append ih (.cons x t .nil)
theorem mem_tails {z x : Str} (h : x ∈ tailsOf z) : ∃ k, k < z.length ∧ x = ⟨(z.cps.toList.drop k).toArray⟩ ∧ x.length = z.length - k := by
  obtain ⟨k, hk, rfl⟩ := List.mem_map.mp h
  refine ⟨k, List.mem_range.mp hk, rfl, ?_⟩
  show (z.cps.toList.drop k).toArray.size = z.cps.size - k
  simp
theorem tails_eq {z x y : Str} (hx : x ∈ tailsOf z) (hy : y ∈ tailsOf z) (h : x.length = y.length) : x = y := by
  obtain ⟨j, hj, rfl, ej⟩ := mem_tails hx
  obtain ⟨k, hk, rfl, ek⟩ := mem_tails hy
  have : j = k := by omega
  rw [this]
theorem tails_pair (z : Str) : (tailsOf z).reverse.Pairwise fun x y => x.length ≤ y.length := by
  rw [List.pairwise_reverse]
  unfold tailsOf
  rw [List.pairwise_map]
  refine List.Pairwise.imp_of_mem (R := fun a b => a < b) (fun {a b} ha hb hab => ?_) List.pairwise_lt_range
  show (z.cps.toList.drop b).toArray.size ≤ (z.cps.toList.drop a).toArray.size
  simp
  omega
theorem strsAre_filter {vs : List Value} {xs : List Str} (q : Str → Bool) (h : StrsAre vs xs) : StrsAre (vs.filter fun v => q (txtOf v)) (xs.filter q) := by
  induction h with
  | nil => exact .nil
  | cons x t _ ih =>
    rw [List.filter_cons, List.filter_cons]
    show StrsAre (if q x = true then _ else _) _
    split
    · exact .cons x t ih
    · exact ih
theorem strsAre_txt {vs : List Value} {xs : List Str} (h : StrsAre vs xs) : vs.map txtOf = xs := by
  induction h with
  | nil => rfl
  | cons x t _ ih => rw [List.map_cons, ih]; rfl
theorem strsAre_all {vs : List Value} (h : ∀ v ∈ vs, ∃ x t, v = .str x t) : StrsAre vs (vs.map txtOf) := by
  induction vs with
  | nil => exact .nil
  | cons v vs ih =>
    obtain ⟨x, t, rfl⟩ := h _ (.head _)
    exact .cons x t (ih fun v hv => h v (.tail _ hv))
theorem sorted_tails {z : Str} {es : List Str} {vs out : List Value} (hv : StrsAre vs es) (hp : es.Perm (tailsOf z)) (h : KskOut false (es.map fun x => (x.length : Int)) vs out) : StrsAre out (tailsOf z).reverse := by
  obtain ⟨ps, hperm, rfl, hs⟩ := h
  have hrel : ∀ p ∈ ps, (∃ x t, p.2 = .str x t) ∧ p.1 = ((txtOf p.2).length : Int) := by
    intro p hpm
    have := hperm.mem_iff.mp hpm
    clear hs hperm hp hpm
    induction hv with
    | nil => cases this
    | cons x t _ ih =>
      rw [List.map_cons, List.zip_cons_cons] at this
      rcases List.mem_cons.mp this with rfl | h
      · exact ⟨⟨x, t, rfl⟩, rfl⟩
      · exact ih h
  have hlen : (es.map fun x => (x.length : Int)).length = vs.length := by rw [List.length_map, strsAre_len hv]
  have hA : StrsAre (ps.map Prod.snd) ((ps.map Prod.snd).map txtOf) := strsAre_all fun v hv => by
    obtain ⟨p, hp, rfl⟩ := List.mem_map.mp hv
    exact (hrel p hp).1
  have hP : ((ps.map Prod.snd).map txtOf).Perm (tailsOf z) := by
    have h1 := (hperm.map Prod.snd).map txtOf
    rw [List.map_snd_zip (by omega), strsAre_txt hv] at h1
    exact h1.trans hp
  have hO : ((ps.map Prod.snd).map txtOf).Pairwise fun x y => x.length ≤ y.length := by
    rw [List.pairwise_map, List.pairwise_map]
    refine hs.imp_of_mem fun {p q} hp' hq' hr => ?_
    have hr' : p.1 ≤ q.1 := hr
    rw [(hrel p hp').2, (hrel q hq').2] at hr'
    omega
  have : (ps.map Prod.snd).map txtOf = (tailsOf z).reverse := by
    refine List.Perm.eq_of_pairwise (le := fun x y => x.length ≤ y.length) (fun a b ha hb h1 h2 => ?_) hO (tails_pair z) (hP.trans (List.reverse_perm _).symm)
    exact tails_eq (hP.mem_iff.mp ha) (List.mem_reverse.mp hb) (Nat.le_antisymm h1 h2)
  rw [this] at hA
  exact hA

section
variable {w : World} {mean : ExcName → Option Value} {mg mb : Str → Option Value} {A : Around} {s : Shared} {E : Value → Shared → Prop} {env : Env}

theorem nameLoc {Q : Value → Shared → Prop} {x : Str} {pos : Pos} {v : Value} {m : Str → Option Value} (hn : s.heap.Ns env.locals m) (hv : m x = some v) (h : Q v s) (hk : env.scope.kind = .function := by rfl) (hx : env.kindOf x = some .local := by rfl) (hd : (x == ("__debug__" : Str)) = false := by decide) :
    wpAny (model PR w) A (eval (.Name x pos) env) Q E s := wpAny_Name (wpAny_loadName_local hk hx hn hv h) hd
theorem nameCel {Q : Value → Shared → Prop} {x : Str} {pos : Pos} {v : Value} {c : Addr} (hc : env.cells.lookup x = some c) (hv : s.heap.IsCell c (some v)) (h : Q v s) (hk : env.scope.kind = .function := by rfl) (hx : env.kindOf x = some .cell := by rfl) (hd : (x == ("__debug__" : Str)) = false := by decide) :
    wpAny (model PR w) A (eval (.Name x pos) env) Q E s := wpAny_Name (wpAny_loadName_cell hk hx hc hv h) hd

theorem cutTo {Q : Value → Shared → Prop} {value slice : Expr} {x : Str} {t uj : Tok} {j : Int} (h : ∀ h' t' k, (∀ b o, s.heap.get? b = some o → h'.get? b = some o) → Q (.str (Txt.slice x none (some j)) t') { s with heap := h', toks := k })
    (hsz : x.length ≤ 1000)
    (hs : subscripted slice false (.str x t) (.ref s.heap.objs.size) = operate [.ref s.heap.objs.size, .str x t] (getItem (.str x t) (.ref s.heap.objs.size)) := by with_unfolding_all rfl)
    (ht : ∀ r, letTemporaryGo value (.str x t) r = pure () := by intro _; with_unfolding_all rfl) :
    wpAny (model PR w) A (subscriptTail value slice (.str x t) (.ref s.heap.objs.size)) Q E { s with heap := s.heap.push { cls := .type "slice", data := .fields #[.none, .int j uj, .none] } } :=
  tail_of_ItemOn (SBH.sliceItem_ns (P := fun h' => ∀ b o, s.heap.get? b = some o → h'.get? b = some o) (fun _ _ k b o e => Heap.get?_push_of_some _ (k b o e)) (fun _ _ e => e) h (by rw [sizeLine_eq]; omega)) hs ht
theorem cutFrom {Q : Value → Shared → Prop} {value slice : Expr} {x : Str} {t uj : Tok} {j : Int} (h : ∀ h' t' k, (∀ b o, s.heap.get? b = some o → h'.get? b = some o) → Q (.str (Txt.slice x (some j) none) t') { s with heap := h', toks := k })
    (hsz : x.length ≤ 1000)
    (hs : subscripted slice false (.str x t) (.ref s.heap.objs.size) = operate [.ref s.heap.objs.size, .str x t] (getItem (.str x t) (.ref s.heap.objs.size)) := by with_unfolding_all rfl)
    (ht : ∀ r, letTemporaryGo value (.str x t) r = pure () := by intro _; with_unfolding_all rfl) :
    wpAny (model PR w) A (subscriptTail value slice (.str x t) (.ref s.heap.objs.size)) Q E { s with heap := s.heap.push { cls := .type "slice", data := .fields #[.int j uj, .none, .none] } } :=
  tail_of_ItemOn (SBH.sliceItem_sn (P := fun h' => ∀ b o, s.heap.get? b = some o → h'.get? b = some o) (fun _ _ k b o e => Heap.get?_push_of_some _ (k b o e)) (fun _ _ e => e) h (by rw [sizeLine_eq]; omega)) hs ht
theorem appendStep {h₀ : Heap} {L a : Addr} {m : Str → Option Value} {rest : List (Addr × Obj)} {cn : Str} {cs : Scope} {ccd : Value} {cl : List (Str × Addr)} {cc D : Addr} {co : Obj} {its : Array Value} {c : Nat} {v : Value} {p₁ : Addr × Obj} {arg : Expr} {pl : Sem Bool} {pn pa pc ps : Pos} {x : Str} {Q : Flow → Shared → Prop}
    (F : Fr h₀ L s.heap m) (N : News h₀ L s.heap (p₁ :: (D, lstO its c) :: rest)) (h1 : p₁.1 ≠ D) (hap : ∀ p ∈ rest, p.1 ≠ D) (hc : cl.lookup x = some cc) (hm : (cc, co) ∈ p₁ :: (D, lstO its c) :: rest) (hd : co.data = .cell (some (.ref D)))
    (harg : ∀ Q' : Value → Shared → Prop, (∀ tk, Q' v { s with toks := tk }) → wpAny (model PR w) A (eval arg (envX cn cs L a ccd cl)) Q' E s) (hz : its.size ≤ 1000)
    (h : ∀ h' tk, Fr h₀ L h' m → News h₀ L h' (p₁ :: (D, lstO (its.push v) (c + 1)) :: rest) → Q .next { s with heap := h', toks := tk })
    (hst : starEach [arg] (envX cn cs L a ccd cl) = [(false, eval arg (envX cn cs L a ccd cl))])
    (he : eval (.Call (.Attribute (.Name x pn) "append" pa) [arg] [] pc) (envX cn cs L a ccd cl) = (do
      let ov ← eval (.Name x pn) (envX cn cs L a ccd cl)
      standAt pa.atName
      let (f, first) ← holding [ov] (getMethod ov "append" pl)
      callWith pc f first (backTo pc (starEach [arg] (envX cn cs L a ccd cl))) []))
    (hi : interactive (envX cn cs L a ccd cl) = false := by rfl) (hk : cs.kind = .function := by rfl) (hx : (envX cn cs L a ccd cl).kindOf x = some .cell := by rfl) (hdb : (x == ("__debug__" : Str)) = false := by decide) :
    wpAny (model PR w) A (exec (.Expr (.Call (.Attribute (.Name x pn) "append" pa) [arg] [] pc) ps) (envX cn cs L a ccd cl)) Q E s := by
  refine wpAny_Expr ?_ hi swapsCall
  refine PyProof.Rows.MethodCall_ ?_ he
  refine nameX_C N hc hm hd ?_ hk hx hdb
  refine getMethod_append_N N (.tail _ (.head _)) ?_
  refine callWith_method1 ?_ hst rfl
  refine PyProof.Rows.args_cons (harg _ fun tk => ?_) hst
  refine aNil ?_
  refine append_second (s := { s with toks := tk }) F N h1 hap (fun h' F' N' => h h' tk F' N') (by rw [sizeLine_eq]; omega)
theorem callEqK {f : Str} {pf pos : Pos} {args : List Expr} {kws : List Keyword} : eval (.Call (.Name f pf) args kws pos) env = (do callWith pos (← eval (.Name f pf) env) [] (backTo pos (starEach args env)) (backToKw pos (keywordEach kws env))) := rfl
theorem evK {h₀ : Heap} {Q : Value → Shared → Prop} {f : Str} {pf pos : Pos} {args : List Expr} {kws : List Keyword} {fv : Value} (G : Ground0 w mean mg mb h₀) (k : ∀ b o, h₀.get? b = some o → s.heap.get? b = some o) (e : nsIn (hd.heap_39 w.params) mainGlobals f = some none) (hv : bootBuiltins f = some fv) (hn : f ≠ "__name__")
    (h : wpAny (model PR w) A (callWith pos fv [] (backTo pos (starEach args env)) (backToKw pos (keywordEach kws env))) Q E s)
    (hg : env.globals = mainGlobals := by rfl) (hb : env.builtins = builtinsNs := by rfl) (hk : env.scope.kind = .function := by rfl) (hx : env.kindOf f = some .globalImplicit := by rfl) (hd : (f == ("__debug__" : Str)) = false := by decide) :
    wpAny (model PR w) A (eval (.Call (.Name f pf) args kws pos) env) Q E s :=
  by rw [callEqK]; exact wpAny_bind (gB G k e hv hn h hg hb hk hx hd)

theorem pieces_spec {z : Str} {tz : Tok} {lw : Addr} {ws : List Str} (G : Ground0 w mean mg mb s.heap) (hh : A.handled = none) (hu : A.units + 20 < cLine) (hroom : A.depth + 20 < recursionLimit)
    (hz : IsAbc z) (hzl : z.length ≤ 5) (hw : StrList s.heap lw ws) (hws : ∀ x ∈ ws, IsAbc x ∧ x.length ≤ 5) (hwl : ws.length ≤ 40) (hends : (ws.filter (endP z)).Perm (tailsOf z)) :
    wpAny (model PR w) A (call (.ref 261) [.str z tz, .ref lw]) (fun v s' => MadeList s s' v (piecesOf z) ∧ Keeps s s') E s := by
  refine enterC (binds := [(Str.ofString "word", .str z tz), (Str.ofString "words", .ref lw)]) G.X G.T (by k_is) (by k_is) (by omega) (by exact BindsTo.of_eq rfl) (by rfl) (by decide) ?_ (by rfl) (by rfl) (by rfl)
  intro L h₁ tk₁ cells F N Y
  obtain ⟨os, ow, rfl, ds, dw⟩ := CellsAre.two Y
  have dw : ow.data = .cell (some (.str z tz)) := dw
  have ds : os.data = .cell none := ds
  refine wpAny_execs_cons ?_
  refine wpAny_Assign_Name ?_ ?hs
  case hs => exact swapsCall
  refine ruleMake G F N hh (by show A.depth + 1 + 5 < _; omega) rfl (.tail _ (.head _)) dw (by omega) rfl rfl rfl rfl rfl rfl ?_
  intro ob rn h₂ tk₂ F₂ N₂ hrn hrl
  refine storeX_L F₂ N₂ fun h₃ F₃ N₃ => ?_
  dsimp only
  have hrc : ∀ p ∈ rn, p.1 ≠ L + 1 + 1 := fun p hp => Nat.ne_of_gt (hrl p hp _ (.head _))
  have hrw : ∀ p ∈ rn, p.1 ≠ L + 1 := fun p hp => Nat.ne_of_gt (hrl p hp _ (.tail _ (.head _)))
  have N₃' : News s.heap L h₃ ((L + 1 + 1, os) :: (L + 1, ow) :: rn) := fun p hp => N₃ p (by
    rcases List.mem_cons.mp hp with rfl | hp
    · exact List.mem_append_right _ (.head _)
    rcases List.mem_cons.mp hp with rfl | hp
    · exact List.mem_append_right _ (.tail _ (.head _))
    · exact List.mem_append_left _ hp)
  refine wpAny_execs_cons ?_
  refine evAssignComp (cl := [(Str.ofString "word", L + 1)]) (fun v => endP z (txtOf v)) (fun v y => y = v) rfl rfl (by decide) rfl (by decide) rfl rfl rfl ?_ (fun _ => rfl)
  refine nameX_L F₃ rfl ?_
  obtain ⟨vw, hlv, hls⟩ := hw
  have hvw : ∀ v ∈ vw, ∃ x t, x ∈ ws ∧ v = .str x t := fun v hv => by
    obtain ⟨i, hi⟩ := List.getElem?_of_mem hv
    obtain ⟨x, t, hx, rfl⟩ := strsAre_inv hls hi
    exact ⟨x, t, List.mem_of_getElem? hx, rfl⟩
  refine compLA hh (hlv.at fun o e => F₃.keep _ o e) (by have := strsAre_len hls; omega) F₃ N₃' ⟨?_, ?_⟩ ?_
  · intro C v s₄ m₄ E' hv hn hm hk
    obtain ⟨x, tx, hx, rfl⟩ := hvw v hv
    obtain ⟨hxa, hxl⟩ := hws x hx
    have hk0 : ∀ b o, s.heap.get? b = some o → s₄.heap.get? b = some o := fun b o e => hk b o (F₃.keep b o e)
    have hcw : s₄.heap.IsCell (L + 1) (some (.str z tz)) := ⟨ow, hk _ _ (N₃'.get (.tail _ (.head _))), dw⟩
    refine wpAny_tests_one ?_
    refine isTrue_and ?_
    refine wpAny_isTrue_Compare1 ?_ rfl
    refine nameLoc hn hm ?_
    refine Calls.Constant_str ?_
    refine PyProof.Rows.ne_str ?_
    refine wpAny_truthy_bool ?_
    by_cases hx0 : x.length = 0
    · have e : (x != Str.ofString "") = false := by
        have : x = Str.ofString "" := by
          cases x with | mk c => 
          have : c = #[] := Array.eq_empty_of_size_eq_zero hx0
          subst this; rfl
        rw [this]; rfl
      rw [e, if_neg (by decide)]
      refine ⟨?_, _, _, rfl, fun _ _ e => e⟩
      show false = endP z x
      unfold endP; rw [hx0]; rfl
    · have e : (x != Str.ofString "") = true := by
        simp only [bne_iff_ne, ne_eq]
        intro q; rw [q] at hx0; exact hx0 rfl
      rw [e, if_pos rfl]
      refine isTrue_and ?_
      refine isTrue_plain ?_ rfl
      refine evF2 G hk0 (kg_ellipsis_match w) (ki_ellipsis_match w) ?_ starBin starName rfl rfl rfl
      refine wpAny_BinOp ?_
      refine Calls.Constant_str ?_
      refine nameLoc hn hm ?_
      refine PyProof.Rows.add_str ?_ (by rw [sizeLine_eq]; show 3 + x.length ≤ _; omega)
      intro t' tk'
      refine nameCel (c := L + 1) rfl hcw ⟨hk0, ?_⟩
      refine wpAny_mono (ellipsis_spec (G.keeps hk0) hh (by show A.depth + 1 < _; omega) hxa hx0 hxl hz hzl) (fun v s₅ hq => ?_) fun _ _ x => x
      obtain ⟨rfl, h₅, tk₅, rfl, hk₅⟩ := hq
      refine wpAny_truthy_bool ?_
      have e2 : endP z x = Txt.endswith z x := by unfold endP; rw [show (x.length != 0) = true from by simp [hx0]]; rfl
      by_cases he : Txt.endswith z x = true
      · rw [he, if_pos rfl]
        refine isTrue_and_nil ⟨?_, _, _, rfl, hk₅⟩
        show true = endP z x
        rw [e2, he]
      · rw [Bool.not_eq_true] at he
        rw [he, if_neg (by decide)]
        refine ⟨?_, _, _, rfl, hk₅⟩
        show false = endP z x
        rw [e2, he]
  · intro C v s₄ m₄ E' hv hp hn hm hk
    exact nameLoc hn hm ⟨rfl, _, _, rfl, fun _ _ e => e⟩
  · intro D h₅ tk₅ ys c₅ F₅ N₅ hD hDne hpair
    have hys : ys.toList = vw.filter fun v => endP z (txtOf v) := by
      have key : ∀ {a b : List Value}, Paired (fun v y => y = v) a b → b = a := by
        intro a b h
        induction h with
        | nil => rfl
        | cons e _ ih => rw [e, ih]
      exact key hpair
    dsimp only
    have hyS : StrsAre ys.toList (ws.filter (endP z)) := by rw [hys]; exact strsAre_filter (endP z) hls
    refine wpAny_execs_cons ?_
    refine wpAny_Assign_Name ?_ ?hs
    case hs => exact swapsList
    refine PyProof.Rows.List_ ?_
    refine aNil ?_
    refine newList_N F₅ N₅ fun h₆ F₆ N₆ => ?_
    have hS := newsOff N₅
    generalize hSz : h₅.objs.size = S at *
    dsimp only at N₆ ⊢
    have hSD : S ≠ D := (hS _ (.head _)).symm
    have hSc : S ≠ L + 1 + 1 := (hS _ (.tail _ (.head _))).symm
    have hSr : ∀ p ∈ rn, p.1 ≠ S := fun p hp => hS p (.tail _ (.tail _ (.tail _ hp)))
    have hSw : L + 1 ≠ S := hS _ (.tail _ (.tail _ (.head _)))
    have hDc : D ≠ L + 1 + 1 := (hDne _ (.head _)).symm
    refine storeX_C F₆ N₆ rfl (.tail hSc (.tail hDc (.head ?_))) ds ?_
    · intro p hp
      rcases List.mem_cons.mp hp with rfl | hp
      · exact Nat.ne_of_lt (Nat.lt_succ_self _)
      · exact hrc p hp
    intro h₇ os' F₇ N₇ ds'
    dsimp only
    refine wpAny_execs_cons ?_
    refine forM ?_ (fun _ => rfl)
    refine PyProof.Rows.Subscript_ ?_
    refine evK G F₇.keep (ng_sorted w) bb_sorted nn_sorted ?_
    refine callWith_kw ?_
    refine aName ?_
    refine nameX_L F₇ rfl ?_
    refine aNil ?_
    refine kws_cons ?_
    refine gB G F₇.keep (ng_len w) bb_len nn_len ?_
    refine kws_nil ?_
    have hlD : h₇.IsList D ys.toList.toArray := ⟨_, N₇.get (.tail _ (.head _)), rfl, c₅, rfl⟩
    refine ksk_sorted (kz := (ws.filter (endP z)).map fun x => (x.length : Int)) F₇ N₇ hlD ?_ ?_ (ksk_s1 _ _) (fun x => ksk_l1 _ _) (fun x => ksk_t4 _ _) ?_ ?_
    · rw [List.length_map, strsAre_len hyS]
    · have := strsAre_len hyS
      have h2 := List.length_filter_le (endP z) ws
      omega
    · intro i v k hv hk h tk own Fa Na
      obtain ⟨x, t, hx, rfl⟩ := strsAre_inv hyS hv
      rw [List.getElem?_map, hx] at hk
      have hk : some ((x.length : Int)) = some k := hk
      obtain rfl := Option.some.inj hk
      have hxm := (hws x (List.mem_filter.mp (List.mem_of_getElem? hx)).1).2
      refine PyProof.Rows.len_str (by omega) ?_
      exact KskEnd.intro Fa Na fun p hp => hp
    · intro SD h₈ tk₈ out c₈ F₈ N₈ hSDl hko
      have hout := sorted_tails hyS hends hko
      refine wpAny_Slice ?_
      refine wpAny_evalPart_none ?_
      refine wpAny_evalPart_none ?_
      refine wpAny_evalPart_some ?_
      refine PyProof.Rows.UnaryOp_ ?_
      refine wpAny_Constant_int ?_
      refine PyProof.Rows.neg_int ?_
      refine kba_turn (value' := .Name (Str.ofString "_") ⟨0, 0, 0, 0⟩) (fun _ => rfl) ?_
      have hlen9 : out.size ≤ 5 := by
        have := strsAre_len hout
        rw [List.length_reverse] at this
        have h3 : (tailsOf z).length = z.length := by unfold tailsOf; rw [List.length_map, List.length_range]
        have h4 : out.toList.length = out.size := Array.length_toList
        omega
      refine krv_lit F₈ N₈ (its := out) ⟨_, N₈.get (.head _), rfl, c₈, rfl⟩ (.int _ _) rfl ?_ (by with_unfolding_all rfl) (fun _ => rfl) (by rw [sizeLine_eq]; omega)
      intro RV h₉ F₉ N₉ hRVl
      dsimp only at N₉ ⊢
      have hrev : StrsAre out.toList.reverse (tailsOf z) := by
        have := strsAre_reverse hout
        rwa [List.reverse_reverse] at this
      generalize hvs : out.toList.reverse = vs at *
      have hzt : ∀ x ∈ tailsOf z, x.length ≤ z.length := fun x hx => by obtain ⟨k, _, _, e⟩ := mem_tails hx; omega
      have hRV : ∀ p ∈ ((S, ({ cls := .type "list", data := .seq #[] } : Obj)) :: (D, lstO ys c₅) :: (L + 1 + 1, os') :: (L + 1, ow) :: rn), p.1 ≠ RV := fun p hp => Nat.ne_of_lt (hRVl p (.tail _ hp))
      have hRS : RV ≠ S := (hRV _ (.head _)).symm
      have N₉' : News s.heap L h₉ ((S, lstO #[] 0) :: (RV, listOf vs.toArray 0) :: (L + 1 + 1, os') :: (L + 1, ow) :: rn) := fun p hp => N₉ p (by
        rcases List.mem_cons.mp hp with rfl | hp
        · exact .tail _ (.tail _ (.head _))
        rcases List.mem_cons.mp hp with rfl | hp
        · exact .head _
        · exact .tail _ (.tail _ (.tail _ (.tail _ hp))))
      have hSrest : ∀ p ∈ ((RV, listOf vs.toArray 0) :: (L + 1 + 1, os') :: (L + 1, ow) :: rn), p.1 ≠ S := fun p hp => by
        rcases List.mem_cons.mp hp with rfl | hp
        · exact hRS
        rcases List.mem_cons.mp hp with rfl | hp
        · exact hSc.symm
        rcases List.mem_cons.mp hp with rfl | hp
        · exact hSw
        · exact hSr p hp
      refine iterList (w := w) (vs := vs) (fun i m n => ∃ its c, n = (S, lstO its c) :: (RV, listOf vs.toArray 0) :: (L + 1 + 1, os') :: (L + 1, ow) :: rn ∧ StrsAre its.toList (((tailsOf z).take i).foldl (startStep z.length) []) ∧ m (Str.ofString "rule") = some (.ref ob))
        hh F₉ N₉' ⟨_, N₉'.get (.tail _ (.head _)), rfl, 0, rfl⟩ (.inr ⟨listOf vs.toArray 0, ?_⟩) ⟨#[], 0, rfl, .nil, rfl⟩ ?_ ?_ rfl rfl
      · rintro i m n ⟨its, c, rfl, _⟩
        exact .tail _ (.head _)
      · rintro i v m₁ news₁ h tk I io hv ha ⟨its, c, rfl, hits, hmr⟩ Fa Na
        obtain ⟨x, tx, hx, rfl⟩ := strsAre_inv hrev hv
        have hxl : x.length ≤ z.length := hzt x (List.mem_of_getElem? hx)
        generalize hacc : ((tailsOf z).take i).foldl (startStep z.length) [] = acc at *
        have haccl : ∀ y ∈ acc, y.length ≤ z.length := hacc ▸ starts_mem z.length (fun y => y.length ≤ z.length) _ _ (fun y hy => hzt y (List.mem_of_mem_take hy)) (by simp)
        have hal : acc.length ≤ 5 := by
          have h1 := starts_len z.length ((tailsOf z).take i) []
          rw [hacc] at h1
          have h2 := take_len_le (tailsOf z) i
          have h3 : (tailsOf z).length = z.length := by unfold tailsOf; rw [List.length_map, List.length_range]
          simp only [List.length_nil] at h1
          omega
        have hisz : its.size = acc.length := by have := strsAre_len hits; rw [← this]; exact Array.length_toList.symm
        have fin : ∀ (Qr : Value → Shared → Prop) (s₂ : Shared), (∃ h' tk' its' c', s₂ = { s with heap := h', toks := tk' } ∧ Fr s.heap L h' (fun y => if y = Str.ofString "end" then some (.str x tx) else m₁ y) ∧ News s.heap L h' ((I, io) :: (S, lstO its' c') :: (RV, listOf vs.toArray 0) :: (L + 1 + 1, os') :: (L + 1, ow) :: rn) ∧ StrsAre its'.toList (startStep z.length acc x)) →
            Turned s.heap L I io (fun m n => ∃ its c, n = (S, lstO its c) :: (RV, listOf vs.toArray 0) :: (L + 1 + 1, os') :: (L + 1, ow) :: rn ∧ StrsAre its.toList (((tailsOf z).take (i + 1)).foldl (startStep z.length) []) ∧ m (Str.ofString "rule") = some (.ref ob)) { s with heap := h₉, toks := tk₈ + 1 + 1 } Qr .next s₂ := by
          rintro Qr s₂ ⟨h', tk', its', c', rfl, F', N', hS'⟩
          refine ⟨h', tk', _, _, _, rfl, F', N', fun p hp => .tail _ hp, .head _, ?_, its', c', rfl, ?_, hmr⟩
          · intro p hp
            rcases List.mem_cons.mp hp with rfl | hp
            · exact ha (S, lstO its c) (.head _)
            · exact ha p (.tail _ hp)
          · rw [take_foldl _ _ _ hx, hacc]; exact hS'
        have hIS : I ≠ S := (ha (S, lstO its c) (.head _)).symm
        refine wpAny_execs_cons ?_
        refine wpAny_If ?_
        refine isTrue_or ?_
        refine wpAny_isTrue_Compare1 ?_ rfl
        refine nameX_C Na rfl (.tail _ (.tail _ (.tail _ (.head _)))) ds' ?_
        refine PyProof.Rows.List_ ?_
        refine aNil ?_
        refine newList_N Fa Na fun hb Fb Nb => ?_
        have hlS : hb.IsList S its := ⟨_, Nb.get (.tail _ (.tail _ (.head _))), rfl, c, rfl⟩
        have hlE : hb.IsList h.objs.size #[] := ⟨_, Nb.get (.head _), rfl, 0, rfl⟩
        have Nb' : News s.heap L hb ((I, io) :: (S, lstO its c) :: (RV, listOf vs.toArray 0) :: (L + 1 + 1, os') :: (L + 1, ow) :: rn) := fun p hp => Nb p (.tail _ hp)
        by_cases hem : acc.length = 0
        · refine SeqAt.eq_listAt (e := fun _ => true) hlS hlE (by rw [hisz, hem]; rfl) (by show A.units + 3 < _; omega) (fun j h1 h2 => absurd h2 (Nat.not_lt_zero _)) ?_
          refine wpAny_truthy_bool ?_
          rw [show (List.range its.size).all (fun _ => true) = true from by simp, if_pos rfl, if_pos rfl]
          refine wpAny_execs_cons ?_
          refine appendStep Fb Nb' hIS hSrest rfl (.tail _ (.tail _ (.tail _ (.head _)))) ds' (fun Q' hq => nameX_L Fb rfl (hq _)) (by omega) ?_ rfl rfl
          intro h' tk' F' N'
          dsimp only
          refine wpAny_execs_nil ?_
          dsimp only
          refine wpAny_execs_nil ?_
          refine fin _ _ ⟨h', tk', _, _, rfl, F', N', ?_⟩
          have : startStep z.length acc x = acc ++ [x] := by unfold startStep; rw [if_pos]; rw [List.length_eq_zero_iff.mp hem]; rfl
          rw [this, Array.toList_push]
          exact strsAre_append hits (.cons x tx .nil)
        · refine SeqAt.eq_list_lengthsAt hlS hlE (by rw [hisz]; simp; exact fun q => hem (by rw [q]; rfl)) (by show A.units + 3 < _; omega) ?_
          refine wpAny_truthy_bool ?_
          rw [if_neg (by decide)]
          obtain ⟨dx, kk, hsh, tt, cl0, Ts, t1, t2, hr1, hr2, hr3, hr4⟩ := hrn hb fun p hp => Nb'.get (.tail _ (.tail _ (.tail _ (.tail _ (.tail _ hp)))))
          refine isTrue_or ?_
          refine wpAny_isTrue_Compare1 ?_ rfl
          refine PyProof.Rows.MethodCall_ ?_
          refine nameX_L Fb hmr ?_
          refine method_inst Fb G.X ⟨hr1, rfl, rfl, hr2⟩ (pm_62 w) (fm_62 w) (if_59 w) rfl ?_
          refine callWith_K G.X (ki_59 w) ?_
          refine aCall ?_
          refine evF2 G Fb.keep (kg_law_row w) (ki_law_row w) ?_ starName starCall rfl rfl rfl
          refine nameX_L Fb rfl ?_
          refine evN G Fb.keep (ng_len w) bb_len nn_len ?_
          refine cB1 ?_
          refine nameX_C Nb' rfl (.tail _ (.tail _ (.tail _ (.tail _ (.head _))))) dw ?_
          refine PyProof.Rows.len_str (by omega) ⟨Fb.keep, ?_⟩
          refine wpAny_mono (row_spec (G.keeps Fb.keep) hh (by show A.depth + 1 < _; omega) hxl (by omega)) (fun v1 s₁ hq => ?_) fun _ _ x => x
          obtain ⟨⟨l1, o1, rfl, hn1, ho1, hL1⟩, hc1, tkc1, rfl, hkc1⟩ := hq
          dsimp only at hn1 ho1 hkc1
          have Fc := Fb.keeps hkc1
          have Nc := Nb'.grown hkc1
          have hlast : acc[acc.length - 1]? = some (acc.getLastD (Str.ofString "")) := by
            rw [List.getLastD_eq_getLast?, List.getLast?_eq_getElem?, List.getElem?_eq_getElem (by omega)]; rfl
          generalize hla : acc.getLastD (Str.ofString "") = la at *
          have hlal : la.length ≤ z.length := haccl la (List.mem_of_getElem? hlast)
          obtain ⟨tl, htl⟩ := strsAre_get hits hlast
          refine aCall ?_
          refine evF2 G Fc.keep (kg_law_row w) (ki_law_row w) ?_ starSub starCall rfl rfl rfl
          refine PyProof.Rows.Subscript_ ?_
          refine nameX_C Nc rfl (.tail _ (.tail _ (.tail _ (.head _)))) ds' ?_
          refine PyProof.Rows.UnaryOp_ ?_
          refine wpAny_Constant_int ?_
          refine PyProof.Rows.neg_int ?_
          have hLs : hc1.IsList S its := ⟨_, Nc.get (.tail _ (.head _)), rfl, c, rfl⟩
          refine subscriptTail_builtin (T := "list") (by exact hLs.typeIs) slot_list_getitem.lookup ?_
          refine wpAny_getItem_list_neg hLs (by decide) (by rw [hisz]; omega) (by decide) (x := .str la tl) ?_ ?_
          · rw [show ((-1 : Int) + (its.size : Int)).toNat = acc.length - 1 from by rw [hisz]; omega]
            rw [← Array.getElem?_toList]; exact htl
          refine evN G Fc.keep (ng_len w) bb_len nn_len ?_
          refine cB1 ?_
          refine nameX_C Nc rfl (.tail _ (.tail _ (.tail _ (.tail _ (.head _))))) dw ?_
          refine PyProof.Rows.len_str (by omega) ⟨Fc.keep, ?_⟩
          refine wpAny_mono (row_spec (G.keeps Fc.keep) hh (by show A.depth + 1 < _; omega) hlal (by omega)) (fun v2 s₂ hq => ?_) fun _ _ x => x
          obtain ⟨⟨l2, o2, rfl, hn2, ho2, hL2⟩, hc2, tkc2, rfl, hkc2⟩ := hq
          dsimp only at hn2 ho2 hkc2
          have Fd := Fc.keeps hkc2
          have Nd := Nc.grown hkc2
          refine aNil ⟨G.X.keeps Fd.keep, ?_⟩
          dsimp only [List.cons_append, List.nil_append]
          have hRd : RuleAt hc2 ob z.length := hrn hc2 fun p hp => Nd.get (.tail _ (.tail _ (.tail _ (.tail _ (.tail _ hp)))))
          refine wpAny_mono (compare_spec (G.keeps Fd.keep) hh (by show A.depth + 1 < _; omega) hRd (hL1.at (hkc2 _ _ ho1)) (hL2.at ho2) (rowOf_len hxl) (rowOf_len hlal) (by omega)) (fun v3 s₃ hq => ?_) fun _ _ x => x
          obtain ⟨⟨t3, rfl⟩, hc3, tkc3, rfl, hkc3⟩ := hq
          dsimp only at hkc3
          have Fe := Fd.keeps hkc3
          have Ne := Nd.grown hkc3
          refine wpAny_Constant_int ?_
          refine PyProof.Rows.lt_int ?_
          refine wpAny_truthy_bool ?_
          by_cases hcmp : cmpRows (rowOf x z.length) (rowOf la z.length) < 0
          · rw [decide_eq_true hcmp, if_pos rfl, if_pos rfl]
            refine wpAny_execs_cons ?_
            refine appendStep Fe Ne hIS hSrest rfl (.tail _ (.tail _ (.tail _ (.head _)))) ds' (fun Q' hq => nameX_L Fe rfl (hq _)) (by omega) ?_ rfl rfl
            intro h' tk' F' N'
            dsimp only
            refine wpAny_execs_nil ?_
            dsimp only
            refine wpAny_execs_nil ?_
            refine fin _ _ ⟨h', tk', _, _, rfl, F', N', ?_⟩
            have : startStep z.length acc x = acc ++ [x] := by unfold startStep; rw [if_pos]; rw [hla, decide_eq_true hcmp, Bool.or_true]
            rw [this, Array.toList_push]
            exact strsAre_append hits (.cons x tx .nil)
          · rw [decide_eq_false hcmp, if_neg (by decide)]
            refine isTrue_or_nil ?_
            rw [if_neg (by decide)]
            refine wpAny_execs_nil ?_
            dsimp only
            refine wpAny_execs_nil ?_
            refine fin _ _ ⟨hc3, _, its, c, rfl, Fe, Ne, ?_⟩
            have : startStep z.length acc x = acc := by
              unfold startStep
              rw [if_neg]
              rw [hla, decide_eq_false hcmp, Bool.or_false]
              intro q
              exact hem (by rw [List.isEmpty_iff.mp q]; rfl)
            rw [this]
            exact hits
      · rintro m₁ news₁ h tk ⟨its, c, rfl, hits, hmr⟩ Fa Na
        have hvl : vs.length = (tailsOf z).length := strsAre_len hrev
        rw [hvl, List.take_length] at hits
        have hits : StrsAre its.toList (startsOf z) := hits
        have h3 : (tailsOf z).length = z.length := by unfold tailsOf; rw [List.length_map, List.length_range]
        have hal : (startsOf z).length ≤ 5 := by
          have h1 := starts_len z.length (tailsOf z) []
          simp only [List.length_nil] at h1
          unfold startsOf
          omega
        have hsl : ∀ y ∈ startsOf z, y.length ≤ 5 := fun y hy => Nat.le_trans (starts_mem z.length (fun y => y.length ≤ z.length) _ _ hzt (by simp) y hy) hzl
        have hisz : its.size = (startsOf z).length := by have := strsAre_len hits; rw [← this]; exact Array.length_toList.symm
        have Na' : News s.heap L h ((RV, listOf vs.toArray 0) :: (S, lstO its c) :: (L + 1 + 1, os') :: (L + 1, ow) :: rn) := fun p hp => Na p (by
          rcases List.mem_cons.mp hp with rfl | hp
          · exact .tail _ (.head _)
          rcases List.mem_cons.mp hp with rfl | hp
          · exact .head _
          · exact .tail _ (.tail _ hp))
        refine wpAny_execs_cons ?_
        refine appendStep Fa Na' hRS (fun p hp => hSrest p (.tail _ hp)) rfl (.tail _ (.tail _ (.head _))) ds' (fun Q' hq => Calls.Constant_str (hq _)) (by omega) ?_ rfl rfl
        intro hb tkb Fb Nb
        dsimp only
        have hsts : ∃ tq, StrsAre (its.push (.str (Str.ofString "") tq)).toList (startsOf z ++ [Str.ofString ""]) ∧ News s.heap L hb ((RV, listOf vs.toArray 0) :: (S, lstO (its.push (.str (Str.ofString "") tq)) (c + 1)) :: (L + 1 + 1, os') :: (L + 1, ow) :: rn) :=
          ⟨_, by rw [Array.toList_push]; exact strsAre_append hits (.cons _ _ .nil), Nb⟩
        clear Nb
        obtain ⟨tq, hst2, Nb⟩ := hsts
        generalize hits2 : its.push (.str (Str.ofString "") tq) = it2 at *
        generalize hl2 : startsOf z ++ [Str.ofString ""] = sts at *
        have hstl : sts.length = (startsOf z).length + 1 := by rw [← hl2, List.length_append]; rfl
        have hsts5 : ∀ y ∈ sts, y.length ≤ 5 := fun y hy => by
          rw [← hl2] at hy
          rcases List.mem_append.mp hy with hy | hy
          · exact hsl y hy
          · rw [List.mem_singleton.mp hy]; show 0 ≤ 5; omega
        have hlS : hb.IsList S it2.toList.toArray := ⟨_, Nb.get (.tail _ (.head _)), rfl, c + 1, rfl⟩
        refine wpAny_execs_cons ?_
        refine wpAny_Return_some ?_
        refine evComp (cl := [(Str.ofString "starts", L + 1 + 1)]) (fun _ => true) (fun v y => ∃ (i : Nat) (t u : Tok), v = .int (i : Int) t ∧ y = .str (Txt.slice (sts.getD i Str.empty) none (some (((sts.getD i Str.empty).length : Int) - ((sts.getD (i + 1) Str.empty).length : Int)))) u) rfl (by decide) rfl (by decide) rfl ?_ (fun _ => rfl)
        refine evN G Fb.keep (ng_range w) bb_range nn_range ?_
        refine cT1 ?_ starBin
        refine wpAny_BinOp ?_
        refine evN G Fb.keep (ng_len w) bb_len nn_len ?_
        refine cB1 ?_
        refine nameX_C Nb rfl (.tail _ (.tail _ (.head _))) ds' ?_
        have h9 : it2.toList.toArray.size = sts.length := by rw [← strsAre_len hst2]; rfl
        refine Calls.call_len_list hlS (by rw [h9]; omega) ?_
        refine wpAny_Constant_int ?_
        refine sub_int ?_
        refine range1_rows Fb Nb ?_
        intro hc1 tkc t₁ u₁ v₁ hr Fc Nc hkc
        dsimp only at hr hkc ⊢
        have er : ((it2.toList.toArray.size : Int) - 1) = ((sts.length - 1 : Nat) : Int) := by rw [h9]; omega
        rw [er] at hr
        refine compR hh hr (by omega) Fc Nc ⟨?_, ?_⟩ ?_
        · intro C v s₃ m₃ E' hP hn hm hk
          exact testsNone (v := v) (fun _ => true) rfl
        · rintro C v s₃ m₃ E' ⟨i, t, hi, rfl⟩ _ hn hm hk
          have hk0 : ∀ b o, s.heap.get? b = some o → s₃.heap.get? b = some o := fun b o e => hk b o (Fc.keep b o e)
          have hcs : s₃.heap.IsCell (L + 1 + 1) (some (.ref S)) := ⟨os', hk _ _ (Nc.get (.tail _ (.tail _ (.head _)))), ds'⟩
          have hl3 : s₃.heap.IsList S it2.toList.toArray := ⟨_, hk _ _ (Nc.get (.tail _ (.head _))), rfl, c + 1, rfl⟩
          have e1 : sts[i]? = some (sts.getD i Str.empty) := by rw [List.getD_eq_getElem?_getD, List.getElem?_eq_getElem (by omega)]; rfl
          have e2 : sts[i + 1]? = some (sts.getD (i + 1) Str.empty) := by rw [List.getD_eq_getElem?_getD, List.getElem?_eq_getElem (by omega)]; rfl
          generalize hxa : sts.getD i Str.empty = xa at *
          generalize hxb : sts.getD (i + 1) Str.empty = xb at *
          have l1 := hsts5 xa (List.mem_of_getElem? e1)
          have l2 := hsts5 xb (List.mem_of_getElem? e2)
          obtain ⟨ta, ga⟩ := strsAre_get hst2 e1
          obtain ⟨tb, gb⟩ := strsAre_get hst2 e2
          refine PyProof.Rows.Subscript_ ?_
          refine PyProof.Rows.Subscript_ ?_
          refine nameCel (c := L + 1 + 1) rfl hcs ?_
          refine nameLoc hn hm ?_
          refine item_listL (l := it2.toList) hl3 (by omega) (by omega) (by rw [Int.toNat_natCast]; exact ga) ?_
          refine wpAny_Slice ?_
          refine wpAny_evalPart_none ?_
          refine wpAny_evalPart_some ?_
          refine wpAny_BinOp ?_
          refine evN G hk0 (ng_len w) bb_len nn_len ?_
          refine cB1 ?_
          refine PyProof.Rows.Subscript_ ?_
          refine nameCel (c := L + 1 + 1) rfl hcs ?_
          refine nameLoc hn hm ?_
          refine item_listL (l := it2.toList) hl3 (by omega) (by omega) (by rw [Int.toNat_natCast]; exact ga) ?_
          refine PyProof.Rows.len_str (by omega) ?_
          refine evN G hk0 (ng_len w) bb_len nn_len ?_
          refine cB1 ?_
          refine PyProof.Rows.Subscript_ ?_
          refine nameCel (c := L + 1 + 1) rfl hcs ?_
          refine wpAny_BinOp ?_
          refine nameLoc hn hm ?_
          refine wpAny_Constant_int ?_
          refine add_int ?_
          refine item_listL (l := it2.toList) (x := .str xb tb) hl3 (by omega) (by omega) (by rw [show ((i : Int) + 1).toNat = i + 1 from by omega]; exact gb) ?_
          refine PyProof.Rows.len_str (by omega) ?_
          refine sub_int ?_
          refine wpAny_evalPart_none ?_
          refine cutTo ?_ (by omega)
          intro h' t' k hk'
          exact ⟨⟨i, t, t', rfl, by rw [hxa, hxb]⟩, _, _, rfl, hk'⟩
        · intro D2 h' tk' ys2 c2 vs2 F' N' hD2 hne2 hlen2 hv2 hpair hk'
          refine ⟨⟨D2, _, rfl, N'.fresh (.head _), N'.get (.head _), ys2.toList, c2, rfl, ?_⟩, _, _, rfl, F'.keep⟩
          unfold piecesOf
          rw [hl2]
          unfold cutsOf
          have key : ∀ (vs : List Value) (us : List Value) (j : Nat), (∀ (k : Nat) v, vs[k]? = some v → ∃ t, v = .int ((j + k : Nat) : Int) t) → Paired (fun v y => ∃ (i : Nat) (t u : Tok), v = .int (i : Int) t ∧ y = .str (Txt.slice (sts.getD i Str.empty) none (some (((sts.getD i Str.empty).length : Int) - ((sts.getD (i + 1) Str.empty).length : Int)))) u) vs us →
              StrsAre us ((List.range' j vs.length).map fun k => Txt.slice (sts.getD k Str.empty) none (some (((sts.getD k Str.empty).length : Int) - ((sts.getD (k + 1) Str.empty).length : Int)))) := by
            intro vs us j hv hp
            induction hp generalizing j with
            | nil => exact .nil
            | cons hF _ ih =>
              obtain ⟨i, t, u, rfl, rfl⟩ := hF
              obtain ⟨t', ht'⟩ := hv 0 _ rfl
              have : i = j := by
                have := (Value.int.inj ht').1
                omega
              subst this
              refine .cons _ u (ih (i + 1) fun k v hk => ?_)
              obtain ⟨t2, h2⟩ := hv (k + 1) v hk
              exact ⟨t2, by rw [h2]; congr 1; omega⟩
          have := key vs2 ys2.toList 0 (fun k v hk => by rw [Nat.zero_add]; exact hv2 k v hk) hpair
          rw [hlen2, ← List.range_eq_range'] at this
          exact this
end
abbrev ABC : List Nat := [65, 66, 67]
abbrev sOf (l : List Nat) : Str := ⟨l.toArray⟩
def OkW (al : List Nat) (l : List Nat) : Prop := l.length ≤ 5 ∧ ∀ c ∈ l, c ∈ al
theorem OkW.mem {al l : List Nat} (h : OkW al l) : l ∈ wordsTo al 5 := mem_wordsTo h.1 h.2
theorem OkW.tail {al l : List Nat} {c : Nat} (h : OkW al (c :: l)) : OkW al l := ⟨Nat.le_trans (Nat.le_succ _) h.1, fun c hc => h.2 c (.tail _ hc)⟩
def tailOk (l : List Nat) : Bool := (Txt.slice (sOf l) (some 1) none == sOf l.tail) && (l.isEmpty || Txt.item (sOf l) 0 == sOf [l.headD 0])
theorem tail_abc : ∀ l ∈ wordsTo abc 5, tailOk l = true := by decide +kernel
theorem tail_ABC : ∀ l ∈ wordsTo ABC 5, tailOk l = true := by decide +kernel
theorem tailOk_slice {c : Nat} {l : List Nat} (h : tailOk (c :: l) = true) : Txt.slice (sOf (c :: l)) (some 1) none = sOf l := by
  unfold tailOk at h
  rw [Bool.and_eq_true] at h
  exact eq_of_beq h.1
theorem tailOk_item {c : Nat} {l : List Nat} (h : tailOk (c :: l) = true) : Txt.item (sOf (c :: l)) 0 = sOf [c] := by
  unfold tailOk at h
  rw [Bool.and_eq_true] at h
  exact eq_of_beq (by simpa using h.2)

def laidN : List Nat → List Nat → List (List Nat)
  | [], b => [b]
  | a, [] => [a]
  | x :: a, y :: b => (laidN a (y :: b)).map (x :: ·) ++ (laidN (x :: a) b).map (y :: ·)
termination_by a b => a.length + b.length

theorem laidN_len : ∀ (n : Nat) (a b : List Nat), a.length + b.length ≤ n → (laidN a b).length ≤ 2 ^ n ∧ ∀ l ∈ laidN a b, l.length = a.length + b.length
  | n, [], b, _ => by
    rw [laidN]
    exact ⟨Nat.one_le_two_pow, fun l hl => by rw [List.mem_singleton.mp hl]; simp⟩
  | n, x :: a, [], _ => by
    rw [laidN]
    · exact ⟨Nat.one_le_two_pow, fun l hl => by rw [List.mem_singleton.mp hl]; rfl⟩
    · simp
  | 0, x :: a, y :: b, h => by simp at h
  | n + 1, x :: a, y :: b, h => by
    simp only [List.length_cons] at h
    have h1 := laidN_len n a (y :: b) (by simp only [List.length_cons]; omega)
    have h2 := laidN_len n (x :: a) b (by simp only [List.length_cons]; omega)
    rw [laidN]
    refine ⟨?_, fun l hl => ?_⟩
    · rw [List.length_append, List.length_map, List.length_map, Nat.pow_succ]
      have := h1.1; have := h2.1
      omega
    · rcases List.mem_append.mp hl with hl | hl
      · obtain ⟨l', hl', rfl⟩ := List.mem_map.mp hl
        have := h1.2 l' hl'
        simp only [List.length_cons] at this ⊢
        omega
      · obtain ⟨l', hl', rfl⟩ := List.mem_map.mp hl
        have := h2.2 l' hl'
        simp only [List.length_cons] at this ⊢
        omega

theorem sOf_cons (c : Nat) (l : List Nat) : sOf [c] ++ sOf l = sOf (c :: l) := by
  show (⟨#[c] ++ l.toArray⟩ : Str) = ⟨(c :: l).toArray⟩
  congr 1
  apply Array.ext'
  simp
theorem sOf_len (l : List Nat) : (sOf l).length = l.length := rfl
theorem sOf_nil (l : List Nat) : (sOf l == Str.ofString "") = l.isEmpty := by
  cases l with
  | nil => rfl
  | cons c l =>
    show (sOf (c :: l) == _) = false
    apply Bool.eq_false_iff.mpr
    intro h
    have := congrArg Str.length (eq_of_beq h)
    cases this

theorem paired_strs {f : Str → Str} {vs us : List Value} {xs : List Str} (h : StrsAre vs xs) (p : Paired (fun v y => ∃ u, y = .str (f (txtOf v)) u) vs us) : StrsAre us (xs.map f) := by
  induction h generalizing us with
  | nil => cases p; exact .nil
  | cons x t _ ih =>
    cases p with
    | cons hF hp =>
      obtain ⟨u, rfl⟩ := hF
      exact .cons _ u (ih hp)

section
variable {w : World} {mean : ExcName → Option Value} {mg mb : Str → Option Value}

theorem laid_spec : ∀ (n : Nat) {la lb : List Nat} {A : Around} {s : Shared} {E : Value → Shared → Prop} {ta tb : Tok}, la.length + lb.length ≤ n → OkW abc la → OkW ABC lb → Ground0 w mean mg mb s.heap → A.handled = none → A.depth + n < recursionLimit →
    wpAny (model PR w) A (call (.ref 266) [.str (sOf la) ta, .str (sOf lb) tb]) (fun v s' => MadeList s s' v ((laidN la lb).map sOf) ∧ Keeps s s') E s := by
  intro n
  induction n using Nat.strongRecOn with
  | _ n ih =>
    intro la lb A s E ta tb hn ha hb G hh hroom
    refine enterC (binds := [(Str.ofString "one", .str (sOf la) ta), (Str.ofString "two", .str (sOf lb) tb)]) G.X G.T (by k_is) (by k_is) (by omega) (by exact BindsTo.of_eq rfl) (by rfl) (by decide) ?_ (by rfl) (by rfl) (by rfl)
    intro L h₁ tk₁ cells F N Y
    obtain ⟨o2, o1, rfl, d2, d1⟩ := CellsAre.two Y
    have d1 : o1.data = .cell (some (.str (sOf la) ta)) := d1
    have d2 : o2.data = .cell (some (.str (sOf lb) tb)) := d2
    have hla : (sOf la).length ≤ 5 := ha.1
    have hlb : (sOf lb).length ≤ 5 := hb.1
    refine wpAny_execs_cons ?_
    refine wpAny_If ?_
    refine isTrue_or ?_
    refine wpAny_isTrue_Compare1 ?_ rfl
    refine nameX_C N rfl (.tail _ (.head _)) d1 ?_
    refine Calls.Constant_str ?_
    refine PyProof.Rows.eq_str ?_
    refine wpAny_truthy_bool ?_
    rw [sOf_nil]
    cases la with
    | nil =>
      rw [List.isEmpty_nil, if_pos rfl, if_pos rfl]
      refine wpAny_execs_cons (wpAny_Return_some ?_)
      refine PyProof.Rows.List_ ?_
      refine aBin ?_
      refine wpAny_BinOp ?_
      refine nameX_C N rfl (.tail _ (.head _)) d1 ?_
      refine nameX_C N rfl (.head _) d2 ?_
      refine PyProof.Rows.add_str ?_ (by rw [sizeLine_eq]; omega)
      intro t' tk'
      refine aNil ?_
      refine newList_N F N fun h₂ F₂ N₂ => ?_
      dsimp only at N₂ ⊢
      refine ⟨⟨_, _, rfl, N₂.fresh (.head _), N₂.get (.head _), _, 0, rfl, ?_⟩, _, _, rfl, F₂.keep⟩
      rw [laidN]
      have : sOf [] ++ sOf lb = sOf lb := by
        show (⟨#[] ++ lb.toArray⟩ : Str) = _
        congr 1
        simp
      rw [this]
      exact .cons _ _ .nil
    | cons x la =>
      rw [List.isEmpty_cons, if_neg (by decide)]
      refine isTrue_or ?_
      refine wpAny_isTrue_Compare1 ?_ rfl
      refine nameX_C N rfl (.head _) d2 ?_
      refine Calls.Constant_str ?_
      refine PyProof.Rows.eq_str ?_
      refine wpAny_truthy_bool ?_
      rw [sOf_nil]
      cases lb with
      | nil =>
        rw [List.isEmpty_nil, if_pos rfl, if_pos rfl]
        refine wpAny_execs_cons (wpAny_Return_some ?_)
        refine PyProof.Rows.List_ ?_
        refine aBin ?_
        refine wpAny_BinOp ?_
        refine nameX_C N rfl (.tail _ (.head _)) d1 ?_
        refine nameX_C N rfl (.head _) d2 ?_
        refine PyProof.Rows.add_str ?_ (by rw [sizeLine_eq]; omega)
        intro t' tk'
        refine aNil ?_
        refine newList_N F N fun h₂ F₂ N₂ => ?_
        dsimp only at N₂ ⊢
        refine ⟨⟨_, _, rfl, N₂.fresh (.head _), N₂.get (.head _), _, 0, rfl, ?_⟩, _, _, rfl, F₂.keep⟩
        rw [laidN]
        · have : sOf (x :: la) ++ sOf [] = sOf (x :: la) := by
            show (⟨(x :: la).toArray ++ #[]⟩ : Str) = _
            congr 1
          rw [this]
          exact .cons _ _ .nil
        · simp
      | cons y lb =>
        rw [List.isEmpty_cons, if_neg (by decide)]
        refine isTrue_or_nil ?_
        rw [if_neg (by decide)]
        refine wpAny_execs_nil ?_
        dsimp only
        simp only [List.length_cons] at hn
        have oa := tail_abc _ ha.mem
        have obk := tail_ABC _ hb.mem
        have l1 := laidN_len (la.length + (y :: lb).length) la (y :: lb) (Nat.le_refl _)
        have l2 := laidN_len ((x :: la).length + lb.length) (x :: la) lb (Nat.le_refl _)
        have b5 : la.length ≤ 4 ∧ lb.length ≤ 4 := ⟨by have := ha.1; simp at this; omega, by have := hb.1; simp at this; omega⟩
        have p1 : 2 ^ (la.length + (y :: lb).length) ≤ 2 ^ 9 := Nat.pow_le_pow_right (by decide) (by simp only [List.length_cons]; omega)
        have p2 : 2 ^ ((x :: la).length + lb.length) ≤ 2 ^ 9 := Nat.pow_le_pow_right (by decide) (by simp only [List.length_cons]; omega)
        refine wpAny_execs_cons ?_
        refine evAssignComp (cl := [(Str.ofString "one", L + 1)]) (fun _ => true) (fun v u => ∃ t, u = .str (sOf [x] ++ txtOf v) t) rfl rfl (by decide) rfl (by decide) rfl rfl rfl ?_ (fun _ => rfl)
        refine evF2 G F.keep (kg_law_laid w) (ki_law_laid w) ?_ starSub starName rfl rfl rfl
        refine PyProof.Rows.Subscript_ ?_
        refine nameX_C N rfl (.tail _ (.head _)) d1 ?_
        refine wpAny_Slice ?_
        refine wpAny_evalPart_some ?_
        refine wpAny_Constant_int ?_
        refine wpAny_evalPart_none ?_
        refine wpAny_evalPart_none ?_
        refine cutFrom ?_ (by omega)
        intro h₂ t₂ k₂ hk₂
        rw [tailOk_slice oa]
        dsimp only at hk₂ ⊢
        have F₂ := F.keeps hk₂
        have N₂ := N.grown hk₂
        refine nameX_C N₂ rfl (.head _) d2 ⟨F₂.keep, ?_⟩
        refine wpAny_mono (ih (n - 1) (by omega) (la := la) (lb := y :: lb) (by simp only [List.length_cons]; omega) ha.tail hb (G.keeps F₂.keep) hh (by show A.depth + 1 + (n - 1) < _; omega)) (fun v s₃ hq => ?_) fun _ _ x => x
        obtain ⟨⟨l₃, ob₃, rfl, hn₃, ho₃, vs₃, c₃, rfl, hS₃⟩, h₃, tk₃, rfl, hk₃⟩ := hq
        dsimp only at hn₃ ho₃ hk₃ ⊢
        have F₃ := F₂.keeps hk₃
        have N₃ := N₂.grown hk₃
        have hvs₃ : vs₃.length ≤ 512 := by have := strsAre_len hS₃; rw [List.length_map] at this; omega
        have hin₃ : ∀ v ∈ vs₃, ∃ l t, v = .str (sOf l) t ∧ l.length ≤ 10 := fun v hv => by
          obtain ⟨i, hi⟩ := List.getElem?_of_mem hv
          obtain ⟨xx, t, hx, rfl⟩ := strsAre_inv hS₃ hi
          obtain ⟨l, hl, rfl⟩ := List.mem_map.mp (List.mem_of_getElem? hx)
          exact ⟨l, t, rfl, by have := l1.2 l hl; simp only [List.length_cons] at this; omega⟩
        refine compLA (by exact hh) ⟨_, ho₃, rfl, c₃, rfl⟩ (by omega) F₃ N₃ ⟨?_, ?_⟩ ?_
        · intro C v s₄ m₄ E' hP hn' hm hk
          exact testsNone (v := v) (fun _ => true) rfl
        · intro C v s₄ m₄ E' hP _ hn' hm hk
          obtain ⟨l, tv, rfl, hl10⟩ := hin₃ v hP
          have hc1 : s₄.heap.IsCell (L + 1) (some (.str (sOf (x :: la)) ta)) := ⟨o1, hk _ _ (N₃.get (.tail _ (.head _))), d1⟩
          refine wpAny_BinOp ?_
          refine PyProof.Rows.Subscript_ ?_
          refine nameCel (c := L + 1) rfl hc1 ?_
          refine wpAny_Constant_int ?_
          refine PyProof.Rows.item_str (by decide) (by omega) (by rw [sOf_len]; simp only [List.length_cons]; omega) ?_
          intro _
          rw [tailOk_item oa]
          refine nameLoc hn' hm ?_
          refine PyProof.Rows.add_str ?_ (by rw [sizeLine_eq, sOf_len, sOf_len]; simp only [List.length_cons, List.length_nil]; omega)
          intro t' tk'
          exact ⟨⟨t', rfl⟩, _, _, rfl, fun _ _ e => e⟩
        · intro D h₄ tk₄ ys c₄ F₄ N₄ hD hDne hpair
          rw [List.filter_eq_self.mpr (fun _ _ => rfl)] at hpair
          have hys := paired_strs (f := fun u => sOf [x] ++ u) hS₃ hpair
          dsimp only
          refine wpAny_execs_cons (wpAny_Return_some ?_)
          refine wpAny_BinOp ?_
          refine nameX_L F₄ rfl ?_
          refine evComp (cl := [(Str.ofString "two", L + 1 + 1)]) (fun _ => true) (fun v u => ∃ t, u = .str (sOf [y] ++ txtOf v) t) rfl (by decide) rfl (by decide) rfl ?_ (fun _ => rfl)
          refine evF2 G F₄.keep (kg_law_laid w) (ki_law_laid w) ?_ starName starSub rfl rfl rfl
          refine nameX_C N₄ rfl (.tail _ (.tail _ (.head _))) d1 ?_
          refine PyProof.Rows.Subscript_ ?_
          refine nameX_C N₄ rfl (.tail _ (.head _)) d2 ?_
          refine wpAny_Slice ?_
          refine wpAny_evalPart_some ?_
          refine wpAny_Constant_int ?_
          refine wpAny_evalPart_none ?_
          refine wpAny_evalPart_none ?_
          refine cutFrom ?_ (by omega)
          intro h₅ t₅ k₅ hk₅
          rw [tailOk_slice obk]
          dsimp only at hk₅ ⊢
          have F₅ := F₄.keeps hk₅
          have N₅ := N₄.grown hk₅
          refine ⟨F₅.keep, ?_⟩
          refine wpAny_mono (ih (n - 1) (by omega) (la := x :: la) (lb := lb) (by simp only [List.length_cons]; omega) ha hb.tail (G.keeps F₅.keep) hh (by show A.depth + 1 + (n - 1) < _; omega)) (fun v s₆ hq => ?_) fun _ _ x => x
          obtain ⟨⟨l₆, ob₆, rfl, hn₆, ho₆, vs₆, c₆, rfl, hS₆⟩, h₆, tk₆, rfl, hk₆⟩ := hq
          dsimp only at hn₆ ho₆ hk₆ ⊢
          have F₆ := F₅.keeps hk₆
          have N₆ := N₅.grown hk₆
          have hvs₆ : vs₆.length ≤ 512 := by have := strsAre_len hS₆; rw [List.length_map] at this; omega
          have hin₆ : ∀ v ∈ vs₆, ∃ l t, v = .str (sOf l) t ∧ l.length ≤ 10 := fun v hv => by
            obtain ⟨i, hi⟩ := List.getElem?_of_mem hv
            obtain ⟨xx, t, hx, rfl⟩ := strsAre_inv hS₆ hi
            obtain ⟨l, hl, rfl⟩ := List.mem_map.mp (List.mem_of_getElem? hx)
            exact ⟨l, t, rfl, by have := l2.2 l hl; simp only [List.length_cons] at this; omega⟩
          refine compL (by exact hh) ⟨_, ho₆, rfl, c₆, rfl⟩ (by omega) F₆ N₆ ⟨?_, ?_⟩ ?_
          · intro C v s₄ m₄ E' hP hn' hm hk
            exact testsNone (v := v) (fun _ => true) rfl
          · intro C v s₇ m₇ E' hP _ hn' hm hk
            obtain ⟨l, tv, rfl, hl10⟩ := hin₆ v hP
            have hc2 : s₇.heap.IsCell (L + 1 + 1) (some (.str (sOf (y :: lb)) tb)) := ⟨o2, hk _ _ (N₆.get (.tail _ (.head _))), d2⟩
            refine wpAny_BinOp ?_
            refine PyProof.Rows.Subscript_ ?_
            refine nameCel (c := L + 1 + 1) rfl hc2 ?_
            refine wpAny_Constant_int ?_
            refine PyProof.Rows.item_str (by decide) (by omega) (by rw [sOf_len]; simp only [List.length_cons]; omega) ?_
            intro _
            rw [tailOk_item obk]
            refine nameLoc hn' hm ?_
            refine PyProof.Rows.add_str ?_ (by rw [sizeLine_eq, sOf_len, sOf_len]; simp only [List.length_cons, List.length_nil]; omega)
            intro t' tk'
            exact ⟨⟨t', rfl⟩, _, _, rfl, fun _ _ e => e⟩
          · intro D2 h₇ tk₇ ys₇ c₇ F₇ N₇ hD₇ hDne₇ hpair₇ hk₇
            rw [List.filter_eq_self.mpr (fun _ _ => rfl)] at hpair₇
            have hys₇ := paired_strs (f := fun u => sOf [y] ++ u) hS₆ hpair₇
            refine add_lists F₇ N₇ (vs := ys.toList) (ws := ys₇.toList) ⟨_, N₇.get (.tail _ (.head _)), rfl, c₄, rfl⟩ ⟨_, N₇.get (.head _), rfl, c₇, rfl⟩ ?_ ?_
            · intro h₈ F₈ N₈
              dsimp only at N₈ ⊢
              refine ⟨⟨_, _, rfl, N₈.fresh (.head _), N₈.get (.head _), _, 0, rfl, ?_⟩, _, _, rfl, F₈.keep⟩
              rw [laidN, List.map_append, List.map_map, List.map_map]
              rw [List.map_map] at hys hys₇
              have e1 : List.map (sOf ∘ fun x_1 => x :: x_1) (laidN la (y :: lb)) = List.map ((fun u => sOf [x] ++ u) ∘ sOf) (laidN la (y :: lb)) := List.map_congr_left fun l _ => (sOf_cons x l).symm
              have e2 : List.map (sOf ∘ fun x_1 => y :: x_1) (laidN (x :: la) lb) = List.map ((fun u => sOf [y] ++ u) ∘ sOf) (laidN (x :: la) lb) := List.map_congr_left fun l _ => (sOf_cons y l).symm
              rw [e1, e2]
              exact strsAre_append hys hys₇
            · have q1 := strsAre_len hys
              have q2 := strsAre_len hys₇
              simp only [List.length_map] at q1 q2
              rw [sizeLine_eq]
              omega
end
section
open PySem.Builtin.Re
abbrev nameCode : List Nat := [14, 10, 4, 1, 1, 22, 0, 31, 16, 127, 0, 13, 7, 22, 0, 31, 16, 127, 0, 1]
abbrev valCode : List Nat := [14, 14, 4, 1, 1, 9, 4294966783, 0, 0, 2147483648, 0, 0, 0, 0, 0, 13, 11, 9, 4294966783, 0, 0, 2147483648, 0, 0, 0, 0, 0, 1]
abbrev codeVals (l : List Nat) : Array Value := (l.map fun (n : Nat) => Value.int (n : Int) 0).toArray
abbrev patO (p : Str) (tp : Tok) (fl : Tok) (c : Addr) : Obj := { cls := .type "re.Pattern", data := .fields #[.str p tp, .int 32 fl, .int 0 0, .none, .none, .ref c, .int 0 0] }

/-- the letters and digits that come -/
abbrev signOk : List Nat := [97, 98, 99, 65, 66, 67, 48, 49, 50, 51, 52, 53, 54, 55, 56, 57]
theorem inSet_name : ∀ c ∈ signOk, ∀ seen, ∃ seen', Sre.inSet nameCode.toArray c nameCode.toArray.size 5 true seen = .ok (false, seen') := by
  intro c hc seen
  simp only [List.mem_cons, List.not_mem_nil, or_false] at hc
  rcases hc with rfl | rfl | rfl | rfl | rfl | rfl | rfl | rfl | rfl | rfl | rfl | rfl | rfl | rfl | rfl | rfl <;> exact ⟨_, rfl⟩
theorem inSet_val : ∀ c ∈ signOk, ∀ seen, ∃ seen', Sre.inSet valCode.toArray c valCode.toArray.size 5 true seen = .ok (false, seen') := by
  intro c hc seen
  simp only [List.mem_cons, List.not_mem_nil, or_false] at hc
  rcases hc with rfl | rfl | rfl | rfl | rfl | rfl | rfl | rfl | rfl | rfl | rfl | rfl | rfl | rfl | rfl | rfl <;> exact ⟨_, rfl⟩

theorem admitted_none {m : Sre.M} (hset : ∀ c ∈ signOk, ∀ seen, ∃ seen', Sre.inSet m.code c m.code.size 5 true seen = .ok (false, seen')) (ht : ∀ i, i < m.lim → m.text.getD i 0 ∈ signOk) : ∀ (fuel i : Nat) (seen : Sre.Seen), ∃ seen', m.admitted fuel i seen = .ok (none, seen')
  | 0, _, seen => ⟨seen, rfl⟩
  | fuel + 1, i, seen => by
    unfold Sre.M.admitted
    by_cases h : i ≥ m.lim
    · rw [if_pos h]; exact ⟨_, rfl⟩
    · rw [if_neg h]
      obtain ⟨seen', e⟩ := hset _ (ht i (by omega)) seen
      rw [e]
      exact admitted_none hset ht fuel (i + 1) seen'

theorem attempt_none {m : Sre.M} (hf : m.hasFirstSet = true) (hfr : m.frames = []) (ho : m.outcome = none) (hset : ∀ c ∈ signOk, ∀ seen, ∃ seen', Sre.inSet m.code c m.code.size 5 true seen = .ok (false, seen')) (ht : ∀ i, i < m.lim → m.text.getD i 0 ∈ signOk) (i : Nat) :
    (m.attemptFrom i true).answer = some false ∧ (m.attemptFrom i true).frames = [] ∧ (m.attemptFrom i true).outcome = none := by
  obtain ⟨seen', e⟩ := admitted_none hset ht (m.lim + 1 - i) i m.seen
  unfold Sre.M.attemptFrom
  rw [hf, e]
  exact ⟨rfl, hfr, ho⟩
theorem runs_failed {m : Sre.M} (ha : m.answer = some false) (hf : m.frames = []) (ho : m.outcome = none) : (m.runFor 4).outcome = some .failed := by
  have h1 : m.step.outcome = some .failed := by
    unfold Sre.M.step
    rw [ho, ha, hf]
    rfl
  unfold Sre.M.runFor
  rw [ho]
  show (Sre.M.runFor 3 m.step).outcome = _
  unfold Sre.M.runFor
  rw [h1]
  exact h1
theorem search_fails {code : Array Nat} {text : Array Nat} (hc : code = nameCode.toArray ∨ code = valCode.toArray) (ht : ∀ c ∈ text.toList, c ∈ signOk) :
    ((Sre.forSearch code text 0 0 text.size false).runFor 4).outcome = some .failed := by
  have ht' : ∀ i, i < text.size → text.getD i 0 ∈ signOk := fun i hi => by
    refine ht _ ?_
    rw [Array.getD_eq_getD_getElem?, Array.getElem?_eq_getElem hi]
    exact Array.getElem_mem_toList hi
  by_cases h0 : text.size = 0
  · rw [h0]
    rcases hc with rfl | rfl <;> exact runs_failed rfl rfl rfl
  · unfold Sre.forSearch
    have hcond : (decide (0 > text.size) || decide (text.size - 0 < (Sre.header code).1)) = false := by
      have : (Sre.header code).1 = 1 := by rcases hc with rfl | rfl <;> rfl
      rw [this, decide_eq_false (by omega), decide_eq_false (by omega)]
      rfl
    simp only [hcond, Bool.false_eq_true, if_false]
    have fin : ∀ m : Sre.M, m.hasFirstSet = true → m.frames = [] → m.outcome = none → (∀ c ∈ signOk, ∀ seen, ∃ seen', Sre.inSet m.code c m.code.size 5 true seen = .ok (false, seen')) → (∀ i, i < m.lim → m.text.getD i 0 ∈ signOk) → ((m.attemptFrom 0 true).runFor 4).outcome = some .failed := fun m h1 h2 h3 h4 h5 =>
      have k := attempt_none h1 h2 h3 h4 h5 0
      runs_failed k.1 k.2.1 k.2.2
    refine fin _ ?_ rfl rfl ?_ ht'
    · rcases hc with rfl | rfl <;> rfl
    · rcases hc with rfl | rfl
      · exact inSet_name
      · exact inSet_val

section
variable {w : World} {A : Around} {s : Shared} {E : Value → Shared → Prop}
theorem rulesLoop {p : Nat → Bool} {f : Nat → String} {Q : PUnit → Shared → Prop} (h : Q PUnit.unit s) : ∀ l : List Nat, wpAny (model PR w) A (forIn l PUnit.unit fun i (_ : PUnit) => if p i = true then (do rule (f i); pure (ForInStep.yield PUnit.unit)) else pure (ForInStep.yield PUnit.unit)) Q E s
  | [] => wpAny_pure h
  | i :: l => by
    rw [List.forIn_cons]
    by_cases hp : p i = true
    · rw [if_pos hp]
      exact wpAny_bind (wpAny_bind (wpAny_rule (wpAny_pure (rulesLoop h l))))
    · rw [if_neg hp]
      exact wpAny_bind (wpAny_pure (rulesLoop h l))
theorem drive_end {m : Sre.M} {k : Nat} (h : (m.runFor 4).outcome = some .failed) : reDrive (k + 1) m = pure (m.runFor 4) := by
  show (if ((m.runFor reTurnSteps).outcome.isSome) = true then pure (m.runFor reTurnSteps) else _) = _
  rw [show m.runFor reTurnSteps = m.runFor 4 from rfl, h]
  rfl
theorem runToEnd_none {m : Sre.M} {Q : Option Sre.M → Shared → Prop} (h : (m.runFor 4).outcome = some .failed) (hq : Q none s) : wpAny (model PR w) A (reRunToEnd m) Q E s := by
  unfold reRunToEnd
  rw [show (2 ^ 64 : Nat) = (2 ^ 64 - 1) + 1 from by decide, drive_end h]
  refine wpAny_bind (wpAny_pure ?_)
  rw [h]
  exact wpAny_bind (rulesLoop (wpAny_pure hq) _)

theorem slot_search : Slot "re.Pattern" "search" "re.Pattern.search" :=
  .of (owner := "re.Pattern") (n := "search") (by rw [typeLookup_type, builtinLookup_eq_fast]; kernel_rfl) (by decide +kernel) (by decide +kernel) (by decide +kernel)
    (by first | exact .inl (by decide +kernel) | exact .inr (by decide +kernel)) (by rw [isSubtype_type]; kernel_rfl)
theorem type_search : typeOf (.builtin "re.Pattern.search") = pure (.type "method_descriptor") := by show builtinType _ = _; rw [builtinType_eq_fast]; kernel_rfl
theorem entry_search : entryFor table "re.Pattern.search" = some Builtin.«re.Pattern.search» := entryFor_of_tree (by kernel_rfl)
theorem args_search (a b : Value) : argsOk "re.Pattern.search" ⟨[a, b], []⟩ := by unfold argsOk; kernel_rfl
theorem plainAttrs_pat : PlainAttrs "re.Pattern" :=
  ⟨⟨"object.__getattribute__", by rw [typeLookup_type, builtinLookup_eq_fast]; kernel_rfl, by decide +kernel⟩, by rw [typeLookup_type, builtinLookup_eq_fast]; kernel_rfl⟩

theorem call_search {P C : Addr} {p : Str} {tp fl t : Tok} {cd : List Nat} {x : Str} {Q : Value → Shared → Prop} (hP : s.heap.get? P = some (patO p tp fl C)) (hC : s.heap.get? C = some { cls := .type "tuple", data := .seq (codeVals cd) })
    (hc : cd = nameCode ∨ cd = valCode) (hx : ∀ c ∈ x.cps.toList, c ∈ signOk) (hz : x.length ≤ 1000) (h : Q .none s) :
    wpAny (model PR w) A (call (.builtin "re.Pattern.search") [.ref P, .str x t]) Q E s := by
  refine wpAny_call_entry slot_search ⟨_, hP, rfl⟩ entry_search ?_ (args_search _ _)
  unfold Builtin.«re.Pattern.search»
  refine wpAny_bind ?_
  have e1 : reNamed "re.Pattern.search" "search" ["string", "pos", "endpos"] 1 [.str x t] [] = pure [some (Value.str x t), none, none] := by rfl
  unfold reTarget
  dsimp only
  rw [e1]
  refine wpAny_bind (wpAny_pure ?_)
  dsimp only
  refine wpAny_bind (wpAny_pure ?_)
  refine wpAny_bind (wpAny_pure ?_)
  refine wpAny_bind (wpAny_fieldsOf hP rfl ?_)
  have e2 : reTextOf (.str x t) = pure (x.cps, 0) := by rfl
  have e3 : reNoCollectionInside (.str x t) 0 = pure () := by rfl
  rw [e2]
  refine wpAny_bind (wpAny_pure ?_)
  dsimp only
  rw [if_neg (by intro q; exact Bool.false_ne_true q), if_neg (by intro q; exact Bool.false_ne_true q), e3]
  refine wpAny_bind (wpAny_pure ?_)
  unfold reRawItems
  refine wpAny_bind ?_
  refine wpAny_bind (wpAny_seqItems (a := C) hC rfl ?_)
  refine wpAny_pure ?_
  refine wpAny_pure ?_
  dsimp only
  unfold reAnswer
  dsimp only
  refine wpAny_bind (runToEnd_none ?_ ?_)
  · have ec : (((some (codeVals cd)).getD #[]).map reRawOf).map (fun i : Int => i.toNat) = cd.toArray := by
      rcases hc with rfl | rfl <;> decide +kernel
    have e5 : min (Int.toNat 0) x.cps.size = 0 := Nat.zero_min _
    have e6 : min (Int.toNat (2 ^ 63 - 1)) x.cps.size = x.cps.size := Nat.min_eq_right (by have : x.cps.size = x.length := rfl; omega)
    have := search_fails (code := cd.toArray) (text := x.cps) (by rcases hc with rfl | rfl; exact .inl rfl; exact .inr rfl) hx
    rw [ec, e5, e6]
    exact this
  · exact wpAny_pure ⟨_, rfl, h⟩
end
end
section
variable (w : World)
theorem kg_nre : nsIn (hd.heap_39 w.params) mainGlobals (Str.ofString "_name_disallowed_re") = some (some (.ref 104)) := by k_is
theorem kg_vre : nsIn (hd.heap_39 w.params) mainGlobals (Str.ofString "_value_disallowed_re") = some (some (.ref 109)) := by k_is
theorem ng_type : nsIn (hd.heap_39 w.params) mainGlobals (Str.ofString "type") = some none := by k_is
theorem lk_104 : ∃ p tp fl, (hd.heap_39 w.params).lookup 104 = some (patO p tp fl 103) := ⟨_, _, _, by k_is⟩
theorem lk_109 : ∃ p tp fl, (hd.heap_39 w.params).lookup 109 = some (patO p tp fl 108) := ⟨_, _, _, by k_is⟩
theorem lk_103 : (hd.heap_39 w.params).lookup 103 = some { cls := .type "tuple", data := .seq (codeVals nameCode) } := by k_is
theorem lk_108 : (hd.heap_39 w.params).lookup 108 = some { cls := .type "tuple", data := .seq (codeVals valCode) } := by k_is
end
theorem bb_type : bootBuiltins (Str.ofString "type") = some (.type "type") := by boot_by_name
theorem nn_type : Str.ofString "type" ≠ Str.ofString "__name__" := by decide

section
variable {w : World} {mean : ExcName → Option Value} {mg mb : Str → Option Value} {A : Around} {s : Shared} {E Q : Value → Shared → Prop}

theorem enterK {f : Addr} {args : List Value} {kws : List (Str × Value)} {name qual : Str} {params : Arguments} {body : List Stmt} {scope : Scope} {dV kV doc pm cdv ct oc : Value} {an od : Option Addr} {osl : Array (Option Value)} {binds : List (Str × Value)}
    (X : (hd.heap_39 w.params).In s.heap) (T : Top topView loose0 mean mg mb s.heap)
    (ho : (hd.heap_39 w.params).lookup f = some ⟨oc, od, .func (fnOf name qual params body scope dV kV doc pm an cdv ct), osl⟩) (hcd : codeIn (hd.heap_39 w.params) cdv qual = true) (hroom : A.depth < recursionLimit)
    (hbind : BindsTo s (fnOf name qual params body scope dV kV doc pm an cdv ct) ⟨args, kws⟩ binds) (hloc : ∀ y ∈ binds, scope.names.lookup y.1 = some .local)
    (h : ∀ L h₁, Fr s.heap L h₁ (fun y => binds.reverse.lookup y) → News s.heap L h₁ [] →
      wpAny (model PR w) (A.deeper (envOf qual scope L f cdv)) (execs body (envOf qual scope L f cdv)) (fun fl s' => Q (back fl) s') (fun _ _ => False) { s with heap := h₁, toks := s.toks + binds.length })
    (hco : scope.isCoroutine = false) (hgen : scope.isGenerator = false) (hk : scope.kind = .function) (hcell : ∀ x ∈ scope.names, x.2 ≠ .cell) :
    wpAny (model PR w) A (call (.ref f) args kws) Q E s := by
  refine wpAny_call ?_
  refine codeAny_call_def (fd := fnOf name qual params body scope dV kV doc pm an cdv ct) (body := body) (binds := binds) hroom (X _ _ ho) rfl T.nolimit (codeRec_of X hcd) rfl hbind hcell hloc (fun h₁ hns hk₁ => ?_) hco hgen hk
  exact wpAny_mono (h s.heap.objs.size h₁ ⟨hns, hk₁, Nat.le_refl _⟩ News.nil) (fun fl s' hl => hl) fun _ _ y => y.elim

theorem pickRe {env : Env} {h₀ : Heap} {b : Bool} {p1 p2 : Pos} (G : Ground0 w mean mg mb h₀) (k : ∀ b o, h₀.get? b = some o → s.heap.get? b = some o)
    (h : ∀ (P C : Addr) (p : Str) (tp fl : Tok) (cd : List Nat), (hd.heap_39 w.params).lookup P = some (patO p tp fl C) → (hd.heap_39 w.params).lookup C = some { cls := .type "tuple", data := .seq (codeVals cd) } → (cd = nameCode ∨ cd = valCode) → Q (.ref P) s)
    (hg : env.globals = mainGlobals := by rfl) (hk : env.scope.kind = .function := by rfl) (hx : env.kindOf (Str.ofString "_name_disallowed_re") = some .globalImplicit := by rfl) (hy : env.kindOf (Str.ofString "_value_disallowed_re") = some .globalImplicit := by rfl) :
    if b = true then wpAny (model PR w) A (eval (.Name (Str.ofString "_name_disallowed_re") p1) env) Q E s else wpAny (model PR w) A (eval (.Name (Str.ofString "_value_disallowed_re") p2) env) Q E s := by
  obtain ⟨p, tp, fl, e1⟩ := lk_104 w
  obtain ⟨q, tq, fq, e2⟩ := lk_109 w
  split
  · exact gK G k (kg_nre w) (h 104 103 _ _ _ _ e1 (lk_103 w) (.inl rfl)) hg hk hx
  · exact gK G k (kg_vre w) (h 109 108 _ _ _ _ e2 (lk_108 w) (.inr rfl)) hg hk hy

theorem conv_spec {ob : Addr} {x : Str} {tx : Tok} {b : Bool} (G : Ground0 w mean mg mb s.heap) (hroom : A.depth < recursionLimit)
    (hx : ∀ c ∈ x.cps.toList, c ∈ signOk) (hz : x.length ≤ 1000) :
    wpAny (model PR w) A (call (.ref 139) [.ref ob, .str x tx] [(Str.ofString "name", .bool b)]) (fun v s' => v = .str x tx ∧ Keeps s s') E s := by
  refine enterK (binds := [(Str.ofString "self", .ref ob), (Str.ofString "value", .str x tx), (Str.ofString "name", .bool b)]) G.X G.T (by k_is) (by k_is) hroom (by exact BindsTo.of_eq rfl) (by exact locs rfl) ?_ (by rfl) (by rfl) (by rfl) (by decide)
  intro L h₁ F N
  refine wpAny_execs_cons ?_
  refine wpAny_If ?_
  refine wpAny_isTrue_Compare1 ?_ rfl
  refine evN G F.keep (ng_type w) bb_type nn_type ?_
  refine cT1 ?_ starName
  refine nameX_L F rfl ?_
  refine call_type_of (typeIs_str _ _ _) (by decide) ?_
  refine gB G F.keep (ng_str w) bb_str nn_str ?_
  refine wpAny_is_self rfl ?_
  refine wpAny_truthy_bool ?_
  rw [if_pos rfl]
  refine wpAny_execs_cons ?_
  refine wpAny_Assign_Name ?_ ?hs
  case hs => rfl
  refine PyProof.Rows.IfExp_ ?_
  refine isTrue_plain ?_ rfl
  refine nameX_L F rfl ?_
  refine wpAny_truthy_bool ?_
  refine pickRe G F.keep ?_
  intro P C p tp fl cd hP hC hcd
  refine storeX_L F N fun h₂ F₂ N₂ => ?_
  dsimp only
  refine wpAny_execs_cons ?_
  refine wpAny_If ?_
  refine isTrue_plain ?_ rfl
  refine wpAny_Call_method (T := "re.Pattern") (id := "re.Pattern.search") rfl rfl rfl plainAttrs_pat slot_search type_search ?_
  refine nameX_L F₂ rfl ?_
  have gP := F₂.keep _ _ (G.X _ _ hP)
  have gC := F₂.keep _ _ (G.X _ _ hC)
  refine ⟨⟨_, gP, rfl⟩, fun a ha => by cases ha; exact ⟨_, gP, rfl⟩, ?_⟩
  refine callWith_method1 ?_ rfl rfl
  refine aName ?_
  refine nameX_L F₂ rfl ?_
  refine aNil ?_
  refine call_search gP gC hcd hx hz ?_
  refine PyProof.Rows.truthy_none ?_
  rw [if_neg (by decide)]
  refine wpAny_execs_nil ?_
  dsimp only
  refine wpAny_execs_cons (wpAny_Return_some ?_)
  refine nameX_L F₂ rfl ?_
  exact ⟨rfl, _, _, rfl, F₂.keep⟩
end
section
variable {w : World} {mean : ExcName → Option Value} {mg mb : Str → Option Value} {A : Around} {s : Shared} {R : Result → Shared → Prop}

/-- into a def with keywords gathered, none given -/
theorem enterHK {h₀ : Heap} {L₀ : Addr} {m₀ : Str → Option Value} {own : List (Addr × Obj)} {f : Addr} {args : Args} {name qual : Str} {params : Arguments} {body : List Stmt} {scope : Scope} {dV kV doc pm cdv ct oc : Value} {an od : Option Addr} {osl : Array (Option Value)} {binds : Addr → List (Str × Value)} {g₁ : Addr → Sem (List (Str × Value))}
    (G : Ground0 w mean mg mb h₀) (F : Fr h₀ L₀ s.heap m₀) (N : News h₀ L₀ s.heap own)
    (ho : (hd.heap_39 w.params).lookup f = some ⟨oc, od, .func (fnOf name qual params body scope dV kV doc pm an cdv ct), osl⟩) (hcd : codeIn (hd.heap_39 w.params) cdv qual = true) (hroom : A.depth < recursionLimit)
    (hp : peekA (hd.heap_39 w.params) ⟨PR, w.params⟩ (bindArgs (fnOf name qual params body scope dV kV doc pm an cdv ct) args) = some (W.dictOf [] 0, g₁))
    (hg : ∀ D, g₁ D = pure (binds D)) (hloc : ∀ D, ∀ y ∈ binds D, scope.names.lookup y.1 = some .local)
    (h : ∀ D g L h₁ tk, (∀ p ∈ own, p.1 < D) → (D == sysModules) = false → Ground0 w mean mg mb g → (∀ b o, h₀.get? b = some o → g.get? b = some o) → Fr g L h₁ (fun y => (binds D).reverse.lookup y) → News g L h₁ ((D, W.dictOf [] 0) :: own) →
      wpAny (model PR w) (A.deeper (envOf qual scope L f cdv)) (execs body (envOf qual scope L f cdv))
        (fun fl s' => ∃ m' own', Fr g L s'.heap m' ∧ News g L s'.heap own' ∧ (Fr h₀ L₀ s'.heap m₀ → News h₀ L₀ s'.heap own' → R (.ok (.ret (back fl))) s')) (fun _ _ => False) { s with heap := h₁, toks := tk })
    (hco : scope.isCoroutine = false) (hgen : scope.isGenerator = false) (hk : scope.kind = .function) (hcell : ∀ x ∈ scope.names, x.2 ≠ .cell) :
    codeAny (model PR w) A (.call (.ref f) args) R s := by
  have Gs := G.keeps F.keep
  refine codeAny_call_function (fd := fnOf name qual params body scope dV kV doc pm an cdv ct) (body := body) hroom (Gs.X _ _ ho) rfl hco hgen rfl (codeRec_of Gs.X hcd) ?_
  refine wp_of_peekA (o := W.dictOf [] 0) F N Gs.X rfl _ g₁ hp fun h' F' N' l => ?_
  have hmod : (s.heap.objs.size == sysModules) = false := F.notModules (modules_low G.T.nolimit)
  generalize s.heap.objs.size = D at *
  rw [hg]
  refine wpAny_pure ?_
  have Gs' := G.keeps F'.keep
  have nm : ∀ b o, h₀.get? b = some o → b ∉ ((D, W.dictOf [] 0) :: own).map (·.1) := fun b o e q => by
    obtain ⟨p, hp, rfl⟩ := List.mem_map.mp q
    rw [(N' p hp).2.2] at e; cases e
  have st : ∀ b o, h₀.get? b = some o → (hideAll h' (((D, W.dictOf [] 0) :: own).map (·.1))).get? b = some o := fun b o e => hideAll_get _ (F'.keep b o e) (nm b o e)
  obtain ⟨oL, es, ep, hL, hLd, hLk, hLf⟩ := id F'.ns
  have nL : L₀ ∉ ((D, W.dictOf [] 0) :: own).map (·.1) := fun q => by
    obtain ⟨p, hp, e⟩ := List.mem_map.mp q
    exact (N' p hp).2.1 e
  have hLg := hideAll_get (((D, W.dictOf [] 0) :: own).map (·.1)) hL nL
  refine wpAny_newFunctionEnv hcell (hloc D) (fun h₁ hns hsb => ⟨Gs'.T.nolimit.fresh _ hsb, codeAny_func ?_⟩) hk
  dsimp only at hns hsb ⊢
  have hk₁ : ∀ b o, h'.get? b = some o → h₁.get? b = some o := fun b o e => hsb.extBut b o (Nat.ne_of_lt (Heap.lt_size e)) (Heap.get?_push_of_some _ e)
  refine wpAny_mono (h D (hideAll h' (((D, W.dictOf [] 0) :: own).map (·.1))) h'.objs.size h₁ _ l hmod (G.keeps st) st ⟨hns, fun b o e => hk₁ b o (of_hideAll _ e), Nat.le_of_eq (hideAll_size _ _)⟩
    (fun p hp => ⟨hk₁ _ _ (N' p hp).1, Nat.ne_of_lt (Heap.lt_size (N' p hp).1), hideAll_none _ (List.mem_map_of_mem hp)⟩)) (fun fl s' hl => ?_) fun _ _ y => y.elim
  obtain ⟨m', own', F₂, N₂, k⟩ := hl
  refine k ⟨⟨oL, es, ep, F₂.keep L₀ oL hLg, hLd, hLk, hLf⟩, fun b o e => F₂.keep b o (st b o e), F.above⟩ fun p hp => ⟨(N₂ p hp).1, fun q => ?_, ?_⟩
  · have := (N₂ p hp).2.2; rw [q, hLg] at this; cases this
  · cases q : h₀.get? p.1 with
    | none => rfl
    | some o => have := (N₂ p hp).2.2; rw [st _ _ q] at this; cases this
end

section
variable {w : World} {A : Around} {s : Shared} {env : Env} {h₀ : Heap} {body : List Stmt} {Q : Flow → Shared → Prop} {m₀ : Str → Option Value} {news : List (Addr × Obj)}
/-- a for over an empty list, pairs for its target -/
theorem iterNil {l : Addr} {ol : Obj} {xk xv : Str} {pk pv pt : Pos} {x1 : Nat} (hh : A.handled = none) (F : Fr h₀ env.locals s.heap m₀) (N : News h₀ env.locals s.heap news)
    (hl : (l, ol) ∈ news) (hls : s.heap.IsList l #[])
    (done : ∀ h tk, Fr h₀ env.locals h m₀ → News h₀ env.locals h news → Q .next { s with heap := h, toks := tk }) :
    wpAny (model PR w) A (pyIter (.ref l)) (fun it s₂ => codeAny (model PR w) A (.forLoop (.Tuple [.Name xk pk, .Name xv pv] x1 pt) it body [] env) (ForEnd w A env Q) s₂) (fun _ _ => False) s := by
  refine wpAny_pyIter_list hls ?_
  have hne : l ≠ s.heap.objs.size := Nat.ne_of_lt (Heap.lt_size (N.get hl))
  have hIn := newsOff N
  refine loopM (s := { s with heap := s.heap.push _ }) (fun _ m n => m = m₀ ∧ n = news) (KTurns.ofWalksU (WalksU.listOfTuples hh s.heap.objs.size l hne #[] (fun _ => 0) (fun _ => #[]) (fun j hj => absurd hj (Nat.not_lt_zero _))
      (fun j hj => absurd hj (Nat.not_lt_zero _)))) (by simp) ?_ (next_is_new F) (Nat.ne_of_gt F.ns.lt) hIn (by simp)
    ⟨⟨_, Heap.get?_push_size _ rfl, rfl, rfl⟩, hls.at fun o e => Heap.get?_push_of_some _ e, fun k hk => absurd hk (Nat.not_lt_zero _)⟩ ⟨_, Heap.get?_push_size _ rfl⟩ (F.push _) (newsPush N _) ⟨rfl, rfl⟩ (fun i h st => let ⟨⟨o, ho, _⟩, _⟩ := st; ⟨_, ho⟩)
    (fun i v m₁ news₁ h tk io hi => absurd hi (Nat.not_lt_zero _)) (fun m₁ news₁ h tk hJ F' N' => by obtain ⟨rfl, rfl⟩ := hJ; exact done h tk F' N')
  intro b hb
  rcases List.mem_cons.mp hb with rfl | hb
  · exact .inl rfl
  rcases List.mem_cons.mp hb with rfl | hb
  · exact .inr (.inr ⟨ol, fun i m n hj => by rw [hj.2]; exact hl⟩)
  simp at hb
end
section
variable (w : World)
theorem mk_238 : makesIn (hd.heap_39 w.params) 238 = true := by k_is
theorem in_238 : findIn (hd.heap_39 w.params) (.ref 238) (Str.ofString "__init__") = some (some (.ref 132)) := by k_is
theorem if_132 : isFn (hd.heap_39 w.params) (.ref 132) = true := by k_is
theorem sa_238 : findIn (hd.heap_39 w.params) (.ref 238) (Str.ofString "__setattr__") = some (some (.builtin "object.__setattr__")) := by k_is
theorem po_238 : plainOver (hd.heap_39 w.params) 238 = true := by k_is
theorem ti_238 : takerIn (hd.heap_39 w.params) 238 (Str.ofString "_headers") = some none := by k_is
theorem hd_238 : hasDictIn (hd.heap_39 w.params) 238 = true := by k_is
theorem ki_238 : keepIn (hd.heap_39 w.params) (.ref 238) = true := by k_is
theorem pg_238 : plainGet (hd.heap_39 w.params) 238 (Str.ofString "_headers") = true := by k_is
theorem fi_238 : findIn (hd.heap_39 w.params) (.ref 238) (Str.ofString "_headers") = some none := by k_is
theorem pm_conv : plainGet (hd.heap_39 w.params) 238 (Str.ofString "_convert_string_type") = true := by k_is
theorem fm_conv : findIn (hd.heap_39 w.params) (.ref 238) (Str.ofString "_convert_string_type") = some (some (.ref 139)) := by k_is
theorem if_conv : isFn (hd.heap_39 w.params) (.ref 139) = true := by k_is
theorem ki_conv : keepIn (hd.heap_39 w.params) (.ref 139) = true := by k_is
theorem pm_get : plainGet (hd.heap_39 w.params) 238 (Str.ofString "get_all") = true := by k_is
theorem fm_get : findIn (hd.heap_39 w.params) (.ref 238) (Str.ofString "get_all") = some (some (.ref 177)) := by k_is
theorem if_get : isFn (hd.heap_39 w.params) (.ref 177) = true := by k_is
theorem ki_get : keepIn (hd.heap_39 w.params) (.ref 177) = true := by k_is
theorem pm_keys : plainGet (hd.heap_39 w.params) 238 (Str.ofString "keys") = true := by k_is
theorem fm_keys : findIn (hd.heap_39 w.params) (.ref 238) (Str.ofString "keys") = some (some (.ref 190)) := by k_is
theorem if_keys : isFn (hd.heap_39 w.params) (.ref 190) = true := by k_is
theorem ki_keys : keepIn (hd.heap_39 w.params) (.ref 190) = true := by k_is
theorem pm_add : plainGet (hd.heap_39 w.params) 238 (Str.ofString "add_header") = true := by k_is
theorem fm_add : findIn (hd.heap_39 w.params) (.ref 238) (Str.ofString "add_header") = some (some (.ref 235)) := by k_is
theorem if_add : isFn (hd.heap_39 w.params) (.ref 235) = true := by k_is
theorem ki_add : keepIn (hd.heap_39 w.params) (.ref 235) = true := by k_is
theorem lk_125 : ∃ t n, (hd.heap_39 w.params).lookup 125 = some { cls := .type "tuple", data := .seq #[.none] n, dict := t } := ⟨_, _, by k_is⟩
end

section
variable {w : World} {mean : ExcName → Option Value} {mg mb : Str → Option Value} {A : Around} {s : Shared} {E Q : Value → Shared → Prop}

theorem headers_call {h₀ : Heap} {L : Addr} {m : Str → Option Value} {news : List (Addr × Obj)} {cl : Addr} (G : Ground0 w mean mg mb h₀) (F : Fr h₀ L s.heap m) (N : News h₀ L s.heap ((cl, lstO #[] 0) :: news)) (hh : A.handled = none) (hroom : A.depth + 5 < recursionLimit)
    (h : ∀ x dx hsh t k h' tk, Fr h₀ L h' m → News h₀ L h' ((x, instObj 238 dx) :: (dx, W.dictOf [⟨hsh, .str (Str.ofString "_headers") t, .ref cl⟩] k) :: (cl, lstO #[] 0) :: news) → (∀ p ∈ (cl, lstO #[] 0) :: news, p.1 < dx) → dx < x → Q (.ref x) { s with heap := h', toks := tk }) :
    wpAny (model PR w) A (call (.ref 238) [.ref cl]) Q E s := by
  refine call_cls F G.X N (mk_238 w) (in_238 w) (if_132 w) ?_
  intro x dx h₁ F₁ N₁ hlt hdx
  refine enterH (binds := [(Str.ofString "self", .ref x), (Str.ofString "headers", .ref cl)]) G F₁ N₁ (by k_is) (by k_is) (by show A.depth + 1 < _; omega) ?bnd (by exact locs rfl) ?_ (by rfl) (by rfl) (by rfl) (by decide)
  case bnd =>
    obtain ⟨t, n, e⟩ := lk_125 w
    exact binds_K (G.X.keeps F₁.keep) rfl e rfl rfl rfl
  intro g L' h₂ Gg _ F₂ N₂
  have hLs : h₂.IsList cl #[] := ⟨_, N₂.get (.tail _ (.tail _ (.head _))), rfl, 0, rfl⟩
  refine wpAny_execs_cons ?_
  refine wpAny_Assign_Name ?_ ?hs
  case hs => rfl
  refine PyProof.Rows.IfExp_ ?_
  refine wpAny_isTrue_Compare1 ?_ rfl
  refine nameX_L F₂ rfl ?_
  refine wpAny_Constant_none ?_
  refine isnot_ref_none ?_
  refine wpAny_truthy_bool ?_
  rw [if_pos rfl]
  refine nameX_L F₂ rfl ?_
  refine storeX_L F₂ N₂ fun h₃ F₃ N₃ => ?_
  dsimp only
  have hLs : h₃.IsList cl #[] := ⟨_, N₃.get (.tail _ (.tail _ (.head _))), rfl, 0, rfl⟩
  refine wpAny_execs_cons ?_
  refine wpAny_If ?_
  refine wpAny_isTrue_Compare1 ?_ rfl
  refine evN Gg F₃.keep (ng_type w) bb_type nn_type ?_
  refine cT1 ?_ starName
  refine nameX_L F₃ rfl ?_
  refine call_type_of hLs.typeIs (by decide) ?_
  refine gB Gg F₃.keep (ng_list w) bb_list nn_list ?_
  refine isnot_type_same ?_
  refine wpAny_truthy_bool ?_
  rw [if_neg (by decide)]
  refine wpAny_execs_nil ?_
  dsimp only
  refine wpAny_execs_cons ?_
  refine plainObj_wpAny_Assign_Attribute ?_ ?hs
  case hs => exact swapsName
  refine nameX_L F₃ rfl ?_
  refine nameX_L F₃ rfl ?_
  refine set_dict (es := []) (n := 0) F₃ Gg.X N₃ ⟨N₃.get (.head _), rfl, rfl, N₃.get (.tail _ (.head _))⟩ rfl (sa_238 w) (po_238 w) (ti_238 w) (hd_238 w) rfl rfl (.tail (Nat.ne_of_gt hdx) (.head fun p hp => Nat.ne_of_lt (hlt p hp))) (Nat.le_of_ble_eq_true rfl) ?_
  intro h₄ F₄ N₄
  dsimp only
  refine wpAny_execs_cons ?_
  refine wpAny_If ?_
  refine isTrue_plain ?_ rfl
  refine PyProof.Rows.Constant_bool ?_
  refine wpAny_truthy_bool ?_
  rw [if_pos rfl]
  refine wpAny_execs_cons ?_
  refine forM ?_ (fun _ => rfl)
  refine nameX_L F₄ rfl ?_
  refine iterNil hh F₄ N₄ (.tail _ (.tail _ (.head _))) ⟨_, N₄.get (.tail _ (.tail _ (.head _))), rfl, 0, rfl⟩ ?_
  intro h₅ tk₅ F₅ N₅
  dsimp only
  refine wpAny_execs_nil ?_
  dsimp only
  refine wpAny_execs_nil ?_
  refine ⟨_, _, F₅, N₅, fun F₆ N₆ => ?_⟩
  exact ⟨rfl, h x dx _ _ _ h₅ _ F₆ N₆ hlt hdx⟩
end
section
variable {w : World} {mean : ExcName → Option Value} {mg mb : Str → Option Value} {A : Around} {s : Shared} {E Q : Value → Shared → Prop} {env : Env}

abbrev hdrD (hsh : Int) (t : Tok) (hl : Addr) (k : Nat) : Obj := W.dictOf [⟨hsh, .str (Str.ofString "_headers") t, .ref hl⟩] k

theorem evConv {h₀ : Heap} {L x dx hl : Addr} {m : Str → Option Value} {hsh : Int} {t ty : Tok} {k kb : Nat} {y : Str} {b : Bool} {p1 p2 p3 p4 p5 : Pos} {a : Expr} {pl : Sem Bool} (G : Ground0 w mean mg mb h₀) (F : Fr h₀ L s.heap m) (hroom : A.depth < recursionLimit)
    (hx : s.heap.get? x = some (instObj 238 dx)) (hdx : s.heap.get? dx = some (hdrD hsh t hl k))
    (hname : ∀ Q' : Value → Shared → Prop, Q' (.ref x) s → wpAny (model PR w) A (eval (.Name (Str.ofString "self") p1) env) Q' E s)
    (harg : ∀ Q' : Value → Shared → Prop, (∀ tk, Q' (.str y ty) { s with toks := tk }) → wpAny (model PR w) A (eval a env) Q' E s)
    (hy : ∀ c ∈ y.cps.toList, c ∈ signOk) (hz : y.length ≤ 1000)
    (h : ∀ h' tk, (∀ b o, s.heap.get? b = some o → h'.get? b = some o) → Q (.str y ty) { s with heap := h', toks := tk })
    (he : eval (.Call (.Attribute (.Name (Str.ofString "self") p1) "_convert_string_type" p2) [a] [⟨some (Str.ofString "name"), .Constant (.bool b) kb p3, p4⟩] p5) env = (do
      let ov ← eval (.Name (Str.ofString "self") p1) env
      standAt p2.atName
      let (f, first) ← holding [ov] (getMethod ov "_convert_string_type" pl)
      callWith p5 f first (backTo p5 (starEach [a] env)) (backToKw p5 (keywordEach [⟨some (Str.ofString "name"), .Constant (.bool b) kb p3, p4⟩] env))))
    (hst : starEach [a] env = [(false, eval a env)]) :
    wpAny (model PR w) A (eval (.Call (.Attribute (.Name (Str.ofString "self") p1) "_convert_string_type" p2) [a] [⟨some (Str.ofString "name"), .Constant (.bool b) kb p3, p4⟩] p5) env) Q E s := by
  refine methodCall_KW ?_ he
  refine hname _ ?_
  refine method_inst F G.X ⟨hx, rfl, rfl, hdx⟩ (pm_conv w) (fm_conv w) (if_conv w) rfl ?_
  refine callWith_KW G.X (ki_conv w) rfl ?_ (by rw [hst]; rfl) hst
  refine PyProof.Rows.args_cons (harg _ fun tk => ?_) hst
  refine aNil ?_
  refine kwAll_cons ?_
  refine PyProof.Rows.Constant_bool ?_
  refine kwAll_nil ?_
  refine ⟨G.X.keeps F.keep, ?_⟩
  refine wpAny_mono (conv_spec (ob := x) (x := y) (tx := ty) (b := b) (G.keeps F.keep) hroom hy hz) (fun v s₁ hq => ?_) fun _ _ x => x
  obtain ⟨rfl, h', tk', rfl, hk⟩ := hq
  exact h h' tk' hk

/-- a header: a name and a text -/
abbrev tupS (n : Str) (t : Tok) (v : Str) (u : Tok) : Obj := { cls := .type "tuple", data := .seq [Value.str n t, Value.str v u].toArray }

theorem addHeader_call {h₀ : Heap} {L x dx hl : Addr} {m : Str → Option Value} {hsh : Int} {t tn tv : Tok} {k c : Nat} {n v : Str} {its : Array Value} {rest : List (Addr × Obj)} (G : Ground0 w mean mg mb h₀) (F : Fr h₀ L s.heap m) (N : News h₀ L s.heap ((hl, lstO its c) :: rest)) (hne : ∀ p ∈ rest, p.1 ≠ hl)
    (hx : (x, instObj 238 dx) ∈ rest) (hdx : (dx, hdrD hsh t hl k) ∈ rest) (hh : A.handled = none) (hroom : A.depth + 5 < recursionLimit) (hits : its.size ≤ 100000)
    (hn : ∀ c ∈ n.cps.toList, c ∈ signOk) (hnz : n.length ≤ 1000) (hv : ∀ c ∈ v.cps.toList, c ∈ signOk) (hvz : v.length ≤ 1000)
    (h : ∀ T u h' tk, Fr h₀ L h' m → News h₀ L h' ((hl, lstO (its.push (.ref T)) (c + 1)) :: (T, tupS n tn v u) :: rest) → (∀ p ∈ rest, p.1 ≠ T) → hl ≠ T → Q .none { s with heap := h', toks := tk }) :
    wpAny (model PR w) A (call (.ref 235) [.ref x, .str n tn, .str v tv]) Q E s := by
  refine wpAny_call ?_
  refine enterHK (binds := fun D => [(Str.ofString "self", .ref x), (Str.ofString "_name", .str n tn), (Str.ofString "_value", .str v tv), (Str.ofString "_params", .ref D)]) G F N (by k_is) (by k_is) (by omega) (by rfl) (fun D => by rfl) (fun D => by exact locs rfl) ?_ (by rfl) (by rfl) (by rfl) (by decide)
  intro D g L' h₁ tk₁ hlt lo Gg hkg F₁ N₁
  have hP0 : ∀ p ∈ (hl, lstO its c) :: rest, p.1 < D := hlt
  -- parts = []
  refine wpAny_execs_cons ?_
  refine wpAny_Assign_Name ?_ ?hs
  case hs => exact swapsList
  refine PyProof.Rows.List_ ?_
  refine aNil ?_
  refine newList_N F₁ N₁ fun h₂ F₂ N₂ => ?_
  dsimp only at N₂ ⊢
  have hPn := newsOff N₁
  generalize hP : h₁.objs.size = P at *
  refine storeX_L F₂ N₂ fun h₃ F₃ N₃ => ?_
  dsimp only
  -- if _value is not None
  refine wpAny_execs_cons ?_
  refine wpAny_If ?_
  refine wpAny_isTrue_Compare1 ?_ rfl
  refine nameX_L F₃ rfl ?_
  refine wpAny_Constant_none ?_
  refine isnot_str_none ?_
  refine wpAny_truthy_bool ?_
  rw [if_pos rfl]
  refine wpAny_execs_cons ?_
  refine wpAny_Assign_Name ?_ ?hs
  case hs => exact swapsCall
  refine evConv (y := v) (ty := tv) Gg F₃ (by show A.depth + 1 < _; omega) (N₃.get (.tail _ (.tail _ (.tail _ hx)))) (N₃.get (.tail _ (.tail _ (.tail _ hdx)))) (fun Q' hq => nameX_L F₃ rfl hq) (fun Q' hq => nameX_L F₃ rfl (hq _)) hv hvz ?_ rfl rfl
  intro h₄ tk₄ hk₄
  dsimp only at hk₄ ⊢
  refine storeX_L (F₃.keeps hk₄) (N₃.grown hk₄) fun h₅ F₅ N₅ => ?_
  dsimp only
  refine wpAny_execs_cons ?_
  refine wpAny_Expr ?_ rfl swapsCall
  refine PyProof.Rows.MethodCall_ ?_
  refine nameX_L F₅ rfl ?_
  refine getMethod_append_N N₅ (.head _) ?_
  refine callWith_method1 ?_ rfl rfl
  refine aName ?_
  refine nameX_L F₅ rfl ?_
  refine aNil ?_
  refine append_head F₅ N₅ (fun p hp => hPn p hp) (fun h₆ F₆ N₆ => ?_) (by rw [sizeLine_eq]; show 0 ≤ _; omega)
  dsimp only at N₆ ⊢
  refine wpAny_execs_nil ?_
  dsimp only
  -- for k, v in _params.items()
  refine wpAny_execs_cons ?_
  refine forM ?_ (fun _ => rfl)
  refine evItems ?_ rfl rfl
  refine nameX_L F₆ rfl ?_
  have TD : StrTab PR w h₆ D (kdpD []) := TabAt.ofObj lo (N₆.get (.tail _ (.head _))) (kp_isDict (ex := []) 0 0 .nil) .nil
  refine ⟨D, [], rfl, TD, fun h₇ hv7 hk₇ => ?_⟩
  dsimp only at hv7 hk₇ ⊢
  refine iterItems (w := w) (c := []) (fun i m' nw => m' = _ ∧ nw = (P, { cls := .type "list", data := .seq (#[].push (.str v tv)) 1 }) :: (D, W.dictOf [] 0) :: (hl, lstO its c) :: rest) hh (F₆.keeps hk₇) (N₆.grown hk₇) hv7 (TD.keep hk₇) (.inr ⟨W.dictOf [] 0, ?_⟩) ⟨rfl, rfl⟩ ?_ ?_ rfl rfl rfl
  · rintro i m' nw ⟨_, rfl⟩
    exact .tail _ (.head _)
  · intro i k' n' t' u' m₁ news₁ h8 tk8 I io hc
    simp at hc
  rintro m₁ news₁ h₈ tk₈ ⟨rfl, rfl⟩ F₈ N₈
  refine wpAny_execs_cons ?_
  refine wpAny_Expr ?_ rfl swapsCall
  refine PyProof.Rows.MethodCall_ ?_
  refine PyProof.Rows.Attribute_Name_ ?_
  refine nameX_L F₈ rfl ?_
  refine get_own F₈ Gg.X ⟨N₈.get (.tail _ (.tail _ (.tail _ hx))), rfl, rfl, N₈.get (.tail _ (.tail _ (.tail _ hdx)))⟩ (pg_238 w) (hd_238 w) (fi_238 w) (ng_62 w) rfl rfl ?_
  refine getMethod_append_N N₈ (.tail _ (.tail _ (.head _))) ?_
  refine callWith_method1 ?_ rfl rfl
  refine aTup ?_
  refine PyProof.Rows.Tuple_ ?_
  refine aCall ?_
  refine evConv (y := n) (ty := tn) Gg F₈ (by show A.depth + 1 < _; omega) (N₈.get (.tail _ (.tail _ (.tail _ hx)))) (N₈.get (.tail _ (.tail _ (.tail _ hdx)))) (fun Q' hq => nameX_L F₈ rfl hq) (fun Q' hq => nameX_L F₈ rfl (hq _)) hn hnz ?_ rfl rfl
  intro h₉ tk₉ hk₉
  dsimp only at hk₉ ⊢
  have F₉ := F₈.keeps hk₉
  have N₉ := N₈.grown hk₉
  refine aCall ?_
  refine PyProof.Rows.MethodCall_ ?_
  refine Calls.Constant_str ?_
  refine GM.join ?_
  refine callWith_method1 ?_ rfl rfl
  refine aName ?_
  refine nameX_L F₉ rfl ?_
  refine aNil ?_
  refine SC.join (l := [(v, tv)]) (texts := [v]) ⟨_, N₉.get (.head _), rfl, 1, rfl⟩ rfl ?_ ?_
  · have e : ([v].toArray.foldl (· + ·.length + (Str.ofString "; ").length) 0) = 0 + v.length + (Str.ofString "; ").length := rfl
    have e2 : (Str.ofString "; ").length = 2 := rfl
    unfold JoinOk Builtin.Str.tooLong
    rw [e, e2]
    simp
    rw [sizeLine_eq]
    omega
  intro u ku
  refine aNil ?_
  refine newTuple_N (s := { s with heap := h₉, toks := ku }) F₉ N₉ fun hA FA NA => ?_
  dsimp only at NA ⊢
  have hTn := newsOff N₉
  generalize hT : h₉.objs.size = T at *
  refine aNil ?_
  have NA' : News g L' hA ((hl, lstO its c) :: (T, tupS n tn v u) :: rest) := fun p hp => NA p (by
    rcases List.mem_cons.mp hp with rfl | hp
    · exact .tail _ (.tail _ (.tail _ (.head _)))
    rcases List.mem_cons.mp hp with rfl | hp
    · exact .head _
    · exact .tail _ (.tail _ (.tail _ (.tail _ hp))))
  have hlT : hl ≠ T := hTn _ (.tail _ (.tail _ (.head _)))
  refine append_head FA NA' ?_ (fun hB FB NB => ?_) (by rw [sizeLine_eq]; omega)
  · intro p hp
    rcases List.mem_cons.mp hp with rfl | hp
    · exact Ne.symm hlT
    · exact hne p hp
  dsimp only at NB ⊢
  refine wpAny_execs_nil ?_
  refine ⟨_, _, FB, NB, fun F₀ N₀ => ?_⟩
  exact h T u hB _ F₀ N₀ (fun p hp => hTn p (.tail _ (.tail _ (.tail _ hp)))) hlT
end
abbrev al6 : List Nat := [97, 98, 99, 65, 66, 67]
def lowN (c : Nat) : Nat := if c < 97 then c + 32 else c
def upN (c : Nat) : Nat := c - 32
theorem lower_one : ∀ c ∈ al6, (c == 0x3A3) = false ∧ Unicode.lowerOf c = [lowN c] := by decide +kernel
theorem upper_one : ∀ c ∈ abc, Unicode.upperOf c = [upN c] := by decide +kernel
theorem placed_one {l : List Nat} {f : Nat → Nat → List Nat} {g : Nat → Nat} (h : ∀ i c, l[i]? = some c → f i c = [g c]) : placed (sOf l) f = (l.map g).toArray := by
  unfold placed
  apply Array.ext'
  rw [Array.toList_flatten]
  show (List.map Array.toList (l.toArray.mapIdx fun i c => (f i c).toArray).toList).flatten = l.map g
  have e : (l.toArray.mapIdx fun i c => (f i c).toArray).toList = l.map fun c => #[g c] := by
    apply List.ext_getElem?
    intro i
    rw [Array.getElem?_toList, Array.getElem?_mapIdx, List.getElem?_map]
    simp only [List.getElem?_toArray]
    cases hc : l[i]? with
    | none => rfl
    | some c => simp [h i c hc]
  rw [e, List.map_map]
  clear e h
  induction l with
  | nil => rfl
  | cons c l ih => simp only [List.map_cons, List.flatten_cons, ih]; rfl
theorem lower_sOf {l : List Nat} (h : ∀ c ∈ l, c ∈ al6) : Txt.lower (sOf l) = sOf (l.map lowN) := by
  unfold Txt.lower
  rw [placed_one (g := lowN) fun i c hc => ?_]
  have := lower_one c (h c (List.mem_of_getElem? hc))
  unfold Unicode.lowerAt
  have e : (sOf l).cps[i]? = some c := by show l.toArray[i]? = some c; simpa using hc
  rw [e]
  dsimp only
  rw [this.1, Bool.false_and, if_neg (by decide), this.2]
theorem upper_sOf {l : List Nat} (h : ∀ c ∈ l, c ∈ abc) : Txt.upper (sOf l) = sOf (l.map upN) := by
  unfold Txt.upper
  rw [placed_one (g := upN) fun i c hc => upper_one c (h c (List.mem_of_getElem? hc))]
theorem lowN_al {c : Nat} (h : c ∈ al6) : lowN c ∈ abc := by
  simp only [List.mem_cons, List.not_mem_nil, or_false] at h
  rcases h with rfl | rfl | rfl | rfl | rfl | rfl <;> decide
theorem upN_al {c : Nat} (h : c ∈ abc) : upN c ∈ ABC := by
  simp only [List.mem_cons, List.not_mem_nil, or_false] at h
  rcases h with rfl | rfl | rfl <;> decide
theorem al6_sign {l : List Nat} (h : ∀ c ∈ l, c ∈ al6) : ∀ c ∈ (sOf l).cps.toList, c ∈ signOk := by
  intro c hc
  have := h c (by simpa using hc)
  simp only [List.mem_cons, List.not_mem_nil, or_false] at this
  rcases this with rfl | rfl | rfl | rfl | rfl | rfl <;> decide

def numS (n : Int) : Str := Str.ofString (toString n)
theorem numS_sign {n : Int} (h : 0 ≤ n) : ∀ c ∈ (numS n).cps.toList, c ∈ signOk := by
  obtain ⟨m, rfl⟩ := Int.eq_ofNat_of_zero_le h
  intro c hc
  unfold numS at hc
  rw [KIN.signs_num] at hc
  obtain ⟨ch, hch, rfl⟩ := List.mem_map.mp hc
  have r := digit_range (Nat.isDigit_of_mem_toDigits (by decide) (by decide) hch)
  simp only [List.mem_cons, List.not_mem_nil, or_false]
  omega
theorem numS_len {n : Int} (h0 : 0 ≤ n) (h1 : n < 10 ^ 10) : (numS n).length ≤ 10 := KT.len_num h0 h1

/-- a header as the law makes it: the name's letters, the number in the text -/
abbrev HE := Addr × (List Nat × Tok) × (Int × Tok)
abbrev heO (e : HE) : Obj := tupS (sOf e.2.1.1) e.2.1.2 (numS e.2.2.1) e.2.2.2
abbrev hesA (es : List HE) : Array Value := (es.map fun e => Value.ref e.1).toArray

section
variable {w : World} {mean : ExcName → Option Value} {mg mb : Str → Option Value} {A : Around} {s : Shared} {E Q : Value → Shared → Prop} {env : Env}

theorem evLower {o : Expr} {p1 p2 : Pos} {pl : Sem Bool}
    (h : wpAny (model PR w) A (eval o env) (fun v s₁ => ∃ l t, v = .str (sOf l) t ∧ (∀ c ∈ l, c ∈ al6) ∧ l.length ≤ 1000 ∧ Q (.str (sOf (l.map lowN)) s₁.toks) { s₁ with toks := s₁.toks + 1 }) E s)
    (he : eval (.Call (.Attribute o "lower" p1) [] [] p2) env = (do
      let ov ← eval o env
      standAt p1.atName
      let (f, first) ← holding [ov] (getMethod ov "lower" pl)
      callWith p2 f first (backTo p2 (starEach [] env)) (backToKw p2 (keywordEach [] env)))) :
    wpAny (model PR w) A (eval (.Call (.Attribute o "lower" p1) [] [] p2) env) Q E s := by
  refine methodCall_KW (wpAny_mono h (fun v s₁ hq => ?_) fun _ _ x => x) he
  obtain ⟨l, t, rfl, hl, hz, hq⟩ := hq
  refine GM.lower ?_
  refine callWith_method0 ?_
  have e := lower_sOf hl
  refine SC.lower ?_ (by rw [e]; exact hq)
  rw [e]
  unfold Builtin.Str.tooLong
  rw [sOf_len, List.length_map, sizeLine_eq]
  simp
  omega
end
def HdrAt (h : Heap) (x : Addr) (es : List HE) : Prop :=
  ∃ dx hsh t k hl c, h.get? x = some (instObj 238 dx) ∧ h.get? dx = some (hdrD hsh t hl k) ∧ h.get? hl = some (lstO (hesA es) c) ∧ ∀ e ∈ es, h.get? e.1 = some (heO e)
def pairAt (h : Heap) : Value → Str × Str
  | .ref a => match h.get? a with
    | some o => (match o.data with | .seq its _ => (txtOf (its.getD 0 .none), txtOf (its.getD 1 .none)) | _ => (Str.empty, Str.empty))
    | none => (Str.empty, Str.empty)
  | _ => (Str.empty, Str.empty)
theorem pairAt_eq {h : Heap} {e : HE} (g : h.get? e.1 = some (heO e)) : pairAt h (.ref e.1) = (sOf e.2.1.1, numS e.2.2.1) := by
  unfold pairAt
  dsimp only
  rw [g]
  rfl
def getAllOf (es : List HE) (l : List Nat) : List Int := (es.filter fun e => e.2.1.1.map lowN == l).map fun e => e.2.2.1

section
variable {w : World} {mean : ExcName → Option Value} {mg mb : Str → Option Value} {A : Around} {s : Shared} {E Q : Value → Shared → Prop} {env : Env}

theorem sOf_eq {a b : List Nat} : (sOf a == sOf b) = (a == b) := by
  by_cases h : a = b
  · subst h; simp
  · rw [beq_eq_false_iff_ne.mpr h, beq_eq_false_iff_ne]
    intro q
    have : a.toArray = b.toArray := congrArg Str.cps q
    exact h (by simpa using this)

theorem getAll_spec {x : Addr} {es : List HE} {nm : List Nat} {tn : Tok} (G : Ground0 w mean mg mb s.heap) (hh : A.handled = none) (hroom : A.depth + 5 < recursionLimit) (H : HdrAt s.heap x es)
    (hes : ∀ e ∈ es, (∀ c ∈ e.2.1.1, c ∈ al6) ∧ e.2.1.1.length ≤ 1000) (hlen : es.length ≤ 100000) (hn : ∀ c ∈ nm, c ∈ al6) (hnz : nm.length ≤ 1000) :
    wpAny (model PR w) A (call (.ref 177) [.ref x, .str (sOf nm) tn]) (fun v s' => MadeList s s' v ((getAllOf es (nm.map lowN)).map numS) ∧ Keeps s s') E s := by
  obtain ⟨dx, hsh, t, k, hl, c, gx, gdx, ghl, ges⟩ := H
  refine enterC (binds := [(Str.ofString "self", .ref x), (Str.ofString "name", .str (sOf nm) tn)]) G.X G.T (by k_is) (by k_is) (by omega) (by exact BindsTo.of_eq rfl) (by rfl) (by decide) ?_ (by rfl) (by rfl) (by rfl)
  intro L h₁ tk₁ cells F N Y
  obtain ⟨oc, rfl, dc⟩ := CellsAre.one Y
  have dc : oc.data = .cell (some (.str (sOf nm) tn)) := dc
  refine wpAny_execs_cons ?_
  refine wpAny_Assign_Name ?_ ?hs
  case hs => exact swapsCall
  have hlow : ∀ c ∈ nm.map lowN, c ∈ al6 := fun c hc => by
    obtain ⟨d, hd, rfl⟩ := List.mem_map.mp hc
    have := lowN_al (hn d hd)
    simp only [List.mem_cons, List.not_mem_nil, or_false] at this ⊢
    omega
  refine evConv (y := sOf (nm.map lowN)) (ty := tk₁) G F (by show A.depth + 1 < _; omega) (F.keep _ _ gx) (F.keep _ _ gdx) (fun Q' hq => nameX_L F rfl hq) (fun Q' hq => evLower (nameX_C N rfl (.head _) dc ⟨nm, tn, rfl, hn, hnz, hq _⟩) rfl) (al6_sign hlow) (by rw [sOf_len, List.length_map]; exact hnz) ?_ rfl rfl
  intro h₂ tk₂ hk₂
  dsimp only at hk₂ ⊢
  have F₂ := F.keeps hk₂
  have N₂ := N.grown hk₂
  refine storeX_C F₂ N₂ rfl (.head (by simp)) dc ?_
  intro h₃ oc' F₃ N₃ dc'
  dsimp only
  refine wpAny_execs_cons ?_
  refine wpAny_Return_some ?_
  refine evComp (cl := [(Str.ofString "name", L + 1)]) (fun v => Txt.lower (pairAt s.heap v).1 == sOf (nm.map lowN)) (fun v y => ∃ u, y = .str (pairAt s.heap v).2 u) rfl (by decide) rfl (by decide) rfl ?_ (fun _ => rfl)
  refine PyProof.Rows.Attribute_Name_ ?_
  refine nameX_L F₃ rfl ?_
  refine get_own F₃ G.X ⟨F₃.keep _ _ gx, rfl, rfl, F₃.keep _ _ gdx⟩ (pg_238 w) (hd_238 w) (fi_238 w) (ng_62 w) rfl rfl ?_
  have hin : ∀ v ∈ es.map (fun e => Value.ref e.1), ∃ e ∈ es, v = .ref e.1 := fun v hv => by
    obtain ⟨e, he, rfl⟩ := List.mem_map.mp hv
    exact ⟨e, he, rfl⟩
  refine compL (by exact hh) ⟨_, F₃.keep _ _ ghl, rfl, c, rfl⟩ (by rw [List.length_map]; omega) F₃ N₃ ⟨?_, ?_⟩ ?_
  · intro C v s₄ m₄ E' hP hn' hm hk
    obtain ⟨e, he, rfl⟩ := hin v hP
    have g4 := hk _ _ (F₃.keep _ _ (ges e he))
    have hc1 : s₄.heap.IsCell (L + 1) (some (.str (sOf (nm.map lowN)) tk₁)) := ⟨oc', hk _ _ (N₃.get (.head _)), dc'⟩
    refine wpAny_tests_one ?_
    refine wpAny_isTrue_Compare1 ?_ rfl
    refine evLower ?_ rfl
    refine PyProof.Rows.Subscript_ ?_
    refine nameLoc hn' hm ?_
    refine wpAny_Constant_int ?_
    refine item_tupleT (j := 0) (x := .str (sOf e.2.1.1) e.2.1.2) ⟨_, g4, rfl, 0, rfl⟩ (by decide) (by decide) rfl rfl ?_ rfl
    refine ⟨e.2.1.1, _, rfl, (hes e he).1, (hes e he).2, ?_⟩
    refine nameCel (c := L + 1) rfl hc1 ?_
    refine PyProof.Rows.eq_str ?_
    refine wpAny_truthy_bool ?_
    refine ⟨?_, _, _, rfl, fun _ _ e => e⟩
    rw [pairAt_eq (ges e he), lower_sOf (hes e he).1]
  · intro C v s₄ m₄ E' hP _ hn' hm hk
    obtain ⟨e, he, rfl⟩ := hin v hP
    have g4 := hk _ _ (F₃.keep _ _ (ges e he))
    refine PyProof.Rows.Subscript_ ?_
    refine nameLoc hn' hm ?_
    refine wpAny_Constant_int ?_
    refine item_tupleT (j := 1) (x := .str (numS e.2.2.1) e.2.2.2) ⟨_, g4, rfl, 0, rfl⟩ (by decide) (by decide) rfl rfl ?_ rfl
    refine ⟨⟨e.2.2.2, ?_⟩, _, _, rfl, fun _ _ e => e⟩
    rw [pairAt_eq (ges e he)]
  · intro D h₄ tk₄ ys c₄ F₄ N₄ hD hDne hpair hk₄
    refine ⟨⟨D, _, rfl, N₄.fresh (.head _), N₄.get (.head _), ys.toList, c₄, rfl, ?_⟩, _, _, rfl, F₄.keep⟩
    have key : ∀ (es : List HE) (us : List Value), (∀ e ∈ es, (∀ c ∈ e.2.1.1, c ∈ al6)) → (∀ e ∈ es, s.heap.get? e.1 = some (heO e)) → Paired (fun v y => ∃ u, y = .str (pairAt s.heap v).2 u) ((es.map fun e => Value.ref e.1).filter fun v => Txt.lower (pairAt s.heap v).1 == sOf (nm.map lowN)) us →
        StrsAre us ((getAllOf es (nm.map lowN)).map numS) := by
      intro es
      induction es with
      | nil => intro us _ _ hp; cases hp; exact .nil
      | cons e es ih =>
        intro us ha hg hp
        have g1 := pairAt_eq (hg e (.head _))
        have e1 := lower_sOf (ha e (.head _))
        rw [List.map_cons, List.filter_cons, g1, e1, sOf_eq] at hp
        unfold getAllOf
        rw [List.filter_cons]
        by_cases q : (e.2.1.1.map lowN == nm.map lowN) = true
        · rw [if_pos q] at hp ⊢
          cases hp with
          | cons hF hp =>
            obtain ⟨u, rfl⟩ := hF
            rw [g1]
            exact .cons _ u (ih _ (fun e he => ha e (.tail _ he)) (fun e he => hg e (.tail _ he)) hp)
        · rw [if_neg q] at hp ⊢
          exact ih _ (fun e he => ha e (.tail _ he)) (fun e he => hg e (.tail _ he)) hp
    exact key es ys.toList (fun e he => (hes e he).1) ges hpair
end
section
variable {w : World} {mean : ExcName → Option Value} {mg mb : Str → Option Value} {A : Around} {s : Shared} {E Q : Value → Shared → Prop} {env : Env}

abbrev keyV (e : HE) : Value := .str (sOf e.2.1.1) e.2.1.2
theorem keysRest {h₀ : Heap} {L hl : Addr} {m : Str → Option Value} {scope : Scope} {cl : List (Str × Addr)} {own : List (Addr × Obj)} {c : Nat} {pk : Pos} {es : List HE} {Fin : List Value → List (Addr × Obj) → Prop}
    (hhl : (hl, lstO (hesA es) c) ∈ own) (hes : ∀ e ∈ es, (e.1, heO e) ∈ own) (hfin : Fin (es.map keyV) own) (hk : scope.kind = .function) (hkx : ∀ C, (compEnvC scope cl C env).kindOf (Str.ofString "k") = some .local) :
    ∀ k i, i + k = es.length → LCp.CompRestP PR w A h₀ L m env (.Name (Str.ofString "k") pk) (Str.ofString "k") (Str.ofString "v") scope cl s (LCg.SrcAt h₀ hl (hesA es)) (fun i v => (hesA es)[i]? = some v) Fin k i ((es.take i).map keyV) own := by
  intro k
  induction k with
  | zero =>
    intro i hi
    refine LCp.CompRestP.zero ?_
    rw [show i = es.length from by omega, List.take_length]
    exact hfin
  | succ k ih =>
    intro i hi
    refine LCp.CompRestP.succ fun v hv => ?_
    have hlt : i < es.length := by omega
    have he : es[i]? = some es[i] := List.getElem?_eq_getElem hlt
    generalize es[i] = e at he
    have hv' : v = .ref e.1 := by
      have : (hesA es)[i]? = some (.ref e.1) := by
        show (es.map fun e => Value.ref e.1).toArray[i]? = _
        rw [List.getElem?_toArray, List.getElem?_map, he]
        rfl
      rw [this] at hv
      exact (Option.some.inj hv).symm
    refine ⟨e.1, heO e, keyV e, .str (numS e.2.2.1) e.2.2.2, 0, hv', hes e (List.mem_of_getElem? he), rfl, rfl, ?_⟩
    intro I oI C oC D m₂ h tk E' hns hk1 hv1 F' N' off _
    refine nameLoc (hns.ns (N'.get (.tail _ (.head _)))) hk1 ?_ hk (hkx C)
    refine LCg.CompEnd.intro F' N' own (fun p hp => hp) off (.inr ⟨_, hhl, rfl, c, rfl⟩) ?_
    have e2 : (es.take (i + 1)).map keyV = (es.take i).map keyV ++ [keyV e] := by rw [List.take_add_one, he]; simp
    have := ih (i + 1) (by omega)
    rw [e2] at this
    exact this

theorem off1_ne {D : Addr} : ∀ {l : List (Addr × Obj)}, LCg.Off1 D l → ∀ p ∈ l, p.1 ≠ D
  | [], _, _, h => nomatch h
  | _ :: _, x, p, h => by
    rcases List.mem_cons.mp h with rfl | h
    · exact x.1
    · exact off1_ne x.2 p h

theorem keys_call {h₀ : Heap} {L x dx hl : Addr} {m : Str → Option Value} {hsh : Int} {t : Tok} {k c : Nat} {es : List HE} {own : List (Addr × Obj)} (G : Ground0 w mean mg mb h₀) (F : Fr h₀ L s.heap m) (N : News h₀ L s.heap own)
    (hx : (x, instObj 238 dx) ∈ own) (hdx : (dx, hdrD hsh t hl k) ∈ own) (hhl : (hl, lstO (hesA es) c) ∈ own) (hes : ∀ e ∈ es, (e.1, heO e) ∈ own) (hh : A.handled = none) (hroom : A.depth + 5 < recursionLimit) (hlen : es.length ≤ 100000)
    (h : ∀ D h' tk, Fr h₀ L h' m → News h₀ L h' ((D, LCg.lst (es.map keyV)) :: own) → (∀ p ∈ own, p.1 ≠ D) → Q (.ref D) { s with heap := h', toks := tk }) :
    wpAny (model PR w) A (call (.ref 190) [.ref x]) Q E s := by
  refine wpAny_call ?_
  refine enterH (binds := [(Str.ofString "self", .ref x)]) G F N (by k_is) (by k_is) (by omega) (by exact BindsTo.of_eq rfl) (by exact locs rfl) ?_ (by rfl) (by rfl) (by rfl) (by decide)
  intro g L' h₁ Gg hkg F₁ N₁
  refine wpAny_execs_cons ?_
  refine wpAny_Return_some ?_
  refine LCp.ListComp_P F₁ rfl (by decide) rfl (by decide) rfl rfl (by decide) ?_ (fun _ => rfl)
  refine PyProof.Rows.Attribute_Name_ ?_
  refine nameX_L F₁ rfl ?_
  refine get_own F₁ Gg.X ⟨N₁.get hx, rfl, rfl, N₁.get hdx⟩ (pg_238 w) (hd_238 w) (fi_238 w) (ng_62 w) rfl rfl ?_
  refine LCp.SrcLP.ledger (by exact hh) F₁ N₁ hhl (by rw [sizeLine_eq]; simp; omega) fun gg => ?_
  have hsz : (hesA es).size = es.length := by simp
  rw [hsz]
  refine keysRest (es := es) hhl hes ?_ rfl (fun C => rfl) es.length 0 (by omega)
  intro D h₂ tk₂ F₂ N₂ off
  refine ⟨_, _, F₂, N₂, fun F₃ N₃ => ?_⟩
  exact h D h₂ tk₂ F₃ N₃ (off1_ne off)
end
/-- one laid name more: the table of what has grown -/
def grownStep (hs : List (List Nat)) (n : Int) (acc : List (Str × Int)) (nm : List Nat) : List (Str × Int) :=
  if kdpHas acc (sOf (nm.map lowN)) then acc else kdpPut acc (sOf (nm.map lowN)) (((hs.filter fun l => l.map lowN == nm.map lowN).map fun _ => n).sum)
def grownOf (la lb : List Nat) (n : Int) : List (Str × Int) := (laidN la lb).foldl (grownStep (laidN la lb) n) []
def stepP (lb : List Nat) (acc : Int × List (Str × Int)) (p : Str × Int) : Int × List (Str × Int) :=
  (((grownOf p.1.cps.toList lb p.2).map (·.2)).sum + acc.1, addTab acc.2 (grownOf p.1.cps.toList lb p.2))
def pieceStep (e : Int × List (Str × Int)) (pc : List Nat) : Int × List (Str × Int) := e.2.foldl (stepP (pc.map upN)) (0, [])
def prodOf (pcs : List (List Nat)) : Int × List (Str × Int) := pcs.foldl pieceStep (0, [(Str.ofString "", 1)])
/-- what a table must be for the walk -/
def okTab (c : List (Str × Int)) : Bool := decide (c.length ≤ 200) && c.all fun p => decide (p.1.cps.size ≤ 5) && (p.1.cps.toList.all fun a => abc.contains a) && decide (0 ≤ p.2) && decide (p.2 < 10 ^ 10)
theorem okTab_len {c : List (Str × Int)} (h : okTab c = true) : c.length ≤ 200 := by
  unfold okTab at h
  rw [Bool.and_eq_true] at h
  simpa using h.1
theorem okTab_mem {c : List (Str × Int)} (h : okTab c = true) {k : Str} {n : Int} (hp : (k, n) ∈ c) : OkW abc k.cps.toList ∧ 0 ≤ n ∧ n < 10 ^ 10 := by
  unfold okTab at h
  rw [Bool.and_eq_true, List.all_eq_true] at h
  have := h.2 _ hp
  simp only [Bool.and_eq_true, decide_eq_true_eq, List.all_eq_true] at this
  refine ⟨⟨by simpa using this.1.1.1, fun c hc => ?_⟩, this.1.2, this.2⟩
  have := this.1.1.2 c hc
  simpa using this
theorem grownStep_len (hs : List (List Nat)) (n : Int) (acc : List (Str × Int)) (nm : List Nat) : (grownStep hs n acc nm).length ≤ acc.length + 1 := by
  unfold grownStep
  split
  · exact Nat.le_succ _
  · exact kdpPut_len ..
theorem grown_len (hs : List (List Nat)) (n : Int) : ∀ (l : List (List Nat)) (acc : List (Str × Int)), (l.foldl (grownStep hs n) acc).length ≤ acc.length + l.length
  | [], _ => Nat.le_refl _
  | a :: l, acc => by
    have h1 := grown_len hs n l (grownStep hs n acc a)
    have h2 := grownStep_len hs n acc a
    rw [List.foldl_cons, List.length_cons]
    omega
theorem laid_le {la lb : List Nat} (ha : la.length ≤ 5) (hb : lb.length ≤ 5) : (laidN la lb).length ≤ 1024 := by
  have h := (laidN_len (la.length + lb.length) la lb (Nat.le_refl _)).1
  have : 2 ^ (la.length + lb.length) ≤ 2 ^ 10 := Nat.pow_le_pow_right (by decide) (by omega)
  omega
theorem grownOf_len {la lb : List Nat} (ha : la.length ≤ 5) (hb : lb.length ≤ 5) (n : Int) : (grownOf la lb n).length ≤ 1024 := by
  have h := grown_len (laidN la lb) n (laidN la lb) []
  have := laid_le ha hb
  unfold grownOf
  simp only [List.length_nil] at h
  omega
theorem stepP_len {lb : List Nat} (hb : lb.length ≤ 5) : ∀ (c : List (Str × Int)) (acc : Int × List (Str × Int)), (∀ p ∈ c, p.1.cps.toList.length ≤ 5) → (c.foldl (stepP lb) acc).2.length ≤ acc.2.length + c.length * 1024
  | [], _, _ => Nat.le_add_right _ _
  | p :: c, acc, h => by
    have h1 := stepP_len hb c (stepP lb acc p) (fun q hq => h q (.tail _ hq))
    have h2 := addTab_len acc.2 (grownOf p.1.cps.toList lb p.2)
    have h3 := grownOf_len (h p (.head _)) hb p.2
    have h4 : (stepP lb acc p).2 = addTab acc.2 (grownOf p.1.cps.toList lb p.2) := rfl
    rw [h4] at h1
    rw [List.foldl_cons, List.length_cons]
    omega
theorem low_low {l : List Nat} (h : ∀ c ∈ l, c ∈ al6) : (l.map lowN).map lowN = l.map lowN := by
  rw [List.map_map]
  refine List.map_congr_left fun c hc => ?_
  have := h c hc
  simp only [List.mem_cons, List.not_mem_nil, or_false] at this
  rcases this with rfl | rfl | rfl | rfl | rfl | rfl <;> rfl
theorem laid_letters : ∀ (n : Nat) {a b : List Nat}, a.length + b.length ≤ n → (∀ c ∈ a, c ∈ al6) → (∀ c ∈ b, c ∈ al6) → ∀ l ∈ laidN a b, ∀ c ∈ l, c ∈ al6
  | n, [], b, _, _, hb, l, hl => by
    rw [laidN] at hl
    rw [List.mem_singleton.mp hl]; exact hb
  | n, x :: a, [], _, ha, _, l, hl => by
    rw [laidN] at hl
    · rw [List.mem_singleton.mp hl]; exact ha
    · simp
  | 0, x :: a, y :: b, h, _, _, _, _ => by simp at h
  | n + 1, x :: a, y :: b, h, ha, hb, l, hl => by
    simp only [List.length_cons] at h
    rw [laidN] at hl
    rcases List.mem_append.mp hl with hl | hl
    · obtain ⟨l', hl', rfl⟩ := List.mem_map.mp hl
      intro c hc
      rcases List.mem_cons.mp hc with rfl | hc
      · exact ha _ (.head _)
      · exact laid_letters n (by simp only [List.length_cons]; omega) (fun c hc => ha c (.tail _ hc)) hb l' hl' c hc
    · obtain ⟨l', hl', rfl⟩ := List.mem_map.mp hl
      intro c hc
      rcases List.mem_cons.mp hc with rfl | hc
      · exact hb _ (.head _)
      · exact laid_letters n (by simp only [List.length_cons]; omega) ha (fun c hc => hb c (.tail _ hc)) l' hl' c hc
theorem abc_al6 {c : Nat} (h : c ∈ abc) : c ∈ al6 := by
  simp only [List.mem_cons, List.not_mem_nil, or_false] at h ⊢
  omega
theorem ABC_al6 {c : Nat} (h : c ∈ ABC) : c ∈ al6 := by
  simp only [List.mem_cons, List.not_mem_nil, or_false] at h ⊢
  omega

section
variable {w : World} {mean : ExcName → Option Value} {mg mb : Str → Option Value} {A : Around} {s : Shared} {E Q : Value → Shared → Prop} {env : Env}
theorem evUpper {o : Expr} {p1 p2 : Pos} {pl : Sem Bool}
    (h : wpAny (model PR w) A (eval o env) (fun v s₁ => ∃ l t, v = .str (sOf l) t ∧ (∀ c ∈ l, c ∈ abc) ∧ l.length ≤ 1000 ∧ Q (.str (sOf (l.map upN)) s₁.toks) { s₁ with toks := s₁.toks + 1 }) E s)
    (he : eval (.Call (.Attribute o "upper" p1) [] [] p2) env = (do
      let ov ← eval o env
      standAt p1.atName
      let (f, first) ← holding [ov] (getMethod ov "upper" pl)
      callWith p2 f first (backTo p2 (starEach [] env)) (backToKw p2 (keywordEach [] env)))) :
    wpAny (model PR w) A (eval (.Call (.Attribute o "upper" p1) [] [] p2) env) Q E s := by
  refine methodCall_KW (wpAny_mono h (fun v s₁ hq => ?_) fun _ _ x => x) he
  obtain ⟨l, t, rfl, hl, hz, hq⟩ := hq
  refine GM.upper ?_
  refine callWith_method0 ?_
  have e := upper_sOf hl
  refine SC.upper ?_ (by rw [e]; exact hq)
  rw [e]
  unfold Builtin.Str.tooLong
  rw [sOf_len, List.length_map, sizeLine_eq]
  simp
  omega
theorem sumK {l : Addr} {vs : List Value} {ns : List Int} (hh : A.handled = none) (hl : s.heap.IsList l vs.toArray) (hi : IntsAre vs ns)
    (h : ∀ h' tk t', (∀ b o, s.heap.get? b = some o → h'.get? b = some o) → Q (.int ns.sum t') { s with heap := h', toks := tk }) :
    wpAny (model PR w) A (call (.builtin "sum") [.ref l]) Q E s := by
  obtain ⟨xs, hx⟩ := hi.allInts.items
  have e1 := hi.numsOf
  rw [hx] at hl
  refine sum_intListG hh hl fun h' tk t' hk => ?_
  have e2 : preSum (numAt xs) xs.size = ns.sum := by
    rw [← e1, show vs = (intItems xs).toList from by rw [← hx], nums_intItems, preSum_eq, List.take_of_length_le (by simp)]
  rw [e2]
  exact h h' tk t' hk
end
theorem sOf_self (k : Str) : k = sOf k.cps.toList := by cases k; rfl
theorem hesA_push (es : List HE) (e : HE) : (hesA es).push (.ref e.1) = hesA (es ++ [e]) := by
  show (es.map fun e => Value.ref e.1).toArray.push _ = ((es ++ [e]).map fun e => Value.ref e.1).toArray
  rw [List.map_append, List.push_toArray]
  rfl
theorem log_small {n : Int} (h0 : 0 ≤ n) (h1 : n < 10 ^ 10) : n.natAbs.log2 < 1920 := by
  have h2 : n.natAbs < 2 ^ 34 := by omega
  by_cases h : n.natAbs = 0
  · rw [h]; decide
  · have := (Nat.log2_lt h).mpr h2
    omega
theorem sum_same {α : Type} {n : Int} {l : List α} {f : α → Int} (h : ∀ a ∈ l, f a = n) : l.map f = l.map fun _ => n := List.map_congr_left h
theorem paired_all {P : Value → Prop} {vs us : List Value} (p : Paired (fun _ y => P y) vs us) : us.length = vs.length ∧ ∀ y ∈ us, P y := by
  induction p with
  | nil => exact ⟨rfl, fun y hy => by cases hy⟩
  | cons hF _ ih =>
    refine ⟨by rw [List.length_cons, List.length_cons, ih.1], fun y hy => ?_⟩
    rcases List.mem_cons.mp hy with rfl | hy
    · exact hF
    · exact ih.2 y hy
theorem ints_all {n : Int} {ys : List Value} (h : ∀ y ∈ ys, ∃ u, y = .int n u) : IntsAre ys (ys.map fun _ => n) := by
  induction ys with
  | nil => exact .nil
  | cons y ys ih =>
    obtain ⟨u, rfl⟩ := h _ (.head _)
    exact .cons _ _ (ih fun z hz => h z (.tail _ hz))

section
variable {w : World} {mean : ExcName → Option Value} {mg mb : Str → Option Value} {A : Around} {s : Shared} {E : Value → Shared → Prop}

theorem product_spec {lp : Addr} {pcs : List (List Nat)} (G : Ground0 w mean mg mb s.heap) (hh : A.handled = none) (hroom : A.depth + 40 < recursionLimit) (hl : StrList s.heap lp (pcs.map sOf)) (hpc : ∀ l ∈ pcs, OkW abc l) (hok : ∀ i, i ≤ pcs.length → okTab (prodOf (pcs.take i)).2 = true) :
    wpAny (model PR w) A (call (.ref 271) [.ref lp]) (fun v s' => (∃ a, MadeEntry w s s' v a (prodOf pcs).1 (prodOf pcs).2) ∧ Keeps s s') E s := by
  obtain ⟨vl, hlv, hls⟩ := hl
  refine enter (binds := [(Str.ofString "pieces", .ref lp)]) G.X G.T (by k_is) (by k_is) (by omega) (by exact BindsTo.of_eq rfl) (by exact locs rfl) ?_ (by rfl) (by rfl) (by rfl) (by decide)
  intro L h₁ F N
  refine wpAny_execs_cons ?_
  refine wpAny_Assign_Name ?_ ?hs
  case hs => exact swapsTup
  refine PyProof.Rows.Tuple_ ?_
  refine aConst ?_
  refine wpAny_Constant_int ?_
  refine aConst ?_
  refine wpAny_Constant_int ?_
  refine aConst ?_
  refine wpAny_Constant_int ?_
  refine aConst ?_
  refine wpAny_Constant_int ?_
  refine aDict ?_
  refine (dictOne (w := w) F N G.T.nolimit fun d h₂ o₂ tk₂ F₂ N₂ _ lo hd₂ => ?_)
  refine aNil ?_
  refine newTuple_N F₂ N₂ fun h₃ F₃ N₃ => ?_
  generalize hT : h₂.objs.size = T at *
  have hTd : T ≠ d := fun q => absurd (Heap.lt_size (N₂.get (.head _))) (by rw [hT, q]; exact Nat.lt_irrefl _)
  dsimp only at N₃ ⊢
  refine storeX_L F₃ N₃ fun h₄ F₄ N₄ => ?_
  dsimp only
  refine wpAny_execs_cons (forM (nameX_L F₄ rfl ?_) (fun _ => rfl))
  have hlb : ∃ o, s.heap.get? lp = some o := by obtain ⟨o, ho, _⟩ := hlv; exact ⟨o, ho⟩
  refine iterList (w := w) (fun i m n => ∃ a T to D do_, n = [(T, to), (D, do_)] ∧ T ≠ D ∧ EntryIs to D a (prodOf (pcs.take i)).1 ∧ DictIs w do_ (prodOf (pcs.take i)).2 ∧ (D == sysModules) = false ∧ m (Str.ofString "entry") = some (.ref T))
    hh F₄ N₄ (hlv.at fun o e => F₄.keep _ o e) (.inl hlb) ⟨0, T, _, d, o₂, rfl, hTd, ⟨rfl, _, _, _, _, _, rfl⟩, hd₂, lo, rfl⟩ ?_ ?_ rfl rfl
  · rintro i v m₁ news₁ h tk I io hv ha ⟨a, T, to, D, do_, rfl, hTD, hte, hdd, lo, hm⟩ F₅ N₅
    obtain ⟨xp, tp, hxp, rfl⟩ := strsAre_inv hls hv
    obtain ⟨pc, hpci, rfl⟩ : ∃ pc, pcs[i]? = some pc ∧ xp = sOf pc := by
      rw [List.getElem?_map] at hxp
      cases q : pcs[i]? with
      | none => rw [q] at hxp; cases hxp
      | some pc => rw [q] at hxp; exact ⟨pc, rfl, (Option.some.inj hxp).symm⟩
    have hilt : i < pcs.length := (List.getElem?_eq_some_iff.mp hpci).1
    have hOk := hok i (by omega)
    have hPc := hpc pc (List.mem_of_getElem? hpci)
    have hstep : prodOf (pcs.take (i + 1)) = pieceStep (prodOf (pcs.take i)) pc := by unfold prodOf; exact take_foldl _ _ _ hpci
    generalize hcc : prodOf (pcs.take i) = cc at *
    obtain ⟨cnt, c⟩ := cc
    dsimp only at hte hdd hOk
    have hcl := okTab_len hOk
    have hlb5 : (pc.map upN).length ≤ 5 := by rw [List.length_map]; exact hPc.1
    have hLb : OkW ABC (pc.map upN) := ⟨hlb5, fun c hc => by obtain ⟨d, hd, rfl⟩ := List.mem_map.mp hc; exact upN_al (hPc.2 d hd)⟩
    -- joined = (0, 0, 0, 0, {})
    refine wpAny_execs_cons ?_
    refine wpAny_Assign_Name ?_ ?hs
    case hs => exact swapsTup
    refine PyProof.Rows.Tuple_ ?_
    refine aConst ?_
    refine wpAny_Constant_int ?_
    refine aConst ?_
    refine wpAny_Constant_int ?_
    refine aConst ?_
    refine wpAny_Constant_int ?_
    refine aConst ?_
    refine wpAny_Constant_int ?_
    refine aDict ?_
    refine (Dict_empty_made2 (w := w) F₅ N₅ (modules_low G.T.nolimit) fun h₆ o₆ F₆ N₆ lo₆ hd₆ hf₆ _ _ hne => ?_)
    refine aNil ?_
    refine newTuple_N F₆ N₆ fun h₇ F₇ N₇ => ?_
    dsimp only at N₇ hne ⊢
    have hTj := newsOff N₆
    generalize hDj : h.objs.size = Dj at *
    generalize hTjz : h₆.objs.size = Tj at *
    have hTDj : Tj ≠ Dj := Ne.symm (hTj _ (.head _))
    refine storeX_L F₇ N₇ fun h₈ F₈ N₈ => ?_
    dsimp only
    -- for text, often in entry[4].items()
    refine wpAny_execs_cons ?_
    refine forM ?_ (fun _ => rfl)
    refine evItems ?_ rfl rfl
    refine PyProof.Rows.Subscript_ ?_
    refine nameX_L F₈ hm ?_
    refine wpAny_Constant_int ?_
    obtain ⟨t1, t2, t3, t4, hTup⟩ := hte.tup (N₈.get (.tail _ (.tail _ (.tail _ (.head _)))))
    refine item_tupleT (j := 4) (x := .ref D) hTup (by decide) (by decide) rfl rfl ?_ rfl
    obtain ⟨kvD, hdD, hfD⟩ := id hdd
    have TbD : StrTab PR w h₈ D (kdpD c) := TabAt.ofObj lo (N₈.get (.tail _ (.tail _ (.tail _ (.tail _ (.head _)))))) hdD hfD
    refine ⟨D, c, rfl, TbD, fun h₉ hv hk => ?_⟩
    dsimp only at hv hk ⊢
    have N₈' : News s.heap L h₈ [(Tj, { cls := .type "tuple", data := .seq [Value.int 0 tk, .int 0 (tk + 1), .int 0 (tk + 1 + 1), .int 0 (tk + 1 + 1 + 1), .ref Dj].toArray }), (Dj, o₆), (I, io), (T, to), (D, do_)] := N₈
    refine iterItems (w := w) (fun j m n => ∃ a' T' to' D' do', n = [(T', to'), (D', do'), (I, io), (T, to), (D, do_)] ∧ T' ≠ D' ∧ EntryIs to' D' a' ((c.take j).foldl (stepP (pc.map upN)) (0, [])).1 ∧ DictIs w do' ((c.take j).foldl (stepP (pc.map upN)) (0, [])).2 ∧ (D' == sysModules) = false ∧
        m (Str.ofString "joined") = some (.ref T') ∧ m (Str.ofString "piece") = some (.str (sOf pc) tp) ∧ T' ≠ I ∧ D' ≠ I)
      hh (F₈.keeps hk) (N₈'.grown hk) hv (TbD.keep hk) (.inr ⟨do_, ?_⟩) ⟨0, Tj, _, Dj, o₆, rfl, hTDj, ⟨rfl, _, _, _, _, _, rfl⟩, ⟨[], hd₆, hf₆⟩, lo₆, rfl, rfl, Ne.symm (hTj _ (.tail _ (.head _))), Ne.symm (hne _ (.head _))⟩ ?_ ?_ rfl rfl rfl
    · rintro j m n ⟨a', T', to', D', do', rfl, _⟩
      simp
    · rintro j k n tn uk m₂ news₂ h₉ tk₉ I₂ io₂ hcj ha₂ ⟨a', T', to', D', do', rfl, hTD', hte', hdd', lo', hm1, hm2, hTI, hDI⟩ F₉ N₉
      obtain ⟨hkW, hn0, hn1⟩ := okTab_mem hOk (List.mem_of_getElem? hcj)
      have hcj0 := hcj
      obtain ⟨la, rfl⟩ : ∃ la, k = sOf la := ⟨_, sOf_self k⟩
      have hkW : OkW abc la := hkW
      have hR0 := newsOff N₉
      -- table = Headers([])
      refine wpAny_execs_cons ?_
      refine wpAny_Assign_Name ?_ ?hs
      case hs => exact swapsCall
      refine evF1 G F₉.keep (kg_Headers w) (ki_238 w) ?_ starList rfl rfl rfl
      refine PyProof.Rows.List_ ?_
      refine aNil ?_
      refine newList_N F₉ N₉ fun hA FA NA => ?_
      dsimp only at NA ⊢
      generalize hHL : h₉.objs.size = HL at *
      refine ⟨FA.keep, ?_⟩
      have NA' : News s.heap L hA ((HL, lstO #[] 0) :: [(I₂, io₂), (T', to'), (D', do'), (I, io), (T, to), (D, do_)]) := NA
      refine headers_call G FA NA' hh (by show A.depth + 1 + 5 < _; omega) ?_
      intro x dx hsh th kh hB tkB FB NB hltB hdxB
      dsimp only
      have hLd : HL < dx := hltB _ (.head _)
      refine storeX_L FB NB fun hC FC NC => ?_
      dsimp only
      -- for mixed in _law_laid(text, piece.upper())
      refine wpAny_execs_cons ?_
      refine forM ?_ (fun _ => rfl)
      refine evF2 G FC.keep (kg_law_laid w) (ki_law_laid w) ?_ starName starCall rfl rfl rfl
      refine nameX_L FC rfl ?_
      refine evUpper ?_ rfl
      refine nameX_L FC hm2 ?_
      refine ⟨pc, tp, rfl, hPc.2, Nat.le_trans hPc.1 (by decide), FC.keep, ?_⟩
      refine wpAny_mono (laid_spec (la.length + (pc.map upN).length) (la := la) (lb := pc.map upN) (Nat.le_refl _) hkW hLb (G.keeps FC.keep) hh (by have := hkW.1; show A.depth + 1 + _ < _; omega)) (fun v s₃ hq => ?_) fun _ _ x => x
      obtain ⟨⟨ML, ob, rfl, hMn, hMo, hLis⟩, hD', tkD, rfl, hkD⟩ := hq
      dsimp only at hMn hMo hkD ⊢
      obtain ⟨vsM, cM, hobe, hSM⟩ := id hLis
      have FD := FC.keeps hkD
      have ND := newsAdd FC NC hkD hMn hMo
      have hMne := newsNe NC hMn
      have hlds := laid_le hkW.1 hlb5
      have hldl := laid_letters (la.length + (pc.map upN).length) (Nat.le_refl _) (fun c hc => abc_al6 (hkW.2 c hc)) (fun c hc => ABC_al6 (hLb.2 c hc))
      have hldn := (laidN_len (la.length + (pc.map upN).length) la (pc.map upN) (Nat.le_refl _)).2
      generalize hldE : laidN la (pc.map upN) = lds at *
      have hld10 : ∀ l ∈ lds, l.length ≤ 10 := fun l hl => by have := hldn l hl; have := hkW.1; omega
      have ND' : News s.heap L hD' ((HL, lstO #[] 0) :: (ML, ob) :: (x, instObj 238 dx) :: (dx, hdrD hsh th HL kh) :: [(I₂, io₂), (T', to'), (D', do'), (I, io), (T, to), (D, do_)]) := fun p hp => ND p (by
        rcases List.mem_cons.mp hp with rfl | hp
        · exact .tail _ (.tail _ (.tail _ (.head _)))
        rcases List.mem_cons.mp hp with rfl | hp
        · exact .head _
        rcases List.mem_cons.mp hp with rfl | hp
        · exact .tail _ (.head _)
        rcases List.mem_cons.mp hp with rfl | hp
        · exact .tail _ (.tail _ (.head _))
        · exact .tail _ (.tail _ (.tail _ (.tail _ hp))))
      refine iterList (w := w) (fun q m nw => ∃ (es : List HE) (cc : Nat) (rest : List (Addr × Obj)), nw = (HL, lstO (hesA es) cc) :: rest ∧ (∀ p ∈ rest, p.1 ≠ HL) ∧ (x, instObj 238 dx) ∈ rest ∧ (dx, hdrD hsh th HL kh) ∈ rest ∧ (ML, ob) ∈ rest ∧ (∀ e ∈ es, (e.1, heO e) ∈ rest) ∧
          (∀ p ∈ [(I₂, io₂), (T', to'), (D', do'), (I, io), (T, to), (D, do_)], p ∈ rest) ∧ es.map (fun e => (e.2.1.1, e.2.2.1)) = (lds.take q).map (fun l => (l, n)) ∧ m (Str.ofString "table") = some (.ref x) ∧ m (Str.ofString "often") = some (.int n tn) ∧ m (Str.ofString "joined") = some (.ref T') ∧ m (Str.ofString "piece") = some (.str (sOf pc) tp))
        hh FD ND' ⟨_, hMo, by rw [hobe], cM, by rw [hobe]⟩ (.inr ⟨ob, ?_⟩) ⟨[], 0, _, rfl, ?_, .tail _ (.head _), .tail _ (.tail _ (.head _)), .head _, (fun e he => by cases he), (fun p hp => .tail _ (.tail _ (.tail _ hp))), rfl, rfl, rfl, hm1, hm2⟩ ?_ ?_ rfl rfl
      · rintro q m nw ⟨es, cc, rest, rfl, _, _, _, hML, _⟩
        exact .tail _ hML
      · intro p hp
        rcases List.mem_cons.mp hp with rfl | hp
        · exact Ne.symm (hMne _ (.tail _ (.tail _ (.head _))))
        rcases List.mem_cons.mp hp with rfl | hp
        · exact Nat.ne_of_gt (Nat.lt_trans hLd hdxB)
        rcases List.mem_cons.mp hp with rfl | hp
        · exact Nat.ne_of_gt hLd
        · exact hR0 p hp
      · rintro q v m₃ news₃ hE tkE I₃ io₃ hv3 ha₃ ⟨es, cc, rest, rfl, hneR, hxR, hdR, hMR, heR, hRR, hmap, hn1', hn2, hn3, hn4⟩ FE NE
        obtain ⟨xx, tx, hxx, rfl⟩ := strsAre_inv hSM hv3
        obtain ⟨ld, hld, rfl⟩ : ∃ ld, lds[q]? = some ld ∧ xx = sOf ld := by
          rw [List.getElem?_map] at hxx
          cases qq : lds[q]? with
          | none => rw [qq] at hxx; cases hxx
          | some ld => rw [qq] at hxx; exact ⟨ld, rfl, (Option.some.inj hxx).symm⟩
        have hldm := List.mem_of_getElem? hld
        have hI3 : ∀ p ∈ (HL, lstO (hesA es) cc) :: rest, p.1 ≠ I₃ := ha₃
        have hesl : es.length ≤ 1024 := by
          have := congrArg List.length hmap
          rw [List.length_map, List.length_map] at this
          have := take_len_le lds q
          omega
        have NE' : News s.heap L hE ((HL, lstO (hesA es) cc) :: (I₃, io₃) :: rest) := fun p hp => NE p (by
          rcases List.mem_cons.mp hp with rfl | hp
          · exact .tail _ (.head _)
          rcases List.mem_cons.mp hp with rfl | hp
          · exact .head _
          · exact .tail _ (.tail _ hp))
        refine wpAny_execs_cons ?_
        refine wpAny_Expr ?_ rfl swapsCall
        refine PyProof.Rows.MethodCall_ ?_
        refine nameX_L FE hn1' ?_
        refine method_inst FE G.X ⟨NE.get (.tail _ (.tail _ hxR)), rfl, rfl, NE.get (.tail _ (.tail _ hdR))⟩ (pm_add w) (fm_add w) (if_add w) rfl ?_
        refine callWith_K G.X (ki_add w) ?_
        refine aName ?_
        refine nameX_L FE rfl ?_
        refine aCall ?_
        refine evN G FE.keep (ng_str w) bb_str nn_str ?_
        refine cT1 ?_ starName
        refine nameX_L FE hn2 ?_
        refine PySem.P.str_of_int (log_small hn0 hn1) ?_
        refine aNil ⟨G.X.keeps FE.keep, ?_⟩
        dsimp only [List.cons_append, List.nil_append]
        refine addHeader_call (n := sOf ld) (v := numS n) (its := hesA es) (c := cc) G FE NE' ?_ (.tail _ hxR) (.tail _ hdR) hh (by show A.depth + 1 + 5 < _; omega) (by simp; omega) (al6_sign (hldl ld hldm)) (by rw [sOf_len]; have := hld10 ld hldm; omega) (numS_sign hn0) (Nat.le_trans (numS_len hn0 hn1) (by decide)) ?_
        · intro p hp
          rcases List.mem_cons.mp hp with rfl | hp
          · exact Ne.symm (hI3 _ (.head _))
          · exact hneR p hp
        intro T4 u4 hF tkF FF NF hT4 hHT
        dsimp only
        refine wpAny_execs_nil ?_
        have hT4I : I₃ ≠ T4 := hT4 _ (.head _)
        have e4 : (hesA es).push (.ref T4) = hesA (es ++ [(T4, (ld, tx), (n, u4))]) := hesA_push es (T4, (ld, tx), (n, u4))
        rw [e4] at NF
        refine ⟨_, _, _, _, (HL, lstO (hesA (es ++ [(T4, (ld, tx), (n, u4))])) (cc + 1)) :: (T4, heO (T4, (ld, tx), (n, u4))) :: rest, rfl, FF, NF, ?_, .tail _ (.tail _ (.head _)), ?_, es ++ [(T4, (ld, tx), (n, u4))], cc + 1, _, rfl, ?_, .tail _ hxR, .tail _ hdR, .tail _ hMR, ?_, fun p hp => .tail _ (hRR p hp), ?_, hn1', hn2, hn3, hn4⟩
        · intro p hp
          rcases List.mem_cons.mp hp with rfl | hp
          · exact .head _
          rcases List.mem_cons.mp hp with rfl | hp
          · exact .tail _ (.head _)
          · exact .tail _ (.tail _ (.tail _ hp))
        · intro p hp
          rcases List.mem_cons.mp hp with rfl | hp
          · exact hI3 (HL, lstO (hesA es) cc) (.head _)
          rcases List.mem_cons.mp hp with rfl | hp
          · exact Ne.symm hT4I
          · exact hI3 p (.tail _ hp)
        · intro p hp
          rcases List.mem_cons.mp hp with rfl | hp
          · exact Ne.symm hHT
          · exact hneR p hp
        · intro e he
          rcases List.mem_append.mp he with he | he
          · exact .tail _ (heR e he)
          · rw [List.mem_singleton.mp he]; exact .head _
        · rw [List.map_append, hmap, List.take_add_one, hld]
          simp
      · rintro m₃ news₃ hE tkE ⟨es, cc, rest, rfl, hneR, hxR, hdR, hMR, heR, hRR, hmap, hn1', hn2, hn3, hn4⟩ FE NE
        have hvl : vsM.length = lds.length := by have := strsAre_len hSM; rw [List.length_map] at this; exact this
        rw [hvl, List.take_length] at hmap
        have hesl : es.length = lds.length := by
          have := congrArg List.length hmap
          rwa [List.length_map, List.length_map] at this
        have hesg : ∀ e ∈ es, e.2.1.1 ∈ lds ∧ e.2.2.1 = n := fun e he => by
          have : (e.2.1.1, e.2.2.1) ∈ es.map (fun e => (e.2.1.1, e.2.2.1)) := List.mem_map.mpr ⟨e, he, rfl⟩
          rw [hmap] at this
          obtain ⟨l, hl, q⟩ := List.mem_map.mp this
          have q1 : l = e.2.1.1 := congrArg Prod.fst q
          have q2 : n = e.2.2.1 := congrArg Prod.snd q
          exact ⟨q1 ▸ hl, q2.symm⟩
        have hesn : es.map (fun e => e.2.1.1) = lds := by
          have := congrArg (List.map Prod.fst) hmap
          rw [List.map_map, List.map_map] at this
          exact this.trans (List.map_id _)
        -- grown = {}
        refine wpAny_execs_cons ?_
        refine wpAny_Assign_Name (Dict_empty_made2 (w := w) FE NE (modules_low G.T.nolimit) fun hF og FF NF loG hdG hfG _ _ hneG => ?_) rfl
        dsimp only at hneG
        generalize hGD : hE.objs.size = GD at *
        refine storeX_L FF NF fun hG FG NG => ?_
        dsimp only
        -- for name in table.keys()
        refine wpAny_execs_cons ?_
        refine forM ?_ (fun _ => rfl)
        refine PyProof.Rows.MethodCall_ ?_
        refine nameX_L FG hn1' ?_
        refine method_inst FG G.X ⟨NG.get (.tail _ (.tail _ hxR)), rfl, rfl, NG.get (.tail _ (.tail _ hdR))⟩ (pm_keys w) (fm_keys w) (if_keys w) rfl ?_
        refine callWith_K0 (G.X.keeps FG.keep) (ki_keys w) ?_
        dsimp only [List.append_nil]
        refine keys_call (es := es) (c := cc) G FG NG (.tail _ (.tail _ hxR)) (.tail _ (.tail _ hdR)) (.tail _ (.head _)) (fun e he => .tail _ (.tail _ (heR e he))) hh (by show A.depth + 1 + 5 < _; omega) (by omega) ?_
        intro KD hH tkH FH NH hneK
        dsimp only
        have NH' : News s.heap L hH ((GD, og) :: (KD, LCg.lst (es.map keyV)) :: (HL, lstO (hesA es) cc) :: rest) := fun p hp => NH p (by
          rcases List.mem_cons.mp hp with rfl | hp
          · exact .tail _ (.head _)
          rcases List.mem_cons.mp hp with rfl | hp
          · exact .head _
          · exact .tail _ (.tail _ hp))
        have hne4 : ∀ p ∈ (KD, LCg.lst (es.map keyV)) :: (HL, lstO (hesA es) cc) :: rest, p.1 ≠ GD := fun p hp => by
          rcases List.mem_cons.mp hp with rfl | hp
          · exact Ne.symm (hneK _ (.head _))
          · exact hneG p hp
        refine iterList (w := w) (vs := es.map keyV) (fun q m nw => ∃ og kvs, nw = (GD, og) :: (KD, LCg.lst (es.map keyV)) :: (HL, lstO (hesA es) cc) :: rest ∧ og.IsDictOf (PySem.strKind PR w) kvs ∧ FlatPairs PyData.str kvs (kdpD ((lds.take q).foldl (grownStep lds n) [])) ∧
            m (Str.ofString "table") = some (.ref x) ∧ m (Str.ofString "grown") = some (.ref GD) ∧ m (Str.ofString "joined") = some (.ref T') ∧ m (Str.ofString "piece") = some (.str (sOf pc) tp))
          hh FH NH' ⟨_, NH.get (.head _), rfl, _, rfl⟩ (.inr ⟨LCg.lst (es.map keyV), ?_⟩) ⟨og, [], rfl, hdG, hfG, hn1', rfl, hn3, hn4⟩ ?_ ?_ rfl rfl
        · rintro q m nw ⟨og, kvs, rfl, _⟩
          exact .tail _ (.head _)
        · rintro q v m₄ news₄ hI tkI I₄ io₄ hv4 ha₄ ⟨og, kvs, rfl, hdo, hfo, hmt, hmg, hmj, hmp⟩ FI NI
          obtain ⟨e, he, rfl⟩ : ∃ e, es[q]? = some e ∧ v = keyV e := by
            rw [List.getElem?_map] at hv4
            cases qq : es[q]? with
            | none => rw [qq] at hv4; cases hv4
            | some e => rw [qq] at hv4; exact ⟨e, rfl, (Option.some.inj hv4).symm⟩
          have hld : lds[q]? = some e.2.1.1 := by rw [← hesn, List.getElem?_map, he]; rfl
          have hem := hesg e (List.mem_of_getElem? he)
          have hlt := hldl _ hem.1
          have hll : e.2.1.1.length ≤ 1000 := Nat.le_trans (hld10 _ hem.1) (by decide)
          have hfold := take_foldl (grownStep lds n) [] lds hld
          have haccl := grown_len lds n (lds.take q) []
          have := take_len_le lds q
          simp only [List.length_nil] at haccl
          generalize hacc : (lds.take q).foldl (grownStep lds n) [] = acc at *
          have TG : StrTab PR w hI GD (kdpD acc) := TabAt.ofObj loG (NI.get (.tail _ (.head _))) hdo hfo
          have fin : ∀ hz tkz og' kvs', Fr s.heap L hz (fun y => if y = Str.ofString "name" then some (keyV e) else m₄ y) → News s.heap L hz ((GD, og') :: (I₄, io₄) :: (KD, LCg.lst (es.map keyV)) :: (HL, lstO (hesA es) cc) :: rest) → og'.IsDictOf (PySem.strKind PR w) kvs' → FlatPairs PyData.str kvs' (kdpD (grownStep lds n acc e.2.1.1)) →
              Turned s.heap L I₄ io₄ (fun m nw => ∃ og kvs, nw = (GD, og) :: (KD, LCg.lst (es.map keyV)) :: (HL, lstO (hesA es) cc) :: rest ∧ og.IsDictOf (PySem.strKind PR w) kvs ∧ FlatPairs PyData.str kvs (kdpD ((lds.take (q + 1)).foldl (grownStep lds n) [])) ∧
                m (Str.ofString "table") = some (.ref x) ∧ m (Str.ofString "grown") = some (.ref GD) ∧ m (Str.ofString "joined") = some (.ref T') ∧ m (Str.ofString "piece") = some (.str (sOf pc) tp)) s (fun v s' => False) .next { s with heap := hz, toks := tkz } := fun hz tkz og' kvs' Fz Nz hdz hfz => by
            refine ⟨_, _, _, _, (GD, og') :: (KD, LCg.lst (es.map keyV)) :: (HL, lstO (hesA es) cc) :: rest, rfl, Fz, Nz, ?_, .tail _ (.head _), ?_, og', kvs', rfl, hdz, ?_, hmt, hmg, hmj, hmp⟩
            · intro p hp
              rcases List.mem_cons.mp hp with rfl | hp
              · exact .head _
              · exact .tail _ (.tail _ hp)
            · intro p hp
              rcases List.mem_cons.mp hp with rfl | hp
              · exact ha₄ (GD, og) (.head _)
              · exact ha₄ p (.tail _ hp)
            · rw [hfold]; exact hfz
          refine wpAny_execs_cons ?_
          refine wpAny_If ?_
          refine wpAny_isTrue_Compare1 ?_ rfl
          refine evLower ?_ rfl
          refine nameX_L FI rfl ?_
          refine ⟨e.2.1.1, _, rfl, hlt, hll, ?_⟩
          refine nameX_L FI hmg ?_
          refine kdp_notin TG ?_
          refine wpAny_truthy_bool ?_
          by_cases hk : kdpHas acc (sOf (e.2.1.1.map lowN)) = true
          · rw [hk, Bool.not_true, if_neg (by decide)]
            refine wpAny_execs_nil ?_
            dsimp only
            refine wpAny_execs_nil ?_
            have eg : grownStep lds n acc e.2.1.1 = acc := by unfold grownStep; rw [if_pos hk]
            exact fin _ _ og kvs FI (fun p hp => NI p (by
              rcases List.mem_cons.mp hp with rfl | hp
              · exact .tail _ (.head _)
              rcases List.mem_cons.mp hp with rfl | hp
              · exact .head _
              · exact .tail _ (.tail _ hp))) hdo (by rw [eg]; exact hfo)
          · rw [Bool.not_eq_true] at hk
            rw [hk, Bool.not_false, if_pos rfl]
            have hlow : ∀ c ∈ e.2.1.1.map lowN, c ∈ al6 := fun c hc => by
              obtain ⟨d, hd, rfl⟩ := List.mem_map.mp hc
              exact abc_al6 (lowN_al (hlt d hd))
            refine wpAny_execs_cons ?_
            refine wpAny_Assign_Subscript ?_ (by exact swapsCall)
            refine evN G FI.keep (ng_sum w) bb_sum nn_sum ?_
            refine cB1 ?_ starComp
            refine evComp (cl := []) (fun _ => true) (fun _ y => ∃ u, y = .int n u) rfl (by decide) rfl (by decide) rfl ?_ (fun _ => rfl)
            refine PyProof.Rows.MethodCall_ ?_
            refine nameX_L FI hmt ?_
            refine method_inst FI G.X ⟨NI.get (.tail _ (.tail _ (.tail _ (.tail _ hxR)))), rfl, rfl, NI.get (.tail _ (.tail _ (.tail _ (.tail _ hdR))))⟩ (pm_get w) (fm_get w) (if_get w) rfl ?_
            refine callWith_K G.X (ki_get w) ?_
            refine aCall ?_
            refine evLower ?_ rfl
            refine nameX_L FI rfl ?_
            refine ⟨e.2.1.1, _, rfl, hlt, hll, ?_⟩
            refine aNil ⟨G.X.keeps FI.keep, ?_⟩
            dsimp only [List.cons_append, List.nil_append]
            have hHdr : HdrAt hI x es := ⟨dx, hsh, th, kh, HL, cc, NI.get (.tail _ (.tail _ (.tail _ (.tail _ hxR)))), NI.get (.tail _ (.tail _ (.tail _ (.tail _ hdR)))), NI.get (.tail _ (.tail _ (.tail _ (.head _)))), fun e he => NI.get (.tail _ (.tail _ (.tail _ (.tail _ (heR e he)))))⟩
            refine wpAny_mono (getAll_spec (G.keeps FI.keep) hh (by show A.depth + 1 + 5 < _; omega) hHdr (fun e he => ⟨hldl _ (hesg e he).1, Nat.le_trans (hld10 _ (hesg e he).1) (by decide)⟩) (by omega) hlow (by rw [List.length_map]; exact hll)) (fun v s₃ hq => ?_) fun _ _ x => x
            obtain ⟨⟨GL, gob, rfl, hgn, hgo, vsG, cG, hgobe, hSG⟩, hJ, tkJ, rfl, hkJ⟩ := hq
            dsimp only at hgn hgo hkJ ⊢
            have FJ := FI.keeps hkJ
            have NJ := newsAdd FI NI hkJ hgn hgo
            have hga : ∀ z ∈ getAllOf es ((e.2.1.1.map lowN).map lowN), z = n := fun z hz => by
              obtain ⟨e', he', rfl⟩ := List.mem_map.mp hz
              exact (hesg e' (List.mem_filter.mp he').1).2
            have hinG : ∀ v ∈ vsG, ∃ t, v = .str (numS n) t := fun v hv => by
              obtain ⟨i, hi⟩ := List.getElem?_of_mem hv
              obtain ⟨xx, t, hx, rfl⟩ := strsAre_inv hSG hi
              obtain ⟨z, hz, rfl⟩ := List.mem_map.mp (List.mem_of_getElem? hx)
              exact ⟨t, by rw [hga z hz]⟩
            have hvG : vsG.length = (getAllOf es ((e.2.1.1.map lowN).map lowN)).length := by have := strsAre_len hSG; rw [List.length_map] at this; exact this
            have hvG2 : (getAllOf es ((e.2.1.1.map lowN).map lowN)).length ≤ es.length := by unfold getAllOf; rw [List.length_map]; exact List.length_filter_le ..
            refine compL (by exact hh) ⟨_, hgo, by rw [hgobe], cG, by rw [hgobe]⟩ (by omega) FJ NJ ⟨?_, ?_⟩ ?_
            · intro C v s₄ m₄ E' hP hn' hm hk
              exact testsNone (v := v) (fun _ => true) rfl
            · intro C v s₄ m₄ E' hP _ hn' hm hk
              obtain ⟨t, rfl⟩ := hinG v hP
              refine evN G (fun b o e => hk b o (FJ.keep b o e)) (ng_int w) bb_int nn_int ?_
              refine cT1 ?_ starName
              refine nameLoc hn' hm ?_
              refine KIN.call_num hn0 hn1 ?_
              exact ⟨⟨_, rfl⟩, _, _, rfl, fun _ _ e => e⟩
            · intro SD hK tkK ys cK FK NK hSD hSDne hpair hkK
              rw [List.filter_eq_self.mpr (fun _ _ => rfl)] at hpair
              have hysn := paired_all (P := fun y => ∃ u, y = .int n u) hpair
              have hcount : (getAllOf es ((e.2.1.1.map lowN).map lowN)).length = (lds.filter fun l => l.map lowN == e.2.1.1.map lowN).length := by
                unfold getAllOf
                rw [low_low hlt, ← hesn, List.filter_map, List.length_map, List.length_map]
                rfl
              have hsum : (ys.toList.map fun _ => n).sum = ((lds.filter fun l => l.map lowN == e.2.1.1.map lowN).map fun _ => n).sum := by
                rw [List.map_const', List.map_const', hysn.1, hvG, hcount]
              refine sumK (by exact hh) (l := SD) (vs := ys.toList) ⟨_, NK.get (.head _), rfl, cK, rfl⟩ (ints_all hysn.2) ?_
              intro hM tkM tM hkM
              dsimp only at hkM ⊢
              rw [hsum]
              have FM := FK.keeps hkM
              have NM : News s.heap L hM ((GD, og) :: (I₄, io₄) :: (KD, LCg.lst (es.map keyV)) :: (HL, lstO (hesA es) cc) :: rest) := fun p hp => NK.grown hkM p (by
                rcases List.mem_cons.mp hp with rfl | hp
                · exact .tail _ (.tail _ (.tail _ (.head _)))
                rcases List.mem_cons.mp hp with rfl | hp
                · exact .tail _ (.tail _ (.head _))
                · exact .tail _ (.tail _ (.tail _ (.tail _ hp))))
              refine nameX_L FM hmg ?_
              refine evLower ?_ rfl
              refine nameX_L FM rfl ?_
              refine ⟨e.2.1.1, _, rfl, hlt, hll, ?_⟩
              refine kdp_setItem FM NM (.head ?_) hdo hfo (by omega) ?_
              · intro p hp
                rcases List.mem_cons.mp hp with rfl | hp
                · exact Ne.symm (ha₄ (GD, og) (.head _))
                · exact hne4 p hp
              intro hz oz kvz Fz Nz hdz hfz
              refine wpAny_execs_nil ?_
              dsimp only
              refine wpAny_execs_nil ?_
              refine fin hz _ oz kvz Fz Nz hdz ?_
              have eg : grownStep lds n acc e.2.1.1 = kdpPut acc (sOf (e.2.1.1.map lowN)) (((lds.filter fun l => l.map lowN == e.2.1.1.map lowN).map fun _ => n).sum) := by unfold grownStep; rw [if_neg (by rw [hk]; decide)]
              rw [eg]
              exact hfz
        · rintro m₄ news₄ hI tkI ⟨og, kvs, rfl, hdo, hfo, hmt, hmg, hmj, hmp⟩ FI NI
          rw [List.length_map, hesl, List.take_length] at hfo
          have hgr : grownOf la (pc.map upN) n = lds.foldl (grownStep lds n) [] := by unfold grownOf; rw [hldE]
          rw [← hgr] at hfo
          have hgl := grownOf_len hkW.1 hlb5 n
          have hstj := take_foldl (stepP (pc.map upN)) (0, []) c hcj0
          have hjl := stepP_len hlb5 (c.take j) (0, []) (fun p hp => (okTab_mem hOk (k := p.1) (n := p.2) (List.mem_of_mem_take hp)).1.1)
          have hjl2 := take_len_le c j
          simp only [List.length_nil] at hjl
          generalize hac : (c.take j).foldl (stepP (pc.map upN)) (0, []) = ac at *
          obtain ⟨ac1, ac2⟩ := ac
          dsimp only at hte' hdd' hjl
          have hsp : stepP (pc.map upN) (ac1, ac2) (sOf la, n) = (((grownOf la (pc.map upN) n).map (·.2)).sum + ac1, addTab ac2 (grownOf la (pc.map upN) n)) := rfl
          rw [hsp] at hstj
          generalize grownOf la (pc.map upN) n = gr at *
          have Tg : StrTab PR w hI GD (kdpD gr) := TabAt.ofObj loG (NI.get (.head _)) hdo hfo
          refine wpAny_execs_cons ?_
          refine wpAny_Assign_Name ?_ ?hs
          case hs => exact swapsCall
          refine evF2 G FI.keep (kg_add_func_stats w) (ki_add_func_stats w) ?_ starName starTup rfl rfl rfl
          refine nameX_L FI hmj ?_
          refine PyProof.Rows.Tuple_ ?_
          refine aConst ?_
          refine wpAny_Constant_int ?_
          refine aCall ?_
          refine evF1 G FI.keep (kg_count_calls w) (ki_count_calls w) ?_ starName rfl rfl rfl
          refine nameX_L FI hmg ⟨FI.keep, ?_⟩
          refine wpAny_mono (count_calls_spec (G.keeps FI.keep) hh (by show A.depth + 1 < _; omega) Tg) (fun v s₁ hq => ?_) fun _ _ x => x
          obtain ⟨⟨tv, rfl⟩, hJ, tkJ, rfl, hkJ⟩ := hq
          dsimp only at hkJ
          have FJ := FI.keeps hkJ
          have NJ := NI.grown hkJ
          refine aConst ?_
          refine wpAny_Constant_int ?_
          refine aConst ?_
          refine wpAny_Constant_int ?_
          refine aName ?_
          refine nameX_L FJ hmg ?_
          refine aNil ?_
          refine newTuple_N FJ NJ fun hK FK NK => ?_
          refine ⟨FK.keep, ?_⟩
          dsimp only at NK ⊢
          generalize hT2 : hJ.objs.size = T2 at *
          have hin : ∀ p ∈ [(I₂, io₂), (T', to'), (D', do'), (I, io), (T, to), (D, do_)], p ∈ (GD, og) :: (KD, LCg.lst (es.map keyV)) :: (HL, lstO (hesA es) cc) :: rest := fun p hp => .tail _ (.tail _ (.tail _ (hRR p hp)))
          have eA : EntryAt w hK T' a' ac1 ac2 := entryAt_of (NK.get (.tail _ (hin _ (.tail _ (.head _))))) (NK.get (.tail _ (hin _ (.tail _ (.tail _ (.head _)))))) hte' hdd' lo'
          have eB : EntryAt w hK T2 1 ((gr.map (·.2)).sum) gr := entryAt_of (NK.get (.head _)) (NK.get (.tail _ (.head _))) ⟨rfl, _, _, _, _, _, rfl⟩ ⟨kvs, hdo, hfo⟩ loG
          refine wpAny_mono (add_func_stats_spec (G.keeps FK.keep) hh (by show A.depth + 1 + 10 < _; omega) eA eB (by omega)) (fun v s₁ hq => ?_) fun _ _ x => x
          obtain ⟨⟨Tn, ton, Dn, don, rfl, hTn, hDn, hTDn, hgT, hgD, hen, hdn, lon⟩, hc', tkc, rfl, hkc⟩ := hq
          dsimp only at hTn hDn hgT hgD hkc
          have Fc := FK.keeps hkc
          have N1 := newsAdd FK NK hkc hDn hgD
          have N2 := newsAdd FK NK hkc hTn hgT
          have Nc : News s.heap L hc' ((Tn, ton) :: (Dn, don) :: (I, io) :: (T, to) :: (D, do_) :: (I₂, io₂) :: []) := by
            intro p hp
            rcases List.mem_cons.mp hp with rfl | hp
            · exact N2 _ (.head _)
            rcases List.mem_cons.mp hp with rfl | hp
            · exact N1 _ (.head _)
            refine N1 p (.tail _ (.tail _ (hin p ?_)))
            rcases List.mem_cons.mp hp with rfl | hp
            · exact .tail _ (.tail _ (.tail _ (.head _)))
            rcases List.mem_cons.mp hp with rfl | hp
            · exact .tail _ (.tail _ (.tail _ (.tail _ (.head _))))
            rcases List.mem_cons.mp hp with rfl | hp
            · exact .tail _ (.tail _ (.tail _ (.tail _ (.tail _ (.head _)))))
            rw [List.mem_singleton.mp hp]
            exact .head _
          have iT := newsNe NK hTn
          have iD := newsNe NK hDn
          refine storeX_L Fc Nc fun hd' Fd Nd => ?_
          refine wpAny_execs_nil ?_
          refine ⟨_, _, _, _, [(Tn, ton), (Dn, don), (I, io), (T, to), (D, do_)], rfl, Fd, Nd, ?_, ?_, ?_, 1 + a', Tn, ton, Dn, don, rfl, hTDn, ?_, ?_, lon, rfl, hmp, ?_, ?_⟩
          · intro p hp
            rcases List.mem_cons.mp hp with rfl | hp
            · exact .head _
            rcases List.mem_cons.mp hp with rfl | hp
            · exact .tail _ (.head _)
            rcases List.mem_cons.mp hp with rfl | hp
            · exact .tail _ (.tail _ (.head _))
            rcases List.mem_cons.mp hp with rfl | hp
            · exact .tail _ (.tail _ (.tail _ (.head _)))
            rw [List.mem_singleton.mp hp]; exact .tail _ (.tail _ (.tail _ (.tail _ (.head _))))
          · exact .tail _ (.tail _ (.tail _ (.tail _ (.tail _ (.head _)))))
          · intro p hp
            rcases List.mem_cons.mp hp with rfl | hp
            · exact Ne.symm (iT _ (.tail _ (hin _ (.head _))))
            rcases List.mem_cons.mp hp with rfl | hp
            · exact Ne.symm (iD _ (.tail _ (hin _ (.head _))))
            · exact ha₂ p (.tail _ (.tail _ hp))
          · rw [hstj]; exact hen
          · rw [hstj]; exact hdn
          · exact Ne.symm (iT _ (.tail _ (hin _ (.tail _ (.tail _ (.tail _ (.head _)))))))
          · exact Ne.symm (iD _ (.tail _ (hin _ (.tail _ (.tail _ (.tail _ (.head _)))))))
    · rintro m₂ news₂ h₉ tk₉ ⟨a', T', to', D', do', rfl, hTD', hte', hdd', lo', hm1, hm2, hTI, hDI⟩ F₉ N₉
      rw [List.take_length] at hte' hdd'
      refine wpAny_execs_cons ?_
      refine wpAny_Assign_Name ?_ ?hs
      case hs => exact swapsName
      refine nameX_L F₉ hm1 ?_
      refine storeX_L F₉ N₉ fun hA FA NA => ?_
      refine wpAny_execs_nil ?_
      refine ⟨_, _, _, _, [(T', to'), (D', do')], rfl, FA, NA, ?_, .tail _ (.tail _ (.head _)), ?_, a', T', to', D', do', rfl, hTD', ?_, ?_, lo', rfl⟩
      · intro p hp
        rcases List.mem_cons.mp hp with rfl | hp
        · exact .head _
        · rw [List.mem_singleton.mp hp]; exact .tail _ (.head _)
      · intro p hp
        rcases List.mem_cons.mp hp with rfl | hp
        · exact hTI
        · rw [List.mem_singleton.mp hp]; exact hDI
      · rw [hstep]; exact hte'
      · rw [hstep]; exact hdd'
  · rintro m₁ news₁ h tk ⟨a, T, to, D, do_, rfl, hTD, hte, hdd, lo, hm⟩ F₅ N₅
    have e : vl.length = pcs.length := by have := strsAre_len hls; rw [List.length_map] at this; exact this
    rw [e, List.take_length] at hte hdd
    refine wpAny_execs_cons (wpAny_Return_some (nameX_L F₅ hm ?_))
    exact ⟨⟨a, T, to, D, do_, rfl, N₅.fresh (.head _), N₅.fresh (.tail _ (.head _)), hTD, N₅.get (.head _), N₅.get (.tail _ (.head _)), hte, hdd, lo⟩, _, _, rfl, F₅.keep⟩
end
theorem countIn_str (x : Str) : ∀ ys : List Str, Spec.countIn (.str x) (ys.map PyData.str) = ((ys.filter (· == x)).length : Int)
  | [] => rfl
  | y :: ys => by
    rw [List.map_cons, Spec.countIn, countIn_str x ys, List.filter_cons]
    have e : Spec.same (PyData.str y) (PyData.str x) = (y == x) := by
      unfold Spec.same
      rfl
    rw [e]
    split <;> simp <;> omega
def innerStep (p : Int × Int) (i : Nat) : Int × Int := (p.1 + 1, (p.2 * (p.1 + 1)).fdiv (1 + (i : Int)))
def outerStep (pcs : List (List Nat)) (p : Int × Int × Int) (k : Nat) : Int × Int × Int :=
  let r := (List.range (pcs.getD k []).length).foldl innerStep (p.2.2, p.2.1)
  (p.1 * (((pcs.take (k + 1)).filter (· == pcs.getD k [])).length : Int), r.2, r.1)
def countsOf (pcs : List (List Nat)) : Int × Int × Int := (List.range pcs.length).foldl (outerStep pcs) (1, 1, 0)
theorem range_take {n i : Nat} (h : i < n) : (List.range n)[i]? = some i := by rw [List.getElem?_range h]
theorem take_range {n i : Nat} (h : i ≤ n) : (List.range n).take i = List.range i := by
  apply List.ext_getElem?
  intro j
  rw [List.getElem?_take]
  split
  · rename_i hj
    rw [List.getElem?_range (by omega), List.getElem?_range hj]
  · rename_i hj
    rw [List.getElem?_eq_none (by simp; omega)]
theorem foldl_range_succ {β : Type} (f : β → Nat → β) (z : β) (n : Nat) : (List.range (n + 1)).foldl f z = f ((List.range n).foldl f z) n := by
  rw [List.range_succ, List.foldl_append]
  rfl
theorem inner_built (n : Nat) (p : Int × Int) : ((List.range n).foldl innerStep p).1 = p.1 + n := by
  induction n with
  | zero => simp
  | succ n ih => rw [foldl_range_succ, innerStep, ih]; push_cast; omega
def MadePair (s s' : Shared) (v : Value) (a b : Int) : Prop := ∃ T t u, v = .ref T ∧ s.heap.get? T = none ∧ s'.heap.get? T = some { cls := .type "tuple", data := .seq [Value.int a t, .int b u].toArray }
theorem strsAre_take {vs : List Value} {xs : List Str} (h : StrsAre vs xs) : ∀ k, StrsAre (vs.take k) (xs.take k) := by
  induction h with
  | nil => intro k; simp; exact .nil
  | cons x t _ ih =>
    intro k
    cases k with
    | zero => exact .nil
    | succ k => exact .cons x t (ih k)

section
variable {w : World} {mean : ExcName → Option Value} {mg mb : Str → Option Value} {A : Around} {s : Shared} {E : Value → Shared → Prop}

theorem counts_spec {lp : Addr} {pcs : List (List Nat)} (G : Ground0 w mean mg mb s.heap) (hh : A.handled = none) (hroom : A.depth + 40 < recursionLimit) (hl : StrList s.heap lp (pcs.map sOf)) (hpc : ∀ l ∈ pcs, OkW abc l) (hlen : pcs.length ≤ 100) :
    wpAny (model PR w) A (call (.ref 278) [.ref lp]) (fun v s' => MadePair s s' v (countsOf pcs).1 (countsOf pcs).2.1 ∧ Keeps s s') E s := by
  obtain ⟨vl, hlv, hls⟩ := hl
  have hvl : vl.length = pcs.length := by have := strsAre_len hls; rw [List.length_map] at this; exact this
  refine enter (binds := [(Str.ofString "pieces", .ref lp)]) G.X G.T (by k_is) (by k_is) (by omega) (by exact BindsTo.of_eq rfl) (by exact locs rfl) ?_ (by rfl) (by rfl) (by rfl) (by decide)
  intro L h₁ F N
  refine wpAny_execs_cons (wpAny_Assign_Name (wpAny_Constant_int (storeX_L F N fun h₂ F₂ N₂ => ?_)))
  dsimp only
  refine wpAny_execs_cons (wpAny_Assign_Name (wpAny_Constant_int (storeX_L F₂ N₂ fun h₃ F₃ N₃ => ?_)))
  dsimp only
  refine wpAny_execs_cons (wpAny_Assign_Name (wpAny_Constant_int (storeX_L F₃ N₃ fun h₄ F₄ N₄ => ?_)))
  dsimp only
  refine wpAny_execs_cons ?_
  refine forM ?_ (fun _ => rfl)
  refine evN G F₄.keep (ng_range w) bb_range nn_range ?_
  refine cT1 ?_ starCall
  refine evN G F₄.keep (ng_len w) bb_len nn_len ?_
  refine cB1 ?_ starName
  refine nameX_L F₄ rfl ?_
  refine Calls.call_len_list (items := vl.toArray) (hlv.at fun o e => F₄.keep _ o e) (by simp; omega) ?_
  have esz : (vl.toArray.size : Int) = (pcs.length : Int) := by simp [hvl]
  rw [esz]
  refine range1_rows F₄ N₄ ?_
  intro h₅ tk₅ t₅ u₅ v₅ hr₅ F₅ N₅ hk₅
  dsimp only at hr₅ hk₅ ⊢
  refine iterRange (w := w) (n := pcs.length) (fun i m n => n = [] ∧ m (Str.ofString "pieces") = some (.ref lp) ∧ 0 ≤ ((List.range i).foldl (outerStep pcs) (1, 1, 0)).2.2 ∧ ((List.range i).foldl (outerStep pcs) (1, 1, 0)).2.2 ≤ 5 * i ∧
      (∃ t, m (Str.ofString "times") = some (.int ((List.range i).foldl (outerStep pcs) (1, 1, 0)).1 t)) ∧ (∃ t, m (Str.ofString "ways") = some (.int ((List.range i).foldl (outerStep pcs) (1, 1, 0)).2.1 t)) ∧ (∃ t, m (Str.ofString "built") = some (.int ((List.range i).foldl (outerStep pcs) (1, 1, 0)).2.2 t)))
    hh F₅ N₅ hr₅ (by omega) (by decide) (by omega) ⟨rfl, rfl, Int.le_refl _, Int.le_refl _, ⟨_, rfl⟩, ⟨_, rfl⟩, ⟨_, rfl⟩⟩ ?_ ?_ rfl rfl
  · rintro i ti m₁ news₁ h tk I io hi ha ⟨rfl, hmp, hb0, hb1, ⟨tt, hmt⟩, ⟨tw, hmw⟩, ⟨tb, hmb⟩⟩ F₆ N₆
    have hst := foldl_range_succ (outerStep pcs) (1, 1, 0) i
    generalize hq : (List.range i).foldl (outerStep pcs) (1, 1, 0) = q at *
    obtain ⟨times, ways, built⟩ := q
    dsimp only at hb0 hb1 hmt hmw hmb
    obtain ⟨pc, hpci⟩ : ∃ pc, pcs[i]? = some pc := ⟨pcs[i], List.getElem?_eq_getElem hi⟩
    have hgd : pcs.getD i [] = pc := by rw [List.getD_eq_getElem?_getD, hpci]; rfl
    have hPc := hpc pc (List.mem_of_getElem? hpci)
    obtain ⟨tp, hvp⟩ := strsAre_get hls (i := i) (x := sOf pc) (by rw [List.getElem?_map, hpci]; rfl)
    have eI : (0 : Int) + (i : Int) = (i : Int) := by omega
    rw [eI] at F₆
    refine wpAny_execs_cons ?_
    refine wpAny_AugAssign_Name ?_
    refine ldn F₆ hmt ?_
    refine wpAny_Call_method (T := "list") (id := "list.count") rfl rfl rfl PySem.F.plainAttrs_list PySem.F.slot_list_count PySem.F.type_list_count ?_
    refine PyProof.Rows.Subscript_ ?_
    refine nameX_L F₆ hmp ?_
    refine wpAny_Slice ?_
    refine wpAny_evalPart_none ?_
    refine wpAny_evalPart_some ?_
    refine wpAny_BinOp ?_
    refine nameX_L F₆ rfl ?_
    refine wpAny_Constant_int ?_
    refine add_int ?_
    refine wpAny_evalPart_none ?_
    have es : slicePick vl.toArray none (some ((i : Int) + 1)) none = (vl.take (i + 1)).toArray := by rw [show (i : Int) + 1 = ((i + 1 : Nat) : Int) from by omega, slicePick_upto']
    refine slice_list (lo := none) (hi := some ((i : Int) + 1)) F₆ N₆ (hlv.at fun o e => F₆.keep _ o e) .none (.int _ _) (fun h₇ F₇ N₇ => ?_) (hsz := by rw [sizeLine_eq]; simp; omega)
    dsimp only at N₇ ⊢
    rw [es] at N₇
    refine ⟨⟨_, N₇.get (.head _), rfl⟩, fun a ha => by cases ha; exact ⟨_, N₇.get (.head _), rfl⟩, ?_⟩
    refine callWith_method1 ?_ rfl rfl
    refine aSub ?_
    refine PyProof.Rows.Subscript_ ?_
    refine nameX_L F₇ hmp ?_
    refine nameX_L F₇ rfl ?_
    refine item_listL (hlv.at fun o e => F₇.keep _ o e) (by omega) (by omega) (x := .str (sOf pc) tp) (by simpa using hvp) ?_
    refine aNil ?_
    refine count_list_strs (vs := vl.take (i + 1)) (ys := (pcs.map sOf).take (i + 1)) ⟨_, N₇.get (.head _), rfl, 0, rfl⟩ (strsAre_take hls _) ?_
    have ecount : Spec.countIn (.str (sOf pc)) (((pcs.map sOf).take (i + 1)).map PyData.str) = (((pcs.take (i + 1)).filter (· == pc)).length : Int) := by
      rw [countIn_str, ← List.map_take, List.filter_map, List.length_map]
      congr 2
      refine List.filter_congr fun l _ => ?_
      exact sOf_eq
    have hcl : ((pcs.take (i + 1)).filter (· == pc)).length ≤ 100 := by
      have h1 := List.length_filter_le (· == pc) (pcs.take (i + 1))
      have h2 := take_len_le pcs (i + 1)
      omega
    rw [ecount]
    refine PyProof.Rows.imul_int ?_ (IntMulOk.of_right (intBits_le_64 (by omega) (by omega)))
    refine storeX_L F₇ N₇ fun h₈ F₈ N₈ => ?_
    dsimp only
    refine wpAny_execs_cons ?_
    refine forM ?_ (fun _ => rfl)
    refine evN G F₈.keep (ng_range w) bb_range nn_range ?_
    refine cT2 ?_ starConst starBin
    refine wpAny_Constant_int ?_
    refine wpAny_BinOp ?_
    refine evN G F₈.keep (ng_len w) bb_len nn_len ?_
    refine cB1 ?_ starSub
    refine PyProof.Rows.Subscript_ ?_
    refine nameX_L F₈ hmp ?_
    refine nameX_L F₈ rfl ?_
    refine item_listL (hlv.at fun o e => F₈.keep _ o e) (by omega) (by omega) (x := .str (sOf pc) tp) (by simpa using hvp) ?_
    refine PyProof.Rows.len_str (by rw [sOf_len]; have := hPc.1; omega) ?_
    refine wpAny_Constant_int ?_
    refine add_int ?_
    have N₈' : News s.heap L h₈ [(I, io)] := fun p hp => N₈ p (.tail _ hp)
    refine range2_rows F₈ N₈' ?_
    intro h₉ tk₉ t₉ u₉ v₉ hr₉ F₉ N₉ hk₉
    dsimp only at hr₉ hk₉ ⊢
    rw [sOf_len] at hr₉
    have hp5 : pc.length ≤ 5 := hPc.1
    refine iterRange (w := w) (n := pc.length) (fun j m n => n = [(I, io)] ∧ m (Str.ofString "pieces") = some (.ref lp) ∧ (∃ t, m (Str.ofString "times") = some (.int (times * (((pcs.take (i + 1)).filter (· == pc)).length : Int)) t)) ∧
        (∃ t, m (Str.ofString "ways") = some (.int ((List.range j).foldl innerStep (built, ways)).2 t)) ∧ (∃ t, m (Str.ofString "built") = some (.int ((List.range j).foldl innerStep (built, ways)).1 t)))
      hh F₉ N₉ hr₉ (by omega) (by decide) (by omega) ⟨rfl, hmp, ⟨_, rfl⟩, ⟨_, hmw⟩, ⟨_, hmb⟩⟩ ?_ ?_ rfl rfl
    · rintro j tj m₂ news₂ hA tkA I₂ io₂ hj ha₂ ⟨rfl, hmp', ⟨tt', hmt'⟩, ⟨tw', hmw'⟩, ⟨tb', hmb'⟩⟩ FA NA
      have hin := foldl_range_succ innerStep (built, ways) j
      have hib := inner_built j (built, ways)
      generalize (List.range j).foldl innerStep (built, ways) = r at *
      obtain ⟨b1, w1⟩ := r
      dsimp only at hib hmw' hmb'
      refine wpAny_execs_cons (wpAny_AugAssign_Name (ldn FA hmb' (wpAny_Constant_int (iadd_int (storeX_L FA NA fun hB FB NB => ?_)))))
      dsimp only
      refine wpAny_execs_cons ?_
      refine wpAny_Assign_Name ?_ ?hs
      case hs => exact swapsBin
      refine wpAny_BinOp ?_
      refine wpAny_BinOp ?_
      refine nameX_L FB hmw' ?_
      refine nameX_L FB rfl ?_
      refine PyProof.Rows.mul_int ?_ (IntMulOk.of_right (intBits_le_64 (by omega) (by omega)))
      refine nameX_L FB rfl ?_
      refine PyProof.Rows.floordiv_int (by omega) ?_ (Or.inl (PyProof.noPylong_small (by omega)))
      refine storeX_L FB NB fun hC FC NC => ?_
      refine wpAny_execs_nil ?_
      exact ⟨_, _, _, _, [(I, io)], rfl, FC, NC, fun p hp => .tail _ hp, .head _, ha₂, rfl, hmp', ⟨_, hmt'⟩, ⟨_, by rw [hin]; rfl⟩, ⟨_, by rw [hin]; rfl⟩⟩
    · rintro m₂ news₂ hA tkA ⟨rfl, hmp', ⟨tt', hmt'⟩, ⟨tw', hmw'⟩, ⟨tb', hmb'⟩⟩ FA NA
      refine wpAny_execs_nil ?_
      have hib := inner_built pc.length (built, ways)
      have hos : outerStep pcs (times, ways, built) i = (times * (((pcs.take (i + 1)).filter (· == pc)).length : Int), ((List.range pc.length).foldl innerStep (built, ways)).2, ((List.range pc.length).foldl innerStep (built, ways)).1) := by unfold outerStep; rw [hgd]
      rw [hos] at hst
      dsimp only at hib
      refine ⟨_, _, _, _, [], rfl, FA, NA, fun p hp => (by cases hp), .head _, fun p hp => (by cases hp), rfl, hmp', ?_, ?_, ⟨tt', ?_⟩, ⟨tw', ?_⟩, ⟨tb', ?_⟩⟩
      · rw [hst]; dsimp only; omega
      · rw [hst]; dsimp only; omega
      · rw [hst]; exact hmt'
      · rw [hst]; exact hmw'
      · rw [hst]; exact hmb'
  · rintro m₁ news₁ h tk ⟨rfl, hmp, hb0, hb1, ⟨tt, hmt⟩, ⟨tw, hmw⟩, ⟨tb, hmb⟩⟩ F₆ N₆
    refine wpAny_execs_cons ?_
    refine wpAny_Return_some ?_
    refine PyProof.Rows.Tuple_ ?_
    refine aName ?_
    refine nameX_L F₆ hmt ?_
    refine aName ?_
    refine nameX_L F₆ hmw ?_
    refine aNil ?_
    refine newTuple_N F₆ N₆ fun h₇ F₇ N₇ => ?_
    dsimp only at N₇ ⊢
    exact ⟨⟨_, _, _, rfl, N₇.fresh (.head _), N₇.get (.head _)⟩, _, _, rfl, F₇.keep⟩
end
theorem sOf_selfQ (k : Str) : k = sOf k.cps.toList := by cases k; rfl
section
variable {c : List (Str × Int)} {k x : Str} {v : Int}
theorem put_fst : (kdpPut c k v).map (·.1) = if kdpHas c k = true then c.map (·.1) else c.map (·.1) ++ [k] := by
  unfold kdpPut kdpHas
  split
  · rw [List.map_map]
    refine List.map_congr_left fun p _ => ?_
    show (if decide (p.1 = k) = true then (p.1, v) else p).1 = p.1
    split <;> rfl
  · rw [List.map_append]; rfl
theorem has_iff : kdpHas c k = true ↔ k ∈ c.map (·.1) := by
  unfold kdpHas
  rw [List.any_eq_true, List.mem_map]
  constructor
  · rintro ⟨p, hp, e⟩; exact ⟨p, hp, of_decide_eq_true e⟩
  · rintro ⟨p, hp, e⟩; exact ⟨p, hp, decide_eq_true e⟩
theorem put_nodup (h : (c.map (·.1)).Nodup) : ((kdpPut c k v).map (·.1)).Nodup := by
  rw [put_fst]
  split
  · exact h
  · rename_i hk
    rw [List.nodup_append]
    refine ⟨h, by simp, fun a ha b hb e => hk (has_iff.mpr ?_)⟩
    rw [← List.mem_singleton.mp hb, ← e]
    exact ha
theorem put_mem : x ∈ (kdpPut c k v).map (·.1) ↔ x ∈ c.map (·.1) ∨ x = k := by
  rw [put_fst]
  split
  · rename_i hk
    constructor
    · exact .inl
    · rintro (h | rfl)
      · exact h
      · exact has_iff.mp hk
  · rw [List.mem_append, List.mem_singleton]
end
theorem one_fst (acc : List (Str × Int)) (p : Str × Int) : ∃ v, addOne acc p = kdpPut acc p.1 v := by
  unfold addOne; split <;> exact ⟨_, rfl⟩
theorem putAll_nodup : ∀ (c acc : List (Str × Int)), (acc.map (·.1)).Nodup → ((putAll acc c).map (·.1)).Nodup
  | [], _, h => h
  | _ :: c, _, h => putAll_nodup c _ (put_nodup h)
theorem putAll_mem {x : Str} : ∀ (c acc : List (Str × Int)), x ∈ (putAll acc c).map (·.1) ↔ x ∈ acc.map (·.1) ∨ x ∈ c.map (·.1)
  | [], acc => by show _ ↔ _ ∨ x ∈ []; simp; rfl
  | p :: c, acc => by
    show x ∈ (putAll (kdpPut acc p.1 p.2) c).map (·.1) ↔ _
    rw [putAll_mem c, put_mem, List.map_cons, List.mem_cons, or_assoc]
theorem addAll_nodup : ∀ (c acc : List (Str × Int)), (acc.map (·.1)).Nodup → ((c.foldl addOne acc).map (·.1)).Nodup
  | [], _, h => h
  | p :: c, acc, h => by
    obtain ⟨v, e⟩ := one_fst acc p
    rw [List.foldl_cons, e]
    exact addAll_nodup c _ (put_nodup h)
theorem addAll_mem {x : Str} : ∀ (c acc : List (Str × Int)), x ∈ (c.foldl addOne acc).map (·.1) ↔ x ∈ acc.map (·.1) ∨ x ∈ c.map (·.1)
  | [], acc => by simp
  | p :: c, acc => by
    obtain ⟨v, e⟩ := one_fst acc p
    rw [List.foldl_cons, e, addAll_mem c, put_mem, List.map_cons, List.mem_cons, or_assoc]
theorem addTab_nodup (t c : List (Str × Int)) : ((addTab t c).map (·.1)).Nodup := addAll_nodup c _ (putAll_nodup t [] (by simp))
theorem addTab_mem {x : Str} {t c : List (Str × Int)} : x ∈ (addTab t c).map (·.1) ↔ x ∈ t.map (·.1) ∨ x ∈ c.map (·.1) := by
  unfold addTab
  rw [addAll_mem, putAll_mem]
  simp
theorem step_mem {x : Str} {c : List (Str × Int)} {a : Nat} : x ∈ (scatStep c a).map (·.1) ↔ x ∈ c.map (·.1) ∨ ∃ y ∈ c.map (·.1), x = y ++ ⟨#[a]⟩ := by
  unfold scatStep
  rw [addTab_mem, putAll_mem]
  unfold longerBy
  rw [List.map_map]
  simp only [List.map_nil, List.not_mem_nil, false_or, List.mem_map, Function.comp]
  constructor
  · rintro (h | ⟨p, hp, rfl⟩)
    · exact .inl h
    · exact .inr ⟨_, ⟨p, hp, rfl⟩, rfl⟩
  · rintro (h | ⟨_, ⟨p, hp, rfl⟩, rfl⟩)
    · exact .inl h
    · exact .inr ⟨p, hp, rfl⟩
theorem steps_keep {x : Str} : ∀ (l : List Nat) (c : List (Str × Int)), x ∈ c.map (·.1) → x ∈ (l.foldl scatStep c).map (·.1)
  | [], _, h => h
  | a :: l, c, h => steps_keep l _ (step_mem.mpr (.inl h))
theorem steps_take {x : Str} : ∀ (l : List Nat) (c : List (Str × Int)), x ∈ c.map (·.1) → (x ++ sOf l) ∈ (l.foldl scatStep c).map (·.1)
  | [], c, h => by
    have e : x ++ sOf [] = x := by show (⟨x.cps ++ #[]⟩ : Str) = x; simp
    rw [e]; exact h
  | a :: l, c, h => by
    have e : x ++ sOf (a :: l) = (x ++ ⟨#[a]⟩) ++ sOf l := by
      show (⟨x.cps ++ (a :: l).toArray⟩ : Str) = ⟨(x.cps ++ #[a]) ++ l.toArray⟩
      congr 1
      apply Array.ext'
      simp
    rw [e]
    exact steps_take l _ (step_mem.mpr (.inr ⟨x, h, rfl⟩))
theorem steps_nodup : ∀ (l : List Nat) (c : List (Str × Int)), (c.map (·.1)).Nodup → ((l.foldl scatStep c).map (·.1)).Nodup
  | [], _, h => h
  | a :: l, c, _ => steps_nodup l _ (addTab_nodup _ _)
theorem scat_tail (l : List Nat) (k : Nat) : sOf (l.drop k) ∈ (scat l).map (·.1) := by
  unfold scat
  have e : l = l.take k ++ l.drop k := (List.take_append_drop k l).symm
  have h1 : Str.ofString "" ∈ ((l.take k).foldl scatStep [(Str.ofString "", 1)]).map (·.1) := steps_keep _ _ (by simp)
  have h2 := steps_take (l.drop k) _ h1
  rw [← List.foldl_append, ← e] at h2
  have e2 : Str.ofString "" ++ sOf (l.drop k) = sOf (l.drop k) := by
    show (⟨#[] ++ (l.drop k).toArray⟩ : Str) = _
    simp
  rw [e2] at h2
  exact h2
theorem endP_iff {l : List Nat} {x : Str} : endP (sOf l) x = true ↔ ∃ k, k < l.length ∧ x = sOf (l.drop k) := by
  unfold endP Txt.endswith
  rw [Bool.and_eq_true, Bool.and_eq_true, decide_eq_true_eq, bne_iff_ne]
  have hl : (sOf l).length = l.length := rfl
  unfold Builtin.Str.subAt
  rw [hl, beq_iff_eq, Nat.zero_add]
  constructor
  · rintro ⟨h0, h1, h2⟩
    refine ⟨l.length - x.length, by omega, ?_⟩
    have h3 : x.cps.toList = l.drop (l.length - x.length) := by
      rw [← h2, Array.toList_extract]
      show ((l.drop (l.length - x.length)).take _) = _
      rw [List.take_of_length_le]
      rw [List.length_drop]
      omega
    exact h3 ▸ sOf_selfQ x
  · rintro ⟨k, hk, rfl⟩
    have hx : (sOf (l.drop k)).length = l.length - k := by rw [sOf_len, List.length_drop]
    refine ⟨by rw [hx]; omega, by rw [hx]; omega, ?_⟩
    rw [hx]
    apply Array.ext'
    rw [Array.toList_extract]
    show ((l.drop (l.length - (l.length - k))).take _) = l.drop k
    rw [show l.length - (l.length - k) = k from by omega, List.take_of_length_le]
    rw [List.length_drop]
    omega
theorem ends_perm (l : List Nat) : (((scat l).map (·.1)).filter (endP (sOf l))).Perm (tailsOf (sOf l)) := by
  have hnd : ((scat l).map (·.1)).Nodup := steps_nodup l _ (by simp)
  have htl : (tailsOf (sOf l)).Nodup := by
    unfold tailsOf
    show List.Pairwise (· ≠ ·) _
    rw [List.pairwise_map]
    refine List.Pairwise.imp_of_mem (R := fun a b => a < b) (fun {a b} ha hb hab e => ?_) List.pairwise_lt_range
    have h1 := congrArg Str.length e
    have h2 : (l.drop a).toArray.size = (l.drop b).toArray.size := h1
    have ha' : a < l.length := List.mem_range.mp ha
    have hb' : b < l.length := List.mem_range.mp hb
    simp at h2
    omega
  refine (List.perm_ext_iff_of_nodup (hnd.filter _) htl).mpr fun x => ?_
  rw [List.mem_filter, endP_iff]
  constructor
  · rintro ⟨_, k, hk, rfl⟩
    exact List.mem_map.mpr ⟨k, List.mem_range.mpr hk, rfl⟩
  · intro h
    obtain ⟨k, hk, rfl⟩ := List.mem_map.mp h
    exact ⟨scat_tail l k, k, List.mem_range.mp hk, rfl⟩
theorem put_new {acc : List (Str × Int)} {k : Str} {v : Int} (h : k ∉ acc.map (·.1)) : kdpPut acc k v = acc ++ [(k, v)] := by
  have hh : ¬ (acc.any fun p => decide (p.1 = k)) = true := fun q => h (has_iff.mp q)
  unfold kdpPut
  rw [if_neg hh]
theorem putAll_app : ∀ (t acc : List (Str × Int)), ((acc ++ t).map (·.1)).Nodup → putAll acc t = acc ++ t
  | [], acc, _ => by show acc = _; simp
  | p :: t, acc, h => by
    show putAll (kdpPut acc p.1 p.2) t = _
    have hn : p.1 ∉ acc.map (·.1) := fun q => by
      rw [List.map_append, List.map_cons, List.nodup_append] at h
      exact h.2.2 _ q _ (.head _) rfl
    rw [put_new hn, putAll_app t]
    · simp
    · simpa using h
theorem addTab_self {t c : List (Str × Int)} (h : (t.map (·.1)).Nodup) : addTab t c = c.foldl addOne t := by
  unfold addTab
  rw [putAll_app t [] (by simpa using h)]
  rfl
/-- one text more: its own place, or a new one at the end -/
def ups : List (Str × Int) → Str × Int → List (Str × Int)
  | [], p => [p]
  | q :: r, p => if q.1.cps.toList = p.1.cps.toList then (q.1, q.2 + p.2) :: r else q :: ups r p
theorem str_ext {a b : Str} (h : a.cps.toList = b.cps.toList) : a = b := by rw [sOf_selfQ a, sOf_selfQ b, h]
theorem map_off {k : Str} {v : Int} : ∀ {r : List (Str × Int)}, k ∉ r.map (·.1) → r.map (fun p => if decide (p.1 = k) then (p.1, v) else p) = r
  | [], _ => rfl
  | q :: r, h => by
    have hq : q.1 ≠ k := fun e => h (e ▸ .head _)
    rw [List.map_cons, map_off fun x => h (.tail _ x), if_neg (by simpa using hq)]
theorem ups_eq {p : Str × Int} : ∀ {acc : List (Str × Int)}, (acc.map (·.1)).Nodup → addOne acc p = ups acc p
  | [], _ => rfl
  | q :: r, h => by
    rw [List.map_cons, List.nodup_cons] at h
    have ih := ups_eq (p := p) h.2
    by_cases hq : q.1 = p.1
    · have hh : kdpHas (q :: r) p.1 = true := has_iff.mpr (hq ▸ .head _)
      have hl : kdpLook (q :: r) p.1 0 = q.2 := by
        unfold kdpLook
        rw [List.find?_cons_of_pos (by simpa using hq)]
        rfl
      have hb : (List.any (q :: r) fun x => decide (x.1 = p.1)) = true := hh
      unfold ups
      rw [if_pos (by rw [hq]), show p = (p.1, p.2) from rfl, addOne_has hh, hl]
      unfold kdpPut
      rw [if_pos hb, List.map_cons, if_pos (by simpa using hq), map_off (hq ▸ h.1)]
    · have hne : ¬ q.1.cps.toList = p.1.cps.toList := fun e => hq (str_ext e)
      unfold ups
      rw [if_neg hne, ← ih]
      have hd : decide (q.1 = p.1) = false := decide_eq_false hq
      by_cases hh : kdpHas r p.1 = true
      · have h1 : kdpHas (q :: r) p.1 = true := has_iff.mpr (.tail _ (has_iff.mp hh))
        have b1 : (List.any (q :: r) fun x => decide (x.1 = p.1)) = true := h1
        have b2 : (List.any r fun x => decide (x.1 = p.1)) = true := hh
        have hl : kdpLook (q :: r) p.1 0 = kdpLook r p.1 0 := by
          unfold kdpLook
          rw [List.find?_cons_of_neg (by simpa using hq)]
        rw [show p = (p.1, p.2) from rfl, addOne_has h1, addOne_has hh, hl]
        unfold kdpPut
        rw [if_pos b1, if_pos b2, List.map_cons, hd, if_neg (by decide)]
      · rw [Bool.not_eq_true] at hh
        have hn : p.1 ∉ r.map (·.1) := fun x => by rw [has_iff.mpr x] at hh; cases hh
        have h1 : kdpHas (q :: r) p.1 = false := by
          cases e : kdpHas (q :: r) p.1 with
          | false => rfl
          | true =>
            rcases List.mem_cons.mp (has_iff.mp e) with e | e
            · exact absurd e.symm hq
            · exact absurd e hn
        have hn1 : p.1 ∉ (q :: r).map (·.1) := fun x => by rw [has_iff.mpr x] at h1; cases h1
        rw [show p = (p.1, p.2) from rfl, addOne_new h1, addOne_new hh, put_new hn, put_new hn1]
        rfl
theorem upsAll_eq : ∀ (c : List (Str × Int)) {acc : List (Str × Int)}, (acc.map (·.1)).Nodup → c.foldl addOne acc = c.foldl ups acc
  | [], _, _ => rfl
  | p :: c, acc, h => by
    rw [List.foldl_cons, List.foldl_cons, ← ups_eq h]
    obtain ⟨v, e⟩ := one_fst acc p
    exact upsAll_eq c (by rw [e]; exact put_nodup h)
def stepQ (lb : List Nat) (acc : Int × List (Str × Int)) (p : Str × Int) : Int × List (Str × Int) :=
  (((grownOf p.1.cps.toList lb p.2).map (·.2)).sum + acc.1, (grownOf p.1.cps.toList lb p.2).foldl ups acc.2)
def pieceQ (e : Int × List (Str × Int)) (pc : List Nat) : Int × List (Str × Int) := e.2.foldl (stepQ (pc.map upN)) (0, [])
def prodQ (pcs : List (List Nat)) : Int × List (Str × Int) := pcs.foldl pieceQ (0, [(Str.ofString "", 1)])
theorem stepQ_eq (lb : List Nat) : ∀ (c : List (Str × Int)) (acc : Int × List (Str × Int)), (acc.2.map (·.1)).Nodup → c.foldl (stepP lb) acc = c.foldl (stepQ lb) acc
  | [], _, _ => rfl
  | p :: c, acc, h => by
    have e : stepP lb acc p = stepQ lb acc p := by unfold stepP stepQ; rw [addTab_self h, upsAll_eq _ h]
    rw [List.foldl_cons, List.foldl_cons, e]
    refine stepQ_eq lb c _ ?_
    show (((grownOf p.1.cps.toList lb p.2).foldl ups acc.2).map (·.1)).Nodup
    rw [← upsAll_eq _ h]
    exact addAll_nodup _ _ h
theorem pieceQ_eq : pieceStep = pieceQ := by
  funext e pc
  unfold pieceStep pieceQ
  exact stepQ_eq _ _ _ (by simp)
theorem prodOf_eq : prodOf = prodQ := by
  funext pcs
  unfold prodOf prodQ
  rw [pieceQ_eq]
def toldOf (c : List (Str × Int)) (z : Str) : List Int := c.map fun p => cmpRows (rowOf p.1 z.length) (signsOf z)
def wantOf (c : List (Str × Int)) (z : Str) : List Int := c.map fun p => if p.1 == z then 0 else -1
def checkPieces (wl : List Nat) : Bool :=
  let pcs := (piecesOf (sOf wl)).map (·.cps.toList)
  decide (pcs.length ≤ 5) && pcs.all fun l => decide (l.length ≤ 5) && l.all fun a => abc.contains a
def checkProd (wl : List Nat) : Bool :=
  let z := sOf wl
  let pcs := (piecesOf z).map (·.cps.toList)
  let e := prodQ pcs
  let k := countsOf pcs
  ((List.range (pcs.length + 1)).all fun i => okTab (prodQ (pcs.take i)).2) && decide (toldOf e.2 z = wantOf e.2 z) && decide (kdpLook e.2 z 0 = k.1) && decide (e.1 = k.2.1) && decide ((e.2.map (·.2)).sum = k.2.1) &&
    decide (k.1 ≠ 0) && (e.2.all fun p => decide (p.2.fmod k.1 = 0) && decide (p.1.length ≤ z.length))
abbrev allW : List (List Nat) := wordsN abc 4 ++ wordsN abc 5
theorem pieces4_97 : ∀ l ∈ wordsN abc 3, checkPieces (97 :: l) = true := by decide +kernel
theorem pieces5_97_97 : ∀ l ∈ wordsN abc 3, checkPieces (97 :: 97 :: l) = true := by decide +kernel
theorem pieces5_97_98 : ∀ l ∈ wordsN abc 3, checkPieces (97 :: 98 :: l) = true := by decide +kernel
theorem pieces5_97_99 : ∀ l ∈ wordsN abc 3, checkPieces (97 :: 99 :: l) = true := by decide +kernel
theorem pieces4_98 : ∀ l ∈ wordsN abc 3, checkPieces (98 :: l) = true := by decide +kernel
theorem pieces5_98_97 : ∀ l ∈ wordsN abc 3, checkPieces (98 :: 97 :: l) = true := by decide +kernel
theorem pieces5_98_98 : ∀ l ∈ wordsN abc 3, checkPieces (98 :: 98 :: l) = true := by decide +kernel
theorem pieces5_98_99 : ∀ l ∈ wordsN abc 3, checkPieces (98 :: 99 :: l) = true := by decide +kernel
theorem pieces4_99 : ∀ l ∈ wordsN abc 3, checkPieces (99 :: l) = true := by decide +kernel
theorem pieces5_99_97 : ∀ l ∈ wordsN abc 3, checkPieces (99 :: 97 :: l) = true := by decide +kernel
theorem pieces5_99_98 : ∀ l ∈ wordsN abc 3, checkPieces (99 :: 98 :: l) = true := by decide +kernel
theorem pieces5_99_99 : ∀ l ∈ wordsN abc 3, checkPieces (99 :: 99 :: l) = true := by decide +kernel
theorem pieces_all {l : List Nat} (h : l.length = 4 ∨ l.length = 5) (ha : ∀ c ∈ l, c ∈ abc) : checkPieces l = true := by
  rcases h with h | h
  · match l, h with
    | a :: l, h =>
      have hl : l ∈ wordsN abc 3 := mem_wordsN (by simpa using h) fun c hc => ha c (.tail _ hc)
      have h1 := ha a (.head _)
      simp only [List.mem_cons, List.not_mem_nil, or_false] at h1
      rcases h1 with rfl | rfl | rfl
      · exact pieces4_97 l hl
      · exact pieces4_98 l hl
      · exact pieces4_99 l hl
  · match l, h with
    | a :: b :: l, h =>
      have hl : l ∈ wordsN abc 3 := mem_wordsN (by simpa using h) fun c hc => ha c (.tail _ (.tail _ hc))
      have h1 := ha a (.head _)
      have h2 := ha b (.tail _ (.head _))
      simp only [List.mem_cons, List.not_mem_nil, or_false] at h1 h2
      rcases h1 with rfl | rfl | rfl <;> rcases h2 with rfl | rfl | rfl
      · exact pieces5_97_97 l hl
      · exact pieces5_97_98 l hl
      · exact pieces5_97_99 l hl
      · exact pieces5_98_97 l hl
      · exact pieces5_98_98 l hl
      · exact pieces5_98_99 l hl
      · exact pieces5_99_97 l hl
      · exact pieces5_99_98 l hl
      · exact pieces5_99_99 l hl
theorem prod4_97 : ∀ l ∈ wordsN abc 3, checkProd (97 :: l) = true := by decide +kernel
theorem prod5_97_97 : ∀ l ∈ wordsN abc 3, checkProd (97 :: 97 :: l) = true := by decide +kernel
theorem prod5_97_98 : ∀ l ∈ wordsN abc 3, checkProd (97 :: 98 :: l) = true := by decide +kernel
theorem prod5_97_99 : ∀ l ∈ wordsN abc 3, checkProd (97 :: 99 :: l) = true := by decide +kernel
theorem prod4_98 : ∀ l ∈ wordsN abc 3, checkProd (98 :: l) = true := by decide +kernel
theorem prod5_98_97 : ∀ l ∈ wordsN abc 3, checkProd (98 :: 97 :: l) = true := by decide +kernel
theorem prod5_98_98 : ∀ l ∈ wordsN abc 3, checkProd (98 :: 98 :: l) = true := by decide +kernel
theorem prod5_98_99 : ∀ l ∈ wordsN abc 3, checkProd (98 :: 99 :: l) = true := by decide +kernel
theorem prod4_99 : ∀ l ∈ wordsN abc 3, checkProd (99 :: l) = true := by decide +kernel
theorem prod5_99_97 : ∀ l ∈ wordsN abc 3, checkProd (99 :: 97 :: l) = true := by decide +kernel
theorem prod5_99_98 : ∀ l ∈ wordsN abc 3, checkProd (99 :: 98 :: l) = true := by decide +kernel
theorem prod5_99_99 : ∀ l ∈ wordsN abc 3, checkProd (99 :: 99 :: l) = true := by decide +kernel
theorem prod_all {l : List Nat} (h : l.length = 4 ∨ l.length = 5) (ha : ∀ c ∈ l, c ∈ abc) : checkProd l = true := by
  rcases h with h | h
  · match l, h with
    | a :: l, h =>
      have hl : l ∈ wordsN abc 3 := mem_wordsN (by simpa using h) fun c hc => ha c (.tail _ hc)
      have h1 := ha a (.head _)
      simp only [List.mem_cons, List.not_mem_nil, or_false] at h1
      rcases h1 with rfl | rfl | rfl
      · exact prod4_97 l hl
      · exact prod4_98 l hl
      · exact prod4_99 l hl
  · match l, h with
    | a :: b :: l, h =>
      have hl : l ∈ wordsN abc 3 := mem_wordsN (by simpa using h) fun c hc => ha c (.tail _ (.tail _ hc))
      have h1 := ha a (.head _)
      have h2 := ha b (.tail _ (.head _))
      simp only [List.mem_cons, List.not_mem_nil, or_false] at h1 h2
      rcases h1 with rfl | rfl | rfl <;> rcases h2 with rfl | rfl | rfl
      · exact prod5_97_97 l hl
      · exact prod5_97_98 l hl
      · exact prod5_97_99 l hl
      · exact prod5_98_97 l hl
      · exact prod5_98_98 l hl
      · exact prod5_98_99 l hl
      · exact prod5_99_97 l hl
      · exact prod5_99_98 l hl
      · exact prod5_99_99 l hl
section
variable {w : World} {A : Around} {env : Env} {s : Shared} {E : Value → Shared → Prop} {h₀ : Heap} {m : Str → Option Value} {news : List (Addr × Obj)} {scope : Scope} {cl : List (Str × Addr)} {x y : Str} {ifs : List Expr} {elt : Expr}

theorem keysAre {c : List (Str × Int)} {kvs : List (Str × Value)} (hf : FlatPairs PyData.str kvs (kdpD c)) {vs : List Value} (hlen : vs.length = kvs.length) (hP : ∀ (j : Nat) v, vs[j]? = some v → ∃ k x, kvs[j]? = some (k, x) ∧ (PySem.strKind PR w).is k v = true) : StrsAre vs (c.map (·.1)) := by
  have hl : kvs.length = c.length := by rw [← kdpD_length c, hf.length]
  refine kdy_strs (by rw [List.length_map]; omega) fun j v hj => ?_
  obtain ⟨k, z, hk, hs⟩ := hP j v hj
  obtain ⟨n, t, hc, _⟩ := keyAt hf hk
  obtain ⟨u, rfl⟩ := strKey hs
  exact ⟨k, by rw [List.getElem?_map, hc]; rfl, u, rfl⟩
theorem keyIn {c : List (Str × Int)} {kvs : List (Str × Value)} (hf : FlatPairs PyData.str kvs (kdpD c)) {v : Value} (hP : ∃ (i : Nat) (k : Str) (x : Value), kvs[i]? = some (k, x) ∧ (PySem.strKind PR w).is k v = true) : ∃ k n t, (k, n) ∈ c ∧ v = .str k t := by
  obtain ⟨i, k, z, hk, hs⟩ := hP
  obtain ⟨n, t, hc, _⟩ := keyAt hf hk
  obtain ⟨u, rfl⟩ := strKey hs
  exact ⟨k, n, u, List.mem_of_getElem? hc, rfl⟩

theorem compD {d L : Addr} {c : List (Str × Int)} {p : Value → Bool} {F : Value → Value → Prop} {Q : Value → Shared → Prop} (hh : A.handled = none) (Tb : StrTab PR w s.heap d (kdpD c)) (hz : c.length ≤ 100000)
    (Fr₀ : Fr h₀ L s.heap m) (N : News h₀ L s.heap news) (H : Plain1 w A env scope cl x ifs elt (fun v => ∃ k n t, (k, n) ∈ c ∧ v = .str k t) p F s.heap)
    (h : ∀ D h' tk ys q (vs : List Value), Fr h₀ L h' m → News h₀ L h' ((D, lstO ys q) :: news) → (∀ q ∈ news, q.1 ≠ D) → StrsAre vs (c.map (·.1)) → Paired F (vs.filter p) ys.toList → Q (.ref D) { s with heap := h', toks := tk }) :
    wpAny (model PR w) A (pyIter (.ref d)) (fun it s₂ => SrcE w A env scope cl x ifs elt p F Q it s₂) E s := by
  obtain ⟨lo, kvs, hD, hf⟩ := Tb
  obtain ⟨ep, hA⟩ := hD.dictAt
  have hl : kvs.length = c.length := by rw [← kdpD_length c, hf.length]
  refine wpAny_pyIter_dict lo hA ?_
  refine srcE (Walks.dictKeys (knd := PySem.strKind PR w) hh s.heap.objs.size d (Nat.ne_of_lt hA.lt_size) kvs ep) (by simp) (by rw [sizeLine_eq]; omega) ⟨⟨_, Heap.get?_push_size _ rfl, rfl, rfl⟩, hA.push _⟩ (fpL hA.lt_size) Fr₀ N ?_ ?_
  · exact ⟨fun C v s₃ m₃ E' hP => H.tests C v s₃ m₃ E' (keyIn hf hP), fun C v s₃ m₃ E' hP => H.elt C v s₃ m₃ E' (keyIn hf hP)⟩
  · intro D h' tk ys q vs F' N' hD' hne hlen hP hpair hk
    exact h D h' tk ys q vs F' N' hne (keysAre hf hlen hP) hpair

theorem compDA {d : Addr} {c : List (Str × Int)} {p : Value → Bool} {F : Value → Value → Prop} {Q : Flow → Shared → Prop} (hh : A.handled = none) (Tb : StrTab PR w s.heap d (kdpD c)) (hz : c.length ≤ 100000)
    (Fr₀ : Fr h₀ env.locals s.heap m) (N : News h₀ env.locals s.heap news) (H : Plain1 w A env scope cl x ifs elt (fun v => ∃ k n t, (k, n) ∈ c ∧ v = .str k t) p F s.heap)
    (h : ∀ D h' tk ys q (vs : List Value), Fr h₀ env.locals h' (fun z => if z = y then some (.ref D) else m z) → News h₀ env.locals h' ((D, lstO ys q) :: news) → (∀ q ∈ news, q.1 ≠ D) → StrsAre vs (c.map (·.1)) → Paired F (vs.filter p) ys.toList → Q .next { s with heap := h', toks := tk }) :
    wpAny (model PR w) A (pyIter (.ref d)) (fun it s₂ => SrcA w A env scope cl x y ifs elt p F Q it s₂) E s := by
  obtain ⟨lo, kvs, hD, hf⟩ := Tb
  obtain ⟨ep, hA⟩ := hD.dictAt
  have hl : kvs.length = c.length := by rw [← kdpD_length c, hf.length]
  refine wpAny_pyIter_dict lo hA ?_
  refine srcA (Walks.dictKeys (knd := PySem.strKind PR w) hh s.heap.objs.size d (Nat.ne_of_lt hA.lt_size) kvs ep) (by simp) (by rw [sizeLine_eq]; omega) ⟨⟨_, Heap.get?_push_size _ rfl, rfl, rfl⟩, hA.push _⟩ (fpL hA.lt_size) Fr₀ N ?_ ?_
  · exact ⟨fun C v s₃ m₃ E' hP => H.tests C v s₃ m₃ E' (keyIn hf hP), fun C v s₃ m₃ E' hP => H.elt C v s₃ m₃ E' (keyIn hf hP)⟩
  · intro D h' tk ys q vs F' N' hD' hne hlen hP hpair
    exact h D h' tk ys q vs F' N' hne (keysAre hf hlen hP) hpair

theorem compV {d v L : Addr} {c : List (Str × Int)} {F : Value → Value → Prop} {Q : Value → Shared → Prop} (hh : A.handled = none) (hv : s.heap.IsValuesView v d) (Tb : StrTab PR w s.heap d (kdpD c)) (hz : c.length ≤ 100000)
    (Fr₀ : Fr h₀ L s.heap m) (N : News h₀ L s.heap news) (H : Plain1 w A env scope cl x [] elt (fun v => ∃ k n t, (k, n) ∈ c ∧ v = .int n t) (fun _ => true) F s.heap)
    (h : ∀ D h' tk ys q (vs : List Value), Fr h₀ L h' m → News h₀ L h' ((D, lstO ys q) :: news) → (∀ q ∈ news, q.1 ≠ D) → IntsAre vs (c.map (·.2)) → Paired F vs ys.toList → Q (.ref D) { s with heap := h', toks := tk }) :
    wpAny (model PR w) A (pyIter (.ref v)) (fun it s₂ => SrcE w A env scope cl x [] elt (fun _ => true) F Q it s₂) E s := by
  obtain ⟨lo, kvs, hD, hf⟩ := Tb
  obtain ⟨ep, hA⟩ := hD.dictAt
  have hl : kvs.length = c.length := by rw [← kdpD_length c, hf.length]
  refine wpAny_pyIter_values hv hA ?_
  have val : ∀ (i : Nat) (u : Value), (∃ k, kvs[i]? = some (k, u)) → ∃ k n t, c[i]? = some (k, n) ∧ u = .int n t := fun i u ⟨k, hk⟩ => by
    obtain ⟨⟨k', n⟩, hc, t, rfl⟩ := kdz_valAt hf hk
    exact ⟨k', n, t, hc, rfl⟩
  refine srcE (Walks.dictValues (knd := PySem.strKind PR w) hh s.heap.objs.size d (Nat.ne_of_lt hA.lt_size) kvs ep) (by simp) (by rw [sizeLine_eq]; omega) ⟨⟨_, Heap.get?_push_size _ rfl, rfl, rfl⟩, hA.push _⟩ (fpL hA.lt_size) Fr₀ N ?_ ?_
  · have up : ∀ v : Value, (∃ (i : Nat) (k : Str), kvs[i]? = some (k, v)) → ∃ k n t, (k, n) ∈ c ∧ v = .int n t := fun v ⟨i, hv⟩ => by
      obtain ⟨k, n, t, hc, e⟩ := val i v hv
      exact ⟨k, n, t, List.mem_of_getElem? hc, e⟩
    exact ⟨fun C v s₃ m₃ E' hP => H.tests C v s₃ m₃ E' (up v hP), fun C v s₃ m₃ E' hP => H.elt C v s₃ m₃ E' (up v hP)⟩
  · intro D h' tk ys q vs F' N' hD' hne hlen hP hpair hk
    rw [List.filter_eq_self.mpr (fun _ _ => rfl)] at hpair
    refine h D h' tk ys q vs F' N' hne ?_ hpair
    clear hpair hk
    have key : ∀ (vs : List Value) (c : List (Str × Int)), vs.length = c.length → (∀ (j : Nat) v, vs[j]? = some v → ∃ k n t, c[j]? = some (k, n) ∧ v = Value.int n t) → IntsAre vs (c.map (·.2)) := by
      intro vs
      induction vs with
      | nil => intro c hl _; rw [List.length_eq_zero_iff.mp hl.symm]; exact .nil
      | cons v vs ih =>
        intro c hl hv
        cases c with
        | nil => simp at hl
        | cons q c =>
          obtain ⟨k, n, t, hc, rfl⟩ := hv 0 v rfl
          have hc : q = (k, n) := by simpa using hc
          subst hc
          exact .cons _ _ (ih c (by simpa using hl) fun j v hj => by simpa using hv (j + 1) v (by simpa using hj))
    exact key vs c (by omega) fun j v hj => val j v (hP j v hj)
end

theorem strValues_of {vs : List Value} {xs : List Str} (h : StrsAre vs xs) : ∃ l, vs = strValues l ∧ l.map (·.1) = xs := by
  induction h with
  | nil => exact ⟨[], rfl, rfl⟩
  | cons x t _ ih =>
    obtain ⟨l, e1, e2⟩ := ih
    exact ⟨(x, t) :: l, by rw [e1]; rfl, by rw [List.map_cons, e2]⟩
theorem joinOne : ∀ (l : List Nat) (acc : Array Nat), (l.map fun c => sOf [c]).foldl (fun acc p => acc ++ (Str.ofString "").cps ++ p.cps) acc = acc ++ l.toArray
  | [], acc => by simp
  | c :: l, acc => by
    rw [List.map_cons, List.foldl_cons, joinOne l]
    apply Array.ext'
    simp
    rfl
theorem joinSigns (l : List Nat) : Txt.join (Str.ofString "") (l.map fun c => sOf [c]) = sOf l := by
  show (⟨((l.map fun c => sOf [c]).drop 1).foldl (fun acc p => acc ++ (Str.ofString "").cps ++ p.cps) ((l.map fun c => sOf [c]).headD Str.empty).cps⟩ : Str) = sOf l
  cases l with
  | nil => rfl
  | cons c l =>
    rw [List.map_cons, List.drop_succ_cons, List.drop_zero, joinOne]
    congr 1
    apply Array.ext'
    simp
theorem item_abc : ∀ k ∈ List.range 3, Txt.item (Str.ofString "abc") (k : Int) = sOf [97 + k] := by decide +kernel
def letter (n : Int) : Nat := 97 + (n.fmod 3).toNat
theorem letter_abc (n : Int) : letter n ∈ abc := by
  have h1 := Int.fmod_lt_of_pos n (by decide : (0 : Int) < 3)
  have h2 := Int.fmod_nonneg_of_pos n (by decide : (0 : Int) < 3)
  unfold letter
  simp only [List.mem_cons, List.not_mem_nil, or_false]
  omega
theorem ints_mem {vs : List Value} {ns : List Int} (h : IntsAre vs ns) {v : Value} (hv : v ∈ vs) : ∃ n t, v = .int n t := by
  induction h with
  | nil => cases hv
  | cons n t _ ih =>
    rcases List.mem_cons.mp hv with rfl | hv
    · exact ⟨n, t, rfl⟩
    · exact ih hv
theorem letters_of {vs us : List Value} {ns : List Int} (h : IntsAre vs ns) (p : Paired (fun v y => ∃ n t u, v = .int n t ∧ y = .str (sOf [letter n]) u) vs us) : StrsAre us ((ns.map letter).map fun c => sOf [c]) := by
  induction h generalizing us with
  | nil => cases p; exact .nil
  | cons n t _ ih =>
    cases p with
    | cons hF hp =>
      obtain ⟨n', t', u, e, rfl⟩ := hF
      obtain ⟨rfl, _⟩ := Value.int.inj e
      exact .cons _ u (ih hp)
theorem joinOkSigns (l : List Nat) (h : l.length ≤ 1000) : JoinOk (Str.ofString "") (l.map fun c => sOf [c]) = true := by
  have e : ∀ (l : List Nat) (a : Nat), (l.map fun c => sOf [c]).foldl (· + ·.length + (Str.ofString "").length) a = a + l.length := by
    intro l
    induction l with
    | nil => intro a; rfl
    | cons c l ih =>
      intro a
      rw [List.map_cons, List.foldl_cons, ih, List.length_cons]
      show a + 1 + 0 + l.length = _
      omega
  unfold JoinOk Builtin.Str.tooLong
  rw [List.foldl_toArray, e]
  simp
  rw [sizeLine_eq]
  omega
theorem ascii_abc {l : List Nat} (h : ∀ c ∈ l, c ∈ abc) : (sOf l).cps.all (· < 128) = true := by
  rw [Array.all_eq_true_iff_forall_mem]
  intro c hc
  have := h c (by simpa using hc)
  simp only [List.mem_cons, List.not_mem_nil, or_false] at this
  rcases this with rfl | rfl | rfl <;> decide
theorem scat_abc (l : List Nat) (ha : ∀ c ∈ l, c ∈ abc) : ∀ p ∈ scat l, ∀ c ∈ p.1.cps.toList, c ∈ abc := by
  have key : ∀ (l : List Nat) (c : List (Str × Int)), (∀ a ∈ l, a ∈ abc) → (∀ p ∈ c, ∀ a ∈ p.1.cps.toList, a ∈ abc) → ∀ p ∈ l.foldl scatStep c, ∀ a ∈ p.1.cps.toList, a ∈ abc := by
    intro l
    induction l with
    | nil => intro c _ h; exact h
    | cons a l ih =>
      intro c hl hc
      refine ih _ (fun b hb => hl b (.tail _ hb)) ?_
      unfold scatStep
      refine addTab_keys (P := fun k => ∀ b ∈ k.cps.toList, b ∈ abc) hc (putAll_keys (P := fun k => ∀ b ∈ k.cps.toList, b ∈ abc) (fun p hp => ?_) (by intro p hp; cases hp))
      obtain ⟨q, hq, rfl⟩ := List.mem_map.mp hp
      intro b hb
      have hb : b ∈ (q.1.cps ++ #[a]).toList := hb
      rw [Array.toList_append] at hb
      rcases List.mem_append.mp hb with hb | hb
      · exact hc q hq b hb
      · have : b = a := by simpa using hb
        rw [this]; exact hl a (.head _)
  exact key l _ ha (by intro p hp c hc; rw [List.mem_singleton.mp hp] at hc; cases hc)
theorem told_ints {f : Str → Int} {vs us : List Value} {xs : List Str} (h : StrsAre vs xs) (p : Paired (fun v y => ∃ k t u, v = .str k t ∧ y = .int (f k) u) vs us) : IntsAre us (xs.map f) := by
  induction h generalizing us with
  | nil => cases p; exact .nil
  | cons x t _ ih =>
    cases p with
    | cons hF hp =>
      obtain ⟨k, t', u, e, rfl⟩ := hF
      obtain ⟨rfl, _⟩ := Value.str.inj e
      exact .cons _ u (ih hp)
theorem mods_ints {times : Int} {vs us : List Value} {ns : List Int} (h : IntsAre vs ns) (p : Paired (fun v y => ∃ n t u, v = .int n t ∧ y = .int (n.fmod times) u) vs us) : IntsAre us (ns.map fun n => n.fmod times) := by
  induction h generalizing us with
  | nil => cases p; exact .nil
  | cons n t _ ih =>
    cases p with
    | cons hF hp =>
      obtain ⟨n', t', u, e, rfl⟩ := hF
      obtain ⟨rfl, _⟩ := Value.int.inj e
      exact .cons _ u (ih hp)
theorem ints_replicate (n : Int) (t : Tok) : ∀ k, IntsAre (List.replicate k (.int n t)) (List.replicate k n)
  | 0 => .nil
  | k + 1 => .cons n t (ints_replicate n t k)
theorem law_holds : Challenge.rw_pk0121_01.Holds := by
  refine hd ?_
  k_go0
  rename_i w s₀ s₁ mg mb Gr Yk fa ofn pm doc ho hg KX Xf V GL T B TE TW a12 o11 M a10 a9 hcd ns hs hlay0 hLy hr1 hl2 as7 as6 ls vs as3 hL ra w1 r0 hI hr hmost htr K0 hDf h₁ tk₁ F o3 o2 o1 d3 d2 d1 N Y
  have hnl : ns.length ≤ 63 := by omega
  have hdp : callerA.depth + 1 + 200 < recursionLimit := by decide
  have hvl : vs.length = ns.length := hI.length
  refine wpAny_mono (Q := fun fl s' => fl = .ret (.bool true) ∧ Keeps s₁ s') (E := fun _ _ => False) ?_ ?_ ?_
  · have G : Ground0 w (ExcName.means s₀.heap) mg mb s₁.heap := Ground0.mk KX T
    clear Gr Yk Xf V GL B TE TW M hcd hs hlay0 hLy hr1 hl2 ra w1 r0 hr K0 hDf Y ho hg KX T
    have d1 : o1.data = .cell none := d1
    have d2 : o2.data = .cell none := d2
    have d3 : o3.data = .cell none := d3
    generalize hLL : s₁.heap.objs.size = L at *
    refine wpAny_execs_cons ?_
    refine wpAny_Assign_Name ?_ ?hs
    case hs => exact swapsBin
    refine wpAny_BinOp ?_
    refine PyProof.Rows.Subscript_ ?_
    refine nameX_L F rfl ?_
    refine wpAny_Slice ?_
    refine wpAny_evalPart_none ?_
    refine wpAny_evalPart_some ?_
    refine wpAny_Constant_int ?_
    refine wpAny_evalPart_none ?_
    refine kmk_slice_lit (lo := none) (hi := some 5) (zs := vs.take 5) F N (hL.at fun o e => F.keep _ o e) .none (.int _ _) (by rw [show (5 : Int) = ((5 : Nat) : Int) from rfl, slicePick_upto']) ?_ (by with_unfolding_all rfl) (fun _ => rfl) (by rw [sizeLine_eq]; simp; omega)
    intro D1 h₂ F₂ N₂ l1
    dsimp only
    refine PyProof.Rows.Subscript_ ?_
    refine PyProof.Rows.List_ ?_
    refine aConst ?_
    refine wpAny_Constant_int ?_
    refine aConst ?_
    refine wpAny_Constant_int ?_
    refine aConst ?_
    refine wpAny_Constant_int ?_
    refine aConst ?_
    refine wpAny_Constant_int ?_
    refine aNil ?_
    refine newList_N F₂ N₂ fun h₃ F₃ N₃ => ?_
    dsimp only at N₃ ⊢
    obtain ⟨mv, hmi, hml⟩ : ∃ mv, IntsAre mv [1, 0, 1, 0] ∧ h₃.IsList h₂.objs.size mv.toArray := ⟨_, .cons _ _ (.cons _ _ (.cons _ _ (.cons _ _ .nil))), ⟨_, N₃.get (.head _), rfl, 0, rfl⟩⟩
    have hmvl : mv.length = 4 := hmi.length
    refine wpAny_Slice ?_
    refine wpAny_evalPart_some ?_
    refine evN G F₃.keep (ng_len w) bb_len nn_len ?_
    refine cB1 ?_ starName
    refine nameX_L F₃ rfl ?_
    refine Calls.call_len_list (items := vs.toArray) (hL.at fun o e => F₃.keep _ o e) (by simp; omega) ?_
    refine wpAny_evalPart_none ?_
    refine wpAny_evalPart_none ?_
    refine kba_turn (value' := .Name (Str.ofString "_") ⟨0, 0, 0, 0⟩) (fun _ => rfl) ?_
    refine kmk_slice_lit (lo := some (vs.toArray.size : Int)) (hi := none) (zs := mv.drop ns.length) F₃ N₃ hml (.int _ _) .none (by rw [slicePick_from', List.size_toArray, hvl]) ?_ (by with_unfolding_all rfl) (fun _ => rfl) (by rw [sizeLine_eq]; simp; omega)
    intro D2 h₄ F₄ N₄ l2
    dsimp only
    refine add_lists F₄ N₄ (vs := vs.take 5) (ws := mv.drop ns.length) ⟨_, N₄.get (.tail _ (.tail _ (.head _))), rfl, 0, rfl⟩ ⟨_, N₄.get (.head _), rfl, 0, rfl⟩ (fun h₅ F₅ N₅ => ?_) (by rw [sizeLine_eq]; simp; omega)
    dsimp only at N₅ ⊢
    have hrow := IntsAre.append (hI.take 5) (hmi.drop ns.length)
    generalize hRv : vs.take 5 ++ mv.drop ns.length = rv at *
    generalize hRo : h₄.objs.size = RL at *
    refine storeX_L F₅ N₅ fun h₆ F₆ N₆ => ?_
    dsimp only
    have N₆' : News s₁.heap L h₆ [(RL, lstO rv.toArray 0), (L + 1 + 1 + 1, o3), (L + 1 + 1, o2), (L + 1, o1)] := fun p hp => N₆ p (by
      rcases List.mem_cons.mp hp with rfl | hp
      · exact .head _
      · exact .tail _ (.tail _ (.tail _ (.tail _ hp))))
    have hrl := hrow.length
    have hwlen : (List.take 5 ns ++ List.drop ns.length [1, 0, 1, 0]).length = 4 ∨ (List.take 5 ns ++ List.drop ns.length [1, 0, 1, 0]).length = 5 := by
      rw [List.length_append, List.length_take, List.length_drop]
      simp only [List.length_cons, List.length_nil]
      omega
    generalize hrw : List.take 5 ns ++ List.drop ns.length [1, 0, 1, 0] = row at *
    -- word
    refine wpAny_execs_cons ?_
    refine wpAny_Assign_Name ?_ ?hs
    case hs => exact swapsCall
    refine PyProof.Rows.MethodCall_ ?_
    refine Calls.Constant_str ?_
    refine GM.join ?_
    refine callWith_method1 ?_ rfl rfl
    refine aComp ?_
    refine evComp (cl := []) (fun _ => true) (fun v y => ∃ n t u, v = .int n t ∧ y = .str (sOf [letter n]) u) rfl (by decide) rfl (by decide) rfl ?_ (fun _ => rfl)
    refine nameX_L F₆ rfl ?_
    refine compL (by rfl) ⟨_, N₆'.get (.head _), rfl, 0, rfl⟩ (by omega) F₆ N₆' ⟨?_, ?_⟩ ?_
    · intro C v s₄ m₄ E' hP hn' hm hk
      exact testsNone (v := v) (fun _ => true) rfl
    · intro C v s₄ m₄ E' hP _ hn' hm hk
      obtain ⟨n, t, rfl⟩ := ints_mem hrow hP
      obtain ⟨k, hk3, hke⟩ : ∃ k : Nat, k < 3 ∧ n.fmod 3 = (k : Int) := ⟨(n.fmod 3).toNat, by have := Int.fmod_lt_of_pos n (by decide : (0 : Int) < 3); have := Int.fmod_nonneg_of_pos n (by decide : (0 : Int) < 3); omega, by have := Int.fmod_nonneg_of_pos n (by decide : (0 : Int) < 3); omega⟩
      refine PyProof.Rows.Subscript_ ?_
      refine Calls.Constant_str ?_
      refine wpAny_BinOp ?_
      refine nameLoc hn' hm ?_
      refine wpAny_Constant_int ?_
      refine PyProof.Rows.mod_int' (by decide) ?_
      rw [hke]
      refine PyProof.Rows.item_str ?_ ?_ ?_ ?_
      · have : ∀ k ∈ List.range 3, fitsSsize ((k : Nat) : Int) = true := by decide
        exact this k (List.mem_range.mpr hk3)
      · show -(3 : Int) ≤ _; omega
      · show _ < (3 : Int); omega
      intro _
      rw [item_abc k (List.mem_range.mpr hk3)]
      have el : letter n = 97 + k := by unfold letter; rw [hke]; rfl
      rw [← el]
      exact ⟨⟨n, t, _, rfl, rfl⟩, _, _, rfl, fun _ _ e => e⟩
    · intro D3 h₇ tk₇ ys c₇ F₇ N₇ hD3 hD3ne hpair hk₇
      rw [List.filter_eq_self.mpr (fun _ _ => rfl)] at hpair
      have hys := letters_of hrow hpair
      refine aNil ?_
      obtain ⟨sv, esv, etx⟩ := strValues_of hys
      refine SC.join (l := sv) ⟨_, N₇.get (.head _), rfl, c₇, by rw [← esv]⟩ etx (joinOkSigns _ (by rw [List.length_map]; omega)) ?_
      intro tw kw
      rw [joinSigns]
      have hwl5 : (row.map letter).length = 4 ∨ (row.map letter).length = 5 := by rw [List.length_map]; exact hwlen
      have hwla : ∀ c ∈ row.map letter, c ∈ abc := fun c hc => by
        obtain ⟨n, _, rfl⟩ := List.mem_map.mp hc
        exact letter_abc n
      generalize row.map letter = wl at *
      clear hys hpair etx esv hrow hrl hwlen
      have NW : News s₁.heap L h₇ [(L + 1, o1), (L + 1 + 1, o2), (L + 1 + 1 + 1, o3)] := fun p hp => N₇ p (by
        rcases List.mem_cons.mp hp with rfl | hp
        · exact .tail _ (.tail _ (.tail _ (.tail _ (.head _))))
        rcases List.mem_cons.mp hp with rfl | hp
        · exact .tail _ (.tail _ (.tail _ (.head _)))
        rw [List.mem_singleton.mp hp]
        exact .tail _ (.tail _ (.head _)))
      have n12 : L + 1 + 1 ≠ L + 1 := Nat.succ_ne_self _
      have n13 : L + 1 + 1 + 1 ≠ L + 1 := by omega
      have n23 : L + 1 + 1 + 1 ≠ L + 1 + 1 := Nat.succ_ne_self _
      refine storeX_C (s := { s₁ with heap := h₇, toks := kw }) F₇ NW rfl (.head ?_) d1 ?_
      · intro p hp
        rcases List.mem_cons.mp hp with rfl | hp
        · exact n12
        · rw [List.mem_singleton.mp hp]; exact n13
      intro h₈ o1' F₈ N₈ d1'
      dsimp only
      have hwo : OkW abc wl := ⟨by omega, hwla⟩
      have hz : IsAbc (sOf wl) := hwo.mem
      have hzl : (sOf wl).length ≤ 5 := hwo.1
      have hcP := pieces_all hwl5 hwla
      have hcQ := prod_all hwl5 hwla
      -- pieces
      refine wpAny_execs_cons ?_
      refine wpAny_Assign_Name ?_ ?hs
      case hs => exact swapsCall
      refine evF2 G F₈.keep (kg_law_pieces w) (ki_law_pieces w) ?_ starName starCall rfl rfl rfl
      refine nameX_C N₈ rfl (.head _) d1' ?_
      refine evN G F₈.keep (ng_list w) bb_list nn_list ?_
      refine cT1 ?_ starSub
      refine PyProof.Rows.Subscript_ ?_
      refine evF1 G F₈.keep (kg_law_scattered w) (ki_law_scattered w) ?_ starName rfl rfl rfl
      refine nameX_C N₈ rfl (.head _) d1' ⟨F₈.keep, ?_⟩
      refine wpAny_mono (scattered_spec (G.keeps F₈.keep) rfl (by show callerA.depth + 1 + 20 < _; omega) (ascii_abc hwla) hwo.1) (fun v s' hq => ?_) fun _ _ x => x
      obtain ⟨⟨sa, sb, Tn, ton, Dn, don, rfl, hTn, hDn, hTDn, hgT, hgD, hen, hdn, lon⟩, h₉, tk₉, rfl, hk₉⟩ := hq
      dsimp only at hTn hDn hgT hgD hk₉ ⊢
      have F₉ := F₈.keeps hk₉
      have N₉ := newsAdd F₈ N₈ hk₉ hDn hgD
      have hscl : (sOf wl).cps.toList = wl := rfl
      rw [hscl] at hdn
      have hsc := scOk_take wl wl.length
      rw [List.take_length] at hsc
      have hsck := scat_abc wl hwla
      have hscl : (scat wl).length ≤ 32 := Nat.le_trans hsc.1 (Nat.le_trans (Nat.pow_le_pow_right (by decide) hwo.1) (by decide))
      generalize hscE : scat wl = sc at *
      refine wpAny_Constant_int ?_
      refine kba_turn (value' := .Name (Str.ofString "_") ⟨0, 0, 0, 0⟩) (fun _ => rfl) ?_
      obtain ⟨t1, t2, t3, t4, hTup⟩ := hen.tup hgT
      refine item_tupleT (j := 4) (x := .ref Dn) hTup (by decide) (by decide) rfl rfl ?_ rfl
      obtain ⟨kvs, hdo, hfl⟩ := hdn
      have hDof : h₉.DictOf (PySem.strKind PR w) Dn kvs := Heap.dictOf_iff.mpr ⟨don, hgD, hdo⟩
      obtain ⟨ep, hat⟩ := hDof.dictAt
      have hkl : kvs.length = sc.length := by rw [← kdpD_length sc, hfl.length]
      refine kdl_N (kdl_dict (knd := PySem.strKind PR w) (kvs := kvs) (ep := ep) lon) rfl F₉ N₉ hat (by rw [sizeLine_eq]; omega) ?_
      intro WL cw hA tkA vsw FA NA l3 hlw hPw
      have hws := keysAre hfl hlw hPw
      dsimp only
      refine ⟨FA.keep, ?_⟩
      have hends : ((sc.map (·.1)).filter (endP (sOf wl))).Perm (tailsOf (sOf wl)) := hscE ▸ ends_perm wl
      refine wpAny_mono (pieces_spec (G.keeps FA.keep) rfl (by show callerA.units + 3 + 20 < cLine; decide) (by show callerA.depth + 1 + 20 < _; omega) hz hzl (lw := WL) (ws := sc.map (·.1)) ⟨vsw, ⟨_, NA.get (.head _), rfl, cw, rfl⟩, hws⟩ ?_ (by rw [List.length_map]; omega) hends) (fun v s' hq => ?_) fun _ _ x => x
      · intro x hx
        obtain ⟨p, hp, rfl⟩ := List.mem_map.mp hx
        have h5 : p.1.length ≤ 5 := Nat.le_trans (hsc.2 p hp) hwo.1
        exact ⟨mem_wordsTo h5 (hsck p hp), h5⟩
      obtain ⟨⟨PL, pob, rfl, hPn, hPo, hPLis⟩, hB, tkB, rfl, hkB⟩ := hq
      dsimp only at hPn hPo hkB ⊢
      have FB := FA.keeps hkB
      have NB0 := newsAdd FA NA hkB hPn hPo
      have NB : News s₁.heap L hB [(PL, pob), (L + 1, o1'), (L + 1 + 1, o2), (L + 1 + 1 + 1, o3)] := fun p hp => NB0 p (by
        rcases List.mem_cons.mp hp with rfl | hp
        · exact .head _
        · exact .tail _ (.tail _ (.tail _ hp)))
      refine storeX_L FB NB fun hC FC NC => ?_
      dsimp only
      -- what has been decided of the word
      have hpm : (piecesOf (sOf wl)) = ((piecesOf (sOf wl)).map (·.cps.toList)).map sOf := by
        rw [List.map_map]
        exact (List.map_id _).symm.trans (List.map_congr_left fun x _ => sOf_self x)
      have hPS : StrList hC PL (piecesOf (sOf wl)) := hPLis.at (NC.get (.head _))
      rw [hpm] at hPS
      unfold checkPieces at hcP
      unfold checkProd at hcQ
      rw [← prodOf_eq] at hcQ
      dsimp only at hcP hcQ
      clear hpm
      generalize hpcs : (piecesOf (sOf wl)).map (·.cps.toList) = pcs at *
      simp only [Bool.and_eq_true, decide_eq_true_eq, List.all_eq_true] at hcP hcQ
      obtain ⟨hpl, hpa⟩ := hcP
      obtain ⟨⟨⟨⟨⟨⟨hqo, hqt⟩, hql⟩, hqw⟩, hqs⟩, hq0⟩, hqm⟩ := hcQ
      have hpO : ∀ l ∈ pcs, OkW abc l := fun l hl => ⟨(hpa l hl).1, fun c hc => by simpa using (hpa l hl).2 c hc⟩
      have hqo' : ∀ i, i ≤ pcs.length → okTab (prodOf (pcs.take i)).2 = true := fun i hi => hqo i (List.mem_range.mpr (by omega))
      have hokE : okTab (prodOf pcs).2 = true := by have := hqo' pcs.length (Nat.le_refl _); rwa [List.take_length] at this
      -- entry
      refine wpAny_execs_cons ?_
      refine wpAny_Assign_Name ?_ ?hs
      case hs => exact swapsCall
      refine evF1 G FC.keep (kg_law_product w) (ki_law_product w) ?_ starName rfl rfl rfl
      refine nameX_L FC rfl ⟨FC.keep, ?_⟩
      refine wpAny_mono (product_spec (G.keeps FC.keep) rfl (by show callerA.depth + 1 + 40 < _; omega) hPS hpO hqo') (fun v s' hq => ?_) fun _ _ x => x
      obtain ⟨⟨ea, En, eno, Ed, edo, rfl, hEn, hEd, hEne, hgE, hgEd, hene, hedn, loE⟩, hD, tkD, rfl, hkD⟩ := hq
      dsimp only at hEn hEd hgE hgEd hkD ⊢
      have FD := FC.keeps hkD
      have ND1 := newsAdd FC NC hkD hEd hgEd
      have ND2 := newsAdd FC NC hkD hEn hgE
      have ND : News s₁.heap L hD [(En, eno), (Ed, edo), (PL, pob), (L + 1, o1'), (L + 1 + 1, o2), (L + 1 + 1 + 1, o3)] := fun p hp => by
        rcases List.mem_cons.mp hp with rfl | hp
        · exact ND2 _ (.head _)
        · exact ND1 p hp
      have hEnN := newsNe NC hEn
      have hEdN := newsNe NC hEd
      refine storeX_L FD ND fun hE FE NE => ?_
      dsimp only
      -- times, ways
      refine wpAny_execs_cons ?_
      refine Assign_Tuple ?_ rfl rfl
      refine evF1 G FE.keep (kg_law_counts w) (ki_law_counts w) ?_ starName rfl rfl rfl
      refine nameX_L FE rfl ⟨FE.keep, ?_⟩
      obtain ⟨pvs, pn, hpob, hpst⟩ := id hPLis
      have hPS' : StrList hE PL (pcs.map sOf) := by
        obtain ⟨vs', hl', hs'⟩ := hPLis.at (NE.get (.tail _ (.tail _ (.head _))))
        refine ⟨vs', hl', ?_⟩
        rw [← hpcs, List.map_map]
        have : (piecesOf (sOf wl)).map (sOf ∘ fun x => x.cps.toList) = piecesOf (sOf wl) := (List.map_congr_left fun x _ => (sOf_self x).symm).trans (List.map_id _)
        rw [this]; exact hs'
      refine wpAny_mono (counts_spec (G.keeps FE.keep) rfl (by show callerA.depth + 1 + 40 < _; omega) hPS' hpO (by omega)) (fun v s' hq => ?_) fun _ _ x => x
      obtain ⟨⟨Tc, ct, cu, rfl, hcn, hcg⟩, hF, tkF, rfl, hkF⟩ := hq
      dsimp only at hcn hcg hkF ⊢
      have FF := FE.keeps hkF
      have NF := NE.grown hkF
      refine wpAny_assign_Tuple rfl ⟨_, hcg, rfl, 0, rfl⟩ rfl rfl fun hG hxG => ?_
      have hxG' : Heap.ExtBut hF.objs.size hF hG := hxG
      have oldG : ∀ b o, hF.get? b = some o → hG.get? b = some o := fun b o e => hxG' b o (Nat.ne_of_lt (Heap.lt_size e)) e
      have FG := FF.keeps oldG
      have NG0 := NF.grown oldG
      have NG : News s₁.heap L hG [(L + 1 + 1, o2), (L + 1, o1'), (L + 1 + 1 + 1, o3), (En, eno), (Ed, edo)] := fun p hp => NG0 p (by
        rcases List.mem_cons.mp hp with rfl | hp
        · exact .tail _ (.tail _ (.tail _ (.tail _ (.head _))))
        rcases List.mem_cons.mp hp with rfl | hp
        · exact .tail _ (.tail _ (.tail _ (.head _)))
        rcases List.mem_cons.mp hp with rfl | hp
        · exact .tail _ (.tail _ (.tail _ (.tail _ (.tail _ (.head _)))))
        rcases List.mem_cons.mp hp with rfl | hp
        · exact .head _
        rw [List.mem_singleton.mp hp]
        exact .tail _ (.head _))
      show wpAny _ _ (do holding [_] (assign (.Name (Str.ofString "times") _) _ (.int (countsOf pcs).1 ct)); do holding [] (assign (.Name (Str.ofString "ways") _) _ (.int (countsOf pcs).2.1 cu)); pure ()) _ _ _
      refine wpAny_bind (wpAny_holding (wpAny_assign_Name ?_))
      have hEn1 : ∀ k, k = L + 1 ∨ k = L + 1 + 1 ∨ k = L + 1 + 1 + 1 → En ≠ k ∧ Ed ≠ k := fun k hk => by
        rcases hk with rfl | rfl | rfl
        · exact ⟨Ne.symm (hEnN _ (.tail _ (.head _))), Ne.symm (hEdN _ (.tail _ (.head _)))⟩
        · exact ⟨Ne.symm (hEnN _ (.tail _ (.tail _ (.head _)))), Ne.symm (hEdN _ (.tail _ (.tail _ (.head _))))⟩
        · exact ⟨Ne.symm (hEnN _ (.tail _ (.tail _ (.tail _ (.head _))))), Ne.symm (hEdN _ (.tail _ (.tail _ (.tail _ (.head _)))))⟩
      refine storeX_C FG NG rfl (.head ?_) d2 ?_
      · intro p hp
        rcases List.mem_cons.mp hp with rfl | hp
        · exact n12.symm
        rcases List.mem_cons.mp hp with rfl | hp
        · exact n23
        rcases List.mem_cons.mp hp with rfl | hp
        · exact (hEn1 _ (.inr (.inl rfl))).1
        rw [List.mem_singleton.mp hp]
        exact (hEn1 _ (.inr (.inl rfl))).2
      intro hH o2' FH NH d2'
      dsimp only
      refine wpAny_bind (wpAny_holding (wpAny_assign_Name ?_))
      refine storeX_L FH NH fun hI' FI NI => ?_
      refine wpAny_pure ?_
      dsimp only
      -- rule
      refine wpAny_execs_cons ?_
      refine wpAny_Assign_Name ?_ ?hs
      case hs => exact swapsCall
      refine ruleMake G FI NI rfl (by show callerA.depth + 1 + 5 < _; omega) rfl (.tail _ (.head _)) d1' (by omega) rfl rfl rfl rfl rfl rfl ?_
      intro ob rn hJ tkJ FJ NJ hrn hrl
      dsimp only
      have NJ' : News s₁.heap L hJ ((L + 1 + 1 + 1, o3) :: (L + 1 + 1, o2') :: (L + 1, o1') :: (En, eno) :: (Ed, edo) :: rn) := fun p hp => NJ p (by
        rcases List.mem_cons.mp hp with rfl | hp
        · exact List.mem_append_right _ (.tail _ (.tail _ (.head _)))
        rcases List.mem_cons.mp hp with rfl | hp
        · exact List.mem_append_right _ (.head _)
        rcases List.mem_cons.mp hp with rfl | hp
        · exact List.mem_append_right _ (.tail _ (.head _))
        rcases List.mem_cons.mp hp with rfl | hp
        · exact List.mem_append_right _ (.tail _ (.tail _ (.tail _ (.head _))))
        rcases List.mem_cons.mp hp with rfl | hp
        · exact List.mem_append_right _ (.tail _ (.tail _ (.tail _ (.tail _ (.head _)))))
        · exact List.mem_append_left _ hp)
      refine storeX_C FJ NJ' rfl (.head ?_) d3 ?_
      · intro p hp
        rcases List.mem_cons.mp hp with rfl | hp
        · exact n23.symm
        rcases List.mem_cons.mp hp with rfl | hp
        · exact n13.symm
        rcases List.mem_cons.mp hp with rfl | hp
        · exact (hEn1 _ (.inr (.inr rfl))).1
        rcases List.mem_cons.mp hp with rfl | hp
        · exact (hEn1 _ (.inr (.inr rfl))).2
        · exact Nat.ne_of_gt (hrl p hp _ (.tail _ (.tail _ (.head _))))
      intro hK o3' FK NK d3'
      dsimp only
      have hEok : ∀ k n, (k, n) ∈ (prodOf pcs).2 → k.length ≤ (sOf wl).length := fun k n hkn => (hqm (k, n) hkn).2
      have hEfm : ∀ p ∈ (prodOf pcs).2, p.2.fmod (countsOf pcs).1 = 0 := fun p hp => (hqm p hp).1
      have hElen : (prodOf pcs).2.length ≤ 200 := okTab_len hokE
      generalize hEE : prodOf pcs = PE at *
      obtain ⟨eb, ET⟩ := PE
      generalize hCC : countsOf pcs = CC at *
      obtain ⟨times, ways, built⟩ := CC
      dsimp only at hene hedn hEok hEfm hElen hqt hql hqw hqs hq0
      have hzn : (sOf wl).length ≤ 1000 := by omega
      obtain ⟨kvE, hdE, hfE⟩ := id hedn
      have tab : ∀ h : Heap, h.get? Ed = some edo → StrTab PR w h Ed (kdpD ET) := fun h hg => TabAt.ofObj loE hg hdE hfE
      -- told
      refine wpAny_execs_cons ?_
      refine evAssignComp (cl := [(Str.ofString "word", L + 1), (Str.ofString "rule", L + 1 + 1 + 1)]) (fun _ => true) (fun v y => ∃ k t u, v = .str k t ∧ y = .int (cmpRows (rowOf k (sOf wl).length) (signsOf (sOf wl))) u) rfl rfl (by decide) rfl (by decide) rfl rfl rfl ?_ (fun _ => rfl)
      refine PyProof.Rows.Subscript_ ?_
      refine nameX_L FK rfl ?_
      refine wpAny_Constant_int ?_
      obtain ⟨e1, e2, e3, e4, hTupK⟩ := hene.tup (NK.get (.tail _ (.tail _ (.tail _ (.head _)))))
      refine item_tupleT (j := 4) (x := .ref Ed) hTupK (by decide) (by decide) rfl rfl ?_ rfl
      refine compDA rfl (tab hK (NK.get (.tail _ (.tail _ (.tail _ (.tail _ (.head _))))))) (by omega) FK NK ⟨?_, ?_⟩ ?_
      · intro C v s₄ m₄ E' hP hn' hm hk
        exact testsNone (v := v) (fun _ => true) rfl
      · intro C v s₄ m₄ E' hP _ hn' hm hk
        obtain ⟨k, n, t, hkn, rfl⟩ := hP
        have hkl : k.length ≤ (sOf wl).length := hEok k n hkn
        have k0 : ∀ b o, s₁.heap.get? b = some o → s₄.heap.get? b = some o := fun b o e => hk b o (FK.keep b o e)
        have F4 := FK.keeps hk
        have gW := hk _ _ (NK.get (.tail _ (.tail _ (.head _))))
        have hcW : s₄.heap.IsCell (L + 1) _ := ⟨o1', gW, d1'⟩
        have hcR : s₄.heap.IsCell (L + 1 + 1 + 1) (some (.ref ob)) := ⟨o3', hk _ _ (NK.get (.head _)), d3'⟩
        have hR : RuleAt s₄.heap ob (sOf wl).length := hrn s₄.heap fun p hp => hk _ _ (NK.get (.tail _ (.tail _ (.tail _ (.tail _ (.tail _ hp))))))
        obtain ⟨dx, kk, hsh, tt, cl0, Ts, q1, q2, hr1, hr2, hr3, hr4⟩ := id hR
        refine PyProof.Rows.MethodCall_ ?_
        refine nameCel (c := L + 1 + 1 + 1) rfl hcR ?_
        refine method_inst F4 G.X ⟨hr1, rfl, rfl, hr2⟩ (pm_62 w) (fm_62 w) (if_59 w) rfl ?_
        refine callWith_K G.X (ki_59 w) ?_
        refine aCall ?_
        refine evF2 G k0 (kg_law_row w) (ki_law_row w) ?_ starName starCall rfl rfl rfl
        refine nameLoc hn' hm ?_
        refine evN G k0 (ng_len w) bb_len nn_len ?_
        refine cB1 ?_ starName
        refine nameCel (c := L + 1) rfl hcW ?_
        refine PyProof.Rows.len_str (by omega) ⟨k0, ?_⟩
        refine wpAny_mono (row_spec (G.keeps k0) rfl (by show callerA.depth + 1 < _; omega) hkl hzn) (fun v1 s' hq => ?_) fun _ _ x => x
        obtain ⟨⟨l1, ob1, rfl, hn1, ho1, hL1⟩, hc1, tkc1, rfl, hkc1⟩ := hq
        dsimp only at hn1 ho1 hkc1 ⊢
        have k1 : ∀ b o, s₁.heap.get? b = some o → hc1.get? b = some o := fun b o e => hkc1 b o (k0 b o e)
        refine aCall ?_
        refine evN G k1 (ng_list w) bb_list nn_list ?_
        refine cT1 ?_ starName
        refine nameCel (c := L + 1) rfl ⟨o1', hkc1 _ _ gW, d1'⟩ ?_
        refine call_list_str rfl (sOf wl) _ ?_ (by rw [sizeLine_eq]; show (sOf wl).length ≤ _; omega)
        intro hc2 tkc2 acc ca hkc2 hS hacc
        dsimp only at hkc2 hS ⊢
        have k2 : ∀ b o, s₁.heap.get? b = some o → hc2.get? b = some o := fun b o e => hkc2 b o (k1 b o e)
        refine aNil ⟨G.X.keeps k2, ?_⟩
        dsimp only [List.cons_append, List.nil_append]
        have hkk : ∀ b o, s₄.heap.get? b = some o → hc2.get? b = some o := fun b o e => hkc2 b o (hkc1 b o e)
        have hsl : (signsOf (sOf wl)).length = (sOf wl).length := by unfold signsOf; rw [List.length_map]; rfl
        refine wpAny_mono (compare_spec (G.keeps k2) rfl (by show callerA.depth + 1 < _; omega) (hR.keep hkk) (hL1.at (hkc2 _ _ ho1)) ⟨acc.toList, ⟨_, hS, rfl, ca, by simp⟩, strsAre_signs hacc⟩ (rowOf_len hkl) hsl hzn) (fun v3 s' hq => ?_) fun _ _ x => x
        obtain ⟨⟨u3, rfl⟩, hc3, tkc3, rfl, hkc3⟩ := hq
        dsimp only at hkc3
        exact ⟨⟨k, t, u3, rfl, rfl⟩, _, _, rfl, fun b o e => hkc3 b o (hkk b o e)⟩
      · intro TD hM tkM ys qM vsk FM NM hneT hks hpair
        rw [List.filter_eq_self.mpr (fun _ _ => rfl)] at hpair
        have htold := told_ints (f := fun k => cmpRows (rowOf k (sOf wl).length) (signsOf (sOf wl))) hks hpair
        dsimp only
        have hT1 : (ET.map (·.1)).map (fun k => cmpRows (rowOf k (sOf wl).length) (signsOf (sOf wl))) = toldOf ET (sOf wl) := by unfold toldOf; rw [List.map_map]; rfl
        rw [hT1] at htold
        -- if told != [..] or entry[4].get(word, 0) != times
        refine wpAny_execs_cons ?_
        refine wpAny_If ?_
        refine isTrue_or ?_
        refine wpAny_isTrue_Compare1 ?_ rfl
        refine nameX_L FM rfl ?_
        refine evComp (cl := [(Str.ofString "word", L + 1)]) (fun _ => true) (fun v y => ∃ k t u, v = .str k t ∧ y = .int (if k == sOf wl then 0 else -1) u) rfl (by decide) rfl (by decide) rfl ?_ (fun _ => rfl)
        refine PyProof.Rows.Subscript_ ?_
        refine nameX_L FM rfl ?_
        refine wpAny_Constant_int ?_
        obtain ⟨m1, m2, m3, m4, hTupM⟩ := hene.tup (NM.get (.tail _ (.tail _ (.tail _ (.tail _ (.head _))))))
        refine item_tupleT (j := 4) (x := .ref Ed) hTupM (by decide) (by decide) rfl rfl ?_ rfl
        have gEdM := NM.get (.tail _ (.tail _ (.tail _ (.tail _ (.tail _ (.head _))))))
        refine compD rfl (tab hM gEdM) (by omega) FM NM ⟨?_, ?_⟩ ?_
        · intro C v s₄ m₄ E' hP hn' hm hk
          exact testsNone (v := v) (fun _ => true) rfl
        · intro C v s₄ m₄ E' hP _ hn' hm hk
          obtain ⟨k, n, t, hkn, rfl⟩ := hP
          refine PyProof.Rows.IfExp_ ?_
          refine wpAny_isTrue_Compare1 ?_ rfl
          refine nameLoc hn' hm ?_
          refine nameCel (c := L + 1) rfl ⟨o1', hk _ _ (NM.get (.tail _ (.tail _ (.tail _ (.head _))))), d1'⟩ ?_
          refine PyProof.Rows.eq_str ?_
          refine wpAny_truthy_bool ?_
          by_cases hkw : (k == sOf wl) = true
          · rw [hkw, if_pos rfl]
            refine wpAny_Constant_int ?_
            exact ⟨⟨k, t, _, rfl, by rw [if_pos hkw]⟩, _, _, rfl, fun _ _ e => e⟩
          · rw [Bool.not_eq_true] at hkw
            rw [hkw, if_neg (by decide)]
            refine PyProof.Rows.UnaryOp_ ?_
            refine wpAny_Constant_int ?_
            refine PyProof.Rows.neg_int ?_
            exact ⟨⟨k, t, _, rfl, by rw [hkw, if_neg (by decide)]⟩, _, _, rfl, fun _ _ e => e⟩
        intro WD hN tkN yw qN vsn FN NN hneW hksn hpairn
        rw [List.filter_eq_self.mpr (fun _ _ => rfl)] at hpairn
        have hwant := told_ints (f := fun k => if k == sOf wl then 0 else -1) hksn hpairn
        have hT2 : (ET.map (·.1)).map (fun k => if k == sOf wl then (0 : Int) else -1) = wantOf ET (sOf wl) := by unfold wantOf; rw [List.map_map]; rfl
        rw [hT2] at hwant
        dsimp only
        refine ne_intsK (vs := ys.toList) (us := yw.toList) ⟨_, NN.get (.tail _ (.head _)), rfl, qM, rfl⟩ htold ⟨_, NN.get (.head _), rfl, qN, rfl⟩ hwant (by show callerA.units + 3 + 64 < cLine; decide) ?_
        refine wpAny_truthy_bool ?_
        rw [decide_eq_true hqt, Bool.not_true, if_neg (by decide)]
        refine isTrue_or ?_
        refine wpAny_isTrue_Compare1 ?_ rfl
        refine wpAny_Call_method (T := "dict") (id := "dict.get") rfl rfl rfl PySem.F.plainAttrs_dict PySem.F.slot_dict_get PySem.F.type_dict_get ?_
        refine PyProof.Rows.Subscript_ ?_
        refine nameX_L FN rfl ?_
        refine wpAny_Constant_int ?_
        obtain ⟨n1, n2, n3, n4, hTupN⟩ := hene.tup (NN.get (.tail _ (.tail _ (.tail _ (.tail _ (.tail _ (.head _)))))))
        refine item_tupleT (j := 4) (x := .ref Ed) hTupN (by decide) (by decide) rfl rfl ?_ rfl
        have gEdN := NN.get (.tail _ (.tail _ (.tail _ (.tail _ (.tail _ (.tail _ (.head _)))))))
        have TN := tab hN gEdN
        obtain ⟨loN, kvN, hdN, hfN⟩ := id TN
        refine ⟨hdN.typeIs, hdN.mapOf.noDict, ?_⟩
        refine callWith_method1 ?_ rfl rfl
        refine aName ?_
        refine nameX_C NN rfl (.tail _ (.tail _ (.tail _ (.tail _ (.head _))))) d1' ?_
        refine aConst ?_
        refine wpAny_Constant_int ?_
        refine aNil ?_
        refine kdp_get2 TN fun tg => ?_
        refine nameX_C NN rfl (.tail _ (.tail _ (.tail _ (.head _)))) d2' ?_
        refine PyProof.Rows.ne_int ?_
        refine wpAny_truthy_bool ?_
        rw [hql, show (times != times) = false from by simp, if_neg (by decide)]
        refine isTrue_or_nil ?_
        rw [if_neg (by decide)]
        refine wpAny_execs_nil ?_
        dsimp only
        -- if entry[1] != ways or count_calls(entry[4]) != ways
        refine wpAny_execs_cons ?_
        refine wpAny_If ?_
        refine isTrue_or ?_
        refine wpAny_isTrue_Compare1 ?_ rfl
        refine PyProof.Rows.Subscript_ ?_
        refine nameX_L FN rfl ?_
        refine wpAny_Constant_int ?_
        refine item_tupleT (j := 1) (x := .int eb n2) hTupN (by decide) (by decide) rfl rfl ?_ rfl
        refine nameX_L FN rfl ?_
        refine PyProof.Rows.ne_int ?_
        refine wpAny_truthy_bool ?_
        rw [hqw, show (ways != ways) = false from by simp, if_neg (by decide)]
        refine isTrue_or ?_
        refine wpAny_isTrue_Compare1 ?_ rfl
        refine evF1 G FN.keep (kg_count_calls w) (ki_count_calls w) ?_ starSub rfl rfl rfl
        refine PyProof.Rows.Subscript_ ?_
        refine nameX_L FN rfl ?_
        refine wpAny_Constant_int ?_
        refine item_tupleT (j := 4) (x := .ref Ed) hTupN (by decide) (by decide) rfl rfl ?_ rfl
        refine ⟨FN.keep, ?_⟩
        refine wpAny_mono (count_calls_spec (G.keeps FN.keep) rfl (by show callerA.depth + 1 < _; omega) TN) (fun v s' hq => ?_) fun _ _ x => x
        obtain ⟨⟨tv, rfl⟩, hO, tkO, rfl, hkO⟩ := hq
        dsimp only at hkO ⊢
        have FO := FN.keeps hkO
        have NO := NN.grown hkO
        refine nameX_L FO rfl ?_
        refine PyProof.Rows.ne_int ?_
        refine wpAny_truthy_bool ?_
        rw [hqs, show (ways != ways) = false from by simp, if_neg (by decide)]
        refine isTrue_or_nil ?_
        rw [if_neg (by decide)]
        refine wpAny_execs_nil ?_
        dsimp only
        -- return [often % times ..] == [0] * len(entry[4])
        refine wpAny_execs_cons ?_
        refine wpAny_Return_some ?_
        refine wpAny_Compare1 ?_ rfl
        refine evComp (cl := [(Str.ofString "times", L + 1 + 1)]) (fun _ => true) (fun v y => ∃ n t u, v = .int n t ∧ y = .int (n.fmod times) u) rfl (by decide) rfl (by decide) rfl ?_ (fun _ => rfl)
        refine evVals ?_ rfl rfl
        refine PyProof.Rows.Subscript_ ?_
        refine nameX_L FO rfl ?_
        refine wpAny_Constant_int ?_
        obtain ⟨r1, r2, r3, r4, hTupO⟩ := hene.tup (NO.get (.tail _ (.tail _ (.tail _ (.tail _ (.tail _ (.head _)))))))
        refine item_tupleT (j := 4) (x := .ref Ed) hTupO (by decide) (by decide) rfl rfl ?_ rfl
        have gEdO := NO.get (.tail _ (.tail _ (.tail _ (.tail _ (.tail _ (.tail _ (.head _)))))))
        refine ⟨Ed, ET, rfl, tab hO gEdO, fun hP hvP hkP => ?_⟩
        dsimp only at hvP hkP ⊢
        have FP := FO.keeps hkP
        have NP := NO.grown hkP
        refine compV rfl hvP (tab hP (hkP _ _ gEdO)) (by omega) FP NP ⟨?_, ?_⟩ ?_
        · intro C v s₄ m₄ E' hP' hn' hm hk
          exact testsNone (v := v) (fun _ => true) rfl
        · intro C v s₄ m₄ E' hP' _ hn' hm hk
          obtain ⟨k, n, t, hkn, rfl⟩ := hP'
          refine wpAny_BinOp ?_
          refine nameLoc hn' hm ?_
          refine nameCel (c := L + 1 + 1) rfl ⟨o2', hk _ _ (NP.get (.tail _ (.tail _ (.tail _ (.head _))))), d2'⟩ ?_
          refine PyProof.Rows.mod_int' hq0 ?_
          exact ⟨⟨n, t, _, rfl, rfl⟩, _, _, rfl, fun _ _ e => e⟩
        intro QD hQ tkQ yq qQ vsv FQ NQ hneQ hvi hpairq
        have hmods := mods_ints hvi hpairq
        dsimp only
        refine wpAny_BinOp ?_
        refine PyProof.Rows.List_ ?_
        refine aConst ?_
        refine wpAny_Constant_int ?_
        refine aNil ?_
        refine newList_N FQ NQ fun hR' FR NR => ?_
        dsimp only at NR ⊢
        refine evN G FR.keep (ng_len w) bb_len nn_len ?_
        refine cB1 ?_ starSub
        refine PyProof.Rows.Subscript_ ?_
        refine nameX_L FR rfl ?_
        refine wpAny_Constant_int ?_
        obtain ⟨x1, x2, x3, x4, hTupR⟩ := hene.tup (NR.get (.tail _ (.tail _ (.tail _ (.tail _ (.tail _ (.tail _ (.tail _ (.head _)))))))))
        refine item_tupleT (j := 4) (x := .ref Ed) hTupR (by decide) (by decide) rfl rfl ?_ rfl
        refine kdp_len (tab hR' (NR.get (.tail _ (.tail _ (.tail _ (.tail _ (.tail _ (.tail _ (.tail _ (.tail _ (.head _))))))))))) (by omega) ?_
        refine mul_list FR NR (NR.get (.head _)) (by omega) (by omega) ?_ ?_
        · show 1 * ((ET.length : Int)).toNat ≤ 2 ^ 24
          omega
        intro hS FS NS
        dsimp only at NS ⊢
        have eu : List.foldl (fun x1 x2 => x1 ++ x2) #[] (List.replicate (if ([Value.int 0 tkQ].toArray).isEmpty = true then 0 else ((ET.length : Int)).toNat) [Value.int 0 tkQ].toArray) = (List.replicate ET.length (Value.int 0 tkQ)).toArray := by
          rw [if_neg (by simp), foldRep]
          simp
        rw [eu] at NS
        refine eq_intsK (vs := yq.toList) (us := List.replicate ET.length (Value.int 0 tkQ)) ⟨_, NS.get (.tail _ (.tail _ (.head _))), rfl, qQ, rfl⟩ hmods ⟨_, NS.get (.head _), rfl, 0, rfl⟩ (ints_replicate 0 tkQ ET.length) (by show callerA.units + 3 + 64 < cLine; decide) ?_
        have hz0 : (ET.map (·.2)).map (fun n => n.fmod times) = List.replicate ET.length 0 := by
          rw [List.map_map, List.eq_replicate_iff]
          refine ⟨by rw [List.length_map], fun x hx => ?_⟩
          obtain ⟨p, hp, rfl⟩ := List.mem_map.mp hx
          exact hEfm p hp
        rw [decide_eq_true hz0]
        exact ⟨rfl, _, _, rfl, FS.keep⟩
  · intro fl s' h
    obtain ⟨rfl, h', tk, rfl, hk⟩ := h
    refine ⟨.inl ⟨.bool true, .bool true, [], rfl, ?_, .bool true, ?_, unshared_nil⟩, hk, rfl, hg⟩
    · exact raisesW_false allW_false_nil
    · exact postW_of rfl rfl (by decide +kernel)
  · intro e s' h
    exact h.elim
end Mine

theorem PySem.Challenge.cw_pk0121_01_holds : PySem.Challenge.rw_pk0121_01.Holds := by
  exact Mine.law_holds
