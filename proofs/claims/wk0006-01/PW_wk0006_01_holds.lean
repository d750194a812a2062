import PyProof.Rows.All
import Wide.All
import OpenK.AllK
import Wide.FinOn
import PySem.Challenge.RW_wk0006_01
set_option Elab.async false
-- part Hd
section
open PySem PySem.W PyProof.Rows
set_option Elab.async false
namespace Mine
set_option maxRecDepth 100000 in
set_option maxHeartbeats 8000000 in
open_top hd for PySem.Challenge.rw_wk0006_01
end Mine
end
-- part Base
section
open PySem PySem.W PyProof.Rows PySem.Calls
set_option Elab.async false
set_option maxRecDepth 100000
set_option maxHeartbeats 8000000
namespace Mine
noncomputable abbrev looseP : List Str := looseW hd.view_39 [Str.ofString "COMPILER_FLAG_NAMES", Str.ofString "_twin_re_1", Str.ofString "_twin_re_2", Str.ofString "_twin_re_3"]
noncomputable abbrev progP : Program := PySem.Challenge.rw_wk0006_01.row.prog

/-- everything of the heap h stands in h' -/
def Kp (h h' : Heap) : Prop := ∀ b o, h.get? b = some o → h'.get? b = some o
theorem Kp.refl (h : Heap) : Kp h h := fun _ _ e => e
theorem Kp.trans {a b c : Heap} (x : Kp a b) (y : Kp b c) : Kp a c := fun p o e => y p o (x p o e)
theorem Kp.keeps {s : Shared} {h' : Heap} {tk : Nat} (x : Kp s.heap h') : Keeps s { s with heap := h', toks := tk } := ⟨h', tk, rfl, x⟩
theorem Keeps.kp {s s' : Shared} (x : Keeps s s') : Kp s.heap s'.heap := by
  obtain ⟨h', tk, rfl, k⟩ := x
  exact k
theorem Keeps.rfl' {s : Shared} : Keeps s s := ⟨s.heap, s.toks, rfl, fun _ _ e => e⟩
theorem Keeps.tr {a b c : Shared} (x : Keeps a b) (y : Keeps b c) : Keeps a c := by
  obtain ⟨h', tk, rfl, k⟩ := x
  obtain ⟨h'', tk', rfl, k'⟩ := y
  exact ⟨h'', tk', rfl, fun b o e => k' b o (k b o e)⟩

section
variable {prog : Program} {w : World} {A₀ A : Around} {s : Shared} {base h₀ : Heap} {outer : List Env} {L : Addr} {m : Str → Option Value} {env : Env} {K : Frag}
  {R : Result → Shared → Prop} {name qual : Str} {params : Arguments} {body : List Stmt} {scope : Scope} {dV kV doc pm cdv ct oc : Value} {an od : Option Addr} {osl : Array (Option Value)} {f : Addr} {args : Args} {binds : List (Str × Value)}
  {p : Program} {loose : List Str} {mean : ExcName → Option Value} {mg mb : Str → Option Value}

/-- a def without cells is entered: all that stands is its ground -/
theorem raw_def (B : Below A₀ base outer h₀) (F : Fr h₀ L s.heap m) (X₀ : K.In h₀) (T : Top p loose mean mg mb h₀) (hA : A.frames = some (env :: outer)) (hf : env.frame = some L) (hke : env.scope.kind = .function)
    (ho : K.lookup f = some ⟨oc, od, .func (fnOf name qual params body scope dV kV doc pm an cdv ct), osl⟩) (hcd : codeIn K cdv qual = true) (hroom : A.depth < recursionLimit)
    (hbind : BindsTo s (fnOf name qual params body scope dV kV doc pm an cdv ct) args binds) (hloc : ∀ y ∈ binds, scope.names.lookup y.1 = some .local)
    (h : ∀ g L' h₁, g = s.heap → Fr g L' h₁ (fun y => binds.reverse.lookup y) → News g L' h₁ [] → Below A base (env :: outer) g → K.In g → Top p loose mean mg mb g →
      wpAny (model prog w) (A.deeper (envOf qual scope L' f cdv)) (execs body (envOf qual scope L' f cdv))
        (fun fl s' => R (.ok (.ret (match fl with | .ret v => v | _ => .none))) s') (fun _ _ => False)
        { s with heap := h₁, toks := s.toks + binds.length })
    (hco : scope.isCoroutine = false) (hgen : scope.isGenerator = false) (hk : scope.kind = .function)
    (hcell : ∀ x ∈ scope.names, x.2 ≠ .cell) : codeAny (model prog w) A (.call (.ref f) args) R s := by
  have B₁ := pushX B F hf hke
  have X := X₀.keeps F.keep
  refine codeAny_call_def (fd := fnX name qual params body scope [] dV kV doc pm an cdv ct) (body := body) (binds := binds) hroom (X _ _ ho) rfl (T.nolimit.keeps F.keep) (codeRec_of X hcd) rfl hbind hcell hloc (fun h₁ hns hk₁ => ?_) hco hgen hk
  exact wpAny_noRaise <| h s.heap s.heap.objs.size h₁ rfl ⟨hns, hk₁, Nat.le_refl _⟩ News.nil ⟨hA, B₁.stays, B₁.frames⟩ X (T.keeps F.keep)

/-- a def with cells -/
theorem raw_defC (B : Below A₀ base outer h₀) (F : Fr h₀ L s.heap m) (X₀ : K.In h₀) (T : Top p loose mean mg mb h₀) (hA : A.frames = some (env :: outer)) (hf : env.frame = some L) (hke : env.scope.kind = .function)
    (ho : K.lookup f = some ⟨oc, od, .func (fnOf name qual params body scope dV kV doc pm an cdv ct), osl⟩) (hcd : codeIn K cdv qual = true) (hroom : A.depth < recursionLimit)
    (hbind : BindsTo s (fnOf name qual params body scope dV kV doc pm an cdv ct) args binds) (hkind : (binds.all fun y => scope.names.lookup y.1 == some .local || scope.names.lookup y.1 == some .cell) = true)
    (hnd : ((cellsFrom 0 scope.names []).map (·.1)).Nodup)
    (h : ∀ g L' h₁ tk cells, g = s.heap → Fr g L' h₁ (bindL (envOfC qual scope L' f cdv).kindOf binds fun _ => none) → News g L' h₁ cells →
      CellsAre (bindC (envOfC qual scope L' f cdv).kindOf binds fun _ => none) (cellsFrom (L' + 1) scope.names []) cells → Below A base (env :: outer) g → K.In g → Top p loose mean mg mb g →
      wpAny (model prog w) (A.deeper (envOfC qual scope L' f cdv)) (execs body (envOfC qual scope L' f cdv))
        (fun fl s' => R (.ok (.ret (match fl with | .ret v => v | _ => .none))) s') (fun _ _ => False)
        { s with heap := h₁, toks := tk })
    (hco : scope.isCoroutine = false) (hgen : scope.isGenerator = false) (hk : scope.kind = .function) : codeAny (model prog w) A (.call (.ref f) args) R s := by
  have B₁ := pushX B F hf hke
  have X := X₀.keeps F.keep
  refine codeAny_call_function hroom (X _ _ ho) rfl hco hgen rfl (codeRec_of X hcd) (hbind _ _ _ _ ?_)
  refine wpAny_newFunctionEnv_cells hk (kindsX hkind _) fun env' he s' x => ?_
  subst he
  refine ⟨(T.nolimit.keeps F.keep).keeps x.toInCall.keep, codeAny_func ?_⟩
  obtain ⟨h₁, tk, rfl, _⟩ := x.done
  have hk₁ := x.toInCall.keep
  obtain ⟨cells, NC, Y⟩ := Cl.news (h₀ := s.heap) (Nat.le_refl _) fun n c hm => ⟨x.cell n c (lookup_of_mem_nodup (cellsFrom_names scope.names 0 (s.heap.objs.size + 1) [] [] rfl ▸ hnd) hm), x.above n c hm⟩
  exact wpAny_noRaise <| h s.heap s.heap.objs.size h₁ tk cells rfl ⟨x.toInCall.ns, hk₁, Nat.le_refl _⟩ NC Y ⟨hA, B₁.stays, B₁.frames⟩ X (T.keeps F.keep)
end

theorem mset {m : Str → Option Value} {x : Str} {v : Value} (h : m x = some v) : m = fun y => if y = x then some v else m y := by
  funext y
  by_cases e : y = x
  · rw [if_pos e, e, h]
  · rw [if_neg e]

section
variable {prog : Program} {w : World} {A : Around} {s : Shared} {env : Env} {h₀ : Heap}

/-- how a turn ends -/
def TurnW (h₀ : Heap) (L : Addr) (fp : List Addr) (own : List (Addr × Obj)) (J : (Str → Option Value) → List (Addr × Obj) → Prop) (s : Shared) (Q : Flow → Shared → Prop) (f : Flow) (s' : Shared) : Prop :=
  match f with
  | .ret v => Q (.ret v) s'
  | .brk => Q .next s'
  | _ => ∃ h' tk' m' news', s' = { s with heap := h', toks := tk' } ∧ Fr h₀ L h' m' ∧ News h₀ L h' (news' ++ own) ∧ (∀ p ∈ news', p.1 ∉ fp) ∧ J m' news'
theorem TurnW.next {L : Addr} {fp : List Addr} {own news' : List (Addr × Obj)} {J : (Str → Option Value) → List (Addr × Obj) → Prop} {Q : Flow → Shared → Prop} {h' : Heap} {tk' : Nat} {m' : Str → Option Value}
    (F : Fr h₀ L h' m') (N : News h₀ L h' (news' ++ own)) (ho : ∀ p ∈ news', p.1 ∉ fp) (hJ : J m' news') : TurnW h₀ L fp own J s Q .next { s with heap := h', toks := tk' } := ⟨h', tk', m', news', rfl, F, N, ho, hJ⟩
theorem TurnW.cont {L : Addr} {fp : List Addr} {own news' : List (Addr × Obj)} {J : (Str → Option Value) → List (Addr × Obj) → Prop} {Q : Flow → Shared → Prop} {h' : Heap} {tk' : Nat} {m' : Str → Option Value}
    (F : Fr h₀ L h' m') (N : News h₀ L h' (news' ++ own)) (ho : ∀ p ∈ news', p.1 ∉ fp) (hJ : J m' news') : TurnW h₀ L fp own J s Q .cont { s with heap := h', toks := tk' } := ⟨h', tk', m', news', rfl, F, N, ho, hJ⟩

def LoopW (prog : Program) (w : World) (A : Around) (h₀ : Heap) (env : Env) (x : Str) (body orelse : List Stmt) (Q : Flow → Shared → Prop) (it : Value) (s : Shared) : Prop :=
  ∃ (I : Addr) (fp wr : List Addr) (n : Nat) (P : Nat → Value → Prop) (St : Nat → Heap → Prop) (m : Str → Option Value) (news : List (Addr × Obj)) (J : Nat → (Str → Option Value) → List (Addr × Obj) → Prop),
    it = .ref I ∧ Walks prog w A I fp wr n P St ∧ env.locals ∉ fp ∧ (∀ b ∈ wr, h₀.get? b = none) ∧ (∀ p ∈ news, p.1 ∉ fp) ∧ St 0 s.heap ∧ Fr h₀ env.locals s.heap m ∧ News h₀ env.locals s.heap news ∧ J 0 m news ∧
    (∀ i v m₁ news₁ h tk own, i < n → P i v → J i m₁ news₁ → (∀ p ∈ news₁, p.1 ∉ fp) → (∀ p ∈ own, p.1 ∈ fp) → Fr h₀ env.locals h (fun y => if y = x then some v else m₁ y) → News h₀ env.locals h (news₁ ++ own) →
      wpAny (model prog w) A (execs body env) (TurnW h₀ env.locals fp own (J (i + 1)) { s with heap := h, toks := tk } Q) (fun _ _ => False) { s with heap := h, toks := tk }) ∧
    (∀ h tk m₁ news₁, J n m₁ news₁ → Fr h₀ env.locals h m₁ → News h₀ env.locals h news₁ → wpAny (model prog w) A (execs orelse env) Q (fun _ _ => False) { s with heap := h, toks := tk })

theorem For_W {Q : Flow → Shared → Prop} {x : Str} {px pos : Pos} {iter : Expr} {body orelse : List Stmt} (h₀ : Heap) (hx : env.kindOf x = some .local)
    (hp : (env.scope.kind == .class || (env.scope.kind == .module && env.locals != env.globals)) = false)
    (h : wpAny (model prog w) A (eval iter env) (fun xv s₁ => wpAny (model prog w) A (pyIter xv) (fun it s₂ => LoopW prog w A h₀ env x body orelse Q it s₂) (fun _ _ => False) s₁) (fun _ _ => False) s)
    (hs : ∀ x, foldedSetIterable iter env x = pure x := by intro _; rfl) :
    wpAny (model prog w) A (exec (.For (.Name x px) iter body orelse pos) env) Q (fun _ _ => False) s := by
  refine wpAny_For (wpAny_mono h (fun xv s₁ h₁ => wpAny_mono h₁ (fun it s₂ h₂ => ?_) fun _ _ e => e) fun _ _ e => e) hs
  obtain ⟨I, fp, wr, n, P, St, m, news, J, rfl, W, hLf, hwr, hnf, hst, F, N, h0, turn, done⟩ := h₂
  have hLw : env.locals ∉ wr := fun h => hLf (W.sub _ h)
  have old : ∀ b o, h₀.get? b = some o → b ∉ wr := fun b o e hb => by rw [hwr b hb] at e; cases e
  refine codeAny_forLoop
    (fun k s' => ∃ h' tk m' news' i, s' = { s₂ with heap := h', toks := tk } ∧ St i h' ∧ Fr h₀ env.locals h' m' ∧ News h₀ env.locals h' news' ∧ (∀ p ∈ news', p.1 ∉ fp) ∧ J i m' news' ∧ i ≤ n ∧ k = n + 1 - i) ?_ (n + 1)
    ⟨s₂.heap, s₂.toks, m, news, 0, rfl, hst, F, N, hnf, h0, Nat.zero_le _, rfl⟩
  rintro k s' ⟨h', tk, m', news', i, rfl, hst', F', N', hnf', hJ, hi, rfl⟩
  have next : ∀ h₁ : Heap, (∀ b o, b ∉ wr → h'.get? b = some o → h₁.get? b = some o) → Fr h₀ env.locals h₁ m' ∧ News h₀ env.locals h₁ news' := fun h₁ hk₁ =>
    ⟨⟨F'.ns.at' fun o e => hk₁ _ o hLw e, fun b o e => hk₁ b o (old b o e) (F'.keep b o e), F'.above⟩, fun p hp => ⟨hk₁ _ _ (fun q => hnf' p hp (W.sub _ q)) (N' p hp).1, (N' p hp).2⟩⟩
  by_cases hlt : i < n
  · refine W.item i _ _ _ hlt hst' fun v h₁ tk₁ hP hst₁ hk₁ => ?_
    obtain ⟨F₁, N₁⟩ := next h₁ hk₁
    refine wpAny_assign_Name (wpAny_storeName_local hx F₁.ns (fun h₂ hn₂ hs₂ => ?_) hp)
    have F₂ := F₁.set hn₂ hs₂
    have N₂ := N₁.set hs₂
    have Nown : News h₀ env.locals h₂ (ownOf h₀ fp h₂) := news_ownOf hLf
    have hst₂ : St (i + 1) h₂ := W.frame _ _ _ hst₁ fun b hb o e => (hs₂.2 b fun q => hLf (q ▸ hb)).trans e
    have up : ∀ s₃ f, TurnW h₀ env.locals fp (ownOf h₀ fp h₂) (J (i + 1)) { s₂ with heap := h₂, toks := tk₁ + 1 } Q f s₃ →
        (match f with
          | .next | .cont => ∃ m, m < n + 1 - i ∧ (∃ h' tk m' news' j, s₃ = { s₂ with heap := h', toks := tk } ∧ St j h' ∧ Fr h₀ env.locals h' m' ∧ News h₀ env.locals h' news' ∧ (∀ p ∈ news', p.1 ∉ fp) ∧ J j m' news' ∧ j ≤ n ∧ m = n + 1 - j)
          | .brk => Q .next s₃
          | .ret v => Q (.ret v) s₃) := by
      intro s₃ f h₃
      have go : (∃ h' tk' m' news', s₃ = { s₂ with heap := h', toks := tk' } ∧ Fr h₀ env.locals h' m' ∧ News h₀ env.locals h' (news' ++ ownOf h₀ fp h₂) ∧ (∀ p ∈ news', p.1 ∉ fp) ∧ J (i + 1) m' news') →
          ∃ m, m < n + 1 - i ∧ (∃ h' tk m' news' j, s₃ = { s₂ with heap := h', toks := tk } ∧ St j h' ∧ Fr h₀ env.locals h' m' ∧ News h₀ env.locals h' news' ∧ (∀ p ∈ news', p.1 ∉ fp) ∧ J j m' news' ∧ j ≤ n ∧ m = n + 1 - j) := by
        rintro ⟨g₃, tk₃, m₃, news₃, rfl, F₃, N₃, ho₃, hJ₃⟩
        refine ⟨n + 1 - (i + 1), by omega, g₃, tk₃, m₃, news₃, i + 1, rfl, ?_, F₃, fun p hp => N₃ p (List.mem_append_left _ hp), ho₃, hJ₃, hlt, rfl⟩
        refine W.frame _ _ _ hst₂ fun b hb o e => ?_
        cases hn : h₀.get? b with
        | some o₀ =>
          have : o₀ = o := by have := F₂.keep b o₀ hn; rw [e] at this; exact (Option.some.inj this).symm
          exact this ▸ F₃.keep b o₀ hn
        | none => exact (N₃ _ (List.mem_append_right _ (mem_ownOf hb hn e))).1
      cases f with
      | ret v => exact h₃
      | brk => exact h₃
      | cont => exact go h₃
      | next => exact go h₃
    exact wpAny_mono (turn i v m' news' h₂ (tk₁ + 1) (ownOf h₀ fp h₂) hlt hP hJ hnf' ownOf_sub F₂ (N₂.append Nown)) (fun f s₃ h₃ => up s₃ f h₃) fun _ _ e => e.elim
  · have hin : i = n := by omega
    subst hin
    refine W.done _ _ _ hst' fun h₁ tk₁ hk₁ => ?_
    obtain ⟨F₁, N₁⟩ := next h₁ hk₁
    exact wpAny_mono (done h₁ tk₁ m' news' hJ F₁ N₁) (fun _ _ x => x) fun _ _ e => e.elim
end
end Mine
end
-- part Loops
section
open PySem PySem.W PyProof.Rows PySem.Calls
set_option Elab.async false
set_option maxRecDepth 100000
set_option maxHeartbeats 8000000
namespace Mine
section
variable {prog : Program} {w : World} {A : Around} {s : Shared} {env : Env} {h₀ : Heap}

/-- how a turn ends, over a ledger of the same addresses -/
def TurnN (h₀ : Heap) (L : Addr) (own : List (Addr × Obj)) (adr : List Addr) (J : (Str → Option Value) → List (Addr × Obj) → Prop) (s : Shared) (Q : Flow → Shared → Prop) (f : Flow) (s' : Shared) : Prop :=
  match f with
  | .ret v => Q (.ret v) s'
  | .brk => Q .next s'
  | _ => ∃ h' tk' m' news', s' = { s with heap := h', toks := tk' } ∧ Fr h₀ L h' m' ∧ News h₀ L h' (news' ++ own) ∧ news'.map (·.1) = adr ∧ J m' news'
theorem TurnN.next {L : Addr} {adr : List Addr} {own news' : List (Addr × Obj)} {J : (Str → Option Value) → List (Addr × Obj) → Prop} {Q : Flow → Shared → Prop} {h' : Heap} {tk' : Nat} {m' : Str → Option Value}
    (F : Fr h₀ L h' m') (N : News h₀ L h' (news' ++ own)) (ha : news'.map (·.1) = adr) (hJ : J m' news') : TurnN h₀ L own adr J s Q .next { s with heap := h', toks := tk' } := ⟨h', tk', m', news', rfl, F, N, ha, hJ⟩

theorem TurnN.next1 {L l : Addr} {o : Obj} {adr : List Addr} {own : List (Addr × Obj)} {J : (Str → Option Value) → List (Addr × Obj) → Prop} {Q : Flow → Shared → Prop} {h' : Heap} {tk' : Nat} {m' : Str → Option Value}
    (F : Fr h₀ L h' m') (N : News h₀ L h' ((l, o) :: own)) (ha : [l] = adr) (hJ : J m' [(l, o)]) : TurnN h₀ L own adr J s Q .next { s with heap := h', toks := tk' } := ⟨h', tk', m', [(l, o)], rfl, F, N, ha, hJ⟩
theorem TurnN.next0 {L : Addr} {adr : List Addr} {own : List (Addr × Obj)} {J : (Str → Option Value) → List (Addr × Obj) → Prop} {Q : Flow → Shared → Prop} {h' : Heap} {tk' : Nat} {m' : Str → Option Value}
    (F : Fr h₀ L h' m') (N : News h₀ L h' own) (ha : [] = adr) (hJ : J m' []) : TurnN h₀ L own adr J s Q .next { s with heap := h', toks := tk' } := ⟨h', tk', m', [], rfl, F, N, ha, hJ⟩

theorem loopW_of {I : Addr} {fp wr : List Addr} {n : Nat} {P : Nat → Value → Prop} {St : Nat → Heap → Prop} {m : Str → Option Value} {news : List (Addr × Obj)} {x : Str} {body orelse : List Stmt} {Q : Flow → Shared → Prop}
    (J : Nat → (Str → Option Value) → List (Addr × Obj) → Prop) (W : Walks prog w A I fp wr n P St) (hL : env.locals ∉ fp) (hwr : ∀ b ∈ wr, h₀.get? b = none) (hfp : ∀ p ∈ news, p.1 ∉ fp) (hst : St 0 s.heap)
    (F : Fr h₀ env.locals s.heap m) (N : News h₀ env.locals s.heap news) (h0 : J 0 m news)
    (turn : ∀ i v m₁ news₁ h tk own, i < n → P i v → J i m₁ news₁ → news₁.map (·.1) = news.map (·.1) → OwnOff own (news.map (·.1)) → Fr h₀ env.locals h (fun y => if y = x then some v else m₁ y) → News h₀ env.locals h (news₁ ++ own) →
      wpAny (model prog w) A (execs body env) (TurnN h₀ env.locals own (news.map (·.1)) (J (i + 1)) { s with heap := h, toks := tk } Q) (fun _ _ => False) { s with heap := h, toks := tk })
    (done : ∀ h tk m₁ news₁, J n m₁ news₁ → news₁.map (·.1) = news.map (·.1) → Fr h₀ env.locals h m₁ → News h₀ env.locals h news₁ → wpAny (model prog w) A (execs orelse env) Q (fun _ _ => False) { s with heap := h, toks := tk }) :
    LoopW prog w A h₀ env x body orelse Q (.ref I) s := by
  refine ⟨I, fp, wr, n, P, St, m, news, fun i m₁ news₁ => news₁.map (·.1) = news.map (·.1) ∧ J i m₁ news₁, rfl, W, hL, hwr, hfp, hst, F, N, ⟨rfl, h0⟩, ?_, ?_⟩
  · rintro i v m₁ news₁ h tk own hi hP ⟨ha, hJ⟩ hoff hown F₁ N₁
    have hsep : OwnOff own (news.map (·.1)) := by
      intro p hp b hb e
      obtain ⟨q, hq, rfl⟩ := List.mem_map.mp hb
      exact hfp q hq (e ▸ hown p hp)
    refine wpAny_mono (turn i v m₁ news₁ h tk own hi hP hJ ha hsep F₁ N₁) (fun f s' ht => ?_) fun _ _ e => e
    have go : (∃ h' tk' m' news', s' = { s with heap := h', toks := tk' } ∧ Fr h₀ env.locals h' m' ∧ News h₀ env.locals h' (news' ++ own) ∧ news'.map (·.1) = news.map (·.1) ∧ J (i + 1) m' news') →
        ∃ h' tk' m' news', s' = { s with heap := h', toks := tk' } ∧ Fr h₀ env.locals h' m' ∧ News h₀ env.locals h' (news' ++ own) ∧ (∀ p ∈ news', p.1 ∉ fp) ∧ (news'.map (·.1) = news.map (·.1) ∧ J (i + 1) m' news') := by
      rintro ⟨h', tk', m', news', e, F', N', ha', hJ'⟩
      refine ⟨h', tk', m', news', e, F', N', fun p hp hq => ?_, ha', hJ'⟩
      have h1 : p.1 ∈ news'.map (·.1) := List.mem_map.mpr ⟨p, hp, rfl⟩
      rw [ha'] at h1
      obtain ⟨q, hq1, hq2⟩ := List.mem_map.mp h1
      exact hfp q hq1 (by rw [hq2]; exact hq)
    cases f with
    | ret v => exact ht
    | brk => exact ht
    | next => exact go ht
    | cont => exact go ht
  · rintro h tk m₁ news₁ ⟨ha, hJ⟩ F₁ N₁
    exact done h tk m₁ news₁ hJ ha F₁ N₁

/-- over a range by ones -/
theorem range_W {r : Addr} {a b : Int} {t u v : Tok} {n : Nat} {m : Str → Option Value} {news : List (Addr × Obj)} {x : Str} {body orelse : List Stmt} {Q : Flow → Shared → Prop}
    (J : Nat → (Str → Option Value) → List (Addr × Obj) → Prop) (hh : A.handled = none) (hr : IsRange s.heap r a b 1 t u v) (hsmall : Builtin.Range.small a b 1 = true) (hn : Builtin.Range.rangeSize a b 1 = (n : Int))
    (F : Fr h₀ env.locals s.heap m) (N : News h₀ env.locals s.heap news) (h0 : J 0 m news)
    (turn : ∀ i t m₁ news₁ h tk own, i < n → J i m₁ news₁ → news₁.map (·.1) = news.map (·.1) → OwnOff own (news.map (·.1)) → Fr h₀ env.locals h (fun y => if y = x then some (.int (a + (i : Nat)) t) else m₁ y) → News h₀ env.locals h (news₁ ++ own) →
      wpAny (model prog w) A (execs body env) (TurnN h₀ env.locals own (news.map (·.1)) (J (i + 1)) { s with heap := h, toks := tk } Q) (fun _ _ => False) { s with heap := h, toks := tk })
    (done : ∀ h tk m₁ news₁, J n m₁ news₁ → news₁.map (·.1) = news.map (·.1) → Fr h₀ env.locals h m₁ → News h₀ env.locals h news₁ → wpAny (model prog w) A (execs orelse env) Q (fun _ _ => False) { s with heap := h, toks := tk }) :
    wpAny (model prog w) A (pyIter (.ref r)) (fun it s₂ => LoopW prog w A h₀ env x body orelse Q it s₂) (fun _ _ => False) s := by
  refine wpAny_pyIter_range hr hsmall ?_
  have W := Walks.range (prog := prog) (w := w) hh s.heap.objs.size a 1 n
  refine loopW_of J W ?_ ?_ ?_ (by show IsRangeIter _ _ _ _ _; rw [hn]; simpa using Heap.get?_push_size _ rfl) (F.push _) (fun p hp => ⟨Heap.get?_push_of_some _ (N p hp).1, (N p hp).2⟩) h0 ?_ ?_
  · intro hm
    exact absurd F.ns.lt ((List.mem_singleton.mp hm) ▸ Nat.lt_irrefl _)
  · intro b hb
    rw [List.mem_singleton.mp hb]
    exact next_is_new F
  · intro p hp hI
    exact absurd (Heap.lt_size (N p hp).1) ((List.mem_singleton.mp hI) ▸ Nat.lt_irrefl _)
  · rintro i v m₁ news₁ h tk own hi ⟨t, rfl⟩ hJ ha hoff F₁ N₁
    rw [Int.mul_one] at F₁
    exact turn i t m₁ news₁ h tk own hi hJ ha hoff F₁ N₁
  · exact fun h tk m₁ news₁ hJ ha F₁ N₁ => done h tk m₁ news₁ hJ ha F₁ N₁

/-- over a text -/
theorem str_W {y : Str} {t : Tok} {m : Str → Option Value} {news : List (Addr × Obj)} {x : Str} {body orelse : List Stmt} {Q : Flow → Shared → Prop}
    (J : Nat → (Str → Option Value) → List (Addr × Obj) → Prop) (hh : A.handled = none)
    (F : Fr h₀ env.locals s.heap m) (N : News h₀ env.locals s.heap news) (h0 : J 0 m news)
    (turn : ∀ i v m₁ news₁ h tk own, i < y.cps.size → SignAt y i v → J i m₁ news₁ → news₁.map (·.1) = news.map (·.1) → OwnOff own (news.map (·.1)) → Fr h₀ env.locals h (fun z => if z = x then some v else m₁ z) → News h₀ env.locals h (news₁ ++ own) →
      wpAny (model prog w) A (execs body env) (TurnN h₀ env.locals own (news.map (·.1)) (J (i + 1)) { s with heap := h, toks := tk } Q) (fun _ _ => False) { s with heap := h, toks := tk })
    (done : ∀ h tk m₁ news₁, J y.cps.size m₁ news₁ → news₁.map (·.1) = news.map (·.1) → Fr h₀ env.locals h m₁ → News h₀ env.locals h news₁ → wpAny (model prog w) A (execs orelse env) Q (fun _ _ => False) { s with heap := h, toks := tk }) :
    wpAny (model prog w) A (pyIter (.str y t)) (fun it s₂ => LoopW prog w A h₀ env x body orelse Q it s₂) (fun _ _ => False) s := by
  refine wpAny_pyIter_str fun o St W hst => ?_
  refine loopW_of J (W A hh) ?_ ?_ ?_ hst (F.push _) (fun p hp => ⟨Heap.get?_push_of_some _ (N p hp).1, (N p hp).2⟩) h0 ?_ ?_
  · intro hm
    exact absurd F.ns.lt ((List.mem_singleton.mp hm) ▸ Nat.lt_irrefl _)
  · intro b hb
    rw [List.mem_singleton.mp hb]
    exact next_is_new F
  · intro p hp hI
    exact absurd (Heap.lt_size (N p hp).1) ((List.mem_singleton.mp hI) ▸ Nat.lt_irrefl _)
  · exact fun i v m₁ news₁ h tk own hi hP hJ ha hoff F₁ N₁ => turn i v m₁ news₁ h tk own hi hP hJ ha hoff F₁ N₁
  · exact fun h tk m₁ news₁ hJ ha F₁ N₁ => done h tk m₁ news₁ hJ ha F₁ N₁
end
end Mine
end
-- part Bits
section
open PySem
set_option Elab.async false
namespace Mine

/-- bit k of an int, as two's complement has it -/
def ib (x : Int) (k : Nat) : Bool := decide (x / 2 ^ k % 2 = 1)

theorem ib_nat (n k : Nat) : ib (n : Int) k = n.testBit k := by
  unfold ib
  rw [Nat.testBit_eq_decide_div_mod_eq]
  have : ((n : Int) / 2 ^ k % 2) = ((n / 2 ^ k % 2 : Nat) : Int) := by push_cast; rfl
  rw [this]
  have h2 : (((n / 2 ^ k % 2 : Nat) : Int) = 1) ↔ (n / 2 ^ k % 2 = 1) := by omega
  exact decide_eq_decide.mpr h2

theorem div_neg_pow (n k : Nat) : (-(n : Int) - 1) / 2 ^ k = -((n / 2 ^ k : Nat) : Int) - 1 := by
  have hp : (0 : Int) < 2 ^ k := by exact_mod_cast Nat.two_pow_pos k
  have hn : 0 < 2 ^ k := Nat.two_pow_pos k
  have e : (-(n : Int) - 1) = (-((n / 2 ^ k : Nat) : Int) - 1) * 2 ^ k + (2 ^ k - 1 - ((n % 2 ^ k : Nat) : Int)) := by
    have := Nat.div_add_mod n (2 ^ k)
    have h2 : (n : Int) = 2 ^ k * ((n / 2 ^ k : Nat) : Int) + ((n % 2 ^ k : Nat) : Int) := by exact_mod_cast this.symm
    rw [Int.sub_mul, Int.neg_mul, Int.one_mul, Int.mul_comm ((n / 2 ^ k : Nat) : Int)]
    omega
  rw [e, Int.add_comm, Int.add_mul_ediv_right _ _ (by omega)]
  have hm : n % 2 ^ k < 2 ^ k := Nat.mod_lt _ hn
  have hm' : ((n % 2 ^ k : Nat) : Int) < 2 ^ k := by exact_mod_cast hm
  rw [Int.ediv_eq_zero_of_lt (by omega) (by omega)]
  omega

theorem ib_neg (n k : Nat) : ib (-(n : Int) - 1) k = !n.testBit k := by
  unfold ib
  rw [div_neg_pow, Nat.testBit_eq_decide_div_mod_eq]
  generalize n / 2 ^ k = q
  by_cases h : q % 2 = 1
  · have h1 : ¬ (-(q : Int) - 1) % 2 = 1 := by omega
    simp [h, h1]
  · have h1 : (-(q : Int) - 1) % 2 = 1 := by omega
    simp [h, h1]

theorem int_cases (x : Int) : (∃ n : Nat, x = n) ∨ ∃ n : Nat, x = -(n : Int) - 1 := by
  by_cases h : 0 ≤ x
  · exact .inl ⟨x.toNat, by omega⟩
  · exact .inr ⟨(-x - 1).toNat, by omega⟩

theorem ib_ext {x y : Int} (h : ∀ k, ib x k = ib y k) : x = y := by
  have big : ∀ n m : Nat, (∀ k, n.testBit k = !m.testBit k) → False := by
    intro n m h
    have h1 := h (n + m + 1)
    have hn : n < 2 ^ (n + m + 1) := Nat.lt_of_lt_of_le (Nat.lt_two_pow_self) (Nat.pow_le_pow_right (by omega) (by omega))
    have hm : m < 2 ^ (n + m + 1) := Nat.lt_of_lt_of_le (Nat.lt_two_pow_self) (Nat.pow_le_pow_right (by omega) (by omega))
    rw [Nat.testBit_lt_two_pow hn, Nat.testBit_lt_two_pow hm] at h1
    cases h1
  rcases int_cases x with ⟨n, rfl⟩ | ⟨n, rfl⟩ <;> rcases int_cases y with ⟨m, rfl⟩ | ⟨m, rfl⟩
  · simp only [ib_nat] at h
    rw [Nat.eq_of_testBit_eq h]
  · simp only [ib_nat, ib_neg] at h
    exact (big n m h).elim
  · simp only [ib_nat, ib_neg] at h
    exact (big m n fun k => (h k).symm).elim
  · simp only [ib_neg] at h
    have : n = m := Nat.eq_of_testBit_eq fun k => by have := h k; simpa using this
    rw [this]

theorem ib_not (x : Int) (k : Nat) : ib (Builtin.bitNot x) k = !ib x k := by
  rcases int_cases x with ⟨n, rfl⟩ | ⟨n, rfl⟩
  · show ib (-(n : Int) - 1) k = _
    rw [ib_neg, ib_nat]
  · have : Builtin.bitNot (-(n : Int) - 1) = (n : Int) := by unfold Builtin.bitNot; omega
    rw [this, ib_nat, ib_neg, Bool.not_not]

theorem or_add : ∀ n m : Nat, (n ||| m) + (n &&& m) = n + m := by
  intro n
  induction n using Nat.strongRecOn with
  | ind n ih =>
    intro m
    by_cases hn : n = 0
    · subst hn; simp
    · have h := ih (n / 2) (by omega) (m / 2)
      have e1 := Nat.or_div_two (a := n) (b := m)
      have e2 := Nat.and_div_two (a := n) (b := m)
      rw [← e1, ← e2] at h
      have o := congrArg (· = true) (Nat.testBit_or n m 0)
      have a := congrArg (· = true) (Nat.testBit_and n m 0)
      simp only [Nat.testBit_zero, Bool.or_eq_true, Bool.and_eq_true, decide_eq_true_eq, eq_iff_iff] at o a
      by_cases h1 : n % 2 = 1 <;> by_cases h2 : m % 2 = 1 <;> simp only [h1, h2, true_or, or_true, or_self, and_true, true_and, and_self, false_and, and_false, iff_true, iff_false] at o a <;> omega
theorem add_or {n m : Nat} (h : n &&& m = 0) : n + m = n ||| m := by
  have := or_add n m
  omega
theorem nat_sub_and (a b : Nat) : a - (a &&& b) = a ^^^ (a &&& b) := by
  have h : (a ^^^ (a &&& b)) + (a &&& b) = a := by
    have hd : (a ^^^ (a &&& b)) &&& (a &&& b) = 0 := by
      apply Nat.eq_of_testBit_eq
      intro k
      simp only [Nat.testBit_and, Nat.testBit_xor, Nat.zero_testBit]
      cases a.testBit k <;> cases b.testBit k <;> rfl
    have h1 := add_or hd
    rw [h1]
    apply Nat.eq_of_testBit_eq
    intro k
    simp only [Nat.testBit_or, Nat.testBit_and, Nat.testBit_xor]
    cases a.testBit k <;> cases b.testBit k <;> rfl
  omega

theorem ib_and (x y : Int) (k : Nat) : ib (Builtin.bitAnd x y) k = (ib x k && ib y k) := by
  rcases int_cases x with ⟨n, rfl⟩ | ⟨n, rfl⟩ <;> rcases int_cases y with ⟨m, rfl⟩ | ⟨m, rfl⟩
  · have : Builtin.bitAnd (n : Int) (m : Int) = ((n &&& m : Nat) : Int) := by
      unfold Builtin.bitAnd
      simp [Int.natCast_nonneg]
    rw [this, ib_nat, ib_nat, ib_nat, Nat.testBit_and]
  · have hneg : ¬ (0 : Int) ≤ -(m : Int) - 1 := by omega
    have : Builtin.bitAnd (n : Int) (-(m : Int) - 1) = ((n ^^^ (n &&& m) : Nat) : Int) := by
      unfold Builtin.bitAnd Builtin.bitNot
      have e : (-(-(m : Int) - 1) - 1).toNat = m := by omega
      simp only [Int.natCast_nonneg, hneg, decide_true, decide_false, e, Int.toNat_natCast]
      rw [← nat_sub_and]
      have := Nat.and_le_left (n := n) (m := m)
      omega
    rw [this, ib_nat, ib_nat, ib_neg, Nat.testBit_xor, Nat.testBit_and]
    cases n.testBit k <;> cases m.testBit k <;> rfl
  · have hneg : ¬ (0 : Int) ≤ -(n : Int) - 1 := by omega
    have : Builtin.bitAnd (-(n : Int) - 1) (m : Int) = ((m ^^^ (m &&& n) : Nat) : Int) := by
      unfold Builtin.bitAnd Builtin.bitNot
      have e : (-(-(n : Int) - 1) - 1).toNat = n := by omega
      simp only [Int.natCast_nonneg, hneg, decide_true, decide_false, e, Int.toNat_natCast]
      rw [← nat_sub_and]
      have := Nat.and_le_left (n := m) (m := n)
      omega
    rw [this, ib_nat, ib_nat, ib_neg, Nat.testBit_xor, Nat.testBit_and]
    cases n.testBit k <;> cases m.testBit k <;> rfl
  · have hn : ¬ (0 : Int) ≤ -(n : Int) - 1 := by omega
    have hm : ¬ (0 : Int) ≤ -(m : Int) - 1 := by omega
    have : Builtin.bitAnd (-(n : Int) - 1) (-(m : Int) - 1) = -((n ||| m : Nat) : Int) - 1 := by
      unfold Builtin.bitAnd Builtin.bitNot
      have e : (-(-(n : Int) - 1) - 1).toNat = n := by omega
      have e' : (-(-(m : Int) - 1) - 1).toNat = m := by omega
      simp only [hn, hm, decide_false, e, e']
    rw [this, ib_neg, ib_neg, ib_neg, Nat.testBit_or]
    cases n.testBit k <;> cases m.testBit k <;> rfl

theorem ib_or (x y : Int) (k : Nat) : ib (Builtin.bitOr x y) k = (ib x k || ib y k) := by
  unfold Builtin.bitOr
  rw [ib_not, ib_and, ib_not, ib_not]
  cases ib x k <;> cases ib y k <;> rfl

/-- the bits of disjoint ints' sum -/
theorem add_disj {x y : Int} (h : ∀ k, (ib x k && ib y k) = false) (hx : 0 ≤ x) (hy : 0 ≤ y) : x + y = Builtin.bitOr x y := by
  obtain ⟨n, rfl⟩ : ∃ n : Nat, x = n := ⟨x.toNat, by omega⟩
  obtain ⟨m, rfl⟩ : ∃ m : Nat, y = m := ⟨y.toNat, by omega⟩
  have hd : n &&& m = 0 := Nat.eq_of_testBit_eq fun k => by
    have := h k
    rw [ib_nat, ib_nat] at this
    rw [Nat.testBit_and, this, Nat.zero_testBit]
  apply ib_ext
  intro k
  rw [ib_or, ib_nat, ib_nat]
  have : ((n : Int) + (m : Int)) = ((n + m : Nat) : Int) := by push_cast; rfl
  rw [this, ib_nat, add_or hd, Nat.testBit_or]

theorem ib_pow (i k : Nat) : ib (2 ^ i) k = decide (i = k) := by
  have : ((2 : Int) ^ i) = ((2 ^ i : Nat) : Int) := by push_cast; rfl
  rw [this, ib_nat, Nat.testBit_two_pow]

theorem ib_zero (k : Nat) : ib 0 k = false := by
  have := ib_nat 0 k
  simpa using this

/-- x * 2 ^ n -/
theorem ib_shl (x : Int) (n k : Nat) : ib (x * 2 ^ n) k = (decide (n ≤ k) && ib x (k - n)) := by
  have hc : ∀ a : Nat, ((2 : Int) ^ a) = ((2 ^ a : Nat) : Int) := fun a => by push_cast; rfl
  have hp : ∀ a : Nat, (0 : Int) < 2 ^ a := fun a => by rw [hc]; exact_mod_cast Nat.two_pow_pos a
  unfold ib
  by_cases h : n ≤ k
  · obtain ⟨d, rfl⟩ : ∃ d, k = n + d := ⟨k - n, by omega⟩
    have e : x * 2 ^ n / 2 ^ (n + d) = x / 2 ^ d := by
      rw [Int.pow_add, ← Int.ediv_ediv_of_nonneg (Int.le_of_lt (hp n)), Int.mul_ediv_cancel _ (Int.ne_of_gt (hp n))]
    rw [e]
    simp [Nat.add_sub_cancel_left]
  · obtain ⟨d, rfl⟩ : ∃ d, n = k + 1 + d := ⟨n - k - 1, by omega⟩
    have e : x * 2 ^ (k + 1 + d) / 2 ^ k = x * 2 ^ d * 2 := by
      have : x * 2 ^ (k + 1 + d) = x * 2 ^ d * 2 * 2 ^ k := by
        rw [show k + 1 + d = d + 1 + k by omega, Int.pow_add, Int.pow_succ]
        simp only [Int.mul_assoc]
      rw [this, Int.mul_ediv_cancel _ (Int.ne_of_gt (hp k))]
    rw [e]
    have : ¬ (x * 2 ^ d * 2 % 2 = 1) := by rw [Int.mul_emod_left]; decide
    simp [this, h]

/-- x / 2 ^ n, rounded down -/
theorem ib_shr (x : Int) (n k : Nat) : ib (x / 2 ^ n) k = ib x (k + n) := by
  have hc : ∀ a : Nat, ((2 : Int) ^ a) = ((2 ^ a : Nat) : Int) := fun a => by push_cast; rfl
  have hp : ∀ a : Nat, (0 : Int) < 2 ^ a := fun a => by rw [hc]; exact_mod_cast Nat.two_pow_pos a
  unfold ib
  rw [Int.ediv_ediv_of_nonneg (Int.le_of_lt (hp n)), ← Int.pow_add, Nat.add_comm]
end Mine
end
-- part Hex
section
open PySem PySem.W PyProof.Rows PySem.Calls
set_option Elab.async false
namespace Mine
set_option exponentiation.threshold 2000
theorem core_len : ∀ (fuel n k : Nat) (ds : List Char), n < 16 ^ (k + 1) → (Nat.toDigitsCore 16 fuel n ds).length ≤ ds.length + k + 1
  | 0, n, k, ds, _ => by simp only [Nat.toDigitsCore]; omega
  | fuel + 1, n, k, ds, h => by
    unfold Nat.toDigitsCore
    simp only
    split
    · simp only [List.length_cons]; omega
    · rename_i h0
      cases k with
      | zero => exact absurd (Nat.div_eq_of_lt (by simpa using h)) h0
      | succ k =>
        have h1 : n / 16 < 16 ^ (k + 1) := Nat.div_lt_of_lt_mul (by rw [Nat.pow_succ] at h; omega)
        have := core_len fuel (n / 16) k (Nat.digitChar (n % 16) :: ds) h1
        simp only [List.length_cons] at this
        omega
theorem hex_len {i : Int} {k : Nat} (h : i.natAbs < 16 ^ (k + 1)) : (baseText "0x" 16 i).length ≤ k + 5 := by
  unfold baseText
  rw [Str.length_append, Str.length_append, ofString_ofList_length (Nat.toDigits 16 i.natAbs)]
  have h1 : (Nat.toDigits 16 i.natAbs).length ≤ k + 1 := by
    have := core_len (i.natAbs + 1) i.natAbs k [] h
    simpa [Nat.toDigits] using this
  have h2 : (Str.ofString (if i < 0 then "-" else "")).length ≤ 1 := by split <;> decide
  have h3 : (Str.ofString "0x").length = 2 := by decide
  omega
theorem hex_fit {i : Int} (h : i.natAbs < 2 ^ 400) : (baseText "0x" 16 i).length ≤ 104 := hex_len (k := 99) (by
  have : (16 : Nat) ^ (99 + 1) = 2 ^ 400 := by decide +kernel
  omega)
section
variable {prog : Program} {w : World} {A : Around} {E : Value → Shared → Prop} {s : Shared}
theorem hex_walk {i : Int} {t : Tok} {Q : Value → Shared → Prop} (hb : i.natAbs < 2 ^ 400) (h : Q (.str (baseText "0x" 16 i) s.toks) { s with toks := s.toks + 1 }) :
    wpAny (model prog w) A (call (.builtin "hex") [.int i t]) Q E s := P.hex_of_int h (Nat.le_trans (hex_fit hb) (by rw [sizeLine_eq]; decide))
end
theorem flag_bound {i : Nat} (h : i < 32) : ((1 : Int) * 2 ^ (0 + (i : Int)).toNat).natAbs < 2 ^ 400 := by
  have e : (0 + (i : Int)).toNat = i := by omega
  rw [e, Int.one_mul, Int.natAbs_pow]
  exact Nat.pow_lt_pow_right (by decide) (by omega)
end Mine
end
-- part Tab
section
open PySem PySem.W PyProof.Rows PySem.Calls PyProof.V PySem.Spec
set_option Elab.async false
set_option maxRecDepth 100000
set_option maxHeartbeats 8000000
namespace Mine
def nm (k : Nat) : Str := match k with
  | 0 => Str.ofString "OPTIMIZED" | 1 => Str.ofString "NEWLOCALS" | 2 => Str.ofString "VARARGS" | 3 => Str.ofString "VARKEYWORDS" | 4 => Str.ofString "NESTED"
  | 5 => Str.ofString "GENERATOR" | 6 => Str.ofString "NOFREE" | 7 => Str.ofString "COROUTINE" | 8 => Str.ofString "ITERABLE_COROUTINE" | 9 => Str.ofString "ASYNC_GENERATOR"
  | k => baseText "0x" 16 (2 ^ k)
def tabD : List (Int × PyData) := [(1, .str (nm 0)), (2, .str (nm 1)), (4, .str (nm 2)), (8, .str (nm 3)), (16, .str (nm 4)), (32, .str (nm 5)), (64, .str (nm 6)), (128, .str (nm 7)), (256, .str (nm 8)), (512, .str (nm 9))]
theorem tab_K {w : World} {h : Heap} (X : Frag.In (hd.heap_39 w.params) h) : KTD.Keyed h 32 tabD := kt_keyed_in X (by kernel_rfl)
theorem nm_high {i : Nat} (h : 10 ≤ i) : nm i = baseText "0x" 16 (2 ^ i) := by
  unfold nm
  split <;> first | omega | rfl
theorem look_low {i : Nat} (h : i < 32) : (KTD.datumAt ((1 : Int) * 2 ^ (0 + (i : Int)).toNat) tabD) = if i < 10 then some (.str (nm i)) else none := by
  have e : (0 + (i : Int)).toNat = i := by omega
  rw [e, Int.one_mul]
  have : ∀ j : Fin 32, KTD.datumAt ((2 : Int) ^ j.val) tabD = if j.val < 10 then some (.str (nm j.val)) else none := by
    intro j
    match j with
    | ⟨0, _⟩ | ⟨1, _⟩ | ⟨2, _⟩ | ⟨3, _⟩ | ⟨4, _⟩ | ⟨5, _⟩ | ⟨6, _⟩ | ⟨7, _⟩ | ⟨8, _⟩ | ⟨9, _⟩ | ⟨10, _⟩ | ⟨11, _⟩ | ⟨12, _⟩ | ⟨13, _⟩ | ⟨14, _⟩ | ⟨15, _⟩ | ⟨16, _⟩ | ⟨17, _⟩ | ⟨18, _⟩ | ⟨19, _⟩
    | ⟨20, _⟩ | ⟨21, _⟩ | ⟨22, _⟩ | ⟨23, _⟩ | ⟨24, _⟩ | ⟨25, _⟩ | ⟨26, _⟩ | ⟨27, _⟩ | ⟨28, _⟩ | ⟨29, _⟩ | ⟨30, _⟩ | ⟨31, _⟩ => rfl
    | ⟨n + 32, h⟩ => omega
  exact this ⟨i, h⟩
theorem get_walk {prog : Program} {w : World} {A : Around} {E : Value → Shared → Prop} {s : Shared} {w' : World} {g : Heap} {i : Nat} {t u : Tok} {Q : Value → Shared → Prop} (hi : i < 32) (X : Frag.In (hd.heap_39 w'.params) g) (k : ∀ b o, g.get? b = some o → s.heap.get? b = some o)
    (h : ∀ t', Q (.str (nm i) t') { s with toks := s.toks + 1 }) :
    wpAny (model prog w) A (call (.builtin "dict.get") [.ref 32, .int ((1 : Int) * 2 ^ (0 + (i : Int)).toNat) t, .str (baseText "0x" 16 ((1 : Int) * 2 ^ (0 + (i : Int)).toNat)) u]) Q E s := by
  refine call_get2_intTab (((tab_K X).keep k) prog w) (PyProof.V.Flat.str _ _) fun v hv => ?_
  rw [KTD.lookup_keyed, look_low hi] at hv
  have e : (0 + (i : Int)).toNat = i := by omega
  rw [e, Int.one_mul] at hv
  have hv' : PyProof.V.Flat v (.str (nm i)) := by
    by_cases h10 : i < 10
    · rw [if_pos h10] at hv; exact hv
    · rw [if_neg h10] at hv
      rw [nm_high (by omega)]
      exact hv
  obtain ⟨t', rfl⟩ := hv'.str_inv
  exact h t'
end Mine
end
-- part Join
section
open PySem PySem.W PyProof.Rows PySem.Calls
set_option Elab.async false
namespace Mine
theorem strs_values : ∀ {vs : List Value} {ys : List Str}, StrsAre vs ys → ∃ l : List (Str × Tok), strValues l = vs ∧ l.map (·.1) = ys
  | _, _, .nil => ⟨[], rfl, rfl⟩
  | _, _, .cons y t h => by
    obtain ⟨l, e1, e2⟩ := strs_values h
    exact ⟨(y, t) :: l, by rw [← e1]; rfl, by rw [← e2]; rfl⟩
theorem join_walk {prog : Program} {w : World} {A : Around} {E : Value → Shared → Prop} {s : Shared} {sep : Str} {t : Tok} {D : Addr} {vs : List Value} {ys : List Str} {Q : Value → Shared → Prop}
    (hl : s.heap.IsList D vs.toArray) (hS : StrsAre vs ys) (hok : JoinOk sep ys = true) (h : ∀ t' k, Q (.str (Str.join sep ys) t') { s with toks := k }) :
    wpAny (model prog w) A (call (.builtin "str.join") [.str sep t, .ref D]) Q E s := by
  obtain ⟨l, rfl, rfl⟩ := strs_values hS
  exact SC.join hl rfl hok fun t' k => by rw [Txt.join, StrLaws.glued_eq_join]; exact h t' k
theorem sum_le_len {B : Nat} : ∀ ys : List Str, (∀ y ∈ ys, y.length ≤ B) → (ys.map (·.length)).sum ≤ B * ys.length
  | [], _ => by simp
  | y :: r, h => by
    have h1 := h y (.head _)
    have h2 := sum_le_len r fun z hz => h z (.tail _ hz)
    simp only [List.map_cons, List.sum_cons, List.length_cons, Nat.mul_succ]
    omega
end Mine
end
-- part Words
section
open PySem PySem.W PyProof.Rows PySem.Calls
set_option Elab.async false
set_option exponentiation.threshold 2000
namespace Mine
def namesTo (V : Int) (n : Nat) : List Str := ((List.range n).filter (ib V)).map nm
theorem namesTo_len (V : Int) (n : Nat) : (namesTo V n).length ≤ n := by
  unfold namesTo
  rw [List.length_map]
  exact Nat.le_trans (List.length_filter_le _ _) (by simp)
def clr (V : Int) (n : Nat) : Int := V - V % 2 ^ n
def wordsS (V : Int) : List Str := namesTo V 32 ++ (if V = 0 ∨ clr V 32 ≠ 0 then [baseText "0x" 16 (clr V 32)] else [])
def prettyS (V : Int) : Str := Str.join (Str.ofString ", ") (wordsS V)

theorem two_pow_pos' (n : Nat) : (0 : Int) < 2 ^ n := by
  have : ((2 : Int) ^ n) = ((2 ^ n : Nat) : Int) := by push_cast; rfl
  rw [this]; exact_mod_cast Nat.two_pow_pos n
theorem clr_eq (V : Int) (n : Nat) : clr V n = V / 2 ^ n * 2 ^ n := by
  unfold clr
  have := Int.mul_ediv_add_emod V (2 ^ n)
  rw [Int.mul_comm (2 ^ n)] at this
  omega
theorem ib_clr (V : Int) (n k : Nat) : ib (clr V n) k = (decide (n ≤ k) && ib V k) := by
  rw [clr_eq, ib_shl, ib_shr]
  by_cases h : n ≤ k
  · rw [Nat.sub_add_cancel h]
  · simp [h]
theorem and_pow (x : Int) (i : Nat) : Builtin.bitAnd x (2 ^ i) = if ib x i then 2 ^ i else 0 := by
  apply ib_ext
  intro k
  rw [ib_and, ib_pow]
  by_cases h : i = k
  · subst h
    cases hx : ib x i <;> simp [hx, ib_zero, ib_pow]
  · cases hx : ib x i <;> simp [h, ib_zero, ib_pow]
theorem clr_zero (V : Int) : clr V 0 = V := by
  unfold clr
  have : V % 2 ^ 0 = 0 := by rw [Int.pow_zero]; exact Int.emod_one V
  omega
theorem clr_off {V : Int} {i : Nat} (h : ib V i = false) : clr V (i + 1) = clr V i := by
  apply ib_ext
  intro k
  rw [ib_clr, ib_clr]
  by_cases e : k = i
  · subst e; simp [h]
  · have : (i + 1 ≤ k) ↔ (i ≤ k) := by omega
    simp [this]
theorem clr_on {V : Int} {i : Nat} (h : ib V i = true) : clr V i = clr V (i + 1) + 2 ^ i := by
  have e : clr V (i + 1) + 2 ^ i = (V / 2 ^ (i + 1) * 2 + 1) * 2 ^ i := by
    rw [clr_eq, Int.pow_succ, Int.add_mul, Int.one_mul, Int.mul_assoc, Int.mul_comm 2]
  rw [e, clr_eq]
  have h1 : V / 2 ^ i % 2 = 1 := of_decide_eq_true h
  have h2 : V / 2 ^ (i + 1) = V / 2 ^ i / 2 := by rw [Int.pow_succ, Int.ediv_ediv_of_nonneg (Int.le_of_lt (two_pow_pos' i))]
  rw [h2]
  congr 1
  omega
theorem flag_eq (i : Nat) : (1 : Int) * 2 ^ (0 + (i : Int)).toNat = 2 ^ i := by
  have e : (0 + (i : Int)).toNat = i := by omega
  rw [e, Int.one_mul]
theorem off_of' {V : Int} {i : Nat} (h : Builtin.bitAnd (clr V i) ((1 : Int) * 2 ^ (0 + (i : Int)).toNat) = 0) (hf : Builtin.bitAnd (clr V i) ((1 : Int) * 2 ^ (0 + (i : Int)).toNat) = if ib V i then 2 ^ i else 0) : ib V i = false := by
  rw [hf] at h
  cases hx : ib V i with
  | false => rfl
  | true =>
    rw [hx] at h
    have := two_pow_pos' i
    simp only [if_true] at h
    omega
theorem and_flag (V : Int) (i : Nat) : Builtin.bitAnd (clr V i) ((1 : Int) * 2 ^ (0 + (i : Int)).toNat) = if ib V i then 2 ^ i else 0 := by
  rw [flag_eq, and_pow, ib_clr]
  simp
theorem on_of {V : Int} {i : Nat} (h : Builtin.bitAnd (clr V i) ((1 : Int) * 2 ^ (0 + (i : Int)).toNat) ≠ 0) : ib V i = true := by
  rw [and_flag] at h
  cases hx : ib V i with
  | true => rfl
  | false => rw [hx] at h; simp at h
theorem off_of {V : Int} {i : Nat} (h : Builtin.bitAnd (clr V i) ((1 : Int) * 2 ^ (0 + (i : Int)).toNat) = 0) : ib V i = false := off_of' h (and_flag V i)
theorem xor_flag {V : Int} {i : Nat} (h : ib V i = true) : Builtin.bitXor (clr V i) ((1 : Int) * 2 ^ (0 + (i : Int)).toNat) = clr V (i + 1) := by
  rw [bitXor_and, and_flag, h, flag_eq, clr_on h]
  simp only [if_true]
  omega
theorem namesTo_succ (V : Int) (i : Nat) : namesTo V (i + 1) = namesTo V i ++ (if ib V i then [nm i] else []) := by
  unfold namesTo
  rw [List.range_succ, List.filter_append, List.map_append]
  cases h : ib V i <;> simp [h]
theorem clr_none {V : Int} {i j : Nat} (h : clr V i = 0) (hij : i ≤ j) : clr V j = 0 ∧ namesTo V j = namesTo V i := by
  have hb : ∀ k, i ≤ k → ib V k = false := fun k hk => by
    have := ib_clr V i k
    rw [h, ib_zero] at this
    simpa [hk] using this.symm
  obtain ⟨d, rfl⟩ : ∃ d, j = i + d := ⟨j - i, by omega⟩
  clear hij
  induction d with
  | zero => exact ⟨h, rfl⟩
  | succ d ih =>
    have h1 := hb (i + d) (by omega)
    refine ⟨by rw [← Nat.add_assoc, clr_off h1]; exact ih.1, ?_⟩
    rw [← Nat.add_assoc, namesTo_succ, h1, ih.2]
    simp
/-- the words where the loop broke off -/
theorem wordsS_brk {V : Int} {i : Nat} (hi : i < 32) (h : ib V i = true) (h0 : clr V (i + 1) = 0) : wordsS V = namesTo V i ++ [nm i] := by
  obtain ⟨h1, h2⟩ := clr_none (j := 32) h0 (by omega)
  have hV : V ≠ 0 := by rintro rfl; rw [ib_zero] at h; cases h
  unfold wordsS
  rw [h1, h2, namesTo_succ, h]
  simp [hV]
theorem wordsS_end {V : Int} (h : V = 0 ∨ clr V 32 ≠ 0) : wordsS V = namesTo V 32 ++ [baseText "0x" 16 (clr V 32)] := by
  unfold wordsS
  rw [if_pos h]
theorem nm_len (k : Nat) (h : k < 32) : (nm k).length ≤ 104 := by
  by_cases h10 : 10 ≤ k
  · rw [nm_high h10]
    refine hex_fit ?_
    rw [Int.natAbs_pow]
    exact Nat.pow_lt_pow_right (by decide) (by omega)
  · have : ∀ j : Fin 10, (nm j.val).length ≤ 104 := by decide
    exact this ⟨k, by omega⟩
theorem namesTo_fit {V : Int} {n : Nat} (hn : n ≤ 32) : ∀ y ∈ namesTo V n, y.length ≤ 104 := by
  intro y hy
  unfold namesTo at hy
  obtain ⟨k, hk, rfl⟩ := List.mem_map.mp hy
  have := List.mem_range.mp (List.mem_filter.mp hk).1
  exact nm_len k (by omega)
theorem join_fit {ys : List Str} (h : ∀ y ∈ ys, y.length ≤ 104) (hl : ys.length ≤ 40) : JoinOk (Str.ofString ", ") ys = true := by
  refine joinOk_of_weight ?_ (by decide)
  have := sum_le_len ys h
  omega
end Mine
end
-- part Comps
section
open PySem PySem.W PyProof.Rows PySem.Calls
set_option Elab.async false
set_option maxRecDepth 100000
set_option maxHeartbeats 8000000
namespace Mine
/-- a halt for the steps -/
def Stop (p : Prop) : Prop := p
theorem Stop.out {p : Prop} (h : Stop p) : p := h
section
variable {prog : Program} {w : World} {A : Around} {s : Shared} {env : Env} {h₀ : Heap} {L : Addr} {m : Str → Option Value} {news : List (Addr × Obj)}

abbrev TestsAt (prog : Program) (w : World) (A : Around) (ifs : List Expr) (cenv : Env) (Q : Bool → Shared → Prop) (s : Shared) : Prop :=
  wpAny (model prog w) A (forIn ifs true fun c r => if r = true then do let ok ← isTrue c cenv (eval c cenv); pure (ForInStep.yield ok) else pure (ForInStep.yield r)) Q (fun _ _ => False) s

/-- one element of a comprehension: its tests and its value, over the ground of the def -/
structure EltW (prog : Program) (w : World) (A : Around) (h₀ : Heap) (L : Addr) (m : Str → Option Value) (news : List (Addr × Obj)) (env : Env) (scope : Scope) (cl : List (Str × Addr)) (x : Str) (ifs : List Expr) (elt : Expr)
    (n : Nat) (P : Nat → Value → Prop) (p : Value → Bool) (G : Value → Value → Prop) (s : Shared) : Prop where
  tests : ∀ C i v (s₃ : Shared) m₃, i < n → P i v → Kp s.heap s₃.heap → Fr h₀ L s₃.heap m → News h₀ L s₃.heap news → s₃.heap.Ns C m₃ → m₃ x = some v →
    TestsAt prog w A ifs (compEnvC scope cl C env) (fun ok s' => ok = p v ∧ Keeps s₃ s') s₃
  elt : ∀ C i v (s₃ : Shared) m₃, i < n → P i v → p v = true → Kp s.heap s₃.heap → Fr h₀ L s₃.heap m → News h₀ L s₃.heap news → s₃.heap.Ns C m₃ → m₃ x = some v →
    wpAny (model prog w) A (eval elt (compEnvC scope cl C env)) (fun y s' => G v y ∧ Keeps s₃ s') (fun _ _ => False) s₃

theorem quiet_of {I : Addr} {o : Obj} {n : Nat} {P : Nat → Value → Prop} {p : Value → Bool} {G : Value → Value → Prop} {scope : Scope} {cl : List (Str × Addr)} {x : Str} {ifs : List Expr} {elt : Expr}
    (hI : I = s.heap.objs.size) (F : Fr h₀ L s.heap m) (N : News h₀ L s.heap news) (X : EltW prog w A h₀ L m news env scope cl x ifs elt n P p G s) :
    QuietOnC prog w A env scope cl x ifs elt [I] (fun i v => i < n ∧ P i v) p G { s with heap := s.heap.push o } := by
  subst hI
  have old : ∀ b o', s.heap.get? b = some o' → b ∉ [s.heap.objs.size] := fun b o' e hb => absurd (Heap.lt_size e) ((List.mem_singleton.mp hb) ▸ Nat.lt_irrefl _)
  have ground : ∀ s₃ : Shared, (∀ b o', b ∉ [s.heap.objs.size] → (s.heap.push o).get? b = some o' → s₃.heap.get? b = some o') → Kp s.heap s₃.heap ∧ Fr h₀ L s₃.heap m ∧ News h₀ L s₃.heap news := fun s₃ hk => by
    have k : Kp s.heap s₃.heap := fun b o' e => hk b o' (old b o' e) (Heap.get?_push_of_some _ e)
    exact ⟨k, ⟨F.ns.at' fun o' e => k _ o' e, fun b o' e => k b o' (F.keep b o' e), F.above⟩, fun p hp => ⟨k _ _ (N p hp).1, (N p hp).2⟩⟩
  constructor
  · intro C i v s₃ m₃ E' _ hv hn hm hk _
    obtain ⟨k, F₃, N₃⟩ := ground s₃ hk
    exact wpAny_noRaise (X.tests C i v s₃ m₃ hv.1 hv.2 k F₃ N₃ hn hm)
  · intro C i v s₃ m₃ E' _ hv hp hn hm hk _
    obtain ⟨k, F₃, N₃⟩ := ground s₃ hk
    exact wpAny_noRaise (X.elt C i v s₃ m₃ hv.1 hv.2 hp k F₃ N₃ hn hm)

/-- what stands behind a comprehension's block -/
theorem block_ground {o : Obj} {D : Addr} {h' : Heap} (F : Fr h₀ L s.heap m) (N : News h₀ L s.heap news) (hD : (s.heap.push o).get? D = none)
    (hk : ∀ b o', b ∉ [s.heap.objs.size] → (s.heap.push o).get? b = some o' → h'.get? b = some o') {ys : Array Value} (hl : h'.PlainList D ys) :
    Kp s.heap h' ∧ Fr h₀ L h' m ∧ ∃ k, News h₀ L h' ((D, W.listOf ys k) :: news) := by
  have old : ∀ b o', s.heap.get? b = some o' → b ∉ [s.heap.objs.size] := fun b o' e hb => absurd (Heap.lt_size e) ((List.mem_singleton.mp hb) ▸ Nat.lt_irrefl _)
  have k : Kp s.heap h' := fun b o' e => hk b o' (old b o' e) (Heap.get?_push_of_some _ e)
  obtain ⟨k', hk'⟩ := hl
  refine ⟨k, ⟨F.ns.at' fun o' e => k _ o' e, fun b o' e => k b o' (F.keep b o' e), F.above⟩, k', fun p hp => ?_⟩
  rcases List.mem_cons.mp hp with rfl | hp
  · refine ⟨hk', ?_, ?_⟩
    · rintro rfl
      obtain ⟨oL, _, _, e, _⟩ := F.ns
      rw [Heap.get?_push_of_some _ e] at hD; cases hD
    · cases e : h₀.get? D with
      | none => rfl
      | some o' => rw [Heap.get?_push_of_some _ (F.keep D o' e)] at hD; cases hD
  · exact ⟨k _ _ (N p hp).1, (N p hp).2⟩

/-- the list of a comprehension, as a value -/
def CompV (prog : Program) (w : World) (A : Around) (h₀ : Heap) (L : Addr) (m : Str → Option Value) (news : List (Addr × Obj)) (env : Env) (scope : Scope) (cl : List (Str × Addr)) (x : Str) (ifs : List Expr) (elt : Expr)
    (n : Nat) (P : Nat → Value → Prop) (p : Value → Bool) (G : Value → Value → Prop) (Q : Value → Shared → Prop) (s : Shared) : Prop :=
  EltW prog w A h₀ L m news env scope cl x ifs elt n P p G s ∧
  ∀ D h' tk ys k (vs : List Value), Kp s.heap h' → Fr h₀ L h' m → News h₀ L h' ((D, W.listOf ys k) :: news) → s.heap.get? D = none → vs.length = n → (∀ j v, vs[j]? = some v → P j v) → Paired G (vs.filter p) ys.toList → Q (.ref D) { s with heap := h', toks := tk }

theorem comp_of {I : Addr} {o : Obj} {fp : List Addr} {n : Nat} {P : Nat → Value → Prop} {St : Nat → Heap → Prop} {p : Value → Bool} {G : Value → Value → Prop} {scope : Scope} {cl : List (Str × Addr)} {x : Str} {ifs : List Expr} {elt : Expr} {Q : Value → Shared → Prop}
    (W : Walks prog w A I fp [I] n P St) (hI : I = s.heap.objs.size) (hst : St 0 (s.heap.push o)) (hfp : ∀ b ∈ fp, b < s.heap.objs.size + 1) (hn : n ≤ sizeLine) (F : Fr h₀ L s.heap m) (N : News h₀ L s.heap news)
    (X : CompV prog w A h₀ L m news env scope cl x ifs elt n P p G Q s) :
    ∃ I' fp wr n P St, (Value.ref I) = .ref I' ∧ Walks prog w A I' fp wr n P St ∧ n ≤ sizeLine ∧ St 0 (s.heap.push o) ∧ (∀ b ∈ fp, b < (s.heap.push o).objs.size) ∧
      QuietOnC prog w A env scope cl x ifs elt wr P p G { s with heap := s.heap.push o } ∧
      (∀ D h' tk ys (vs : List Value), (s.heap.push o).get? D = none → h'.IsList D ys → h'.PlainList D ys → vs.length = n → (∀ j v, vs[j]? = some v → P j v) → Paired G (vs.filter p) ys.toList →
        (∀ b o', b ∉ wr → (s.heap.push o).get? b = some o' → h'.get? b = some o') → Q (.ref D) { s with heap := h', toks := tk }) := by
  refine ⟨I, fp, [I], n, _, St, rfl, W.bound, hn, hst, fun b hb => by rw [Heap.size_push]; exact hfp b hb, quiet_of hI F N X.1, ?_⟩
  subst hI
  intro D h' tk ys vs hD _ hpl hlen hP hG hk
  obtain ⟨k, F', k', N'⟩ := block_ground F N hD hk hpl
  refine X.2 D h' tk ys k' vs k F' N' ?_ hlen (fun j v hj => (hP j v hj).2) hG
  cases e : s.heap.get? D with
  | none => rfl
  | some o' => rw [Heap.get?_push_of_some _ e] at hD; cases hD

/-- and where it is stored into a name: the map with the name behind -/
def CompA (prog : Program) (w : World) (A : Around) (h₀ : Heap) (L : Addr) (m : Str → Option Value) (news : List (Addr × Obj)) (env : Env) (scope : Scope) (cl : List (Str × Addr)) (x y : Str) (ifs : List Expr) (elt : Expr)
    (n : Nat) (P : Nat → Value → Prop) (p : Value → Bool) (G : Value → Value → Prop) (Q : Flow → Shared → Prop) (s : Shared) : Prop :=
  EltW prog w A h₀ L m news env scope cl x ifs elt n P p G s ∧
  ∀ D h' tk ys k (vs : List Value), Fr h₀ L h' (fun z => if z = y then some (.ref D) else m z) → News h₀ L h' ((D, W.listOf ys k) :: news) → s.heap.get? D = none → vs.length = n → (∀ j v, vs[j]? = some v → P j v) → Paired G (vs.filter p) ys.toList → Q .next { s with heap := h', toks := tk }

theorem compA_of {I : Addr} {o : Obj} {fp : List Addr} {n : Nat} {P : Nat → Value → Prop} {St : Nat → Heap → Prop} {p : Value → Bool} {G : Value → Value → Prop} {scope : Scope} {cl : List (Str × Addr)} {x y : Str} {ifs : List Expr} {elt : Expr} {Q : Flow → Shared → Prop}
    (W : Walks prog w A I fp [I] n P St) (hI : I = s.heap.objs.size) (hst : St 0 (s.heap.push o)) (hfp : ∀ b ∈ fp, b < s.heap.objs.size + 1) (hn : n ≤ sizeLine) (hL : env.locals = L) (F : Fr h₀ L s.heap m) (N : News h₀ L s.heap news)
    (X : CompA prog w A h₀ L m news env scope cl x y ifs elt n P p G Q s) :
    ∃ I' fp wr n P St m, (Value.ref I) = .ref I' ∧ Walks prog w A I' fp wr n P St ∧ n ≤ sizeLine ∧ St 0 (s.heap.push o) ∧ (∀ b ∈ fp, b < (s.heap.push o).objs.size) ∧ env.locals ∉ wr ∧ (s.heap.push o).Ns env.locals m ∧
      QuietOnC prog w A env scope cl x ifs elt wr P p G { s with heap := s.heap.push o } ∧
      (∀ D h' tk ys (vs : List Value), (s.heap.push o).get? D = none → h'.IsList D ys → h'.PlainList D ys → vs.length = n → (∀ j v, vs[j]? = some v → P j v) → Paired G (vs.filter p) ys.toList →
        h'.Ns env.locals (fun z => if z = y then some (.ref D) else m z) → (∀ b o', b ≠ env.locals → b ∉ wr → (s.heap.push o).get? b = some o' → h'.get? b = some o') → Q .next { s with heap := h', toks := tk }) := by
  subst hL
  have hLI : env.locals ∉ [I] := fun hm => by
    rw [hI] at hm
    exact absurd F.ns.lt ((List.mem_singleton.mp hm) ▸ Nat.lt_irrefl _)
  refine ⟨I, fp, [I], n, _, St, m, rfl, W.bound, hn, hst, fun b hb => by rw [Heap.size_push]; exact hfp b hb, hLI, (F.push o).ns, quiet_of hI F N X.1, ?_⟩
  subst hI
  intro D h' tk ys vs hD _ hpl hlen hP hG hns hk
  have old : ∀ b o', s.heap.get? b = some o' → b ∉ [s.heap.objs.size] := fun b o' e hb => absurd (Heap.lt_size e) ((List.mem_singleton.mp hb) ▸ Nat.lt_irrefl _)
  have hk' : ∀ b o', b ≠ env.locals → s.heap.get? b = some o' → h'.get? b = some o' := fun b o' hb e => hk b o' hb (old b o' e) (Heap.get?_push_of_some _ e)
  have hDn : s.heap.get? D = none := by
    cases e : s.heap.get? D with
    | none => rfl
    | some o' => rw [Heap.get?_push_of_some _ e] at hD; cases hD
  obtain ⟨k', hpl'⟩ := hpl
  refine X.2 D h' tk ys k' vs ⟨hns, fun b o' e => hk' b o' (Nat.ne_of_lt (Nat.lt_of_lt_of_le (Heap.lt_size e) F.above)) (F.keep b o' e), F.above⟩ (fun q hq => ?_) hDn hlen (fun j v hj => (hP j v hj).2) hG
  rcases List.mem_cons.mp hq with rfl | hq
  · refine ⟨hpl', ?_, ?_⟩
    · rintro rfl
      obtain ⟨oL, _, _, e, _⟩ := F.ns
      rw [e] at hDn; cases hDn
    · cases e : h₀.get? D with
      | none => rfl
      | some o' => rw [F.keep D o' e] at hDn; cases hDn
  · exact ⟨hk' _ _ (N q hq).2.1 (N q hq).1, (N q hq).2⟩
def SrcV (prog : Program) (w : World) (A : Around) (env : Env) (scope : Scope) (cl : List (Str × Addr)) (x : Str) (ifs : List Expr) (elt : Expr) (p : Value → Bool) (G : Value → Value → Prop) (Q : Value → Shared → Prop) (xv : Value) (s : Shared) : Prop :=
  wpAny (model prog w) A (pyIter xv) (fun it s₂ => ∃ I fp wr n P St, it = .ref I ∧ Walks prog w A I fp wr n P St ∧ n ≤ sizeLine ∧ St 0 s₂.heap ∧ (∀ b ∈ fp, b < s₂.heap.objs.size) ∧
      QuietOnC prog w A env scope cl x ifs elt wr P p G s₂ ∧
      (∀ D h' tk ys (vs : List Value), s₂.heap.get? D = none → h'.IsList D ys → h'.PlainList D ys → vs.length = n → (∀ j v, vs[j]? = some v → P j v) → Paired G (vs.filter p) ys.toList →
        (∀ b o, b ∉ wr → s₂.heap.get? b = some o → h'.get? b = some o) → Q (.ref D) { s₂ with heap := h', toks := tk })) (fun _ _ => False) s

theorem SrcV.range {r : Addr} {a b : Int} {t u v : Tok} {n : Nat} {p : Value → Bool} {G : Value → Value → Prop} {scope : Scope} {cl : List (Str × Addr)} {x : Str} {ifs : List Expr} {elt : Expr} {Q : Value → Shared → Prop}
    (hh : A.handled = none) (hr : IsRange s.heap r a b 1 t u v) (hsmall : Builtin.Range.small a b 1 = true) (hn : Builtin.Range.rangeSize a b 1 = (n : Int)) (hle : n ≤ sizeLine) (F : Fr h₀ L s.heap m) (N : News h₀ L s.heap news)
    (X : CompV prog w A h₀ L m news env scope cl x ifs elt n (fun i v => ∃ t, v = Value.int (a + (i : Nat) * 1) t) p G Q s) :
    SrcV prog w A env scope cl x ifs elt p G Q (.ref r) s := by
  unfold SrcV
  refine wpAny_pyIter_range hr hsmall ?_
  exact comp_of (Walks.range (prog := prog) (w := w) hh s.heap.objs.size a 1 n) rfl (by show IsRangeIter _ _ _ _ _; rw [hn]; simpa using Heap.get?_push_size _ rfl) (fun b hb => by rw [List.mem_singleton.mp hb]; exact Nat.lt_succ_self _) hle F N X

theorem SrcV.list {l : Addr} {items : Array Value} {p : Value → Bool} {G : Value → Value → Prop} {scope : Scope} {cl : List (Str × Addr)} {x : Str} {ifs : List Expr} {elt : Expr} {Q : Value → Shared → Prop}
    (hh : A.handled = none) (hl : s.heap.IsList l items) (hle : items.size ≤ sizeLine) (F : Fr h₀ L s.heap m) (N : News h₀ L s.heap news)
    (X : CompV prog w A h₀ L m news env scope cl x ifs elt items.size (fun i v => items[i]? = some v) p G Q s) :
    SrcV prog w A env scope cl x ifs elt p G Q (.ref l) s := by
  unfold SrcV
  refine wpAny_pyIter_list hl ?_
  have hlt : l < s.heap.objs.size := by obtain ⟨o, e, _⟩ := hl; exact Heap.lt_size e
  exact comp_of (Walks.list (prog := prog) (w := w) hh s.heap.objs.size l (Nat.ne_of_lt hlt) items) rfl ⟨⟨_, Heap.get?_push_size _ rfl, rfl, rfl⟩, hl.at fun o e => Heap.get?_push_of_some _ e⟩
    (fun b hb => by rcases List.mem_cons.mp hb with rfl | hb; exact Nat.lt_succ_self _; rw [List.mem_singleton.mp hb]; exact Nat.lt_succ_of_lt hlt) hle F N X

theorem SrcV.str {z : Str} {t : Tok} {p : Value → Bool} {G : Value → Value → Prop} {scope : Scope} {cl : List (Str × Addr)} {x : Str} {ifs : List Expr} {elt : Expr} {Q : Value → Shared → Prop}
    (hh : A.handled = none) (hle : z.cps.size ≤ sizeLine) (F : Fr h₀ L s.heap m) (N : News h₀ L s.heap news)
    (X : CompV prog w A h₀ L m news env scope cl x ifs elt z.cps.size (SignAt z) p G Q s) :
    SrcV prog w A env scope cl x ifs elt p G Q (.str z t) s := by
  unfold SrcV
  refine wpAny_pyIter_str fun o St W hst => ?_
  exact comp_of (W A hh) rfl hst (fun b hb => by rw [List.mem_singleton.mp hb]; exact Nat.lt_succ_self _) hle F N X

def SrcA (prog : Program) (w : World) (A : Around) (env : Env) (scope : Scope) (cl : List (Str × Addr)) (x y : Str) (ifs : List Expr) (elt : Expr) (p : Value → Bool) (G : Value → Value → Prop) (Q : Flow → Shared → Prop) (xv : Value) (s : Shared) : Prop :=
  wpAny (model prog w) A (pyIter xv) (fun it s₂ => ∃ I fp wr n P St m, it = .ref I ∧ Walks prog w A I fp wr n P St ∧ n ≤ sizeLine ∧ St 0 s₂.heap ∧ (∀ b ∈ fp, b < s₂.heap.objs.size) ∧
      env.locals ∉ wr ∧ s₂.heap.Ns env.locals m ∧ QuietOnC prog w A env scope cl x ifs elt wr P p G s₂ ∧
      (∀ D h' tk ys (vs : List Value), s₂.heap.get? D = none → h'.IsList D ys → h'.PlainList D ys → vs.length = n → (∀ j v, vs[j]? = some v → P j v) → Paired G (vs.filter p) ys.toList →
        h'.Ns env.locals (fun z => if z = y then some (.ref D) else m z) → (∀ b o, b ≠ env.locals → b ∉ wr → s₂.heap.get? b = some o → h'.get? b = some o) → Q .next { s₂ with heap := h', toks := tk })) (fun _ _ => False) s

theorem SrcA.range {r : Addr} {a b : Int} {t u v : Tok} {n : Nat} {p : Value → Bool} {G : Value → Value → Prop} {scope : Scope} {cl : List (Str × Addr)} {x y : Str} {ifs : List Expr} {elt : Expr} {Q : Flow → Shared → Prop}
    (hh : A.handled = none) (hr : IsRange s.heap r a b 1 t u v) (hsmall : Builtin.Range.small a b 1 = true) (hn : Builtin.Range.rangeSize a b 1 = (n : Int)) (hle : n ≤ sizeLine) (hL : env.locals = L) (F : Fr h₀ L s.heap m) (N : News h₀ L s.heap news)
    (X : CompA prog w A h₀ L m news env scope cl x y ifs elt n (fun i v => ∃ t, v = Value.int (a + (i : Nat) * 1) t) p G Q s) :
    SrcA prog w A env scope cl x y ifs elt p G Q (.ref r) s := by
  unfold SrcA
  refine wpAny_pyIter_range hr hsmall ?_
  exact compA_of (Walks.range (prog := prog) (w := w) hh s.heap.objs.size a 1 n) rfl (by show IsRangeIter _ _ _ _ _; rw [hn]; simpa using Heap.get?_push_size _ rfl) (fun b hb => by rw [List.mem_singleton.mp hb]; exact Nat.lt_succ_self _) hle hL F N X

theorem SrcA.list {l : Addr} {items : Array Value} {p : Value → Bool} {G : Value → Value → Prop} {scope : Scope} {cl : List (Str × Addr)} {x y : Str} {ifs : List Expr} {elt : Expr} {Q : Flow → Shared → Prop}
    (hh : A.handled = none) (hl : s.heap.IsList l items) (hle : items.size ≤ sizeLine) (hL : env.locals = L) (F : Fr h₀ L s.heap m) (N : News h₀ L s.heap news)
    (X : CompA prog w A h₀ L m news env scope cl x y ifs elt items.size (fun i v => items[i]? = some v) p G Q s) :
    SrcA prog w A env scope cl x y ifs elt p G Q (.ref l) s := by
  unfold SrcA
  refine wpAny_pyIter_list hl ?_
  have hlt : l < s.heap.objs.size := by obtain ⟨o, e, _⟩ := hl; exact Heap.lt_size e
  exact compA_of (Walks.list (prog := prog) (w := w) hh s.heap.objs.size l (Nat.ne_of_lt hlt) items) rfl ⟨⟨_, Heap.get?_push_size _ rfl, rfl, rfl⟩, hl.at fun o e => Heap.get?_push_of_some _ e⟩
    (fun b hb => by rcases List.mem_cons.mp hb with rfl | hb; exact Nat.lt_succ_self _; rw [List.mem_singleton.mp hb]; exact Nat.lt_succ_of_lt hlt) hle hL F N X

theorem SrcA.str {z : Str} {t : Tok} {p : Value → Bool} {G : Value → Value → Prop} {scope : Scope} {cl : List (Str × Addr)} {x y : Str} {ifs : List Expr} {elt : Expr} {Q : Flow → Shared → Prop}
    (hh : A.handled = none) (hle : z.cps.size ≤ sizeLine) (hL : env.locals = L) (F : Fr h₀ L s.heap m) (N : News h₀ L s.heap news)
    (X : CompA prog w A h₀ L m news env scope cl x y ifs elt z.cps.size (SignAt z) p G Q s) :
    SrcA prog w A env scope cl x y ifs elt p G Q (.str z t) s := by
  unfold SrcA
  refine wpAny_pyIter_str fun o St W hst => ?_
  exact compA_of (W A hh) rfl hst (fun b hb => by rw [List.mem_singleton.mp hb]; exact Nat.lt_succ_self _) hle hL F N X

theorem ListComp_W {elt iter : Expr} {x : Str} {px : Pos} {ifs : List Expr} {scope : Scope} {cl : List (Str × Addr)} {pos : Pos} {Q : Value → Shared → Prop} (p : Value → Bool) (G : Value → Value → Prop)
    (hclos : closureFor scope env = pure cl) (hcell : ∀ y ∈ scope.names, y.2 ≠ .cell) (hkind : scope.kind = .function)
    (hnames : ∀ y ∈ scope.names, y.2 = .local → scope.names.lookup y.1 = some .local) (hx : scope.names.lookup x = some .local) (hs : ∀ x, foldedSetIterable iter env x = pure x)
    (h : wpAny (model prog w) A (eval iter env) (SrcV prog w A env scope cl x ifs elt p G Q) (fun _ _ => False) s) :
    wpAny (model prog w) A (eval (.ListComp elt [⟨.Name x px, iter, ifs, 0⟩] scope pos) env) Q (fun _ _ => False) s :=
  wpAny_ListComp_free p G hclos hcell hkind hnames hx h hs
theorem Assign_W {elt iter : Expr} {x y : Str} {px py : Pos} {ifs : List Expr} {scope : Scope} {cl : List (Str × Addr)} {pos spos : Pos} {Q : Flow → Shared → Prop} (p : Value → Bool) (G : Value → Value → Prop)
    (hsw : swapsWith (.ListComp elt [⟨.Name x px, iter, ifs, 0⟩] scope pos) (some (.Name y py)) spos.line env = pure true)
    (hclos : closureFor scope env = pure cl) (hcell : ∀ z ∈ scope.names, z.2 ≠ .cell) (hkind : scope.kind = .function)
    (hnames : ∀ z ∈ scope.names, z.2 = .local → scope.names.lookup z.1 = some .local) (hx : scope.names.lookup x = some .local)
    (hy : env.kindOf y = some .local) (hp : (env.scope.kind == .class || (env.scope.kind == .module && env.locals != env.globals)) = false) (hs : ∀ x, foldedSetIterable iter env x = pure x)
    (h : wpAny (model prog w) A (eval iter env) (SrcA prog w A env scope cl x y ifs elt p G Q) (fun _ _ => False) s) :
    wpAny (model prog w) A (exec (.Assign [.Name y py] (.ListComp elt [⟨.Name x px, iter, ifs, 0⟩] scope pos) spos) env) Q (fun _ _ => False) s :=
  wpAny_Assign_ListComp_free p G hsw hclos hcell hkind hnames hx hy hp h hs
section
variable {E : Value → Shared → Prop}
/-- an item of a list of texts -/
theorem item_strs {value slice : PySem.Expr} {l : Addr} {vs : List Value} {ys : List Str} {k : Int} {u : Tok} {Q : Value → Shared → Prop} (hl : s.heap.IsList l vs.toArray) (hS : StrsAre vs ys) (h0 : 0 ≤ k) (hk : k < 2 ^ 63) (y : Str) (hy : ys[k.toNat]? = some y) (h : ∀ t, Q (.str y t) s)
    (hs : subscripted slice false (.ref l) (.int k u) = operate [.ref l, .int k u] (getItem (.ref l) (.int k u)) := by with_unfolding_all rfl) :
    wpAny (model prog w) A (subscriptTail value slice (.ref l) (.int k u)) Q E s := by
  obtain ⟨t, ht⟩ := hS.get _ _ hy
  exact tail_any hl.typeIs slot_list_getitem.lookup (wpAny_getItem_list hl h0 hk (by simpa using ht) (h t)) hs
/-- an item of a list of ints -/
theorem item_ints {value slice : PySem.Expr} {l : Addr} {vs : List Value} {ns : List Int} {k : Int} {u : Tok} {Q : Value → Shared → Prop} (hl : s.heap.IsList l vs.toArray) (hS : IntsAre vs ns) (h0 : 0 ≤ k) (hk : k < 2 ^ 63) (y : Int) (hy : ns[k.toNat]? = some y) (h : ∀ t, Q (.int y t) s)
    (hs : subscripted slice false (.ref l) (.int k u) = operate [.ref l, .int k u] (getItem (.ref l) (.int k u)) := by with_unfolding_all rfl) :
    wpAny (model prog w) A (subscriptTail value slice (.ref l) (.int k u)) Q E s := by
  obtain ⟨t, ht⟩ := hS.get _ _ hy
  exact tail_any hl.typeIs slot_list_getitem.lookup (wpAny_getItem_list hl h0 hk (by simpa using ht) (h t)) hs
end
section
variable {M : Model} {E : Value → Shared → Prop}
/-- a name of a comprehension's own -/
theorem nameL {C : Addr} {scope : Scope} {cl : List (Str × Addr)} {m₃ : Str → Option Value} {x : Str} {pos : Pos} {v : Value} {Q : Value → Shared → Prop} (hn : s.heap.Ns C m₃) (hv : m₃ x = some v) (h : Q v s)
    (hk : scope.kind = .function) (hl : (compEnvC scope cl C env).kindOf x = some .local) (hd : (x == ("__debug__" : Str)) = false) : wpAny M A (eval (.Name x pos) (compEnvC scope cl C env)) Q E s :=
  wpAny_Name (wpAny_loadName_local hk hl hn hv h) hd
/-- a captured name -/
theorem nameC {C c : Addr} {scope : Scope} {cl : List (Str × Addr)} {o : Obj} {x : Str} {pos : Pos} {v : Value} {Q : Value → Shared → Prop} (N : News h₀ L s.heap news) (hm : (c, o) ∈ news) (ho : o.data = .cell (some v)) (hc : cl.lookup x = some c) (h : Q v s)
    (hk : scope.kind = .function) (hl : (compEnvC scope cl C env).kindOf x = some .cell) (hd : (x == ("__debug__" : Str)) = false) : wpAny M A (eval (.Name x pos) (compEnvC scope cl C env)) Q E s :=
  wpAny_Name (wpAny_loadName_cell hk hl hc ⟨o, (N _ hm).1, ho⟩ h) hd
end
end
end Mine
end
-- part Each
section
open PySem PySem.W PyProof.Rows PySem.Calls
set_option Elab.async false
set_option exponentiation.threshold 2000
namespace Mine
inductive Each {β : Type} (El : Value → β → Prop) : List Value → List β → Prop
  | nil : Each El [] []
  | cons {y : Value} {b : β} {ys : List Value} {bs : List β} : El y b → Each El ys bs → Each El (y :: ys) (b :: bs)
abbrev IsS (y : Value) (b : Str) : Prop := ∃ t, y = .str b t
abbrev IsI (y : Value) (b : Int) : Prop := ∃ t, y = .int b t
theorem Each.strs : ∀ {ys : List Value} {bs : List Str}, Each IsS ys bs → StrsAre ys bs
  | _, _, .nil => .nil
  | _, _, .cons ⟨_, rfl⟩ h => .cons _ _ h.strs
theorem Each.ints : ∀ {ys : List Value} {bs : List Int}, Each IsI ys bs → IntsAre ys bs
  | _, _, .nil => .nil
  | _, _, .cons ⟨_, rfl⟩ h => .cons _ _ h.ints
theorem each_range {β : Type} {El : Value → β → Prop} (f : Nat → β) (q : Nat → Bool) {p : Value → Bool} {G : Value → Value → Prop} : ∀ (vs : List Value) (a : Nat) (ys : List Value),
    (∀ j v, vs[j]? = some v → ∃ t, v = .int ((a + j : Nat) : Int) t ∧ p v = q (a + j) ∧ ∀ y, G v y → El y (f (a + j))) → Paired G (vs.filter p) ys → Each El ys (((List.range' a vs.length).filter q).map f)
  | [], a, ys, _, h => by cases h; exact .nil
  | v :: r, a, ys, hv, h => by
    obtain ⟨t, _, hp, hG⟩ := hv 0 v rfl
    have hr := fun ys => each_range f q (p := p) (G := G) (El := El) r (a + 1) ys fun j u hj => by
      have := hv (j + 1) u (by simpa using hj)
      rw [show a + (j + 1) = a + 1 + j by omega] at this
      exact this
    rw [List.length_cons, List.range'_succ, List.filter_cons]
    rw [List.filter_cons] at h
    cases hq : q a with
    | false =>
      rw [Nat.add_zero, hq] at hp
      rw [hp] at h
      exact hr ys h
    | true =>
      rw [Nat.add_zero, hq] at hp
      rw [hp] at h
      simp only [if_true] at h
      cases h with
      | cons hg ht => exact .cons (hG _ hg) (hr _ ht)
theorem isList_of {h₀ h : Heap} {L l : Addr} {its : Array Value} {n : Nat} {news : List (Addr × Obj)} (N : News h₀ L h news) (hm : (l, W.listOf its n) ∈ news) : h.IsList l its := ⟨_, (N _ hm).1, rfl, _, rfl⟩

theorem low_bit {V : Int} {i : Nat} (hi : i < 32) : (((V.fmod (2 ^ Int.toNat 32)).fdiv (2 ^ (0 + (i : Int) * 1).toNat)).fmod 2 == 1) = ib V i := by
  have e : (0 + (i : Int) * 1).toNat = i := by omega
  have e2 : Int.toNat 32 = 32 := rfl
  rw [e, e2, Int.fmod_eq_emod_of_nonneg _ (Int.le_of_lt (two_pow_pos' 32)), Int.fdiv_eq_ediv_of_nonneg _ (Int.le_of_lt (two_pow_pos' i)), Int.fmod_eq_emod_of_nonneg _ (by decide)]
  unfold ib
  obtain ⟨d, hd⟩ : ∃ d, 32 = i + 1 + d := ⟨32 - i - 1, by omega⟩
  have h1 : V % 2 ^ 32 = V + (-(V / 2 ^ 32) * 2 ^ d * 2) * 2 ^ i := by
    have h2 := Int.mul_ediv_add_emod V (2 ^ 32)
    have h3 : (2 : Int) ^ 32 * (V / 2 ^ 32) = V / 2 ^ 32 * 2 ^ d * 2 * 2 ^ i := by
      generalize V / 2 ^ 32 = z
      rw [hd, show i + 1 + d = d + 1 + i by omega, Int.pow_add, Int.pow_succ, Int.mul_comm]
      simp only [Int.mul_assoc]
    rw [h3] at h2
    have h4 : (-(V / 2 ^ 32) * 2 ^ d * 2) * 2 ^ i = -(V / 2 ^ 32 * 2 ^ d * 2 * 2 ^ i) := by simp only [Int.neg_mul]
    rw [h4]; omega
  rw [h1, Int.add_mul_ediv_right _ _ (Int.ne_of_gt (two_pow_pos' i))]
  generalize V / 2 ^ i = a
  generalize -(V / 2 ^ 32) * 2 ^ d = b
  have : (a + b * 2) % 2 = a % 2 := by omega
  rw [this]
  by_cases h : a % 2 = 1 <;> simp [h]
theorem rep_strs {c : Bool} {x : Str} {t : Tok} : StrsAre (List.replicate (if c = true then (1 : Int) else 0).toNat [Value.str x t]).flatten (if c = true then [x] else []) := by
  cases c
  · exact .nil
  · exact .cons _ _ .nil
theorem words_fit {V : Int} (h : (clr V 32).natAbs < 2 ^ 400) : JoinOk (Str.ofString ", ") (wordsS V) = true := by
  refine join_fit ?_ ?_
  · intro y hy
    unfold wordsS at hy
    rcases List.mem_append.mp hy with h1 | h1
    · exact namesTo_fit (Nat.le_refl _) y h1
    · split at h1
      · rw [List.mem_singleton.mp h1]; exact hex_fit h
      · cases h1
  · have h2 := namesTo_len V 32
    unfold wordsS
    rw [List.length_append]
    split <;> simp only [List.length_cons, List.length_nil] <;> omega
end Mine
end
-- part Sre1
section
open PySem PySem.Sre
set_option Elab.async false
set_option maxRecDepth 100000
namespace Mine
def code1 : Array Nat := #[14, 4, 0, 1, 1, 6, 1, 16, 46, 1]
def st1 (text : Array Nat) (s : Nat) (first must : Bool) (seen : Seen) : M :=
  { code := code1, text, lim := text.size, start := s, lastStart := text.size, wholeText := false, mustAdvance := must, pc := 5, pos := s, handed := s, outermost := first, marks := #[], lastmark := -1, lastindex := -1, loops := #[], inner := none,
    frames := [{ wait := .nextStart, pc := 5, pos := s, outermost := first }], weight := 1, answer := none, seen, outcome := none }
def fl1 (text : Array Nat) (s : Nat) (first must : Bool) (seen : Seen) (pc : Nat) (p : Nat) (ans : Bool) : M :=
  { st1 text s first must seen with pc := pc, pos := p, answer := some ans }
theorem s1_at (text : Array Nat) (s : Nat) (first must : Bool) (seen : Seen) :
    (st1 text s first must seen).step = if (s == 0 || text.getD (s - 1) 0 == 10) = true then { st1 text s first must ((seen.add 6).add 44) with pc := 7 } else fl1 text s first must ((seen.add 6).add 44) 5 s false := by
  have e : (st1 text s first must seen).step = (st1 text s first must seen).exec := rfl
  rw [e]
  rfl
theorem s1_yes (text : Array Nat) (s : Nat) (first must : Bool) (seen : Seen) (h : (s == 0 || text.getD (s - 1) 0 == 10) = true) :
    (st1 text s first must seen).step = { st1 text s first must ((seen.add 6).add 44) with pc := 7 } := by
  rw [s1_at, h]; rfl
theorem s1_lit (text : Array Nat) (s : Nat) (first must : Bool) (seen : Seen) (hs : s < text.size) :
    ({ st1 text s first must seen with pc := 7 } : M).step = if (text.getD s 0 == 46) = true then { st1 text s first must (seen.add 16) with pc := 9, pos := s + 1 } else fl1 text s first must (seen.add 16) 7 s false := by
  have e : ({ st1 text s first must seen with pc := 7 } : M).step = ({ st1 text s first must seen with pc := 7 } : M).exec := rfl
  rw [e]
  have e2 : ({ st1 text s first must seen with pc := 7 } : M).exec = if s ≥ text.size then fl1 text s first must (seen.add 16) 7 s false else (match (Except.ok (text.getD s 0 == 46, seen.add 16) : Except String (Bool × Seen)) with
    | .error why => ({ st1 text s first must (seen.add 16) with pc := 7 } : M).stick why
    | .ok (false, seen) => fl1 text s first must seen 7 s false
    | .ok (true, seen) => { st1 text s first must seen with pc := 9, pos := s + 1 }) := rfl
  rw [e2, if_neg (by omega)]
  cases text.getD s 0 == 46 <;> rfl

theorem runFor_some {m : M} (h : m.outcome.isSome = true) : ∀ k, M.runFor k m = m
  | 0 => rfl
  | k + 1 => by unfold M.runFor; rw [if_pos h]
theorem runFor_add : ∀ (a b : Nat) (m : M), M.runFor (a + b) m = M.runFor b (M.runFor a m)
  | 0, b, m => by rw [Nat.zero_add]; rfl
  | a + 1, b, m => by
    rw [show a + 1 + b = (a + b) + 1 by omega]
    by_cases h : m.outcome.isSome = true
    · rw [runFor_some h, runFor_some h, runFor_some h]
    · have e : ∀ k, M.runFor (k + 1) m = M.runFor k m.step := fun k => by
        conv => lhs; unfold M.runFor
        rw [if_neg h]
      rw [e, e]
      exact runFor_add a b _
/-- from m to m' in at most b steps -/
def Goes (b : Nat) (m m' : M) : Prop := ∃ n, n ≤ b ∧ ∀ k, M.runFor (n + k) m = M.runFor k m'
theorem Goes.refl (m : M) : Goes 0 m m := ⟨0, Nat.le_refl _, fun k => by rw [Nat.zero_add]⟩
theorem Goes.trans {a b : Nat} {m m' m'' : M} (x : Goes a m m') (y : Goes b m' m'') : Goes (a + b) m m'' := by
  obtain ⟨n, hn, h⟩ := x
  obtain ⟨n', hn', h'⟩ := y
  exact ⟨n + n', by omega, fun k => by rw [Nat.add_assoc, h, h']⟩
theorem Goes.step {m m' : M} (h : m.outcome = none) (e : m.step = m') : Goes 1 m m' := ⟨1, Nat.le_refl _, fun k => by
  rw [Nat.add_comm]
  show M.runFor (k + 1) m = _
  have : ¬ m.outcome.isSome = true := by rw [h]; decide
  conv => lhs; unfold M.runFor
  rw [if_neg this, e]⟩
theorem Goes.le {a b : Nat} {m m' : M} (x : Goes a m m') (h : a ≤ b) : Goes b m m' := by
  obtain ⟨n, hn, e⟩ := x
  exact ⟨n, by omega, e⟩
theorem Goes.next {b : Nat} {m m' m'' : M} (h : m.outcome = none) (e : m.step = m') (y : Goes b m' m'') : Goes (b + 1) m m'' := (Goes.step h e).trans y |>.le (by omega)

def hit1 (text : Array Nat) (k : Nat) : Bool := (k == 0 || text.getD (k - 1) 0 == 10) && text.getD k 0 == 46
def find1 (text : Array Nat) : Nat → Nat → Option Nat
  | 0, _ => none
  | d + 1, s => if hit1 text s = true then some s else find1 text d (s + 1)

/-- the end of a search -/
def Told (r : Option (Nat × Nat)) (m : M) : Prop := match r with
  | some (a, b) => m.outcome = some .matched ∧ m.start = a ∧ m.handed = b
  | none => m.outcome = some .failed

theorem attemptAt_eq (text : Array Nat) (s s' : Nat) (first first' must must' : Bool) (seen : Seen) (a : Option Bool) (ha : a = none) : M.attemptAt { st1 text s first must seen with frames := [], weight := 0, mustAdvance := must', answer := a } s' first' = st1 text s' first' must' seen := by
  unfold M.attemptAt M.attempt
  rw [if_neg (by show ¬ (0 + 1 + 0 > 16777216); omega)]
  subst ha
  rfl
theorem s1_both (text : Array Nat) (s : Nat) (first must : Bool) (seen : Seen) (pc p : Nat) :
    (fl1 text s first must seen pc p false).step = if s < text.size then st1 text (s + 1) false false seen else { st1 text s first must seen with pc := 5, pos := s, frames := [], weight := 0, answer := some false } := by
  have e : (fl1 text s first must seen pc p false).step = if s < text.size then M.attemptAt { st1 text s first must seen with frames := [], weight := 0, mustAdvance := false, answer := none } (s + 1) false else { st1 text s first must seen with pc := 5, pos := s, frames := [], weight := 0, answer := some false } := rfl
  rw [e, attemptAt_eq text s (s + 1) first false must false seen none rfl]
theorem s1_back (text : Array Nat) (s : Nat) (first must : Bool) (seen : Seen) (pc p : Nat) (hs : s < text.size) :
    (fl1 text s first must seen pc p false).step = st1 text (s + 1) false false seen := by
  rw [s1_both, if_pos hs]
theorem s1_over (text : Array Nat) (s : Nat) (first must : Bool) (seen : Seen) (pc p : Nat) (hs : ¬ s < text.size) :
    (fl1 text s first must seen pc p false).step = { st1 text s first must seen with pc := 5, pos := s, frames := [], weight := 0, answer := some false } := by
  rw [s1_both, if_neg hs]
theorem s1_litEnd (text : Array Nat) (s : Nat) (first must : Bool) (seen : Seen) (hs : ¬ s < text.size) :
    ({ st1 text s first must seen with pc := 7 } : M).step = fl1 text s first must (seen.add 16) 7 s false := by
  have e2 : ({ st1 text s first must seen with pc := 7 } : M).step = if s ≥ text.size then fl1 text s first must (seen.add 16) 7 s false else (match (Except.ok (text.getD s 0 == 46, seen.add 16) : Except String (Bool × Seen)) with
    | .error why => ({ st1 text s first must (seen.add 16) with pc := 7 } : M).stick why
    | .ok (false, seen) => fl1 text s first must seen 7 s false
    | .ok (true, seen) => { st1 text s first must seen with pc := 9, pos := s + 1 }) := rfl
  rw [e2, if_pos (by omega)]
theorem s1_win (text : Array Nat) (s : Nat) (first must : Bool) (seen : Seen) :
    ({ st1 text s first must seen with pc := 9, pos := s + 1 } : M).step = { st1 text s first must (seen.add 1) with pc := 9, pos := s + 1, handed := s + 1, answer := some true } := by
  have e : ({ st1 text s first must seen with pc := 9, pos := s + 1 } : M).step = if (first && ((false && (s + 1 != text.size)) || (must && (s + 1 == s)))) = true then fl1 text s first must (seen.add 1) 9 (s + 1) false else { st1 text s first must (seen.add 1) with pc := 9, pos := s + 1, handed := s + 1, answer := some true } := rfl
  have h : (s + 1 == s) = false := by simp
  rw [e, h]
  simp

theorem search1 (text : Array Nat) : ∀ (d s : Nat) (first must : Bool) (seen : Seen), s + d = text.size → ∃ m', Goes (4 * d + 8) (st1 text s first must seen) m' ∧ Told ((find1 text d s).map fun k => (k, k + 1)) m'
  | 0, s, first, must, seen, hs => by
    have hlt : ¬ s < text.size := by omega
    have fin : ∀ seen pc, ∃ m', Goes 2 (fl1 text s first must seen pc s false) m' ∧ Told none m' := fun seen pc =>
      ⟨_, (Goes.step rfl (s1_over text s first must seen pc s hlt)).trans (Goes.step rfl rfl), rfl⟩
    cases h : (s == 0 || text.getD (s - 1) 0 == 10) with
    | false =>
      obtain ⟨m', g, t⟩ := fin ((seen.add 6).add 44) 5
      exact ⟨m', (Goes.next rfl (by rw [s1_at, h]; rfl) g).le (by omega), t⟩
    | true =>
      obtain ⟨m', g, t⟩ := fin (((seen.add 6).add 44).add 16) 7
      exact ⟨m', (Goes.next rfl (s1_yes text s first must seen h) (Goes.next rfl (s1_litEnd text s first must _ hlt) g)).le (by omega), t⟩
  | d + 1, s, first, must, seen, hs => by
    have hlt : s < text.size := by omega
    have go : hit1 text s = false → ∀ seen pc, ∃ m', Goes (4 * d + 9) (fl1 text s first must seen pc s false) m' ∧ Told ((find1 text (d + 1) s).map fun k => (k, k + 1)) m' := fun hh seen pc => by
      obtain ⟨m', g, t⟩ := search1 text d (s + 1) false false seen (by omega)
      refine ⟨m', Goes.next rfl (s1_back text s first must seen pc s hlt) g, ?_⟩
      unfold find1
      rw [hh]
      exact t
    cases h : (s == 0 || text.getD (s - 1) 0 == 10) with
    | false =>
      obtain ⟨m', g, t⟩ := go (by unfold hit1; rw [h]; rfl) ((seen.add 6).add 44) 5
      exact ⟨m', (Goes.next rfl (by rw [s1_at, h]; rfl) g).le (by omega), t⟩
    | true =>
      cases h2 : text.getD s 0 == 46 with
      | false =>
        obtain ⟨m', g, t⟩ := go (by unfold hit1; rw [h, h2]; rfl) (((seen.add 6).add 44).add 16) 7
        exact ⟨m', (Goes.next rfl (s1_yes text s first must seen h) (Goes.next rfl (by rw [s1_lit _ _ _ _ _ hlt, h2]; rfl) g)).le (by omega), t⟩
      | true =>
        have hh : hit1 text s = true := by unfold hit1; rw [h, h2]; rfl
        refine ⟨_, ((Goes.step rfl (s1_yes text s first must seen h)).trans ((Goes.step rfl (by rw [s1_lit _ _ _ _ _ hlt, h2]; rfl)).trans ((Goes.step rfl (s1_win text s first must _)).trans ((Goes.step rfl rfl).trans (Goes.step rfl rfl))))).le (by omega), ?_⟩
        unfold find1
        rw [hh]
        exact ⟨rfl, rfl, rfl⟩
theorem fs1 (text : Array Nat) (s : Nat) (must : Bool) : forSearch code1 text 0 s text.size must =
    if (decide (s > text.size) || decide (text.size - s < 1)) = true then { st1 text s true must (({} : Seen).add 14) with lastStart := 0, frames := [], weight := 0, answer := some false }
    else M.attemptAt { st1 text s true must (({} : Seen).add 14) with frames := [], weight := 0, mustAdvance := must, answer := none } s true := rfl
theorem forSearch1 (text : Array Nat) (d s : Nat) (must : Bool) (hs : s + d = text.size) : ∃ m', Goes (4 * d + 8) (forSearch code1 text 0 s text.size must) m' ∧ Told ((find1 text d s).map fun k => (k, k + 1)) m' := by
  rw [fs1]
  cases d with
  | zero =>
    rw [if_pos (by simp; omega)]
    exact ⟨_, (Goes.step rfl rfl).le (by omega), rfl⟩
  | succ d =>
    rw [if_neg (by simp; omega), attemptAt_eq text s s true true must must _ none rfl]
    exact search1 text (d + 1) s true must _ hs
end Mine
end
-- part Sre3
section
open PySem PySem.Sre
set_option Elab.async false
set_option maxRecDepth 100000
namespace Mine
def code3 : Array Nat := #[14, 9, 4, 1, 2, 16, 10, 16, 13, 0, 7, 7, 16, 13, 16, 10, 15, 18, 5, 16, 10, 15, 13, 11, 16, 13, 5, 5, 0, 16, 10, 1, 15, 2, 0, 1]
def bm (text : Array Nat) (s : Nat) (seen : Seen) (pc pos hd : Nat) (out : Bool) (frames : List PySem.Sre.Frame) (weight : Nat) (ans : Option Bool) (must : Bool) (last : Nat) : M :=
  { code := code3, text, lim := text.size, start := s, lastStart := last, wholeText := false, mustAdvance := must, pc, pos, handed := hd, outermost := out, marks := #[], lastmark := -1, lastindex := -1, loops := #[], inner := none,
    frames, weight, answer := ans, seen, outcome := none }
def f0 (first : Bool) (s : Nat) : PySem.Sre.Frame := { wait := .nextStart, pc := 10, pos := s, outermost := first }
def fb (first : Bool) (s pc : Nat) : PySem.Sre.Frame := { wait := .nextBranch, pc, pos := s, outermost := first, kept := {} }
def fn (first : Bool) (s : Nat) : PySem.Sre.Frame := { wait := .lookNot, pc := 26, pos := s + 1, outermost := first, kept := {} }
theorem attempt_ok (m : M) (f : PySem.Sre.Frame) (t fr : Nat) (o : Bool) (h : ¬ (m.weight + 1 + f.kept.marks.size > 16777216)) :
    m.attempt f t fr o = { m with frames := f :: m.frames, weight := m.weight + 1 + f.kept.marks.size, pc := t, pos := fr, handed := fr, outermost := o } := by
  unfold M.attempt
  rw [if_neg h]
section
variable (text : Array Nat) (s : Nat) (first : Bool) (seen : Seen) (last : Nat)
abbrev b1 (pc pos hd : Nat) (br : Nat) (ans : Option Bool) : M := bm text s seen pc pos hd first [fb first s br, f0 first s] 2 ans false last
theorem t1 : (bm text s seen 10 s s first [f0 first s] 1 none false last).step = b1 text s first (seen.add 7) last 12 s s 11 none := by
  have e : (bm text s seen 10 s s first [f0 first s] 1 none false last).step = M.attempt (bm text s (seen.add 7) 10 s s first [f0 first s] 1 none false last) (fb first s 11) 12 s first := rfl
  rw [e, attempt_ok _ _ _ _ _ (by show ¬ (1 + 1 + 0 > 16777216); omega)]
  rfl
theorem tlit (pc hd br pos c : Nat) (hl : pos < text.size) (hc : (pc = 12 ∧ c = 13) ∨ (pc = 14 ∧ c = 10) ∨ (pc = 19 ∧ c = 10) ∨ (pc = 24 ∧ c = 13)) :
    (b1 text s first seen last pc pos hd br none).step = if (text.getD pos 0 == c) = true then b1 text s first (seen.add 16) last (pc + 2) (pos + 1) hd br none else b1 text s first (seen.add 16) last pc pos hd br (some false) := by
  have e : ∀ k, (k = 12 ∧ c = 13) ∨ (k = 14 ∧ c = 10) ∨ (k = 19 ∧ c = 10) ∨ (k = 24 ∧ c = 13) → (b1 text s first seen last k pos hd br none).step = if pos ≥ text.size then b1 text s first (seen.add 16) last k pos hd br (some false) else (match (Except.ok (text.getD pos 0 == c, seen.add 16) : Except String (Bool × Seen)) with
    | .error why => (b1 text s first (seen.add 16) last k pos hd br none).stick why
    | .ok (false, seen) => b1 text s first seen last k pos hd br (some false)
    | .ok (true, seen) => b1 text s first seen last (k + 2) (pos + 1) hd br none) := by
    rintro k (⟨rfl, rfl⟩ | ⟨rfl, rfl⟩ | ⟨rfl, rfl⟩ | ⟨rfl, rfl⟩) <;> rfl
  rw [e pc hc, if_neg (by omega)]
  cases text.getD pos 0 == c <;> rfl
theorem tlitY (pc hd br pos c : Nat) (hl : pos < text.size) (hc : (pc = 12 ∧ c = 13) ∨ (pc = 14 ∧ c = 10) ∨ (pc = 19 ∧ c = 10) ∨ (pc = 24 ∧ c = 13)) (h : (text.getD pos 0 == c) = true) :
    (b1 text s first seen last pc pos hd br none).step = b1 text s first (seen.add 16) last (pc + 2) (pos + 1) hd br none := by rw [tlit text s first seen last pc hd br pos c hl hc, h]; rfl
theorem tlitN (pc hd br pos c : Nat) (hl : pos < text.size) (hc : (pc = 12 ∧ c = 13) ∨ (pc = 14 ∧ c = 10) ∨ (pc = 19 ∧ c = 10) ∨ (pc = 24 ∧ c = 13)) (h : (text.getD pos 0 == c) = false) :
    (b1 text s first seen last pc pos hd br none).step = b1 text s first (seen.add 16) last pc pos hd br (some false) := by rw [tlit text s first seen last pc hd br pos c hl hc, h]; rfl
theorem tlitEnd (hd br pos : Nat) (hl : ¬ pos < text.size) : (b1 text s first seen last 14 pos hd br none).step = b1 text s first (seen.add 16) last 14 pos hd br (some false) := by
  have e : (b1 text s first seen last 14 pos hd br none).step = if pos ≥ text.size then b1 text s first (seen.add 16) last 14 pos hd br (some false) else (match (Except.ok (text.getD pos 0 == 10, seen.add 16) : Except String (Bool × Seen)) with
    | .error why => (b1 text s first (seen.add 16) last 14 pos hd br none).stick why
    | .ok (false, seen) => b1 text s first seen last 14 pos hd br (some false)
    | .ok (true, seen) => b1 text s first seen last 16 (pos + 1) hd br none) := rfl
  rw [e, if_pos (by omega)]
theorem tend (hd br pos : Nat) : (b1 text s first seen last 35 pos hd br none).step = b1 text s first (seen.add 1) last 35 pos pos br (some true) := by
  have e : (b1 text s first seen last 35 pos hd br none).step = if (first && ((false && (pos != text.size)) || (false && (pos == s)))) = true then b1 text s first (seen.add 1) last 35 pos hd br (some false) else b1 text s first (seen.add 1) last 35 pos pos br (some true) := rfl
  rw [e]
  simp
/-- the three last steps of a match -/
theorem twin (hd br pos : Nat) : ∃ m', Goes 4 (b1 text s first seen last 35 pos hd br none) m' ∧ Told (some (s, pos)) m' :=
  ⟨_, ((Goes.step rfl (tend text s first seen last hd br pos)).trans ((Goes.step rfl rfl).trans ((Goes.step rfl rfl).trans (Goes.step rfl rfl)))), rfl, rfl, rfl⟩
theorem tback1 (pc pos hd : Nat) : (b1 text s first seen last pc pos hd 11 (some false)).step = b1 text s first seen last 19 s s 18 none := by
  have e : (b1 text s first seen last pc pos hd 11 (some false)).step = M.attempt (bm text s seen 11 s hd first [f0 first s] 1 none false last) (fb first s 18) 19 s first := rfl
  rw [e, attempt_ok _ _ _ _ _ (by show ¬ (1 + 1 + 0 > 16777216); omega)]
  rfl
theorem tback2 (pc pos hd : Nat) : (b1 text s first seen last pc pos hd 18 (some false)).step = b1 text s first seen last 24 s s 23 none := by
  have e : (b1 text s first seen last pc pos hd 18 (some false)).step = M.attempt (bm text s seen 18 s hd first [f0 first s] 1 none false last) (fb first s 23) 24 s first := rfl
  rw [e, attempt_ok _ _ _ _ _ (by show ¬ (1 + 1 + 0 > 16777216); omega)]
  rfl
theorem tnot (hd : Nat) : (b1 text s first seen last 26 (s + 1) hd 23 none).step = bm text s (seen.add 5) 29 (s + 1) (s + 1) false [fn first s, fb first s 23, f0 first s] 3 none false last := by
  have e : (b1 text s first seen last 26 (s + 1) hd 23 none).step = M.attempt (bm text s (seen.add 5) 26 (s + 1) hd first [fb first s 23, f0 first s] 2 none false last) (fn first s) 29 (s + 1) false := rfl
  rw [e, attempt_ok _ _ _ _ _ (by show ¬ (2 + 1 + 0 > 16777216); omega)]
  rfl
theorem tnotlit (h : ¬ (s + 1 < text.size ∧ text.getD (s + 1) 0 = 10)) : (bm text s seen 29 (s + 1) (s + 1) false [fn first s, fb first s 23, f0 first s] 3 none false last).step = bm text s (seen.add 16) 29 (s + 1) (s + 1) false [fn first s, fb first s 23, f0 first s] 3 (some false) false last := by
  have e : (bm text s seen 29 (s + 1) (s + 1) false [fn first s, fb first s 23, f0 first s] 3 none false last).step = if s + 1 ≥ text.size then bm text s (seen.add 16) 29 (s + 1) (s + 1) false [fn first s, fb first s 23, f0 first s] 3 (some false) false last else (match (Except.ok (text.getD (s + 1) 0 == 10, seen.add 16) : Except String (Bool × Seen)) with
    | .error why => (bm text s (seen.add 16) 29 (s + 1) (s + 1) false [fn first s, fb first s 23, f0 first s] 3 none false last).stick why
    | .ok (false, seen) => bm text s seen 29 (s + 1) (s + 1) false [fn first s, fb first s 23, f0 first s] 3 (some false) false last
    | .ok (true, seen) => bm text s seen 31 (s + 2) (s + 1) false [fn first s, fb first s 23, f0 first s] 3 none false last) := rfl
  rw [e]
  by_cases h1 : s + 1 < text.size
  · rw [if_neg (by omega)]
    have h2 : (text.getD (s + 1) 0 == 10) = false := by simpa using fun z => h ⟨h1, z⟩
    rw [h2]
  · rw [if_pos (by omega)]
theorem tnotback : (bm text s seen 29 (s + 1) (s + 1) false [fn first s, fb first s 23, f0 first s] 3 (some false) false last).step = b1 text s first seen last 32 (s + 1) (s + 1) 23 none := rfl
theorem tjump (k hd br pos : Nat) (hk : k = 16 ∨ k = 21 ∨ k = 32) : ∃ seen', (b1 text s first seen last k pos hd br none).step = b1 text s first seen' last 35 pos hd br none := by
  rcases hk with rfl | rfl | rfl <;> exact ⟨_, rfl⟩
end
def len3 (text : Array Nat) (s : Nat) : Nat := if text.getD s 0 == 13 && (decide (s + 1 < text.size) && text.getD (s + 1) 0 == 10) then 2 else 1
def isEnd (c : Nat) : Bool := c == 10 || c == 13

theorem at3 (text : Array Nat) (s : Nat) (first : Bool) (seen : Seen) (last : Nat) (hs : s < text.size) (he : isEnd (text.getD s 0) = true) :
    ∃ m', Goes 24 (bm text s seen 10 s s first [f0 first s] 1 none false last) m' ∧ Told (some (s, s + len3 text s)) m' := by
  have fin : ∀ seen k hd br pos, (k = 16 ∨ k = 21 ∨ k = 32) → ∃ m', Goes 5 (b1 text s first seen last k pos hd br none) m' ∧ Told (some (s, pos)) m' := fun seen k hd br pos hk => by
    obtain ⟨seen', e⟩ := tjump text s first seen last k hd br pos hk
    obtain ⟨m', g, t⟩ := twin text s first seen' last hd br pos
    exact ⟨m', Goes.next rfl e g, t⟩
  have g1 := Goes.step (m := bm text s seen 10 s s first [f0 first s] 1 none false last) rfl (t1 text s first seen last)
  cases h13 : text.getD s 0 == 13 with
  | true =>
    have hc13 : text.getD s 0 = 13 := by simpa using h13
    have g2 := g1.trans (Goes.step rfl (tlitY text s first _ last 12 s 11 s 13 hs (.inl ⟨rfl, rfl⟩) h13))
    by_cases hn : s + 1 < text.size ∧ text.getD (s + 1) 0 = 10
    · have h10 : (text.getD (s + 1) 0 == 10) = true := by simpa using hn.2
      have g3 := g2.trans (Goes.step rfl (tlitY text s first _ last 14 s 11 (s + 1) 10 hn.1 (.inr (.inl ⟨rfl, rfl⟩)) h10))
      obtain ⟨m', g, t⟩ := fin ((((seen.add 7).add 16).add 16)) 16 s 11 (s + 1 + 1) (.inl rfl)
      refine ⟨m', (g3.trans g).le (by omega), ?_⟩
      have : len3 text s = 2 := by unfold len3; rw [h13, h10, decide_eq_true hn.1]; rfl
      rw [this]
      exact t
    · have hlen : len3 text s = 1 := by
        unfold len3
        rw [h13]
        have : (decide (s + 1 < text.size) && text.getD (s + 1) 0 == 10) = false := by
          rw [Bool.and_eq_false_iff]
          by_cases h1 : s + 1 < text.size
          · exact .inr (by simpa using fun z => hn ⟨h1, z⟩)
          · exact .inl (by simpa using h1)
        rw [this]; rfl
      have g3 : ∃ seen' pc pos, Goes 3 (bm text s seen 10 s s first [f0 first s] 1 none false last) (b1 text s first seen' last pc pos s 11 (some false)) := by
        by_cases h1 : s + 1 < text.size
        · have h2 : (text.getD (s + 1) 0 == 10) = false := by simpa using fun z => hn ⟨h1, z⟩
          exact ⟨_, _, _, g2.trans (Goes.step rfl (tlitN text s first _ last 14 s 11 (s + 1) 10 h1 (.inr (.inl ⟨rfl, rfl⟩)) h2))⟩
        · exact ⟨_, _, _, g2.trans (Goes.step rfl (tlitEnd text s first _ last s 11 (s + 1) h1))⟩
      obtain ⟨seen', pc, pos, g3⟩ := g3
      have h10 : (text.getD s 0 == 10) = false := by rw [hc13]; rfl
      have g5 := (g3.trans (Goes.step rfl (tback1 text s first seen' last pc pos s))).trans (Goes.step rfl (tlitN text s first _ last 19 s 18 s 10 hs (.inr (.inr (.inl ⟨rfl, rfl⟩))) h10))
      have g7 := (g5.trans (Goes.step rfl (tback2 text s first _ last 19 s s))).trans (Goes.step rfl (tlitY text s first _ last 24 s 23 s 13 hs (.inr (.inr (.inr ⟨rfl, rfl⟩))) h13))
      have g10 := ((g7.trans (Goes.step rfl (tnot text s first _ last s))).trans (Goes.step rfl (tnotlit text s first _ last hn))).trans (Goes.step rfl (tnotback text s first _ last))
      obtain ⟨m', g, t⟩ := fin _ 32 (s + 1) 23 (s + 1) (.inr (.inr rfl))
      refine ⟨m', (g10.trans g).le (by omega), ?_⟩
      rw [hlen]
      exact t
  | false =>
    have h10 : (text.getD s 0 == 10) = true := by
      unfold isEnd at he
      rw [h13, Bool.or_false] at he
      exact he
    have g2 := g1.trans (Goes.step rfl (tlitN text s first _ last 12 s 11 s 13 hs (.inl ⟨rfl, rfl⟩) h13))
    have g4 := (g2.trans (Goes.step rfl (tback1 text s first _ last 12 s s))).trans (Goes.step rfl (tlitY text s first _ last 19 s 18 s 10 hs (.inr (.inr (.inl ⟨rfl, rfl⟩))) h10))
    obtain ⟨m', g, t⟩ := fin _ 21 s 18 (s + 1) (.inr (.inl rfl))
    refine ⟨m', (g4.trans g).le (by omega), ?_⟩
    have : len3 text s = 1 := by unfold len3; rw [h13]; rfl
    rw [this]
    exact t
def find3 (text : Array Nat) : Nat → Nat → Option Nat
  | 0, _ => none
  | d + 1, s => if isEnd (text.getD s 0) = true then some s else find3 text d (s + 1)
theorem inSet3 (c : Nat) (seen : Seen) : inSet code3 c code3.size 5 true seen = if (c == 10) = true then .ok (true, seen.add 16) else if (c == 13) = true then .ok (true, (seen.add 16).add 16) else .ok (false, ((seen.add 16).add 16).add 0) := rfl
theorem admitted3 (m : M) (text : Array Nat) (hc : m.code = code3) (ht : m.text = text) (hl : m.lim = text.size) : ∀ (d s : Nat) (seen : Seen), s + d = text.size → ∃ seen', M.admitted m (d + 1) s seen = .ok (find3 text d s, seen')
  | 0, s, seen, h => by
    refine ⟨seen, ?_⟩
    unfold M.admitted
    rw [hl, if_pos (by omega)]
    rfl
  | d + 1, s, seen, h => by
    unfold M.admitted
    rw [hl, if_neg (by omega), hc, ht, inSet3]
    unfold find3 isEnd
    cases h10 : text.getD s 0 == 10 with
    | true => exact ⟨_, rfl⟩
    | false =>
      cases h13 : text.getD s 0 == 13 with
      | true => exact ⟨_, rfl⟩
      | false =>
        obtain ⟨seen', e⟩ := admitted3 m text hc ht hl d (s + 1) (((seen.add 16).add 16).add 0) (by omega)
        exact ⟨seen', e⟩
theorem fs3 (text : Array Nat) (s : Nat) (must : Bool) : forSearch code3 text 0 s text.size must =
    if (decide (s > text.size) || decide (text.size - s < 1)) = true then bm text s (({} : Seen).add 14) 10 s s true [] 0 (some false) must 0
    else (match M.admitted (bm text s (({} : Seen).add 14) 10 s s true [] 0 none must text.size) (text.size + 1 - s) s (({} : Seen).add 14) with
      | .ok (some s', seen) => M.attemptAt (bm text s seen 10 s s true [] 0 none false text.size) s' true
      | .ok (none, seen) => bm text s seen 10 s s true [] 0 (some false) must text.size
      | .error why => (bm text s (({} : Seen).add 14) 10 s s true [] 0 none must text.size).stick why) := rfl
theorem find3_at {text : Array Nat} : ∀ {d s k : Nat}, s + d = text.size → find3 text d s = some k → s ≤ k ∧ k < text.size ∧ isEnd (text.getD k 0) = true
  | d + 1, s, k, h, e => by
    unfold find3 at e
    cases hE : isEnd (text.getD s 0) with
    | true => rw [hE] at e; cases e; exact ⟨Nat.le_refl _, by omega, hE⟩
    | false =>
      rw [hE] at e
      obtain ⟨a, b, c⟩ := find3_at (d := d) (s := s + 1) (by omega) e
      exact ⟨by omega, b, c⟩
theorem forSearch3 (text : Array Nat) (d s : Nat) (must : Bool) (hs : s + d = text.size) : ∃ m', Goes 24 (forSearch code3 text 0 s text.size must) m' ∧ Told ((find3 text d s).map fun k => (k, k + len3 text k)) m' := by
  rw [fs3]
  cases d with
  | zero =>
    rw [if_pos (by simp; omega)]
    exact ⟨_, (Goes.step rfl rfl).le (by omega), rfl⟩
  | succ d =>
    obtain ⟨seen', e⟩ := admitted3 (bm text s (({} : Seen).add 14) 10 s s true [] 0 none must text.size) text rfl rfl rfl (d + 1) s (({} : Seen).add 14) hs
    rw [if_neg (by simp; omega), show text.size + 1 - s = d + 1 + 1 by omega, e]
    cases hf : find3 text (d + 1) s with
    | none => exact ⟨_, (Goes.step rfl rfl).le (by omega), rfl⟩
    | some k =>
      obtain ⟨h1, h2, h3⟩ := find3_at hs hf
      obtain ⟨m', g, t⟩ := at3 text k true seen' text.size h2 h3
      refine ⟨m', ?_, t⟩
      have e2 : M.attemptAt (bm text s seen' 10 s s true [] 0 none false text.size) k true = bm text k seen' 10 k k true [f0 true k] 1 none false text.size := by
        unfold M.attemptAt
        rw [attempt_ok _ _ _ _ _ (by show ¬ (0 + 1 + 0 > 16777216); omega)]
        rfl
      show Goes 24 (M.attemptAt (bm text s seen' 10 s s true [] 0 none false text.size) k true) m'
      rw [e2]
      exact g
end Mine
end
-- part Gen
section
open PySem PySem.W PyProof.Rows PySem.Calls
set_option Elab.async false
set_option maxRecDepth 100000
set_option maxHeartbeats 8000000
namespace Mine
theorem Each.snoc {β : Type} {El : Value → β → Prop} {y : Value} {b : β} (h : El y b) : ∀ {ys : List Value} {bs : List β}, Each El ys bs → Each El (ys ++ [y]) (bs ++ [b])
  | _, _, .nil => .cons h .nil
  | _, _, .cons h1 h2 => .cons h1 (Each.snoc h h2)
theorem Each.len {β : Type} {El : Value → β → Prop} : ∀ {ys : List Value} {bs : List β}, Each El ys bs → ys.length = bs.length
  | _, _, .nil => rfl
  | _, _, .cons _ h => by simp [h.len]
theorem Each.map {β γ : Type} {El : Value → β → Prop} {El' : Value → γ → Prop} (f : β → γ) (hf : ∀ y b, El y b → El' y (f b)) : ∀ {ys : List Value} {bs : List β}, Each El ys bs → Each El' ys (bs.map f)
  | _, _, .nil => .nil
  | _, _, .cons h1 h2 => .cons (hf _ _ h1) (h2.map f hf)
section
variable {prog : Program} {w : World} {A : Around} {s : Shared} {env : Env} {h₀ : Heap} {L : Addr} {m : Str → Option Value} {news : List (Addr × Obj)} {R : Result → Shared → Prop}

def testsOf (ifs : List Expr) (cenv : Env) : Sem Bool := forIn ifs true fun c r => if r = true then do let ok ← isTrue c cenv (eval c cenv); pure (ForInStep.yield ok) else pure (ForInStep.yield r)

theorem testsOf_one {E : Value → Shared → Prop} {c : Expr} {cenv : Env} {Q : Bool → Shared → Prop} (h : wpAny (model prog w) A (isTrue c cenv (eval c cenv)) Q E s) : wpAny (model prog w) A (testsOf [c] cenv) Q E s := by
  unfold testsOf
  exact wpAny_tests_one h
/-- the loop of a list's comprehension, whatever its target -/
theorem loop_G {elt target iter : Expr} {ifs : List Expr} {scope : Scope} {pos : Pos} {it acc : Value} {cenv : Env} (I : Nat → Shared → Prop)
    (turn : ∀ n s, I n s → wpAny (model prog w) A (pyNext it) (fun r s₁ => match r with
      | none => R (.ok .next) s₁
      | some v => wpAny (model prog w) A (letOwnedTupleGo target it v) (fun _ s₀ => wpAny (model prog w) A (assign target cenv v) (fun _ s₂ =>
          wpAny (model prog w) A (testsOf ifs cenv) (fun ok s₃ =>
            if ok = true then wpAny (model prog w) A (eval elt cenv) (fun x s₄ =>
              wpAny (model prog w) A (call (.builtin "list.append") [acc, x]) (fun _ s₅ => ∃ m, m < n ∧ I m s₅) (notedBy (model prog w) A cenv fun e s' => R (.error e) s') s₄) (notedBy (model prog w) A cenv fun e s' => R (.error e) s') s₃
            else ∃ m, m < n ∧ I m s₃) (notedBy (model prog w) A cenv fun e s' => R (.error e) s') s₂) (notedBy (model prog w) A cenv fun e s' => R (.error e) s') s₀) (notedBy (model prog w) A cenv fun e s' => R (.error e) s') s₁) (notedBy (model prog w) A cenv fun e s' => R (.error e) s') s)
    (n : Nat) (h : I n s) :
    codeAny (model prog w) A (.compLoop (.ListComp elt [⟨target, iter, ifs, 0⟩] scope pos) 0 it acc cenv) R s := by
  refine codeAny_loop rfl I (fun n s hI => ?_) n h
  show wpAny _ A ((compTurn (.ListComp elt [⟨target, iter, ifs, 0⟩] scope pos) 0 it acc cenv).onRaise (fun x => do noteFrame x cenv; theTreesLotGoes x)) _ _ s
  refine wpAny_noted ?_
  rw [compTurn_list]
  refine wpAny_bind (wpAny_standAt (wpAny_bind (wpAny_mono (turn n s hI) (fun r s₁ h₁ => ?_) fun _ _ e => e)))
  cases r with
  | none => exact wpAny_pure h₁
  | some v =>
    refine wpAny_bind (wpAny_mono h₁ (fun _ s₀ h₂ => wpAny_bind (wpAny_mono h₂ (fun _ s₂ h₃ => wpAny_bind (wpAny_mono h₃ (fun ok s₃ h₄ => ?_) fun _ _ e => e)) fun _ _ e => e)) fun _ _ e => e)
    cases ok with
    | false => exact wpAny_pure ⟨rfl, h₄⟩
    | true =>
      exact wpAny_bind (wpAny_bind (wpAny_mono h₄ (fun x s₄ h₅ => wpAny_bind (wpAny_mono h₅ (fun _ s₅ h₆ => wpAny_pure (wpAny_pure ⟨rfl, h₆⟩)) fun _ _ e => e)) fun _ _ e => e))

/-- an iterator together with the target that takes its items -/
structure StepG (prog : Program) (w : World) (A : Around) (cenv : Env) (target : Expr) (I : Addr) (n : Nat) (fp wr : List Addr) (St Bd : Nat → Heap → Prop) : Prop where
  step : ∀ i (s : Shared) (Q : Unit → Shared → Prop) (E : Value → Shared → Prop), i < n → St i s.heap →
    (∀ h' tk, St (i + 1) h' → Bd i h' → (∀ b o, b ∉ wr → s.heap.get? b = some o → h'.get? b = some o) → Q () { s with heap := h', toks := tk }) →
    wpAny (model prog w) A (pyNext (.ref I)) (fun r s₁ => match r with
      | none => False
      | some v => wpAny (model prog w) A (letOwnedTupleGo target (.ref I) v) (fun _ s₀ => wpAny (model prog w) A (assign target cenv v) Q E s₀) E s₁) E s
  done : ∀ (s : Shared) (Q : Option Value → Shared → Prop) (E : Value → Shared → Prop), St n s.heap →
    (∀ h' tk, (∃ m, h'.Ns cenv.locals m) → (∀ b o, b ∉ wr → s.heap.get? b = some o → h'.get? b = some o) → Q none { s with heap := h', toks := tk }) → wpAny (model prog w) A (pyNext (.ref I)) Q E s
  frame : ∀ i h h', St i h → (∀ b ∈ fp, ∀ o, h.get? b = some o → h'.get? b = some o) → St i h'
  bound : ∀ i h h', Bd i h → Kp h h' → Bd i h'

theorem walk_G {elt target iter : Expr} {ifs : List Expr} {scope : Scope} {pos : Pos} {I D : Addr} {cenv : Env} {n : Nat} {fp wr : List Addr} {St Bd : Nat → Heap → Prop}
    (S : StepG prog w A cenv target I n fp wr St Bd) (q : Nat → Bool) (G : Value → Nat → Prop) (hDf : D ∉ fp) (hDw : D ∉ wr) (hsz : n ≤ sizeLine)
    (hst : St 0 s.heap) (hacc : s.heap.PlainList D #[])
    (tests : ∀ i s₂, i < n → Bd i s₂.heap → (∀ b o, b ∉ wr → b ≠ D → s.heap.get? b = some o → s₂.heap.get? b = some o) → wpAny (model prog w) A (testsOf ifs cenv) (fun ok s₃ => ok = q i ∧ Keeps s₂ s₃) (fun _ _ => False) s₂)
    (elts : ∀ i s₂, i < n → q i = true → Bd i s₂.heap → (∀ b o, b ∉ wr → b ≠ D → s.heap.get? b = some o → s₂.heap.get? b = some o) → wpAny (model prog w) A (eval elt cenv) (fun y s₃ => G y i ∧ Keeps s₂ s₃) (fun _ _ => False) s₂)
    (hR : ∀ h' tk (ys : List Value), (∃ m, h'.Ns cenv.locals m) → h'.PlainList D ys.toArray → Each G ys ((List.range n).filter q) → (∀ b o, b ∉ wr → b ≠ D → s.heap.get? b = some o → h'.get? b = some o) → R (.ok .next) { s with heap := h', toks := tk }) :
    codeAny (model prog w) A (.compLoop (.ListComp elt [⟨target, iter, ifs, 0⟩] scope pos) 0 (.ref I) (.ref D) cenv) R s := by
  refine loop_G
    (fun k s' => ∃ h' tk, ∃ ys : List Value, ∃ i, s' = { s with heap := h', toks := tk } ∧ St i h' ∧ h'.PlainList D ys.toArray ∧ Each G ys ((List.range i).filter q) ∧ i ≤ n ∧ k = n + 1 - i ∧
      (∀ b o, b ∉ wr → b ≠ D → s.heap.get? b = some o → h'.get? b = some o)) ?_ (n + 1)
    ⟨s.heap, s.toks, [], 0, rfl, hst, hacc, .nil, Nat.zero_le _, rfl, fun _ _ _ _ e => e⟩
  rintro k s' ⟨H, tk, ys, i, rfl, hst', hacc', hG, hi, rfl, hk⟩
  by_cases hlt : i < n
  · refine' wpAny_mono (S.step i _ _ _ hlt hst' ?item) ?pst fun _ _ e => e
    case pst =>
      intro r s₁ h₁
      cases r with
      | none => exact h₁.elim
      | some v => exact h₁
    case item =>
      intro h₁ tk₁ hst₁ hB hk₁
      have up₁ : ∀ b o, b ∉ wr → b ≠ D → s.heap.get? b = some o → h₁.get? b = some o := fun b o hb hd e => hk₁ b o hb (hk b o hb hd e)
      refine wpAny_mono (tests i _ hlt hB up₁) (fun ok s₃ h₃ => ?_) fun _ _ e => e.elim
      obtain ⟨rfl, h₃, tk₃, rfl, hk₃⟩ := h₃
      have hst₃ : St (i + 1) h₃ := S.frame _ _ _ hst₁ fun b _ o e => hk₃ b o e
      have hacc₃ : h₃.PlainList D ys.toArray := hacc'.at fun o e => hk₃ _ o (hk₁ _ o hDw e)
      have hr : (List.range (i + 1)).filter q = (List.range i).filter q ++ (if q i = true then [i] else []) := by
        rw [List.range_succ, List.filter_append]
        cases hqi : q i <;> simp [hqi]
      cases hq : q i with
      | false =>
        simp only [Bool.false_eq_true, if_false]
        refine ⟨n + 1 - (i + 1), by omega, h₃, tk₃, ys, i + 1, rfl, hst₃, hacc₃, ?_, hlt, rfl, fun b o hb hd e => hk₃ b o (up₁ b o hb hd e)⟩
        rw [hr, hq]; simpa using hG
      | true =>
        simp only [if_true]
        refine wpAny_mono (elts i _ hlt hq (S.bound _ _ _ hB hk₃) fun b o hb hd e => hk₃ b o (up₁ b o hb hd e)) (fun y s₄ h₄ => ?_) fun _ _ e => e.elim
        obtain ⟨hy, h₄, tk₄, rfl, hk₄⟩ := h₄
        have hys : ys.toArray.size ≤ sizeLine := by
          have e1 := hG.len
          have e2 : ((List.range i).filter q).length ≤ i := Nat.le_trans (List.length_filter_le _ _) (by simp)
          rw [List.size_toArray]; omega
        refine wpAny_list_append_plain (hsz := hys) (hacc₃.at fun o e => hk₄ _ o e) fun h₅ hl₅ hs₅ => ?_
        refine ⟨n + 1 - (i + 1), by omega, h₅, tk₄, ys ++ [y], i + 1, rfl, ?_, by simpa using hl₅, ?_, hlt, rfl, fun b o hb hd e => hs₅.extBut b o hd (hk₄ b o (hk₃ b o (up₁ b o hb hd e)))⟩
        · exact S.frame _ _ h₅ hst₃ fun b hb o e => hs₅.extBut b o (fun h => hDf (h ▸ hb)) (hk₄ b o e)
        · rw [hr, hq]; exact Each.snoc hy hG
  · have hin : i = n := by omega
    subst hin
    refine S.done _ _ _ hst' fun h₁ tk₁ hC hk₁ => ?_
    exact hR h₁ tk₁ ys hC (hacc'.at fun o e => hk₁ _ o hDw e) hG fun b o hb hd e => hk₁ b o hb (hk b o hb hd e)

theorem wp_newComp {M : Model} {E : Value → Shared → Prop} {scope : Scope} {cl : List (Str × Addr)} {Q : Env → Shared → Prop}
    (h : Q { scope := scope, locals := s.heap.objs.size, globals := env.globals, cells := cellsFrom (s.heap.objs.size + 1) scope.names cl, qual := env.qual, func := none, code := env.code, frame := env.frame, builtins := env.builtins }
      { s with heap := pushCells (s.heap.push { cls := .type "dict", data := .dict #[] }) scope.names }) :
    wpAny M A (newFunctionEnv scope env.globals cl [] env.qual none .none (some env)) Q E s := by
  simp only [newFunctionEnv, Option.isSome_some, if_true]
  refine wpAny_bind (wpAny_alloc ?_)
  refine wpAny_bind (wpAny_layCells _ (fun name kind cells => by cases hkc : kind == NameKind.cell <;> simp [hkc]) _ _ _ _ ?_)
  rw [show ({ s with heap := s.heap.push { cls := .type "dict", data := .dict #[] } } : Shared).heap.objs.size = s.heap.objs.size + 1 from Heap.size_push ..]
  simp only [List.forIn_nil]
  exact wpAny_bind (wpAny_pure (wpAny_pure h))

/-- a comprehension's block: its list, its frame and its cells are new -/
theorem block_G {elt target iter : Expr} {ifs : List Expr} {scope : Scope} {cl : List (Str × Addr)} {pos : Pos} {s₂ : Shared} {I : Addr} {n : Nat} {fp wr : List Addr} {StC : Addr → Nat → Heap → Prop} {Bd : Addr → Nat → Heap → Prop} {ow : Addr → List Addr}
    {E : Value → Shared → Prop} {RR : Value → Addr → Result → Shared → Prop} (q : Nat → Bool) (G : Value → Nat → Prop)
    (S : ∀ C, s₂.heap.objs.size < C → StepG prog w A (compEnvC scope (cellsFrom (C + 1) scope.names cl) C env) target I n (ow C ++ fp) (ow C ++ wr) (StC C) (Bd C))
    (init : ∀ g : Heap, s₂.heap.objs.size < g.objs.size → Kp s₂.heap g → StC g.objs.size 0 (pushCells (g.push { cls := .type "dict", data := .dict #[] }) scope.names))
    (how : ∀ C, ∀ b ∈ ow C, C ≤ b) (self : ∀ (s : Shared) (Q : Value → Shared → Prop) (E : Value → Shared → Prop) C, StC C 0 s.heap → Q (.ref I) s → wpAny (model prog w) A (pyIter (.ref I)) Q E s)
    (hfp : ∀ b ∈ fp, b < s₂.heap.objs.size) (hwr : ∀ b ∈ wr, b ∈ fp) (hsz : n ≤ sizeLine)
    (tests : ∀ C i s₃, s₂.heap.objs.size < C → i < n → Bd C i s₃.heap → (∀ b o, b ∉ wr → s₂.heap.get? b = some o → s₃.heap.get? b = some o) → wpAny (model prog w) A (testsOf ifs (compEnvC scope (cellsFrom (C + 1) scope.names cl) C env)) (fun ok s₄ => ok = q i ∧ Keeps s₃ s₄) (fun _ _ => False) s₃)
    (elts : ∀ C i s₃, s₂.heap.objs.size < C → i < n → q i = true → Bd C i s₃.heap → (∀ b o, b ∉ wr → s₂.heap.get? b = some o → s₃.heap.get? b = some o) → wpAny (model prog w) A (eval elt (compEnvC scope (cellsFrom (C + 1) scope.names cl) C env)) (fun y s₄ => G y i ∧ Keeps s₃ s₄) (fun _ _ => False) s₃)
    (hRR : ∀ D C h' tk (ys : List Value), s₂.heap.objs.size ≤ D → s₂.heap.get? D = none → s₂.heap.get? C = none → D < C → (∃ m, h'.Ns C m) → h'.PlainList D ys.toArray → Each G ys ((List.range n).filter q) →
      (∀ b o, b ∉ wr → s₂.heap.get? b = some o → h'.get? b = some o) → RR (.ref D) C (.ok .next) { s₂ with heap := h', toks := tk }) :
    wpAny (model prog w) A (newList []) (fun acc s₃ => wpAny (model prog w) A (newFunctionEnv scope env.globals cl [] env.qual none .none (some env)) (fun cenv s₄ =>
      codeAny (model prog w) A (.compStart (.ListComp elt [⟨target, iter, ifs, 0⟩] scope pos) 0 (.ref I) acc { cenv with scope := relabel scope env }) (RR acc cenv.locals) s₄) E s₃) E s₂ := by
  refine wpAny_newObj_type (wp_newComp ?_)
  dsimp only
  generalize hH2 : s₂.heap.push { cls := .type "list", dict := none, data := .seq ([] : List Value).toArray } = H2
  have hC : H2.objs.size = s₂.heap.objs.size + 1 := by rw [← hH2, Heap.size_push]
  have hlt : s₂.heap.objs.size < H2.objs.size := by rw [hC]; exact Nat.lt_succ_self _
  have k2 : Kp s₂.heap H2 := fun b o e => hH2 ▸ Heap.get?_push_of_some _ e
  have k3 : Kp H2 (pushCells (H2.push { cls := .type "dict", data := .dict #[] }) scope.names) := fun b o e => pushCells_keeps _ _ b o (Heap.get?_push_of_some _ e)
  have fresh : ∀ a, s₂.heap.objs.size ≤ a → s₂.heap.get? a = none := fun a ha => by
    cases e : s₂.heap.get? a with
    | none => rfl
    | some o' => exact absurd (Heap.lt_size e) (Nat.not_lt.mpr ha)
  have hst := init H2 hlt k2
  have S' := S H2.objs.size hlt
  have off : ∀ b, b < s₂.heap.objs.size → b ∉ wr → b ∉ ow H2.objs.size ++ wr := fun b hb hw hm => by
    rcases List.mem_append.mp hm with h1 | h1
    · exact absurd (how _ b h1) (Nat.not_le.mpr (Nat.lt_trans hb hlt))
    · exact hw h1
  have offD : ∀ l : List Addr, (∀ b ∈ l, b < s₂.heap.objs.size) → s₂.heap.objs.size ∉ ow H2.objs.size ++ l := fun l hl hm => by
    rcases List.mem_append.mp hm with h1 | h1
    · exact absurd (how _ _ h1) (Nat.not_le.mpr hlt)
    · exact absurd (hl _ h1) (Nat.lt_irrefl _)
  have up : ∀ g : Heap, (∀ b o, b ∉ ow H2.objs.size ++ wr → b ≠ s₂.heap.objs.size → (pushCells (H2.push { cls := .type "dict", data := .dict #[] }) scope.names).get? b = some o → g.get? b = some o) →
      ∀ b o, b ∉ wr → s₂.heap.get? b = some o → g.get? b = some o := fun g hg b o hb e =>
    hg b o (off b (Heap.lt_size e) hb) (Nat.ne_of_lt (Heap.lt_size e)) (k3 b o (k2 b o e))
  have loop : ∀ s₃ : Shared, s₃ = { s₂ with heap := pushCells (H2.push { cls := .type "dict", data := .dict #[] }) scope.names } →
      codeAny (model prog w) A (.compLoop (.ListComp elt [⟨target, iter, ifs, 0⟩] scope pos) 0 (.ref I) (.ref s₂.heap.objs.size) (compEnvC scope (cellsFrom (H2.objs.size + 1) scope.names cl) H2.objs.size env))
        (RR (.ref s₂.heap.objs.size) H2.objs.size) s₃ := by
    rintro s₃ rfl
    refine walk_G S' q G (offD fp hfp) (offD wr fun b hb => hfp b (hwr b hb)) hsz hst ⟨_, k3 _ _ (hH2 ▸ Heap.get?_push_size _ rfl)⟩ ?_ ?_ ?_
    · exact fun i s₄ hi hB hk => tests _ i s₄ hlt hi hB (up _ hk)
    · exact fun i s₄ hi hq hB hk => elts _ i s₄ hlt hi hq hB (up _ hk)
    · exact fun h' tk ys hn hl hG hk => hRR _ _ h' tk ys (Nat.le_refl _) (fresh _ (Nat.le_refl _)) (fresh _ (Nat.le_of_lt hlt)) hlt hn hl hG (up _ hk)
  exact codeAny_compStart_list (loop _ rfl) (self _ _ _ _ hst (loop _ rfl))

/-- what a comprehension wants of its source -/
def SrcG (prog : Program) (w : World) (A : Around) (env : Env) (scope : Scope) (cl : List (Str × Addr)) (target : Expr) (ifs : List Expr) (elt : Expr) (n : Nat) (q : Nat → Bool) (G : Value → Nat → Prop) (Q : Value → Shared → Prop) (it : Value) (s₂ : Shared) : Prop :=
  ∃ (g : Heap) (I : Addr) (fp wr : List Addr) (StC Bd : Addr → Nat → Heap → Prop) (ow : Addr → List Addr), it = .ref I ∧ Kp g s₂.heap ∧
      (∀ C, s₂.heap.objs.size < C → StepG prog w A (compEnvC scope (cellsFrom (C + 1) scope.names cl) C env) target I n (ow C ++ fp) (ow C ++ wr) (StC C) (Bd C)) ∧
      (∀ h : Heap, s₂.heap.objs.size < h.objs.size → Kp s₂.heap h → StC h.objs.size 0 (pushCells (h.push { cls := .type "dict", data := .dict #[] }) scope.names)) ∧
      (∀ C, ∀ b ∈ ow C, C ≤ b) ∧ (∀ (s : Shared) (Q : Value → Shared → Prop) (E : Value → Shared → Prop) C, StC C 0 s.heap → Q (.ref I) s → wpAny (model prog w) A (pyIter (.ref I)) Q E s) ∧
      (∀ b ∈ fp, b < s₂.heap.objs.size) ∧ (∀ b ∈ wr, b ∈ fp) ∧ (∀ b ∈ wr, g.get? b = none) ∧
      (∀ C i s₃, s₂.heap.objs.size < C → i < n → Bd C i s₃.heap → Kp g s₃.heap → wpAny (model prog w) A (testsOf ifs (compEnvC scope (cellsFrom (C + 1) scope.names cl) C env)) (fun ok s₄ => ok = q i ∧ Keeps s₃ s₄) (fun _ _ => False) s₃) ∧
      (∀ C i s₃, s₂.heap.objs.size < C → i < n → q i = true → Bd C i s₃.heap → Kp g s₃.heap → wpAny (model prog w) A (eval elt (compEnvC scope (cellsFrom (C + 1) scope.names cl) C env)) (fun y s₄ => G y i ∧ Keeps s₃ s₄) (fun _ _ => False) s₃) ∧
      (∀ D h' tk (ys : List Value), (∀ b o, g.get? b = some o → b < D) → h'.PlainList D ys.toArray → Each G ys ((List.range n).filter q) → Kp g h' → Q (.ref D) { s₂ with heap := h', toks := tk })
/-- the whole comprehension, as a value -/
def SrcGV (prog : Program) (w : World) (A : Around) (env : Env) (scope : Scope) (cl : List (Str × Addr)) (target : Expr) (ifs : List Expr) (elt : Expr) (n : Nat) (q : Nat → Bool) (G : Value → Nat → Prop) (Q : Value → Shared → Prop) (xv : Value) (s₁ : Shared) : Prop :=
  wpAny (model prog w) A (pyIter xv) (SrcG prog w A env scope cl target ifs elt n q G Q) (fun _ _ => False) s₁
theorem ListComp_G {elt target iter : Expr} {ifs : List Expr} {scope : Scope} {cl : List (Str × Addr)} {pos : Pos} {Q : Value → Shared → Prop} (q : Nat → Bool) (G : Value → Nat → Prop) (n : Nat)
    (hclos : closureFor scope env = pure cl) (hkind : scope.kind = .function) (hnames : ∀ y ∈ scope.names, y.2 = .local → scope.names.lookup y.1 = some .local) (hs : ∀ x, foldedSetIterable iter env x = pure x) (hsz : n ≤ sizeLine)
    (h : wpAny (model prog w) A (eval iter env) (SrcGV prog w A env scope cl target ifs elt n q G Q) (fun _ _ => False) s) :
    wpAny (model prog w) A (eval (.ListComp elt [⟨target, iter, ifs, 0⟩] scope pos) env) Q (fun _ _ => False) s := by
  rw [eval_ListComp]
  refine wpAny_comprehension_free (use := none) rfl hs hclos hkind hnames (wpAny_mono h (fun xv s₁ h₁ => wpAny_mono h₁ (fun it s₂ h₂ => ?_) fun _ _ e => e) fun _ _ e => e)
  obtain ⟨g, I, fp, wr, StC, Bd, ow, rfl, hg, S, init, how, self, hfp, hwr, hwg, tests, elts, hQ⟩ := h₂
  have old : ∀ h' : Heap, (∀ b o, b ∉ wr → s₂.heap.get? b = some o → h'.get? b = some o) → Kp g h' := fun h' hk b o e => hk b o (fun hm => by rw [hwg b hm] at e; cases e) (hg b o e)
  refine block_G (RR := fun acc C => compPost (model prog w) A (fun _ _ => False) none Q acc C) q G S init how self hfp hwr hsz
    (fun C i s₃ hC hi hB hk => tests C i s₃ hC hi hB (old _ hk)) (fun C i s₃ hC hi hq hB hk => elts C i s₃ hC hi hq hB (old _ hk)) ?_
  intro D C h' tk ys hle hD hC hDC ⟨m', hn⟩ hl hG hk
  refine ⟨m', hn, fun h'' hs'' => hQ D h'' tk ys (fun b o e => Nat.lt_of_lt_of_le (Heap.lt_size (hg b o e)) hle) (hl.extBut hs''.extBut (Nat.ne_of_lt hDC)) hG fun b o e => hs''.extBut b o ?_ (old _ hk b o e)⟩
  rintro rfl
  rw [hg _ o e] at hC; cases hC
/-- the list goes into a name of the frame's own -/
def AssignOk (env : Env) (y : Str) (Q : Flow → Shared → Prop) (v : Value) (s' : Shared) : Prop :=
  ∃ D g m ys, v = .ref D ∧ Kp g s'.heap ∧ g.Ns env.locals m ∧ (∀ b o, g.get? b = some o → b < D) ∧ s'.heap.PlainList D ys ∧
    ∀ h'' tk', h''.Ns env.locals (fun z => if z = y then some (.ref D) else m z) → (∀ b o, b ≠ env.locals → g.get? b = some o → h''.get? b = some o) → h''.PlainList D ys → Q .next { s' with heap := h'', toks := tk' }
theorem Assign_G {elt target iter : Expr} {y : Str} {py : Pos} {ifs : List Expr} {scope : Scope} {cl : List (Str × Addr)} {pos spos : Pos} {Q : Flow → Shared → Prop} (q : Nat → Bool) (G : Value → Nat → Prop) (n : Nat)
    (hsw : swapsWith (.ListComp elt [⟨target, iter, ifs, 0⟩] scope pos) (some (.Name y py)) spos.line env = pure true)
    (hclos : closureFor scope env = pure cl) (hkind : scope.kind = .function) (hnames : ∀ z ∈ scope.names, z.2 = .local → scope.names.lookup z.1 = some .local)
    (hy : env.kindOf y = some .local) (hp : (env.scope.kind == .class || (env.scope.kind == .module && env.locals != env.globals)) = false) (hs : ∀ x, foldedSetIterable iter env x = pure x) (hsz : n ≤ sizeLine)
    (h : wpAny (model prog w) A (eval iter env) (SrcGV prog w A env scope cl target ifs elt n q G (AssignOk env y Q)) (fun _ _ => False) s) :
    wpAny (model prog w) A (exec (.Assign [.Name y py] (.ListComp elt [⟨target, iter, ifs, 0⟩] scope pos) spos) env) Q (fun _ _ => False) s := by
  rw [exec_Assign_Name_used _ _ _ _ hsw]
  refine wpAny_bind (wpAny_standAt (wpAny_bind ?_))
  show wpAny _ A (do let _ ← comprehension (.ListComp elt [⟨target, iter, ifs, 0⟩] scope pos) scope env _ (newList []) false (eval iter env) (some (assign (.Name y py) env))) _ _ s
  refine wpAny_bind (wpAny_mono (wpAny_comprehension_free (use := some (assign (.Name y py) env)) (Q := fun _ s' => Q .next s') rfl hs hclos hkind hnames
    (wpAny_mono h (fun xv s₁ h₁ => wpAny_mono h₁ (fun it s₂ h₂ => ?_) fun _ _ e => e) fun _ _ e => e)) (fun _ s' hq => wpAny_pure (wpAny_pure hq)) fun _ _ e => e)
  obtain ⟨g, I, fp, wr, StC, Bd, ow, rfl, hg, S, init, how, self, hfp, hwr, hwg, tests, elts, hQ⟩ := h₂
  have old : ∀ h' : Heap, (∀ b o, b ∉ wr → s₂.heap.get? b = some o → h'.get? b = some o) → Kp g h' := fun h' hk b o e => hk b o (fun hm => by rw [hwg b hm] at e; cases e) (hg b o e)
  refine block_G (RR := fun acc C => compPost (model prog w) A (fun _ _ => False) (some (assign (.Name y py) env)) (fun _ s' => Q .next s') acc C) q G S init how self hfp hwr hsz
    (fun C i s₃ hC hi hB hk => tests C i s₃ hC hi hB (old _ hk)) (fun C i s₃ hC hi hq hB hk => elts C i s₃ hC hi hq hB (old _ hk)) ?_
  intro D C h' tk ys hle hD hC hDC ⟨m', hn⟩ hl hG hk
  obtain ⟨D', g', m, ys', e, hk', hns, hlt, hl', hfin⟩ := hQ D h' tk ys (fun b o e => Nat.lt_of_lt_of_le (Heap.lt_size (hg b o e)) hle) hl hG (old _ hk)
  cases e
  have hLD : env.locals < D := by obtain ⟨o, _, _, e, _⟩ := hns; exact hlt _ _ e
  have hLC : env.locals < C := Nat.lt_trans hLD hDC
  show wpAny _ A (assign (.Name y py) env (.ref D)) _ _ _
  refine wpAny_assign_Name (wpAny_storeName_local hy (hns.at' fun o e => hk' _ o e) (fun h₂ hn₂ hs₂ => ?_) hp)
  refine ⟨m', hn.sameBut hs₂ (Ne.symm (Nat.ne_of_lt hLC)), fun h₃ hs₃ => ?_⟩
  refine hfin h₃ _ (hn₂.sameBut hs₃ (Nat.ne_of_lt hLC)) (fun b o hb e => hs₃.extBut b o (Nat.ne_of_lt (Nat.lt_trans (hlt _ _ e) hDC)) (hs₂.extBut b o hb (hk' b o e))) ?_
  exact (hl'.extBut hs₂.extBut (Ne.symm (Nat.ne_of_lt hLD))).extBut hs₃.extBut (Nat.ne_of_lt hDC)
def AllLt (d : Addr) : List (Addr × Obj) → Prop
  | [] => True
  | p :: r => @LT.lt Nat _ p.1 d ∧ AllLt d r
theorem allLt_of {d : Addr} : ∀ {l : List (Addr × Obj)}, (∀ p ∈ l, p.1 < d) → AllLt d l
  | [], _ => trivial
  | p :: _, h => ⟨h p (.head _), allLt_of fun q hq => h q (.tail _ hq)⟩
/-- the ledger behind a comprehension -/
theorem fin_news {D : Addr} {h' : Heap} {ys : List Value} (F : Fr h₀ L s.heap m) (N : News h₀ L s.heap news) (hl : h'.PlainList D ys.toArray) (hk : Kp s.heap h') (hlt : ∀ b o, s.heap.get? b = some o → b < D) :
    ∃ k, Fr h₀ L h' m ∧ News h₀ L h' ((D, W.listOf ys.toArray k) :: news) ∧ AllLt D news := by
  obtain ⟨k, hl⟩ := hl
  refine ⟨k, ⟨F.ns.at' fun o e => hk _ o e, fun b o e => hk b o (F.keep b o e), F.above⟩, fun p hp => ?_, allLt_of fun p hp => hlt _ _ (N p hp).1⟩
  rcases List.mem_cons.mp hp with rfl | hp
  · refine ⟨hl, ?_, ?_⟩
    · rintro rfl
      obtain ⟨oL, _, _, e, _⟩ := F.ns
      exact absurd (hlt _ _ e) (Nat.lt_irrefl _)
    · cases e : h₀.get? D with
      | none => rfl
      | some o => exact absurd (hlt _ _ (F.keep D o e)) (Nat.lt_irrefl _)
  · exact ⟨hk _ _ (N p hp).1, (N p hp).2⟩
theorem new_none {g : Heap} {D : Addr} (hlt : ∀ b o, g.get? b = some o → b < D) : g.get? D = none := by
  cases e : g.get? D with
  | none => rfl
  | some o => exact absurd (hlt _ _ e) (Nat.lt_irrefl _)
theorem assign_fin {D : Addr} {h' : Heap} {tk : Nat} {ys : List Value} {y : Str} {Q : Flow → Shared → Prop} (hL : env.locals = L) (F : Fr h₀ L s.heap m) (N : News h₀ L s.heap news) (hl : h'.PlainList D ys.toArray) (hk : Kp s.heap h') (hlt : ∀ b o, s.heap.get? b = some o → b < D)
    (h : ∀ h'' tk' k, Fr h₀ L h'' (fun z => if z = y then some (.ref D) else m z) → News h₀ L h'' ((D, W.listOf ys.toArray k) :: news) → AllLt D news → Q .next { s with heap := h'', toks := tk' }) :
    AssignOk env y Q (.ref D) { s with heap := h', toks := tk } := by
  subst hL
  refine ⟨D, s.heap, m, _, rfl, hk, F.ns, hlt, hl, fun h'' tk' hn hk' hl' => ?_⟩
  obtain ⟨k, hl'⟩ := hl'
  have hLD : env.locals < D := by obtain ⟨o, _, _, e, _⟩ := F.ns; exact hlt _ _ e
  refine h h'' tk' k ⟨hn, fun b o e => hk' b o (Nat.ne_of_lt (Nat.lt_of_lt_of_le (Heap.lt_size e) F.above)) (F.keep b o e), F.above⟩ (fun p hp => ?_) (allLt_of fun p hp => hlt _ _ (N p hp).1)
  rcases List.mem_cons.mp hp with rfl | hp
  · refine ⟨hl', Ne.symm (Nat.ne_of_lt hLD), ?_⟩
    cases e : h₀.get? D with
    | none => rfl
    | some o => exact absurd (hlt _ _ (F.keep D o e)) (Nat.lt_irrefl _)
  · exact ⟨hk' _ _ (N p hp).2.1 (N p hp).1, (N p hp).2⟩
end
end Mine
end
-- part GenI
section
open PySem PySem.W PyProof.Rows PySem.Calls
set_option Elab.async false
set_option maxRecDepth 100000
set_option maxHeartbeats 8000000
namespace Mine
section
variable {prog : Program} {w : World} {A : Around} {s : Shared} {env : Env} {h₀ : Heap} {L : Addr} {m : Str → Option Value} {news : List (Addr × Obj)} {R : Result → Shared → Prop}

/-- two names take a pair -/
theorem StepG.pair {I C : Addr} {n : Nat} {fp wr : List Addr} {Pt : Nat → Array Value → Prop} {St : Nat → Heap → Prop} {Mid : Nat → Addr → Heap → Prop} {scope : Scope} {cl : List (Str × Addr)} {a b : Str} {pa pb tp : Pos} {kk : Nat} (PP : Nat → Value → Value → Prop)
    (W : WalksT prog w A I fp wr n Pt St Mid) (hPt : ∀ i vals, Pt i vals → ∃ x y, vals = #[x, y] ∧ PP i x y) (hC : C ∉ fp) (hh : A.handled = none)
    (hkind : scope.kind = .function) (hxa : scope.names.lookup a = some .local) (hxb : scope.names.lookup b = some .local) (hab : ¬ a = b) :
    StepG prog w A (compEnvC scope cl C env) (.Tuple [.Name a pa, .Name b pb] kk tp) I n ([C] ++ fp) ([C] ++ wr) (fun i h => St i h ∧ ∃ m, h.Ns C m) (fun i h => ∃ m x y, h.Ns C m ∧ PP i x y ∧ m a = some x ∧ m b = some y) where
  step := by
    rintro i s Q E hi ⟨hst, m, hn⟩ hQ
    have hCw : C ∉ wr := fun h => hC (W.sub _ h)
    refine W.item i s _ E hi hst fun T vals h₁ tk₁ hP hT hTup hMid hk₁ => ?_
    dsimp only
    refine W.go _ _ _ i T _ _ E hMid fun h₂ hst₂ hk₂ => ?_
    obtain ⟨x, y, rfl, hPP⟩ := hPt i vals hP
    have hT₂ : h₂.IsTuple T #[x, y] := by
      obtain ⟨o, e, r⟩ := hTup
      exact ⟨o, hk₂ _ _ (W.apart _ _ _ hMid) e, r⟩
    have hn₂ : h₂.Ns C m := hn.at' fun o e => hk₂ _ o hCw (hk₁ _ o hCw e)
    refine kcp_assign (env := compEnvC scope cl C env) hh hT₂ (lookup_relabel_local hxa) (lookup_relabel_local hxb) (by simp [compEnvC, relabel, hkind]) hn₂ fun h₃ tk₃ hn₃ hk₃ => ?_
    refine hQ h₃ tk₃ ⟨W.frame _ _ _ hst₂ fun c hc o e => hk₃ c o (fun q : c = C => hC (q ▸ hc)) e, _, hn₃⟩ ⟨_, x, y, hn₃, hPP, ?_, ?_⟩ fun c o hc e => ?_
    · simp [hab]
    · simp
    · have h1 : c ≠ C := fun q => hc (by simp [q])
      have h2 : c ∉ wr := fun q => hc (List.mem_append_right _ q)
      exact hk₃ c o h1 (hk₂ c o h2 (hk₁ c o h2 e))
  done := by
    rintro s Q E ⟨hst, m, hn⟩ hQ
    refine W.done s Q E hst fun h' tk hk => hQ h' tk ⟨m, hn.at' fun o e => hk _ o (fun h => hC (W.sub _ h)) e⟩ fun b o hb e => hk b o (fun q => hb (List.mem_append_right _ q)) e
  frame := by
    rintro i h h' ⟨hst, m, hn⟩ hk
    exact ⟨W.frame _ _ _ hst fun b hb o e => hk b (List.mem_append_right _ hb) o e, m, hn.at' fun o e => hk C (by simp) o e⟩
  bound := by
    rintro i h h' ⟨m, x, y, hn, hP, h1, h2⟩ hk
    exact ⟨m, x, y, hn.at' fun o e => hk _ o e, hP, h1, h2⟩

/-- a name takes the item -/
theorem StepG.name {I C : Addr} {n : Nat} {fp wr : List Addr} {P : Nat → Value → Prop} {St : Nat → Heap → Prop} {scope : Scope} {cl : List (Str × Addr)} {x : Str} {px : Pos}
    (W : Walks prog w A I fp wr n P St) (hC : C ∉ fp) (hkind : scope.kind = .function) (hx : scope.names.lookup x = some .local)
    (ht : ∀ v, letOwnedTupleGo (.Name x px) (.ref I) v = pure () := by intro _; rfl) :
    StepG prog w A (compEnvC scope cl C env) (.Name x px) I n ([C] ++ fp) ([C] ++ wr) (fun i h => St i h ∧ ∃ m, h.Ns C m) (fun i h => ∃ m v, h.Ns C m ∧ P i v ∧ m x = some v) where
  step := by
    rintro i s Q E hi ⟨hst, m, hn⟩ hQ
    have hCw : C ∉ wr := fun h => hC (W.sub _ h)
    refine W.item i s _ E hi hst fun v h₁ tk₁ hP hst₁ hk₁ => ?_
    dsimp only
    rw [ht v]
    refine wpAny_pure (wpAny_assign_Name (wpAny_storeName_local (lookup_relabel_local hx) (hn.at' fun o e => hk₁ _ o hCw e) (fun h₂ hn₂ hs₂ => ?_) (by simp [compEnvC, relabel, hkind])))
    refine hQ h₂ _ ⟨W.frame _ _ _ hst₁ fun d hd o e => hs₂.extBut d o (fun q : d = C => hC (q ▸ hd)) e, _, hn₂⟩ ⟨_, v, hn₂, hP, by simp⟩ fun d o hd e => ?_
    have h1 : d ≠ C := fun q => hd (by simp [q])
    have h2 : d ∉ wr := fun q => hd (List.mem_append_right _ q)
    exact hs₂.extBut d o h1 (hk₁ d o h2 e)
  done := by
    rintro s Q E ⟨hst, m, hn⟩ hQ
    refine W.done s Q E hst fun h' tk hk => hQ h' tk ⟨m, hn.at' fun o e => hk _ o (fun h => hC (W.sub _ h)) e⟩ fun b o hb e => hk b o (fun q => hb (List.mem_append_right _ q)) e
  frame := by
    rintro i h h' ⟨hst, m, hn⟩ hk
    exact ⟨W.frame _ _ _ hst fun b hb o e => hk b (List.mem_append_right _ hb) o e, m, hn.at' fun o e => hk C (by simp) o e⟩
  bound := by
    rintro i h h' ⟨m, v, hn, hP, h1⟩ hk
    exact ⟨m, v, hn.at' fun o e => hk _ o e, hP, h1⟩

/-- a captured name takes the item -/
theorem StepG.cell {I C c : Addr} {n : Nat} {fp wr : List Addr} {P : Nat → Value → Prop} {St : Nat → Heap → Prop} {scope : Scope} {cl : List (Str × Addr)} {x : Str} {px : Pos}
    (W : Walks prog w A I fp wr n P St) (hC : C ∉ fp) (hc : c ∉ fp) (hCc : C ≠ c) (hkind : scope.kind = .function) (hcl : cl.lookup x = some c)
    (ht : ∀ v, letOwnedTupleGo (.Name x px) (.ref I) v = pure () := by intro _; rfl) (hrl : (compEnvC scope cl C env).kindOf x = some .cell) :
    StepG prog w A (compEnvC scope cl C env) (.Name x px) I n ([C, c] ++ fp) ([C, c] ++ wr) (fun i h => St i h ∧ (∃ m, h.Ns C m) ∧ ∃ v, h.IsCell c v) (fun i h => ∃ v, P i v ∧ h.IsCell c (some v)) where
  step := by
    rintro i s Q E hi ⟨hst, ⟨m, hn⟩, v₀, hv⟩ hQ
    have hCw : C ∉ wr := fun h => hC (W.sub _ h)
    have hcw : c ∉ wr := fun h => hc (W.sub _ h)
    refine W.item i s _ E hi hst fun v h₁ tk₁ hP hst₁ hk₁ => ?_
    dsimp only
    rw [ht v]
    refine wpAny_pure (wpAny_assign_Name ?_)
    have hv₁ : h₁.IsCell c v₀ := by
      obtain ⟨o, e, r⟩ := hv
      exact ⟨o, hk₁ _ _ hcw e, r⟩
    refine wpAny_storeName_cell (by simp [compEnvC, relabel, hkind]) hrl hcl hv₁ fun h₂ hv₂ hs₂ => ?_
    refine hQ h₂ _ ⟨W.frame _ _ _ hst₁ fun d hd o e => hs₂.extBut d o (fun q => hc (q ▸ hd)) e, ⟨m, (hn.at' fun o e => hk₁ _ o hCw e).sameBut hs₂ hCc⟩, _, hv₂⟩ ⟨v, hP, hv₂⟩ fun d o hd e => ?_
    have h1 : d ≠ c := fun q => hd (by simp [q])
    have h2 : d ∉ wr := fun q => hd (List.mem_append_right _ q)
    exact hs₂.extBut d o h1 (hk₁ d o h2 e)
  done := by
    rintro s Q E ⟨hst, ⟨m, hn⟩, _⟩ hQ
    refine W.done s Q E hst fun h' tk hk => hQ h' tk ⟨m, hn.at' fun o e => hk _ o (fun h => hC (W.sub _ h)) e⟩ fun b o hb e => hk b o (fun q => hb (List.mem_append_right _ q)) e
  frame := by
    rintro i h h' ⟨hst, ⟨m, hn⟩, v, o, e, r⟩ hk
    exact ⟨W.frame _ _ _ hst fun b hb o e => hk b (List.mem_append_right _ hb) o e, ⟨m, hn.at' fun o e => hk C (by simp) o e⟩, v, o, hk c (by simp) o e, r⟩
  bound := by
    rintro i h h' ⟨v, hP, o, e, r⟩ hk
    exact ⟨v, hP, o, hk _ o e, r⟩

/-- an iterator just made, one name -/
theorem name_srcG {I : Addr} {o : Obj} {fp : List Addr} {n : Nat} {P : Nat → Value → Prop} {St : Nat → Heap → Prop} {scope : Scope} {cl : List (Str × Addr)} {x : Str} {px : Pos} {ifs : List Expr} {elt : Expr} {q : Nat → Bool} {G : Value → Nat → Prop} {Q : Value → Shared → Prop}
    (W : Walks prog w A I fp [I] n P St) (hI : I = s.heap.objs.size) (hst : St 0 (s.heap.push o)) (hfp : ∀ b ∈ fp, b < s.heap.objs.size + 1) (hkind : scope.kind = .function) (hx : scope.names.lookup x = some .local)
    (hcf : ∀ k, cellsFrom k scope.names cl = cl)
    (tests : ∀ C i v m₃ s₃, i < n → P i v → Kp s.heap s₃.heap → s₃.heap.Ns C m₃ → m₃ x = some v → wpAny (model prog w) A (testsOf ifs (compEnvC scope cl C env)) (fun ok s₄ => ok = q i ∧ Keeps s₃ s₄) (fun _ _ => False) s₃)
    (elts : ∀ C i v m₃ s₃, i < n → P i v → q i = true → Kp s.heap s₃.heap → s₃.heap.Ns C m₃ → m₃ x = some v → wpAny (model prog w) A (eval elt (compEnvC scope cl C env)) (fun y s₄ => G y i ∧ Keeps s₃ s₄) (fun _ _ => False) s₃)
    (fin : ∀ D h' tk (ys : List Value), (∀ b o, s.heap.get? b = some o → b < D) → h'.PlainList D ys.toArray → Each G ys ((List.range n).filter q) → Kp s.heap h' → Q (.ref D) { s with heap := h', toks := tk }) :
    SrcG prog w A env scope cl (.Name x px) ifs elt n q G Q (.ref I) { s with heap := s.heap.push o } := by
  subst hI
  refine ⟨s.heap, s.heap.objs.size, fp, [s.heap.objs.size], (fun C i h => St i h ∧ ∃ m, h.Ns C m), (fun C i h => ∃ m v, h.Ns C m ∧ P i v ∧ m x = some v), fun C => [C], rfl, fun b o' e => Heap.get?_push_of_some _ e, fun C hC => ?_,
    fun g hg hk' => ⟨W.frame 0 _ _ hst fun b _ o e => pushCells_keeps _ _ b o (Heap.get?_push_of_some _ (hk' b o e)), _, (Heap.Ns.new g (.type "dict")).keeps (pushCells_keeps _ _)⟩,
    fun C b hb => by rw [List.mem_singleton.mp hb]; exact Nat.le_refl _, fun s' Q' E' C hst hQ => W.self 0 s' Q' E' hst.1 hQ, fun b hb => by rw [Heap.size_push]; exact hfp b hb, fun b hb => W.sub b hb, fun b hb => ?_, ?_, ?_, fun D h₂ tk ys hD hl hG hk₂ => fin D h₂ tk ys hD hl hG hk₂⟩
  · rw [hcf]
    have hC' : s.heap.objs.size + 1 < C := by
      have := hC
      simp only [Heap.size_push] at this
      exact this
    exact StepG.name W (fun hm => absurd (hfp _ hm) (Nat.not_lt.mpr (Nat.le_of_lt hC'))) hkind hx
  · rw [List.mem_singleton.mp hb]
    cases e : s.heap.get? s.heap.objs.size with
    | none => rfl
    | some o => exact absurd (Heap.lt_size e) (Nat.lt_irrefl _)
  · rintro C i s₃ hC hi ⟨m₃, v, hn, hP, h1⟩ hk₃
    rw [hcf]
    exact tests C i v m₃ s₃ hi hP hk₃ hn h1
  · rintro C i s₃ hC hi hq ⟨m₃, v, hn, hP, h1⟩ hk₃
    rw [hcf]
    exact elts C i v m₃ s₃ hi hP hq hk₃ hn h1
/-- over a list -/
theorem list_srcG {l : Addr} {items : Array Value} {scope : Scope} {cl : List (Str × Addr)} {x : Str} {px : Pos} {ifs : List Expr} {elt : Expr} {q : Nat → Bool} {G : Value → Nat → Prop} {Q : Value → Shared → Prop}
    {n : Nat} (hh : A.handled = none) (hsn : items.size = n) (hl : s.heap.IsList l items) (hkind : scope.kind = .function) (hx : scope.names.lookup x = some .local) (hcf : ∀ k, cellsFrom k scope.names cl = cl)
    (tests : ∀ C i v m₃ s₃, i < n → items[i]? = some v → Kp s.heap s₃.heap → s₃.heap.Ns C m₃ → m₃ x = some v → wpAny (model prog w) A (testsOf ifs (compEnvC scope cl C env)) (fun ok s₄ => ok = q i ∧ Keeps s₃ s₄) (fun _ _ => False) s₃)
    (elts : ∀ C i v m₃ s₃, i < n → items[i]? = some v → q i = true → Kp s.heap s₃.heap → s₃.heap.Ns C m₃ → m₃ x = some v → wpAny (model prog w) A (eval elt (compEnvC scope cl C env)) (fun y s₄ => G y i ∧ Keeps s₃ s₄) (fun _ _ => False) s₃)
    (fin : ∀ D h' tk (ys : List Value), (∀ b o, s.heap.get? b = some o → b < D) → h'.PlainList D ys.toArray → Each G ys ((List.range n).filter q) → Kp s.heap h' → Q (.ref D) { s with heap := h', toks := tk }) :
    SrcGV prog w A env scope cl (.Name x px) ifs elt n q G Q (.ref l) s := by
  subst hsn
  unfold SrcGV
  refine wpAny_pyIter_list hl ?_
  have hlt : l < s.heap.objs.size := by obtain ⟨o, e, _⟩ := hl; exact Heap.lt_size e
  exact name_srcG (Walks.list (prog := prog) (w := w) hh s.heap.objs.size l (Nat.ne_of_lt hlt) items) rfl ⟨⟨_, Heap.get?_push_size _ rfl, rfl, rfl⟩, hl.at fun o e => Heap.get?_push_of_some _ e⟩
    (fun b hb => by rcases List.mem_cons.mp hb with rfl | hb; exact Nat.lt_succ_self _; rw [List.mem_singleton.mp hb]; exact Nat.lt_succ_of_lt hlt) hkind hx hcf tests elts fin
/-- over a text -/
theorem str_srcG {z : Str} {t : Tok} {scope : Scope} {cl : List (Str × Addr)} {x : Str} {px : Pos} {ifs : List Expr} {elt : Expr} {q : Nat → Bool} {G : Value → Nat → Prop} {Q : Value → Shared → Prop}
    {n : Nat} (hh : A.handled = none) (hsn : z.cps.size = n) (hkind : scope.kind = .function) (hx : scope.names.lookup x = some .local) (hcf : ∀ k, cellsFrom k scope.names cl = cl)
    (tests : ∀ C i v m₃ s₃, i < n → SignAt z i v → Kp s.heap s₃.heap → s₃.heap.Ns C m₃ → m₃ x = some v → wpAny (model prog w) A (testsOf ifs (compEnvC scope cl C env)) (fun ok s₄ => ok = q i ∧ Keeps s₃ s₄) (fun _ _ => False) s₃)
    (elts : ∀ C i v m₃ s₃, i < n → SignAt z i v → q i = true → Kp s.heap s₃.heap → s₃.heap.Ns C m₃ → m₃ x = some v → wpAny (model prog w) A (eval elt (compEnvC scope cl C env)) (fun y s₄ => G y i ∧ Keeps s₃ s₄) (fun _ _ => False) s₃)
    (fin : ∀ D h' tk (ys : List Value), (∀ b o, s.heap.get? b = some o → b < D) → h'.PlainList D ys.toArray → Each G ys ((List.range n).filter q) → Kp s.heap h' → Q (.ref D) { s with heap := h', toks := tk }) :
    SrcGV prog w A env scope cl (.Name x px) ifs elt n q G Q (.str z t) s := by
  subst hsn
  unfold SrcGV
  refine wpAny_pyIter_str fun o St W hst => ?_
  exact name_srcG (W A hh) rfl hst (fun b hb => by rw [List.mem_singleton.mp hb]; exact Nat.lt_succ_self _) hkind hx hcf tests elts fin
/-- over a range from nought -/
theorem range_srcG {r : Addr} {z : Int} {n : Nat} {t u v : Tok} {scope : Scope} {cl : List (Str × Addr)} {x : Str} {px : Pos} {ifs : List Expr} {elt : Expr} {q : Nat → Bool} {G : Value → Nat → Prop} {Q : Value → Shared → Prop}
    (hh : A.handled = none) (hr : IsRange s.heap r 0 z 1 t u v) (hz : z = (n : Int)) (hn : n ≤ 100000) (hkind : scope.kind = .function) (hx : scope.names.lookup x = some .local) (hcf : ∀ k, cellsFrom k scope.names cl = cl)
    (tests : ∀ C i t m₃ s₃, i < n → Kp s.heap s₃.heap → s₃.heap.Ns C m₃ → m₃ x = some (.int ((i : Nat) : Int) t) → wpAny (model prog w) A (testsOf ifs (compEnvC scope cl C env)) (fun ok s₄ => ok = q i ∧ Keeps s₃ s₄) (fun _ _ => False) s₃)
    (elts : ∀ C i t m₃ s₃, i < n → q i = true → Kp s.heap s₃.heap → s₃.heap.Ns C m₃ → m₃ x = some (.int ((i : Nat) : Int) t) → wpAny (model prog w) A (eval elt (compEnvC scope cl C env)) (fun y s₄ => G y i ∧ Keeps s₃ s₄) (fun _ _ => False) s₃)
    (fin : ∀ D h' tk (ys : List Value), (∀ b o, s.heap.get? b = some o → b < D) → h'.PlainList D ys.toArray → Each G ys ((List.range n).filter q) → Kp s.heap h' → Q (.ref D) { s with heap := h', toks := tk }) :
    SrcGV prog w A env scope cl (.Name x px) ifs elt n q G Q (.ref r) s := by
  subst hz
  unfold SrcGV
  refine wpAny_pyIter_range hr (small_one (by decide) (by decide) (by omega) (by omega)) ?_
  have hz : Builtin.Range.rangeSize 0 (n : Int) 1 = (n : Int) := by rw [rangeSize_nat]; simp
  have e : ∀ i : Nat, (0 + (i : Int) * 1) = (i : Int) := fun i => by omega
  exact name_srcG (Walks.range (prog := prog) (w := w) hh s.heap.objs.size 0 1 n) rfl (by show IsRangeIter _ _ _ _ _; rw [hz]; simpa using Heap.get?_push_size _ rfl) (fun b hb => by rw [List.mem_singleton.mp hb]; exact Nat.lt_succ_self _) hkind hx hcf
    (by rintro C i _ m₃ s₃ hi ⟨t, rfl⟩ hk hn hm; rw [e] at hm; exact tests C i t m₃ s₃ hi hk hn hm)
    (by rintro C i _ m₃ s₃ hi ⟨t, rfl⟩ hq hk hn hm; rw [e] at hm; exact elts C i t m₃ s₃ hi hq hk hn hm) fin
theorem testsOf_nil {s₃ : Shared} {cenv : Env} : wpAny (model prog w) A (testsOf [] cenv) (fun ok s₄ => ok = true ∧ Keeps s₃ s₄) (fun _ _ => False) s₃ := by
  unfold testsOf
  exact wpAny_tests_nil ⟨rfl, Keeps.rfl'⟩
theorem filter_tt (n : Nat) : (List.range n).filter (fun _ => true) = List.range n := by simp

/-- enumerate over a list, two names -/
theorem enum_srcG {l : Addr} {items : Array Value} {scope : Scope} {cl : List (Str × Addr)} {a b : Str} {pa pb tp : Pos} {kk : Nat} {ifs : List Expr} {elt : Expr} {q : Nat → Bool} {G : Value → Nat → Prop} {Q : Value → Shared → Prop}
    {n : Nat} (hh : A.handled = none) (hsn : items.size = n) (hl : s.heap.IsList l items) (hkind : scope.kind = .function) (hxa : scope.names.lookup a = some .local) (hxb : scope.names.lookup b = some .local) (hab : ¬ a = b)
    (hcf : ∀ k, cellsFrom k scope.names cl = cl)
    (tests : ∀ C i t v m₃ s₃, i < n → items[i]? = some v → Kp s.heap s₃.heap → s₃.heap.Ns C m₃ → m₃ a = some (.int (i : Nat) t) → m₃ b = some v → wpAny (model prog w) A (testsOf ifs (compEnvC scope cl C env)) (fun ok s₄ => ok = q i ∧ Keeps s₃ s₄) (fun _ _ => False) s₃)
    (elts : ∀ C i t v m₃ s₃, i < n → items[i]? = some v → q i = true → Kp s.heap s₃.heap → s₃.heap.Ns C m₃ → m₃ a = some (.int (i : Nat) t) → m₃ b = some v → wpAny (model prog w) A (eval elt (compEnvC scope cl C env)) (fun y s₄ => G y i ∧ Keeps s₃ s₄) (fun _ _ => False) s₃)
    (fin : ∀ D h' tk (ys : List Value), (∀ b o, s.heap.get? b = some o → b < D) → h'.PlainList D ys.toArray → Each G ys ((List.range n).filter q) → Kp s.heap h' → Q (.ref D) { s with heap := h', toks := tk }) :
    wpAny (model prog w) A (call (.type "enumerate") [.ref l]) (SrcGV prog w A env scope cl (.Tuple [.Name a pa, .Name b pb] kk tp) ifs elt n q G Q) (fun _ _ => False) s := by
  subst hsn
  unfold SrcGV
  refine call_enumerate_list hl fun h' he hit hsize hk => ?_
  refine wpAny_pyIter_enum (s := { s with heap := h' }) he ?_
  have hlt : l < s.heap.objs.size := by obtain ⟨_, e, _⟩ := hl; exact Heap.lt_size e
  have W := WalksT.enumerate (prog := prog) (w := w) hh (s.heap.objs.size + 1) s.heap.objs.size l (Nat.succ_ne_self _) (Nat.ne_of_lt (Nat.lt_succ_of_lt hlt)) (Nat.ne_of_lt hlt) items
  have hfp : ∀ b ∈ [s.heap.objs.size + 1, s.heap.objs.size, l], b < h'.objs.size := fun b hb => by
    rw [hsize]
    simp only [List.mem_cons, List.not_mem_nil, or_false] at hb
    rcases hb with e | e | e
    · exact e ▸ Nat.lt_succ_self _
    · exact e ▸ Nat.lt_succ_of_lt (Nat.lt_succ_self _)
    · exact e ▸ Nat.lt_succ_of_lt (Nat.lt_succ_of_lt hlt)
  refine ⟨s.heap, s.heap.objs.size + 1, [s.heap.objs.size + 1, s.heap.objs.size, l], [s.heap.objs.size + 1, s.heap.objs.size], (fun C i h => ((∃ old, IsEnum h (s.heap.objs.size + 1) s.heap.objs.size i old) ∧ h.IsListIter s.heap.objs.size l i ∧ h.IsList l items) ∧ ∃ m, h.Ns C m),
      (fun C i h => ∃ m x y, h.Ns C m ∧ (items[i]? = some y ∧ ∃ t, x = Value.int (i : Nat) t) ∧ m a = some x ∧ m b = some y), fun C => [C], rfl, hk, fun C hC => ?_, fun g hg hk' => ⟨W.frame 0 h' _ ⟨⟨_, he⟩, hit, hl.at fun o e => hk _ o e⟩ fun b _ o e => pushCells_keeps _ _ b o (Heap.get?_push_of_some _ (hk' b o e)),
      _, (Heap.Ns.new g (.type "dict")).keeps (pushCells_keeps _ _)⟩, fun C b hb => by rw [List.mem_singleton.mp hb]; exact Nat.le_refl _,
      fun s' Q' E' C hst hQ => W.self 0 s' Q' E' hst.1 hQ, hfp, fun b hb => W.sub b hb, fun b hb => ?_, ?_, ?_, fun D h₂ tk ys hD hl hG hk₂ => fin D h₂ tk ys hD hl hG hk₂⟩
  · rw [hcf]
    exact StepG.pair (fun i x y => items[i]? = some y ∧ ∃ t, x = .int (i : Nat) t) W (fun i vals ⟨t, x, hx, e⟩ => ⟨_, _, e, hx, t, rfl⟩) (fun hm => absurd (hfp _ hm) (Nat.not_lt.mpr (Nat.le_of_lt hC))) hh hkind hxa hxb hab
  · cases e : s.heap.get? b with
    | none => rfl
    | some o =>
      have := Heap.lt_size e
      simp only [List.mem_cons, List.not_mem_nil, or_false] at hb
      rcases hb with rfl | rfl
      · exact absurd this (Nat.not_lt.mpr (Nat.le_succ _))
      · exact absurd this (Nat.lt_irrefl _)
  · rintro C i s₃ hC hi ⟨m₃, x, y, hn, ⟨hv, t, rfl⟩, h1, h2⟩ hk₃
    rw [hcf]
    exact tests C i t y m₃ s₃ hi hv hk₃ hn h1 h2
  · rintro C i s₃ hC hi hq ⟨m₃, x, y, hn, ⟨hv, t, rfl⟩, h1, h2⟩ hk₃
    rw [hcf]
    exact elts C i t y m₃ s₃ hi hv hq hk₃ hn h1 h2

/-- a range, the name captured -/
theorem rangeC_srcG {r : Addr} {z : Int} {n : Nat} {t u v : Tok} {scope : Scope} {cl : List (Str × Addr)} {x : Str} {px : Pos} {ifs : List Expr} {elt : Expr} {q : Nat → Bool} {G : Value → Nat → Prop} {Q : Value → Shared → Prop}
    (hh : A.handled = none) (hr : IsRange s.heap r 0 z 1 t u v) (hz : z = (n : Int)) (hn : n ≤ 100000) (hkind : scope.kind = .function)
    (hcf : ∀ k, cellsFrom k scope.names cl = (x, k) :: cl) (hpc : ∀ h, pushCells h scope.names = h.push { cls := .type "cell", data := .cell none })
    (hrl : ∀ cl C, (compEnvC scope cl C env).kindOf x = some .cell)
    (tests : ∀ C i t s₃, i < n → Kp s.heap s₃.heap → s₃.heap.IsCell (C + 1) (some (.int (i : Nat) t)) → wpAny (model prog w) A (testsOf ifs (compEnvC scope ((x, C + 1) :: cl) C env)) (fun ok s₄ => ok = q i ∧ Keeps s₃ s₄) (fun _ _ => False) s₃)
    (elts : ∀ C i t s₃, i < n → q i = true → Kp s.heap s₃.heap → s₃.heap.IsCell (C + 1) (some (.int (i : Nat) t)) → wpAny (model prog w) A (eval elt (compEnvC scope ((x, C + 1) :: cl) C env)) (fun y s₄ => G y i ∧ Keeps s₃ s₄) (fun _ _ => False) s₃)
    (fin : ∀ D h' tk (ys : List Value), (∀ b o, s.heap.get? b = some o → b < D) → h'.PlainList D ys.toArray → Each G ys ((List.range n).filter q) → Kp s.heap h' → Q (.ref D) { s with heap := h', toks := tk }) :
    SrcGV prog w A env scope cl (.Name x px) ifs elt n q G Q (.ref r) s := by
  subst hz
  unfold SrcGV
  refine wpAny_pyIter_range hr (small_one (by decide) (by decide) (by omega) (by omega)) ?_
  have hz : Builtin.Range.rangeSize 0 (n : Int) 1 = (n : Int) := by rw [rangeSize_nat]; simp
  have W := Walks.range (prog := prog) (w := w) hh s.heap.objs.size 0 1 n
  have k1 : ∀ o, Kp s.heap (s.heap.push o) := fun o b o' e => Heap.get?_push_of_some _ e
  refine ⟨s.heap, s.heap.objs.size, [s.heap.objs.size], [s.heap.objs.size], (fun C i h => IsRangeIter h s.heap.objs.size (0 + (i : Nat) * 1) ((n : Int) - (i : Nat)) 1 ∧ (∃ m, h.Ns C m) ∧ ∃ v, h.IsCell (C + 1) v),
      (fun C i h => ∃ v, (∃ t, v = Value.int (0 + (i : Int) * 1) t) ∧ h.IsCell (C + 1) (some v)), fun C => [C, C + 1], rfl, k1 _, fun C hC => ?_, fun g hg hk' => ⟨W.frame 0 _ _ (by show IsRangeIter _ _ _ _ _; rw [hz]; simpa using Heap.get?_push_size _ rfl) fun b _ o e => pushCells_keeps _ _ b o (Heap.get?_push_of_some _ (hk' b o e)),
      ⟨_, (Heap.Ns.new g (.type "dict")).keeps (pushCells_keeps _ _)⟩, none, ?_⟩, fun C b hb => ?_, fun s' Q' E' C hst hQ => W.self 0 s' Q' E' hst.1 hQ, fun b hb => ?_, fun b hb => hb, fun b hb => ?_, ?_, ?_, fun D h₂ tk ys hD hl hG hk₂ => fin D h₂ tk ys hD hl hG hk₂⟩
  · rw [hcf]
    have hC' : s.heap.objs.size + 1 < C := by
      have := hC
      simp only [Heap.size_push] at this
      exact this
    refine StepG.cell (c := C + 1) W (fun hm => ?_) (fun hm => ?_) (Nat.ne_of_lt (Nat.lt_succ_self _)) hkind (by simp) (by intro _; rfl) (hrl _ _)
    · exact absurd hC' (List.mem_singleton.mp hm ▸ Nat.not_lt.mpr (Nat.le_succ _))
    · have e := List.mem_singleton.mp hm
      exact absurd (Nat.lt_succ_of_lt hC') (e ▸ Nat.not_lt.mpr (Nat.le_succ _))
  · rw [hpc]
    have : (g.push { cls := .type "dict", data := .dict #[] }).objs.size = g.objs.size + 1 := Heap.size_push ..
    rw [← this]
    exact ⟨_, Heap.get?_push_size _ rfl, rfl⟩
  · simp only [List.mem_cons, List.not_mem_nil, or_false] at hb
    rcases hb with rfl | rfl
    · exact Nat.le_refl _
    · exact Nat.le_succ _
  · rw [List.mem_singleton.mp hb]
    show _ < (Heap.push _ _).objs.size
    rw [Heap.size_push]
    exact Nat.lt_succ_self _
  · rw [List.mem_singleton.mp hb]
    cases e : s.heap.get? s.heap.objs.size with
    | none => rfl
    | some o => exact absurd (Heap.lt_size e) (Nat.lt_irrefl _)
  · rintro C i s₃ hC hi ⟨_, ⟨t, rfl⟩, hv⟩ hk₃
    rw [hcf]
    have e : (0 + (i : Int) * 1) = (i : Int) := by omega
    rw [e] at hv
    exact tests C i t s₃ hi hk₃ hv
  · rintro C i s₃ hC hi hq ⟨_, ⟨t, rfl⟩, hv⟩ hk₃
    rw [hcf]
    have e : (0 + (i : Int) * 1) = (i : Int) := by omega
    rw [e] at hv
    exact elts C i t s₃ hi hq hk₃ hv
/-- a cell by its fact -/
theorem nameK {M : Model} {E : Value → Shared → Prop} {C c : Addr} {scope : Scope} {cl : List (Str × Addr)} {x : Str} {pos : Pos} {v : Value} {Q : Value → Shared → Prop} (hc : s.heap.IsCell c (some v)) (h : Q v s)
    (hk : scope.kind = .function) (hl : (compEnvC scope cl C env).kindOf x = some .cell) (hcl : cl.lookup x = some c) (hd : (x == ("__debug__" : Str)) = false) : wpAny M A (eval (.Name x pos) (compEnvC scope cl C env)) Q E s :=
  wpAny_Name (wpAny_loadName_cell hk hl hcl hc h) hd
/-- the sum of a list of ints, however large -/
theorem sum_K {E : Value → Shared → Prop} {l : Addr} {vs : List Value} {ns : List Int} {Q : Value → Shared → Prop} (hh : A.handled = none) (hl : s.heap.IsList l vs.toArray) (hi : IntsAre vs ns)
    (h : ∀ h' tk t, Kp s.heap h' → Q (.int ns.sum t) { s with heap := h', toks := tk }) : wpAny (model prog w) A (call (.builtin "sum") [.ref l]) Q E s := by
  obtain ⟨xs, hx⟩ := hi.allInts.items
  have e1 : ns = xs.toList.map (·.1) := by
    rw [← nums_intItems, ← hx]
    exact (show numsOf vs.toArray.toList = ns from hi.numsOf).symm
  refine sum_intListG hh (hx ▸ hl) fun h' tk t' hk => ?_
  have e2 : preSum (numAt xs) xs.size = ns.sum := by rw [preSum_eq, List.take_of_length_le (by simp), e1]
  rw [e2]
  exact h h' tk t' hk
end
end Mine
end
-- part Signs
section
open PySem PySem.W PyProof.Rows PySem.Calls
set_option Elab.async false
set_option maxRecDepth 100000
set_option maxHeartbeats 8000000
namespace Mine
def rowAt (a : Array Nat) : Nat → List Nat
  | 0 => []
  | i + 1 => if isEnd (a.getD i 0) then [] else rowAt a i ++ [a.getD i 0]
def rowS (a : Array Nat) (i : Nat) : Str := ⟨(rowAt a i).toArray⟩
def headsTo (a : Array Nat) (n : Nat) : List Str := (List.range n).map fun k => rowS a (k + 1)
theorem signAt_of {y : Str} {i : Nat} {v : Value} (hi : i < y.cps.size) (h : SignAt y i v) : ∃ c t, c = y.cps.getD i 0 ∧ v = .str ⟨#[c]⟩ t := by
  obtain ⟨c, t, hc, rfl⟩ := h
  refine ⟨c, t, ?_, rfl⟩
  rw [Array.getD_eq_getD_getElem?, hc]
  rfl
theorem in_ends (c : Nat) : (Builtin.Str.occurrences (Str.ofString "\r\n") ⟨#[c]⟩ 0 (Str.ofString "\r\n").length 1).isEmpty = !isEnd c := by
  rw [PyProof.Rows.empty_one]
  have : (Str.ofString "\r\n").cps.toList = [13, 10] := by decide +kernel
  rw [this]
  unfold isEnd
  by_cases h1 : c = 10
  · subst h1; rfl
  · by_cases h2 : c = 13
    · subst h2; rfl
    · simp [h1, h2]
theorem headsTo_succ (a : Array Nat) (i : Nat) : headsTo a (i + 1) = headsTo a i ++ [rowS a (i + 1)] := by
  unfold headsTo
  rw [List.range_succ, List.map_append]
  rfl
def q0 (a : Array Nat) (k : Nat) : Bool := rowS a (k + 1) == Str.ofString "."
def q1 (a : Array Nat) (k : Nat) : Bool := !(rowS a (k + 1) == Str.ofString "") && (rowAt a (k + 1)).all (· == 46)
def JT (a : Array Nat) (l : Addr) (o1 o3 : Obj) (c1 c2 c3 : Addr) (i : Nat) (m : Str → Option Value) (news : List (Addr × Obj)) : Prop :=
  ∃ tr vs k o, m (Str.ofString "row") = some (.str (rowS a i) tr) ∧ news = [(l, W.listOf (vs : List Value).toArray k), (c1, o1), (c2, o), (c3, o3)] ∧ o.data = .cell (some (.ref l)) ∧ StrsAre vs (headsTo a i)
theorem len_app (x y : Str) : (x ++ y).length = x.length + y.length := by
  show (x.cps ++ y.cps).size = _
  rw [Array.size_append]
  rfl
theorem len_cps (a : Array Nat) : Str.length ⟨a⟩ = a.size := rfl
theorem len_one (c : Nat) : (#[c] : Array Nat).size = 1 := rfl
theorem len_nl : (Str.ofString "\n").length = 1 := by decide +kernel
theorem len_cr : (Str.ofString "\r").length = 1 := by decide +kernel
theorem rowAt_len (a : Array Nat) : ∀ i, (rowAt a i).length ≤ i
  | 0 => Nat.le_refl _
  | i + 1 => by
    unfold rowAt
    have := rowAt_len a i
    split
    · exact Nat.zero_le _
    · simp; omega
def rngO (n : Int) (t u v : Tok) : Obj := { cls := .type "range", dict := none, data := .fields #[.int 0 t, .int n u, .int 1 v], slots := #[] }
theorem range1_news {prog : Program} {w : World} {A : Around} {E : Value → Shared → Prop} {s : Shared} {h₀ : Heap} {L : Addr} {m : Str → Option Value} {Q : Value → Shared → Prop} {n : Int} {t : Tok} {news : List (Addr × Obj)} (F : Fr h₀ L s.heap m) (N : News h₀ L s.heap news)
    (h : ∀ r h' tk t₁ u₁ v₁, Fr h₀ L h' m → News h₀ L h' ((r, rngO n t₁ u₁ v₁) :: news) → Q (.ref r) { s with heap := h', toks := tk }) :
    wpAny (model prog w) A (call (.type "range") [.int n t]) Q E s := by
  refine range1_rows F N fun h' tk t₁ u₁ v₁ hr F' N' hk => h _ h' tk t₁ u₁ v₁ F' fun p hp => ?_
  rcases List.mem_cons.mp hp with rfl | hp
  · exact ⟨hr, fun e => absurd F.ns.lt (by dsimp only at e; rw [← e]; exact Nat.lt_irrefl _), next_is_new F⟩
  · exact N' p hp

def arS (a : Array Nat) : Str := Str.ofString "\n" ++ ⟨a⟩ ++ Str.ofString "\r"
def ar (a : Array Nat) (j : Nat) : Nat := (arS a).cps.getD j 0
theorem one_eq (c : Nat) (y : Str) (d : Nat) (hy : y = ⟨#[d]⟩) : ((⟨#[c]⟩ : Str) == y) = (c == d) := by
  subst hy
  by_cases h : c = d
  · subst h; simp
  · have : (⟨#[c]⟩ : Str) ≠ ⟨#[d]⟩ := by
      intro e
      injection e with e
      have := congrArg (fun z : Array Nat => z.getD 0 0) e
      exact h (by simpa using this)
    rw [beq_eq_false_iff_ne.mpr this, beq_eq_false_iff_ne.mpr h]
theorem nl_eq : Str.ofString "\n" = ⟨#[10]⟩ := by decide +kernel
theorem cr_eq : Str.ofString "\r" = ⟨#[13]⟩ := by decide +kernel
section
variable {prog : Program} {w : World} {A : Around} {E : Value → Shared → Prop} {s : Shared} {env : Env} {h₀ : Heap} {L : Addr} {m : Str → Option Value} {news : List (Addr × Obj)}
/-- a sign of a text -/
theorem item_sign {value slice : PySem.Expr} {x : Str} {t u : Tok} {k : Int} {Q : Value → Shared → Prop} (h0 : 0 ≤ k) (hk : k.toNat < x.cps.size) (hz : x.cps.size ≤ 100000) (h : ∀ t k', Q (.str ⟨#[x.cps.getD k.toNat 0]⟩ t) { s with toks := k' })
    (hs : subscripted slice false (.str x t) (.int k u) = operate [.str x t, .int k u] (getItem (.str x t) (.int k u)) := by with_unfolding_all rfl) :
    wpAny (model prog w) A (subscriptTail value slice (.str x t) (.int k u)) Q E s := by
  refine tail_any (typeIs_str _ _ _) F.slot_str_getitem.lookup (P.getItem_str (c := x.cps.getD k.toNat 0) ?_ ?_ (h _ _)) hs
  · rw [Bool.or_eq_false_iff]
    exact ⟨decide_eq_false (by omega), decide_eq_false (by omega)⟩
  · have : seqIndex? k x.length = some k.toNat := by
      unfold seqIndex?
      have hl : x.length = x.cps.size := rfl
      rw [hl]
      have hj : (if k < 0 then k + (x.cps.size : Int) else k) = k := if_neg (by omega)
      simp only [hj]
      rw [if_pos (by simp only [Bool.and_eq_true, decide_eq_true_eq]; omega)]
    rw [this]
    show x.cps[k.toNat]? = _
    rw [Array.getD_eq_getD_getElem?, Array.getElem?_eq_getElem hk]
    rfl
def AllNe (d : Addr) : List (Addr × Obj) → Prop
  | [] => True
  | p :: r => @Ne Nat p.1 d ∧ AllNe d r
theorem allNe_of {d : Addr} : ∀ {l : List (Addr × Obj)}, (∀ p ∈ l, p.1 ≠ d) → AllNe d l
  | [], _ => trivial
  | p :: _, h => ⟨h p (.head _), allNe_of fun q hq => h q (.tail _ hq)⟩
theorem takeWhile_snoc {p : Nat → Bool} {b : Nat} (hb : p b = false) : ∀ xs : List Nat, (List.takeWhile p (xs ++ [b])).length ≤ xs.length
  | [] => by simp [hb]
  | x :: r => by
    rw [List.cons_append, List.takeWhile_cons]
    split
    · have := takeWhile_snoc hb r
      simp only [List.length_cons]; omega
    · exact Nat.zero_le _
theorem takeWhile_all {p : Nat → Bool} : ∀ {l : List Nat}, l.all p = true → List.takeWhile p l = l
  | [], _ => rfl
  | x :: r, h => by
    simp only [List.all_cons, Bool.and_eq_true] at h
    rw [List.takeWhile_cons, if_pos h.1, takeWhile_all h.2]
theorem first_bad {p : Nat → Bool} : ∀ {l : List Nat}, l.all p = false → ∃ b r, l.drop (List.takeWhile p l).length = b :: r ∧ p b = false
  | [], h => nomatch h
  | x :: r, h => by
    rw [List.takeWhile_cons]
    cases hp : p x with
    | false => exact ⟨x, r, by simp, hp⟩
    | true =>
      simp only [List.all_cons, hp, Bool.true_and] at h
      obtain ⟨b, r', e, hb⟩ := first_bad h
      exact ⟨b, r', by simpa using e, hb⟩
theorem strip_empty (x : Str) : (Txt.stripChars x (Str.ofString ".") == Str.ofString "") = x.cps.toList.all (· == 46) := by
  have hg : (Str.ofString ".").cps.contains = fun c => c == 46 := by
    have : (Str.ofString ".").cps = #[46] := by decide +kernel
    rw [this]
    funext c
    by_cases h : c = 46
    · subst h; decide +kernel
    · simp [h]
  have he : Str.ofString "" = ⟨#[]⟩ := rfl
  unfold Txt.stripChars Txt.stripBy PySem.stripSame PySem.stripped PySem.stripHi PySem.stripLo
  rw [hg, he]
  simp only [if_true]
  have hlen : x.length = x.cps.toList.length := by rw [Array.length_toList]; rfl
  cases hall : x.cps.toList.all (· == 46) with
  | true =>
    rw [takeWhile_all hall, List.drop_length]
    simp only [List.reverse_nil, List.takeWhile_nil, List.length_nil, Nat.sub_zero, beq_self_eq_true, Bool.and_true]
    split
    · rename_i h0
      have : x = ⟨#[]⟩ := by
        have h1 : x.cps.toList = [] := List.length_eq_zero_iff.mp (by simpa using h0)
        cases x
        simp at h1
        rw [h1]
      rw [this]; rfl
    · rw [beq_iff_eq]
      unfold Builtin.Str.strSub
      rw [hlen]
      simp
  | false =>
    obtain ⟨b, r, e, hb⟩ := first_bad hall
    rw [e]
    have h1 := takeWhile_snoc (p := fun c => c == 46) hb r.reverse
    rw [List.reverse_cons]
    rw [List.length_reverse] at h1
    have h2 : r.length + 1 + (List.takeWhile (fun x => x == 46) x.cps.toList).length = x.cps.toList.length := by
      have := congrArg List.length e
      rw [List.length_drop, List.length_cons] at this
      have h3 := (List.takeWhile_sublist (l := x.cps.toList) (fun c => c == 46)).length_le
      omega
    rw [beq_eq_false_iff_ne]
    split
    · rintro rfl
      simp at hall
    · intro hc
      unfold Builtin.Str.strSub at hc
      injection hc with hc
      have := congrArg Array.size hc
      rw [Array.size_extract, hlen, ← Array.length_toList] at this
      simp only [Array.size_empty] at this
      omega
def q2 (a : Array Nat) (k : Nat) : Bool := (rowS a (k + 1) == Str.ofString ".") && isEnd (ar a (k + 2))
def q3 (a : Array Nat) (k : Nat) : Bool := (a.getD k 0 == 10) && !(ar a k == 13)
def q4 (a : Array Nat) (k : Nat) : Bool := (a.getD k 0 == 13) && !(ar a (k + 2) == 10)
theorem arS_size (a : Array Nat) : (arS a).cps.size = a.size + 2 := by
  have h : (arS a).length = a.size + 2 := by
    unfold arS
    rw [len_app, len_app, len_nl, len_cr, len_cps]
    omega
  exact h
theorem q1_no {a : Array Nat} {i : Nat} (h : (rowS a (i + 1) != Str.ofString "") = false) : false = q1 a i := by
  unfold q1
  rw [bne_eq_false_iff_eq] at h
  rw [h]; rfl
theorem q1_yes {a : Array Nat} {i : Nat} {b : Bool} (h : (rowS a (i + 1) != Str.ofString "") = true) (h2 : (Txt.stripChars (rowS a (i + 1)) (Str.ofString ".") == Str.ofString "") = b) : b = q1 a i := by
  rw [strip_empty] at h2
  unfold q1
  rw [bne_iff_ne] at h
  rw [beq_eq_false_iff_ne.mpr h, ← h2]
  rfl
theorem q2_no {a : Array Nat} {i : Nat} (h : (rowS a (i + 1) == Str.ofString ".") = false) : false = q2 a i := by
  unfold q2
  rw [h]; rfl
theorem isE_eq {c : Nat} {b : Bool} (h : (Builtin.Str.occurrences (Str.ofString "\r\n") ⟨#[c]⟩ 0 (Str.ofString "\r\n").length 1).isEmpty = b) : isEnd c = !b := by
  rw [in_ends] at h
  rw [← h, Bool.not_not]
theorem q2_yes {a : Array Nat} {i : Nat} {b : Bool} (h : (rowS a (i + 1) == Str.ofString ".") = true) (h2 : (Builtin.Str.occurrences (Str.ofString "\r\n") ⟨#[(arS a).cps.getD ((i : Int) + 2).toNat 0]⟩ 0 (Str.ofString "\r\n").length 1).isEmpty = b) : (!b) = q2 a i := by
  unfold q2 ar
  have e : ((i : Int) + 2).toNat = i + 2 := by omega
  rw [e] at h2
  rw [h, isE_eq h2, Bool.true_and]
theorem tItem {x : Str} {i : Nat} (h : i < x.cps.size) : Txt.item x (i : Int) = ⟨#[x.cps.getD i 0]⟩ := by
  unfold Txt.item Txt.charAt
  have h1 : ¬ ((i : Int) < 0) := by omega
  have hl : x.length = x.cps.size := rfl
  have : seqIndex? (i : Int) x.length = some i := by
    unfold seqIndex?
    rw [hl]
    simp only [h1, if_false]
    rw [if_pos (by simp only [Bool.and_eq_true, decide_eq_true_eq]; omega)]
    rfl
  rw [this]
  show (⟨#[(x.cps[i]?).getD 0]⟩ : Str) = _
  rw [Array.getD_eq_getD_getElem?]
theorem it_code {a : Array Nat} {i : Nat} {b : Bool} (hi : i < a.size) (d : Nat) (y : Str) (hy : y = ⟨#[d]⟩) (h : (Txt.item ⟨a⟩ (i : Int) == y) = b) : (a.getD i 0 == d) = b := by
  rw [tItem (x := ⟨a⟩) hi, one_eq _ _ d hy] at h
  exact h
theorem it_ar {a : Array Nat} {i : Nat} {b : Bool} (hi : i < a.size) (h : (Txt.item (Str.ofString "\n" ++ ⟨a⟩ ++ Str.ofString "\r") (i : Int) != Str.ofString "\r") = b) : (!(ar a i == 13)) = b := by
  have hs : i < (arS a).cps.size := by rw [arS_size]; omega
  have h' : (Txt.item (arS a) (i : Int) != Str.ofString "\r") = b := h
  rw [tItem hs] at h'
  rw [← h']
  unfold ar bne
  rw [one_eq _ _ 13 cr_eq]
theorem q3_no {a : Array Nat} {i : Nat} (hi : i < a.size) (h : (Txt.item ⟨a⟩ (i : Int) == Str.ofString "\n") = false) : false = q3 a i := by
  unfold q3
  rw [it_code hi 10 _ nl_eq h]; rfl
theorem q3_yes {a : Array Nat} {i : Nat} {b : Bool} (hi : i < a.size) (h : (Txt.item ⟨a⟩ (i : Int) == Str.ofString "\n") = true) (h2 : (Txt.item (Str.ofString "\n" ++ ⟨a⟩ ++ Str.ofString "\r") (i : Int) != Str.ofString "\r") = b) : b = q3 a i := by
  unfold q3
  rw [it_code hi 10 _ nl_eq h, it_ar hi h2, Bool.true_and]
theorem q4_no {a : Array Nat} {i : Nat} (hi : i < a.size) (h : (Txt.item ⟨a⟩ (i : Int) == Str.ofString "\r") = false) : false = q4 a i := by
  unfold q4
  rw [it_code hi 13 _ cr_eq h]; rfl
theorem q4_yes {a : Array Nat} {i : Nat} {b : Bool} (hi : i < a.size) (h : (Txt.item ⟨a⟩ (i : Int) == Str.ofString "\r") = true) (h2 : (⟨#[(arS a).cps.getD ((i : Int) + 2).toNat 0]⟩ != Str.ofString "\n") = b) : b = q4 a i := by
  unfold q4 ar
  have e : ((i : Int) + 2).toNat = i + 2 := by omega
  rw [e] at h2
  unfold bne at h2
  rw [one_eq _ _ 10 nl_eq] at h2
  rw [it_code hi 13 _ cr_eq h, h2, Bool.true_and]
def placeNs (a : Array Nat) : Nat → List Int
  | 0 => ((List.range a.size).filter (q0 a)).map fun i : Nat => (i : Int)
  | 1 => ((List.range a.size).filter (q1 a)).map fun i : Nat => (i : Int)
  | 2 => ((List.range a.size).filter (q2 a)).map fun i : Nat => (i : Int) + 1
  | 3 => ((List.range a.size).filter (q3 a)).map fun i : Nat => (i : Int)
  | 4 => ((List.range a.size).filter (q4 a)).map fun i : Nat => (i : Int)
  | _ => []
theorem placeNs_b {a : Array Nat} {i : Nat} {k : Int} (h : k ∈ placeNs a i) : 0 ≤ k ∧ k ≤ a.size := by
  have key : ∀ (q : Nat → Bool) (f : Nat → Int), (∀ i, i < a.size → 0 ≤ f i ∧ f i ≤ a.size) → k ∈ ((List.range a.size).filter q).map f → 0 ≤ k ∧ k ≤ a.size := by
    intro q f hf hk
    obtain ⟨j, hj, rfl⟩ := List.mem_map.mp hk
    exact hf j (List.mem_range.mp (List.mem_filter.mp hj).1)
  match i, h with
  | 0, h => exact key _ _ (fun i hi => by omega) h
  | 1, h => exact key _ _ (fun i hi => by omega) h
  | 2, h => exact key _ _ (fun i hi => by omega) h
  | 3, h => exact key _ _ (fun i hi => by omega) h
  | 4, h => exact key _ _ (fun i hi => by omega) h
  | _ + 5, h => cases h
def pows (ns : List Int) : List Int := ns.map fun k => 2 ^ k.toNat
def toldI (a : Array Nat) (i : Nat) : Int := (pows (placeNs a i)).sum
def toldL (a : Array Nat) : List Int := (List.range 5).map (toldI a)
theorem ints_at {vs : List Value} {ns : List Int} (h : IntsAre vs ns) : ∀ {j : Nat} {v : Value}, vs[j]? = some v → ∃ c t, v = .int c t ∧ ns[j]? = some c := by
  intro j v hv
  have hlt : j < vs.length := by
    rcases Nat.lt_or_ge j vs.length with h | h
    · exact h
    · rw [List.getElem?_eq_none h] at hv; cases hv
  have hlt' : j < ns.length := by rw [h.length] at hlt; exact hlt
  obtain ⟨t, ht⟩ := h.get j ns[j] (by simp [hlt'])
  rw [ht] at hv
  cases hv
  exact ⟨_, t, rfl, by simp [hlt']⟩
theorem each_pows {ns : List Int} {ys : List Value} (h : Each (fun y j => IsI y (2 ^ (ns.getD j 0).toNat)) ys ((List.range ns.length).filter fun _ => true)) : IntsAre ys (pows ns) := by
  rw [filter_tt] at h
  have h2 := (h.map (El' := IsI) (fun j => 2 ^ (ns.getD j 0).toNat) fun _ _ e => e).ints
  have e : (List.range ns.length).map (fun j => (2 : Int) ^ (ns.getD j 0).toNat) = pows ns := by
    unfold pows
    apply List.ext_getElem (by simp)
    intro j h1 h2
    simp only [List.length_map, List.length_range] at h1
    simp [h1]
  rw [← e]
  exact h2
theorem old_none {g h : Heap} {D : Addr} (k : Kp g h) (hD : h.get? D = none) : g.get? D = none := by
  cases e : g.get? D with
  | none => rfl
  | some o => rw [k D o e] at hD; cases hD
theorem placeNs_len (a : Array Nat) (i : Nat) : (placeNs a i).length ≤ a.size := by
  have key : ∀ (q : Nat → Bool) (f : Nat → Int), (((List.range a.size).filter q).map f).length ≤ a.size := by
    intro q f
    rw [List.length_map]
    exact Nat.le_trans (List.length_filter_le _ _) (by simp)
  match i with
  | 0 => exact key _ _
  | 1 => exact key _ _
  | 2 => exact key _ _
  | 3 => exact key _ _
  | 4 => exact key _ _
  | _ + 5 => exact Nat.zero_le _
def bt (a : Array Nat) (b k : Nat) : Bool := (a.getD k 0).testBit b
def plane (a : Array Nat) (b : Nat) : Int := (pows (((List.range a.size).filter (bt a b)).map fun k : Nat => (k : Int))).sum
theorem bt_of {a : Array Nat} {b k : Nat} : ((((a.getD k 0 : Nat) : Int).fdiv (2 ^ ((b : Int)).toNat)).fmod 2 == 1) = bt a b k := by
  have e : ((b : Int)).toNat = b := by omega
  rw [e, Int.fdiv_eq_ediv_of_nonneg _ (Int.le_of_lt (two_pow_pos' b)), Int.fmod_eq_emod_of_nonneg _ (by decide)]
  have h := ib_nat (a.getD k 0) b
  unfold ib at h
  unfold bt
  rw [← h]
  rfl
def pI (q : Nat → Bool) (v : Value) : Bool := match v with | .int k _ => q k.toNat | _ => false
def gI (f : Nat → Int) (v y : Value) : Prop := ∃ k t, v = .int k t ∧ IsI y (f k.toNat)
/-- a comprehension over a range from nought -/
theorem rangeC {r : Addr} {n : Nat} {t u v : Tok} {f : Nat → Int} {q : Nat → Bool} {scope : Scope} {cl : List (Str × Addr)} {x : Str} {ifs : List Expr} {elt : Expr} {Q : Value → Shared → Prop}
    (hh : A.handled = none) (F : Fr h₀ L s.heap m) (N : News h₀ L s.heap news) (hr : (r, rngO n t u v) ∈ news) (hn : n ≤ 100000)
    (tests : ∀ C i t (s₃ : Shared) m₃, i < n → Kp s.heap s₃.heap → Fr h₀ L s₃.heap m → News h₀ L s₃.heap news → s₃.heap.Ns C m₃ → m₃ x = some (.int ((i : Nat) : Int) t) → TestsAt prog w A ifs (compEnvC scope cl C env) (fun ok s' => ok = q i ∧ Keeps s₃ s') s₃)
    (elt' : ∀ C i t (s₃ : Shared) m₃, i < n → q i = true → Kp s.heap s₃.heap → Fr h₀ L s₃.heap m → News h₀ L s₃.heap news → s₃.heap.Ns C m₃ → m₃ x = some (.int ((i : Nat) : Int) t) → wpAny (model prog w) A (eval elt (compEnvC scope cl C env)) (fun y s' => IsI y (f i) ∧ Keeps s₃ s') (fun _ _ => False) s₃)
    (fin : ∀ D h' tk ys k, Kp s.heap h' → Fr h₀ L h' m → News h₀ L h' ((D, W.listOf (ys : List Value).toArray k) :: news) → s.heap.get? D = none → IntsAre ys (((List.range n).filter q).map f) → AllNe D news → Q (.ref D) { s with heap := h', toks := tk }) :
    SrcV prog w A env scope cl x ifs elt (pI q) (gI f) Q (.ref r) s := by
  refine SrcV.range (a := 0) (b := n) (n := n) hh (N _ hr).1 ?_ ?_ (by rw [sizeLine_eq]; omega) F N ⟨⟨?_, ?_⟩, ?_⟩
  · exact small_one (by decide) (by decide) (by omega) (by omega)
  · rw [rangeSize_nat]; simp
  · rintro C i _ s₃ m₃ hi ⟨t, rfl⟩ k₃ F₃ N₃ hn₃ hm₃
    have e : (0 + (i : Int) * 1) = (i : Int) := by omega
    rw [e] at hm₃ ⊢
    exact tests C i t s₃ m₃ hi k₃ F₃ N₃ hn₃ hm₃
  · rintro C i _ s₃ m₃ hi ⟨t, rfl⟩ hp k₃ F₃ N₃ hn₃ hm₃
    have e : (0 + (i : Int) * 1) = (i : Int) := by omega
    rw [e] at hm₃ hp ⊢
    exact wpAny_mono (elt' C i t s₃ m₃ hi hp k₃ F₃ N₃ hn₃ hm₃) (fun y s' h => ⟨⟨_, t, rfl, h.1⟩, h.2⟩) fun _ _ e => e
  · intro D h' tk ys k vs k' F' N' hD hlen hP hG
    refine fin D h' tk ys.toList k k' F' (by rw [Array.toArray_toList]; exact N') hD ?_ (allNe_of fun p hp e => by rw [← e, (N p hp).1] at hD; cases hD)
    have hE := (each_range (El := IsI) f q vs 0 ys.toList (fun j v hj => by
      obtain ⟨t, rfl⟩ := hP j v hj
      have e : (0 + (j : Int) * 1) = ((0 + j : Nat) : Int) := by omega
      rw [e]
      refine ⟨t, rfl, rfl, ?_⟩
      rintro y ⟨k, t1, e, h⟩
      injection e with e1 e2
      subst e1
      exact h) hG).ints
    rw [hlen, ← List.range_eq_range'] at hE
    exact hE
end
end Mine
end
-- part Loop2
section
open PySem PySem.W PyProof.Rows PySem.Calls
set_option Elab.async false
set_option maxRecDepth 100000
set_option maxHeartbeats 8000000
set_option exponentiation.threshold 2000
namespace Mine
theorem allLt_mem {d : Addr} {l : List (Addr × Obj)} (h : AllLt d l) : ∀ p ∈ l, @LT.lt Nat _ p.1 d := by
  induction l with
  | nil => intro p hp; cases hp
  | cons x r ih =>
    intro p hp
    rcases List.mem_cons.mp hp with e | hp
    · rw [e]; exact h.1
    · exact ih h.2 p hp
def cond (c : Int) (b : Nat) : Bool := (c.fdiv (2 ^ (b : Int).toNat)).fmod 2 == 1
theorem cond_yes {c : Int} {b : Nat} (h : (c.fdiv (2 ^ (b : Int).toNat)).fmod 2 = 1) : cond c b = true := by
  unfold cond
  rw [h]; rfl
theorem cond_no {c : Int} {b : Nat} (h : (c.fdiv (2 ^ (b : Int).toNat)).fmod 2 ≠ 1) : ¬ cond c b = true := by
  unfold cond
  rw [beq_iff_eq]
  exact h
def orTo (a : Array Nat) (c : Int) : Nat → Int
  | 0 => 0
  | b + 1 => Builtin.bitOr (orTo a c b) (if cond c b then Builtin.bitNot (plane a b) else plane a b)
theorem orTo_succ (a : Array Nat) (c : Int) (b : Nat) : orTo a c (b + 1) = Builtin.bitOr (orTo a c b) (if cond c b then Builtin.bitNot (plane a b) else plane a b) := rfl
def fullI (a : Array Nat) : Int := 2 ^ (a.size : Int).toNat - 1
def kindI (a : Array Nat) (c : Int) : Int := Builtin.bitAnd (fullI a) (Builtin.bitNot (orTo a c 8))
def kindsTo (a : Array Nat) (i : Nat) : List Int := (([46, 13, 10] : List Int).take i).map (kindI a)
theorem kindsTo_succ {a : Array Nat} {i : Nat} {c : Int} (h : ([46, 13, 10] : List Int)[i]? = some c) : kindsTo a (i + 1) = kindsTo a i ++ [kindI a c] := by
  unfold kindsTo
  rw [List.take_add_one, h, List.map_append]
  rfl
def JM (a : Array Nat) (K D2 : Addr) (rest : List (Addr × Obj)) (i : Nat) (m : Str → Option Value) (news : List (Addr × Obj)) : Prop :=
  ∃ vs kk tf, m (Str.ofString "kinds") = some (.ref K) ∧ m (Str.ofString "planes") = some (.ref D2) ∧ m (Str.ofString "full") = some (.int (fullI a) tf) ∧ news = (K, W.listOf (vs : List Value).toArray kk) :: rest ∧ IntsAre vs (kindsTo a i)
def JO (a : Array Nat) (K D2 : Addr) (tf tc : Tok) (c : Int) (i : Nat) (m : Str → Option Value) : Prop :=
  m (Str.ofString "kinds") = some (.ref K) ∧ m (Str.ofString "planes") = some (.ref D2) ∧ m (Str.ofString "full") = some (.int (fullI a) tf) ∧ m (Str.ofString "code") = some (.int c tc) ∧ ∃ t, m (Str.ofString "others") = some (.int (orTo a c i) t)
theorem band_le (n : Nat) (y : Int) : 0 ≤ Builtin.bitAnd (n : Int) y ∧ Builtin.bitAnd (n : Int) y ≤ n := by
  rcases int_cases y with ⟨m, rfl⟩ | ⟨m, rfl⟩
  · have : Builtin.bitAnd (n : Int) (m : Int) = ((n &&& m : Nat) : Int) := by
      apply ib_ext; intro k; rw [ib_and, ib_nat, ib_nat, ib_nat, Nat.testBit_and]
    rw [this]
    have := Nat.and_le_left (n := n) (m := m)
    omega
  · have : Builtin.bitAnd (n : Int) (-(m : Int) - 1) = ((n ^^^ (n &&& m) : Nat) : Int) := by
      apply ib_ext; intro k; rw [ib_and, ib_nat, ib_neg, ib_nat, Nat.testBit_xor, Nat.testBit_and]
      cases n.testBit k <;> cases m.testBit k <;> rfl
    rw [this, ← nat_sub_and]
    have := Nat.and_le_left (n := n) (m := m)
    omega
theorem band_b {x : Int} (y : Int) {N : Nat} (h0 : 0 ≤ x) (h : x < 2 ^ N) : 0 ≤ Builtin.bitAnd x y ∧ Builtin.bitAnd x y < 2 ^ N := by
  obtain ⟨n, rfl⟩ : ∃ n : Nat, x = n := ⟨x.toNat, by omega⟩
  have := band_le n y
  omega
theorem bor_b {x y : Int} {N : Nat} (h0 : 0 ≤ x) (h : x < 2 ^ N) (h1 : 0 ≤ y) (h2 : y < 2 ^ N) : 0 ≤ Builtin.bitOr x y ∧ Builtin.bitOr x y < 2 ^ N := by
  obtain ⟨n, rfl⟩ : ∃ n : Nat, x = n := ⟨x.toNat, by omega⟩
  obtain ⟨m, rfl⟩ : ∃ m : Nat, y = m := ⟨y.toNat, by omega⟩
  have e : Builtin.bitOr (n : Int) (m : Int) = ((n ||| m : Nat) : Int) := by
    apply ib_ext; intro k; rw [ib_or, ib_nat, ib_nat, ib_nat, Nat.testBit_or]
  have hc : ((2 : Int) ^ N) = ((2 ^ N : Nat) : Int) := by push_cast; rfl
  rw [hc] at h h2
  rw [e, hc]
  have := Nat.or_lt_two_pow (x := n) (y := m) (n := N) (by omega) (by omega)
  omega
theorem fullI_b (a : Array Nat) : 0 ≤ fullI a ∧ fullI a < 2 ^ a.size := by
  have := two_pow_pos' a.size
  unfold fullI
  have e : ((a.size : Int)).toNat = a.size := by omega
  rw [e]
  omega
theorem kindI_b (a : Array Nat) (c : Int) : 0 ≤ kindI a c ∧ kindI a c < 2 ^ a.size := band_b _ (fullI_b a).1 (fullI_b a).2
theorem abs_b {x : Int} {N : Nat} (hN : N ≤ 400) (h : 0 ≤ x ∧ x < 2 ^ N) : x.natAbs < 2 ^ 1000 := by
  have hc : ((2 : Int) ^ N) = ((2 ^ N : Nat) : Int) := by push_cast; rfl
  rw [hc] at h
  have h2 : (2 : Nat) ^ N ≤ 2 ^ 1000 := Nat.pow_le_pow_right (by decide) (by omega)
  omega
theorem shl_K {prog : Program} {w : World} {A : Around} {s : Shared} {E : Value → Shared → Prop} {x n : Int} {t u : Tok} {Q : Value → Shared → Prop} (h0 : 0 ≤ n) (hn : n ≤ 1000) (hx : x.natAbs < 2 ^ 1000) (h : Q (.int (x * 2 ^ n.toNat) s.toks) { s with toks := s.toks + 1 }) :
    wpAny (model prog w) A (binaryOp .LShift (.int x t) (.int n u)) Q E s := by
  refine lshift_int h0 ?_ h
  have hb : Builtin.Int.intBits x ≤ 1000 := intBits_le hx
  omega
def ledI (a : Array Nat) : Int := Builtin.bitAnd (kindI a 46) (Builtin.bitOr (Builtin.bitOr (kindI a 13) (kindI a 10) * 2 ^ (1 : Int).toNat) 1)
def behindI (a : Array Nat) : Int := Builtin.bitAnd (ledI a + kindI a 46) (Builtin.bitNot (kindI a 46))
def madeL (a : Array Nat) : List Int :=
  [ledI a, behindI a - ledI a, Builtin.bitAnd (Builtin.bitAnd (ledI a * 2 ^ (1 : Int).toNat) (behindI a)) (Builtin.bitOr (Builtin.bitOr (kindI a 13) (kindI a 10)) (fullI a + 1)),
   Builtin.bitAnd (kindI a 10) (Builtin.bitNot (kindI a 13 * 2 ^ (1 : Int).toNat)), Builtin.bitAnd (kindI a 13) (Builtin.bitNot ((kindI a 10).fdiv (2 ^ (1 : Int).toNat))), Builtin.bitNot (behindI a - ledI a)]
theorem ints3 {vs : List Value} {x y z : Int} (h : IntsAre vs [x, y, z]) : ∃ t u v, vs = [.int x t, .int y u, .int z v] := by
  cases h with
  | cons _ t h => cases h with
    | cons _ u h => cases h with
      | cons _ v h => cases h; exact ⟨t, u, v, rfl⟩
theorem ints_snoc {vs : List Value} {ns : List Int} (h : IntsAre vs ns) (i : Int) (t : Tok) : IntsAre (vs ++ [.int i t]) (ns ++ [i]) := by
  induction h with
  | nil => exact .cons _ _ .nil
  | cons _ _ _ ih => exact .cons _ _ ih
theorem ints_tuple {x y z : Int} {t u v : Tok} {i : Nat} {r : Value} (h : (#[Value.int x t, .int y u, .int z v] : Array Value)[i]? = some r) : ∃ c tc, r = .int c tc ∧ ([x, y, z] : List Int)[i]? = some c := by
  match i, h with
  | 0, h => exact ⟨_, _, (Option.some.inj h).symm, rfl⟩
  | 1, h => exact ⟨_, _, (Option.some.inj h).symm, rfl⟩
  | 2, h => exact ⟨_, _, (Option.some.inj h).symm, rfl⟩
  | n + 3, h => simp at h
section
variable {prog : Program} {w : World} {A : Around} {s : Shared} {env : Env} {h₀ : Heap}
theorem turnC_next {L : Addr} {news own : List (Addr × Obj)} {J : (Str → Option Value) → Prop} {Q : Flow → Shared → Prop} {h' : Heap} {tk' : Nat} {m' : Str → Option Value}
    (F : Fr h₀ L h' m') (N : News h₀ L h' (news ++ own)) (hJ : J m') : TurnN h₀ L own (news.map (·.1)) (fun m n => J m ∧ n = news) s Q .next { s with heap := h', toks := tk' } := TurnN.next F N rfl ⟨hJ, rfl⟩
/-- over a tuple -/
theorem tup_W {tt : Addr} {items : Array Value} {m : Str → Option Value} {news : List (Addr × Obj)} {x : Str} {body orelse : List Stmt} {Q : Flow → Shared → Prop}
    (J : Nat → (Str → Option Value) → List (Addr × Obj) → Prop) (hh : A.handled = none) (ht : s.heap.IsTuple tt items)
    (F : Fr h₀ env.locals s.heap m) (N : News h₀ env.locals s.heap news) (hnt : AllLt tt news) (hLt : env.locals ≠ tt) (h0 : J 0 m news)
    (turn : ∀ i v m₁ news₁ h tk own, i < items.size → items[i]? = some v → J i m₁ news₁ → news₁.map (·.1) = news.map (·.1) → OwnOff own (news.map (·.1)) → Fr h₀ env.locals h (fun y => if y = x then some v else m₁ y) → News h₀ env.locals h (news₁ ++ own) →
      wpAny (model prog w) A (execs body env) (TurnN h₀ env.locals own (news.map (·.1)) (J (i + 1)) { s with heap := h, toks := tk } Q) (fun _ _ => False) { s with heap := h, toks := tk })
    (done : ∀ h tk m₁ news₁, J items.size m₁ news₁ → news₁.map (·.1) = news.map (·.1) → Fr h₀ env.locals h m₁ → News h₀ env.locals h news₁ → wpAny (model prog w) A (execs orelse env) Q (fun _ _ => False) { s with heap := h, toks := tk }) :
    wpAny (model prog w) A (pyIter (.ref tt)) (fun it s₂ => LoopW prog w A h₀ env x body orelse Q it s₂) (fun _ _ => False) s := by
  refine wpAny_pyIter_tuple ht ?_
  have hlt : tt < s.heap.objs.size := by obtain ⟨o, e, _⟩ := ht; exact Heap.lt_size e
  have W := Walks.tuple (prog := prog) (w := w) hh s.heap.objs.size tt (Nat.ne_of_lt hlt) items
  refine loopW_of J W ?_ ?_ ?_ ⟨⟨_, Heap.get?_push_size _ rfl, rfl, rfl⟩, ht.push _⟩ (F.push _) (fun p hp => ⟨Heap.get?_push_of_some _ (N p hp).1, (N p hp).2⟩) h0 ?_ ?_
  · intro hm
    rcases List.mem_cons.mp hm with e | hm
    · exact absurd F.ns.lt (e ▸ Nat.lt_irrefl _)
    · exact hLt (List.mem_singleton.mp hm)
  · intro b hb
    rw [List.mem_singleton.mp hb]
    exact next_is_new F
  · intro p hp hI
    rcases List.mem_cons.mp hI with e | hm
    · exact absurd (Heap.lt_size (N p hp).1) (e ▸ Nat.lt_irrefl _)
    · exact Nat.ne_of_lt (allLt_mem hnt p hp) (List.mem_singleton.mp hm)
  · exact fun i v m₁ news₁ h tk own hi hP hJ ha hoff F₁ N₁ => turn i v m₁ news₁ h tk own hi hP hJ ha hoff F₁ N₁
  · exact fun h tk m₁ news₁ hJ ha F₁ N₁ => done h tk m₁ news₁ hJ ha F₁ N₁
/-- over a range, the ledger as it was -/
theorem range_Wc {r : Addr} {z : Int} {t u v : Tok} {n : Nat} {m : Str → Option Value} {news : List (Addr × Obj)} {x : Str} {body orelse : List Stmt} {Q : Flow → Shared → Prop}
    (J : Nat → (Str → Option Value) → Prop) (hh : A.handled = none) (hr : IsRange s.heap r 0 z 1 t u v) (hz : z = (n : Int)) (hn : n ≤ 100000)
    (F : Fr h₀ env.locals s.heap m) (N : News h₀ env.locals s.heap news) (h0 : J 0 m)
    (turn : ∀ i t m₁ h tk own, i < n → J i m₁ → OwnOff own (news.map (·.1)) → Fr h₀ env.locals h (fun y => if y = x then some (.int (i : Nat) t) else m₁ y) → News h₀ env.locals h (news ++ own) →
      wpAny (model prog w) A (execs body env) (TurnN h₀ env.locals own (news.map (·.1)) (fun m n => J (i + 1) m ∧ n = news) { s with heap := h, toks := tk } Q) (fun _ _ => False) { s with heap := h, toks := tk })
    (done : ∀ h tk m₁, J n m₁ → Fr h₀ env.locals h m₁ → News h₀ env.locals h news → wpAny (model prog w) A (execs orelse env) Q (fun _ _ => False) { s with heap := h, toks := tk }) :
    wpAny (model prog w) A (pyIter (.ref r)) (fun it s₂ => LoopW prog w A h₀ env x body orelse Q it s₂) (fun _ _ => False) s := by
  subst hz
  refine range_W (n := n) (fun i m n => J i m ∧ n = news) hh hr (small_one (by decide) (by decide) (by omega) (by omega)) (by rw [rangeSize_nat]; simp) F N ⟨h0, rfl⟩ ?_ ?_
  · rintro i t m₁ news₁ h tk own hi ⟨hJ, rfl⟩ ha hoff F₁ N₁
    rw [Int.zero_add] at F₁
    exact turn i t m₁ h tk own hi hJ hoff F₁ N₁
  · rintro h tk m₁ news₁ ⟨hJ, rfl⟩ ha F₁ N₁
    exact done h tk m₁ hJ F₁ N₁
end
end Mine
end
-- part Fo
section
open PySem PySem.W PyProof.Rows PySem.Calls
set_option Elab.async false
set_option maxRecDepth 100000
set_option maxHeartbeats 8000000
namespace Mine
theorem fillupO : (fun (_ : OpenLaw) (_ : Params → Frag) => True) PySem.Challenge.rw_wk0006_01 hd.heap_39 := by
  k_fill
  trivial
section
variable {w : World} {mean : ExcName → Option Value} {mg mb : Str → Option Value} {q q2 : Str} {sc sc2 : Scope} {L fa L2 fa2 : Addr} {cd cd2 : Value} {base h₀ : Heap} {m : Str → Option Value} {s : Shared} {Q : Value → Shared → Prop}
local macro_rules | `(tactic| walk_at "binaryOp LShift int int") => `(tactic| (refine shl_K (by assumption) (by assumption) (by assumption) ?_))
local macro_rules | `(tactic| walk_at "binaryOp RShift int int") => `(tactic| (refine rshift_int (by assumption) ?_))
theorem o2_add {x y : Int} {T U : Tok} (B : Below (callerA.deeper (envOf q sc L fa cd)) base [envOf q sc L fa cd] h₀) (F : Fr h₀ L2 s.heap m) (X : Frag.In (hd.heap_39 w.params) h₀) (TT : Top hd.view_39 looseP mean mg mb h₀) (hsc : sc2.kind = .function)
    (hret : ∀ t h' tk', Kp s.heap h' → Q (.int (x + y) t) { s with heap := h', toks := tk' }) :
    wpAny (model progP w) ((callerA.deeper (envOf q sc L fa cd)).deeper (envOfC q2 sc2 L2 fa2 cd2)) (call (.ref 46) [.int x T, .int y U]) Q (fun _ _ => False) s := by
  w_top off
  dsimp only [looseP, progP] at *
  refine wpAny_call ?_
  k_dflt (refine' raw_def ?k1 ?k2 ?k3 ?k5 ?kA ?kF ?kK ?k6 ?k7 ?k8 ?k9 ?kB ?_ ?c2 ?c3 ?c4 ?c5; (case kA => exact rfl); (case kF => exact rfl); (case kK => assumption); (case k1 => k_asm); (case k2 => k_asm); (case k3 => k_asm); (case k5 => k_asm); (case k6 => k_is); (case k7 => k_is); (case k8 => k_room); (case k9 => exact BindsTo.of_eq rfl); (case c5 => decide); (case kB => exact locs rfl); (case c2 => exact rfl); (case c3 => exact rfl); (case c4 => exact rfl); k_whole; intro g' L' h' hg' F' N' B' X' T'; (try dsimp only); (try k_lift B'); (try k_fold))
  clear F X TT B
  k_steps
  (rename Fr _ _ _ _ => FE)
  exact hret _ _ _ (hg' ▸ FE.keep)
theorem o2_and {x y : Int} {T U : Tok} (B : Below (callerA.deeper (envOf q sc L fa cd)) base [envOf q sc L fa cd] h₀) (F : Fr h₀ L2 s.heap m) (X : Frag.In (hd.heap_39 w.params) h₀) (TT : Top hd.view_39 looseP mean mg mb h₀) (hsc : sc2.kind = .function)
    (hret : ∀ t h' tk', Kp s.heap h' → Q (.int (Builtin.bitAnd x y) t) { s with heap := h', toks := tk' }) :
    wpAny (model progP w) ((callerA.deeper (envOf q sc L fa cd)).deeper (envOfC q2 sc2 L2 fa2 cd2)) (call (.ref 53) [.int x T, .int y U]) Q (fun _ _ => False) s := by
  w_top off
  dsimp only [looseP, progP] at *
  refine wpAny_call ?_
  k_dflt (refine' raw_def ?k1 ?k2 ?k3 ?k5 ?kA ?kF ?kK ?k6 ?k7 ?k8 ?k9 ?kB ?_ ?c2 ?c3 ?c4 ?c5; (case kA => exact rfl); (case kF => exact rfl); (case kK => assumption); (case k1 => k_asm); (case k2 => k_asm); (case k3 => k_asm); (case k5 => k_asm); (case k6 => k_is); (case k7 => k_is); (case k8 => k_room); (case k9 => exact BindsTo.of_eq rfl); (case c5 => decide); (case kB => exact locs rfl); (case c2 => exact rfl); (case c3 => exact rfl); (case c4 => exact rfl); k_whole; intro g' L' h' hg' F' N' B' X' T'; (try dsimp only); (try k_lift B'); (try k_fold))
  clear F X TT B
  k_steps
  (rename Fr _ _ _ _ => FE)
  exact hret _ _ _ (hg' ▸ FE.keep)
theorem o2_inv {x : Int} {T : Tok} (B : Below (callerA.deeper (envOf q sc L fa cd)) base [envOf q sc L fa cd] h₀) (F : Fr h₀ L2 s.heap m) (X : Frag.In (hd.heap_39 w.params) h₀) (TT : Top hd.view_39 looseP mean mg mb h₀) (hsc : sc2.kind = .function)
    (hret : ∀ t h' tk', Kp s.heap h' → Q (.int (Builtin.bitNot x) t) { s with heap := h', toks := tk' }) :
    wpAny (model progP w) ((callerA.deeper (envOf q sc L fa cd)).deeper (envOfC q2 sc2 L2 fa2 cd2)) (call (.ref 60) [.int x T]) Q (fun _ _ => False) s := by
  w_top off
  dsimp only [looseP, progP] at *
  refine wpAny_call ?_
  k_dflt (refine' raw_def ?k1 ?k2 ?k3 ?k5 ?kA ?kF ?kK ?k6 ?k7 ?k8 ?k9 ?kB ?_ ?c2 ?c3 ?c4 ?c5; (case kA => exact rfl); (case kF => exact rfl); (case kK => assumption); (case k1 => k_asm); (case k2 => k_asm); (case k3 => k_asm); (case k5 => k_asm); (case k6 => k_is); (case k7 => k_is); (case k8 => k_room); (case k9 => exact BindsTo.of_eq rfl); (case c5 => decide); (case kB => exact locs rfl); (case c2 => exact rfl); (case c3 => exact rfl); (case c4 => exact rfl); k_whole; intro g' L' h' hg' F' N' B' X' T'; (try dsimp only); (try k_lift B'); (try k_fold))
  clear F X TT B
  k_steps
  (rename Fr _ _ _ _ => FE)
  exact hret _ _ _ (hg' ▸ FE.keep)
theorem o2_lsh {x y : Int} {T U : Tok} (h0 : 0 ≤ y) (hn : y ≤ 1000) (hx : x.natAbs < 2 ^ 1000) (B : Below (callerA.deeper (envOf q sc L fa cd)) base [envOf q sc L fa cd] h₀) (F : Fr h₀ L2 s.heap m) (X : Frag.In (hd.heap_39 w.params) h₀) (TT : Top hd.view_39 looseP mean mg mb h₀) (hsc : sc2.kind = .function)
    (hret : ∀ t h' tk', Kp s.heap h' → Q (.int (x * 2 ^ y.toNat) t) { s with heap := h', toks := tk' }) :
    wpAny (model progP w) ((callerA.deeper (envOf q sc L fa cd)).deeper (envOfC q2 sc2 L2 fa2 cd2)) (call (.ref 67) [.int x T, .int y U]) Q (fun _ _ => False) s := by
  w_top off
  dsimp only [looseP, progP] at *
  refine wpAny_call ?_
  k_dflt (refine' raw_def ?k1 ?k2 ?k3 ?k5 ?kA ?kF ?kK ?k6 ?k7 ?k8 ?k9 ?kB ?_ ?c2 ?c3 ?c4 ?c5; (case kA => exact rfl); (case kF => exact rfl); (case kK => assumption); (case k1 => k_asm); (case k2 => k_asm); (case k3 => k_asm); (case k5 => k_asm); (case k6 => k_is); (case k7 => k_is); (case k8 => k_room); (case k9 => exact BindsTo.of_eq rfl); (case c5 => decide); (case kB => exact locs rfl); (case c2 => exact rfl); (case c3 => exact rfl); (case c4 => exact rfl); k_whole; intro g' L' h' hg' F' N' B' X' T'; (try dsimp only); (try k_lift B'); (try k_fold))
  clear F X TT B
  k_steps
  (rename Fr _ _ _ _ => FE)
  exact hret _ _ _ (hg' ▸ FE.keep)
theorem o2_or {x y : Int} {T U : Tok} (B : Below (callerA.deeper (envOf q sc L fa cd)) base [envOf q sc L fa cd] h₀) (F : Fr h₀ L2 s.heap m) (X : Frag.In (hd.heap_39 w.params) h₀) (TT : Top hd.view_39 looseP mean mg mb h₀) (hsc : sc2.kind = .function)
    (hret : ∀ t h' tk', Kp s.heap h' → Q (.int (Builtin.bitOr x y) t) { s with heap := h', toks := tk' }) :
    wpAny (model progP w) ((callerA.deeper (envOf q sc L fa cd)).deeper (envOfC q2 sc2 L2 fa2 cd2)) (call (.ref 74) [.int x T, .int y U]) Q (fun _ _ => False) s := by
  w_top off
  dsimp only [looseP, progP] at *
  refine wpAny_call ?_
  k_dflt (refine' raw_def ?k1 ?k2 ?k3 ?k5 ?kA ?kF ?kK ?k6 ?k7 ?k8 ?k9 ?kB ?_ ?c2 ?c3 ?c4 ?c5; (case kA => exact rfl); (case kF => exact rfl); (case kK => assumption); (case k1 => k_asm); (case k2 => k_asm); (case k3 => k_asm); (case k5 => k_asm); (case k6 => k_is); (case k7 => k_is); (case k8 => k_room); (case k9 => exact BindsTo.of_eq rfl); (case c5 => decide); (case kB => exact locs rfl); (case c2 => exact rfl); (case c3 => exact rfl); (case c4 => exact rfl); k_whole; intro g' L' h' hg' F' N' B' X' T'; (try dsimp only); (try k_lift B'); (try k_fold))
  clear F X TT B
  k_steps
  (rename Fr _ _ _ _ => FE)
  exact hret _ _ _ (hg' ▸ FE.keep)
theorem o2_rsh {x y : Int} {T U : Tok} (h0 : 0 ≤ y) (B : Below (callerA.deeper (envOf q sc L fa cd)) base [envOf q sc L fa cd] h₀) (F : Fr h₀ L2 s.heap m) (X : Frag.In (hd.heap_39 w.params) h₀) (TT : Top hd.view_39 looseP mean mg mb h₀) (hsc : sc2.kind = .function)
    (hret : ∀ t h' tk', Kp s.heap h' → Q (.int (x.fdiv (2 ^ y.toNat)) t) { s with heap := h', toks := tk' }) :
    wpAny (model progP w) ((callerA.deeper (envOf q sc L fa cd)).deeper (envOfC q2 sc2 L2 fa2 cd2)) (call (.ref 81) [.int x T, .int y U]) Q (fun _ _ => False) s := by
  w_top off
  dsimp only [looseP, progP] at *
  refine wpAny_call ?_
  k_dflt (refine' raw_def ?k1 ?k2 ?k3 ?k5 ?kA ?kF ?kK ?k6 ?k7 ?k8 ?k9 ?kB ?_ ?c2 ?c3 ?c4 ?c5; (case kA => exact rfl); (case kF => exact rfl); (case kK => assumption); (case k1 => k_asm); (case k2 => k_asm); (case k3 => k_asm); (case k5 => k_asm); (case k6 => k_is); (case k7 => k_is); (case k8 => k_room); (case k9 => exact BindsTo.of_eq rfl); (case c5 => decide); (case kB => exact locs rfl); (case c2 => exact rfl); (case c3 => exact rfl); (case c4 => exact rfl); k_whole; intro g' L' h' hg' F' N' B' X' T'; (try dsimp only); (try k_lift B'); (try k_fold))
  clear F X TT B
  k_steps
  (rename Fr _ _ _ _ => FE)
  exact hret _ _ _ (hg' ▸ FE.keep)
theorem o2_sub {x y : Int} {T U : Tok} (B : Below (callerA.deeper (envOf q sc L fa cd)) base [envOf q sc L fa cd] h₀) (F : Fr h₀ L2 s.heap m) (X : Frag.In (hd.heap_39 w.params) h₀) (TT : Top hd.view_39 looseP mean mg mb h₀) (hsc : sc2.kind = .function)
    (hret : ∀ t h' tk', Kp s.heap h' → Q (.int (x - y) t) { s with heap := h', toks := tk' }) :
    wpAny (model progP w) ((callerA.deeper (envOf q sc L fa cd)).deeper (envOfC q2 sc2 L2 fa2 cd2)) (call (.ref 88) [.int x T, .int y U]) Q (fun _ _ => False) s := by
  w_top off
  dsimp only [looseP, progP] at *
  refine wpAny_call ?_
  k_dflt (refine' raw_def ?k1 ?k2 ?k3 ?k5 ?kA ?kF ?kK ?k6 ?k7 ?k8 ?k9 ?kB ?_ ?c2 ?c3 ?c4 ?c5; (case kA => exact rfl); (case kF => exact rfl); (case kK => assumption); (case k1 => k_asm); (case k2 => k_asm); (case k3 => k_asm); (case k5 => k_asm); (case k6 => k_is); (case k7 => k_is); (case k8 => k_room); (case k9 => exact BindsTo.of_eq rfl); (case c5 => decide); (case kB => exact locs rfl); (case c2 => exact rfl); (case c3 => exact rfl); (case c4 => exact rfl); k_whole; intro g' L' h' hg' F' N' B' X' T'; (try dsimp only); (try k_lift B'); (try k_fold))
  clear F X TT B
  k_steps
  (rename Fr _ _ _ _ => FE)
  exact hret _ _ _ (hg' ▸ FE.keep)
theorem o1_lsh {x y : Int} {T U : Tok} (h0 : 0 ≤ y) (hn : y ≤ 1000) (hx : x.natAbs < 2 ^ 1000) (B : Below callerA base [] h₀) (F : Fr h₀ L s.heap m) (X : Frag.In (hd.heap_39 w.params) h₀) (TT : Top hd.view_39 looseP mean mg mb h₀) (hsc : sc.kind = .function)
    (hret : ∀ t h' tk', Kp s.heap h' → Q (.int (x * 2 ^ y.toNat) t) { s with heap := h', toks := tk' }) :
    wpAny (model progP w) (callerA.deeper (envOf q sc L fa cd)) (call (.ref 67) [.int x T, .int y U]) Q (fun _ _ => False) s := by
  w_top off
  dsimp only [looseP, progP] at *
  refine wpAny_call ?_
  k_dflt (refine' raw_def ?k1 ?k2 ?k3 ?k5 ?kA ?kF ?kK ?k6 ?k7 ?k8 ?k9 ?kB ?_ ?c2 ?c3 ?c4 ?c5; (case kA => exact rfl); (case kF => exact rfl); (case kK => assumption); (case k1 => k_asm); (case k2 => k_asm); (case k3 => k_asm); (case k5 => k_asm); (case k6 => k_is); (case k7 => k_is); (case k8 => k_room); (case k9 => exact BindsTo.of_eq rfl); (case c5 => decide); (case kB => exact locs rfl); (case c2 => exact rfl); (case c3 => exact rfl); (case c4 => exact rfl); k_whole; intro g' L' h' hg' F' N' B' X' T'; (try dsimp only); (try k_lift B'); (try k_fold))
  clear F X TT B
  k_steps
  (rename Fr _ _ _ _ => FE)
  exact hret _ _ _ (hg' ▸ FE.keep)
end
end Mine
end
-- part Fm
section
open PySem PySem.W PyProof.Rows PySem.Calls
set_option Elab.async false
set_option maxRecDepth 100000
set_option maxHeartbeats 8000000
namespace Mine
theorem fillupFm : (fun (_ : OpenLaw) (_ : Params → Frag) => True) PySem.Challenge.rw_wk0006_01 hd.heap_39 := by
  k_fill
  trivial
section
variable {w : World} {mean : ExcName → Option Value} {mg mb : Str → Option Value} {q : Str} {sc : Scope} {L fa : Addr} {cd : Value} {base h₀ : Heap} {m : Str → Option Value} {s : Shared} {Q : Value → Shared → Prop}
local macro_rules | `(tactic| walk_at "call builtin:sum") => `(tactic| (refine Stop.out ?_))
local macro_rules | `(tactic| walk_at "call builtin:ord") => `(tactic| (refine Stop.out ?_))
local macro_rules | `(tactic| walk_at "call type:enumerate") => `(tactic| (refine Stop.out ?_))
local macro_rules | `(tactic| walk_at "call type:range") => `(tactic| ((rename Fr _ _ _ _ => F'); (rename News _ _ _ _ => N'); refine range1_news F' N' ?_; intro _ _ _ _ _ _ _ _))
local macro_rules | `(tactic| walk_at "exec For Name Tuple cons nil") => `(tactic| (refine Stop.out ?_))
local macro_rules | `(tactic| walk_at "exec For Name Call cons nil") => `(tactic| (refine Stop.out ?_))
local macro_rules | `(tactic| walk_at "binaryOp LShift int int") => `(tactic| (refine Stop.out ?_))
local macro_rules | `(tactic| walk_at "call ref") => `(tactic| ((rename Fr _ _ _ _ => F'); (rename News _ _ _ _ => N'); k_dflt (first
  | (refine' o2_and ?B F' ?X ?T ?K ?_; (case B => assumption); (case X => assumption); (case T => assumption); (case K => rfl))
  | (refine' o2_or ?B F' ?X ?T ?K ?_; (case B => assumption); (case X => assumption); (case T => assumption); (case K => rfl))
  | (refine' o2_inv ?B F' ?X ?T ?K ?_; (case B => assumption); (case X => assumption); (case T => assumption); (case K => rfl))
  | (refine' o2_add ?B F' ?X ?T ?K ?_; (case B => assumption); (case X => assumption); (case T => assumption); (case K => rfl))
  | (refine' o2_sub ?B F' ?X ?T ?K ?_; (case B => assumption); (case X => assumption); (case T => assumption); (case K => rfl))
  | (refine' o2_lsh ?h0 ?hn ?hx ?B F' ?X ?T ?K ?_; (case h0 => decide); (case hn => decide); (case hx => assumption); (case B => assumption); (case X => assumption); (case T => assumption); (case K => rfl))
  | (refine' o2_rsh ?h0 ?B F' ?X ?T ?K ?_; (case h0 => decide); (case B => assumption); (case X => assumption); (case T => assumption); (case K => rfl))); intro t1 h1 tk1 hk1; k_dflt ((have F1 := Fr.keeps F' hk1); (have N1 := News.grown N' hk1)); clear F' N' hk1; (try dsimp only at F1 N1); (try dsimp only)))
local macro_rules | `(tactic| walk_at "subscriptTail") => `(tactic| (refine Stop.out ?_))
local macro_rules | `(tactic| walk_at "eval ListComp") => `(tactic| (refine Stop.out ?_))
local macro_rules | `(tactic| walk_at "exec Assign cons ListComp") => `(tactic| (refine Stop.out ?_))
local macro_rules | `(tactic| walk_at "eval Name") => `(tactic| ((with_reducible show wpAny _ _ (eval (Expr.Name _ _) (compEnvC _ _ _ _)) _ _ _); k_dflt (first
  | ((refine' nameL ?N ?v ?_ ?a ?b ?e); (case a => rfl); (case b => rfl); (case e => decide); (case N => assumption); (case v => assumption))
  | ((refine' nameK ?N ?_ ?a ?b ?c ?e); (case a => rfl); (case b => rfl); (case c => rfl); (case e => decide); (case N => assumption))
  | ((refine' nameC ?N ?m ?d ?c ?_ ?a ?b ?e); (case a => rfl); (case b => rfl); (case e => decide); (case c => rfl); (case N => assumption); (case m => k_mem); (case d => assumption)))))
theorem c_made {a : Array Nat} {T : Tok} (ha : a.size ≤ 200) (B : Below callerA base [] h₀) (F : Fr h₀ L s.heap m) (X : Frag.In (hd.heap_39 w.params) h₀) (TT : Top hd.view_39 looseP mean mg mb h₀) (hsc : sc.kind = .function)
    (hret : ∀ D k h' tk' vs, Kp s.heap h' → s.heap.get? D = none → h'.get? D = some (W.listOf (vs : List Value).toArray k) → IntsAre vs (madeL a) → Q (.ref D) { s with heap := h', toks := tk' }) :
    wpAny (model progP w) (callerA.deeper (envOf q sc L fa cd)) (call (.ref 139) [.str ⟨a⟩ T]) Q (fun _ _ => False) s := by
  w_top off
  dsimp only [looseP, progP] at *
  refine wpAny_call ?_
  k_dflt (refine' raw_defC (binds := [(Str.ofString "text", .str ⟨a⟩ T)]) ?k1 ?k2 ?k3 ?k5 ?kA ?kF ?kK ?k6 ?k7 ?k8 ?k9 ?kB ?kD ?_ ?c2 ?c3 ?c4; (case kA => exact rfl); (case kF => exact rfl); (case kK => assumption); (case k1 => k_asm); (case k2 => k_asm); (case k3 => k_asm); (case k5 => k_asm); (case k6 => k_is); (case k7 => k_is); (case k8 => k_room); (case k9 => exact BindsTo.of_eq rfl); (case kB => exact rfl); (case kD => decide +kernel); (case c2 => exact rfl); (case c3 => exact rfl); (case c4 => exact rfl); k_whole; intro g' L' h' tk' cells' hg' F' N' Y' B' X' T'; k_cells Y'; (try simp only [List.cons_append, List.nil_append] at N'); (try dsimp only); (try k_lift B'); (try k_fold))
  clear F X TT B
  have hal : Str.length ⟨a⟩ ≤ 200 := ha
  k_steps
  unfold Stop
  refine wpAny_Assign_Name ?_ (by with_unfolding_all rfl)
  refine' ListComp_G (cl := ?cl_1) (fun _ => true) (fun y i => IsI y ((a.getD i 0 : Nat) : Int)) a.size ?hclos_1 ?hkind_1 ?hnames_1 ?hs_1 ?hsz_1 ?h_1
  case hclos_1 => with_unfolding_all rfl
  case hkind_1 => rfl
  case hnames_1 => decide
  case hs_1 => intro _; rfl
  case hsz_1 => rw [sizeLine_eq]; omega
  k_steps
  (rename Fr _ _ _ _ => F4); (rename News _ _ _ _ => N4)
  refine' str_srcG ?hh_2 ?hsn_2 ?hk_2 ?hx_2 ?hcf_2 ?tests_2 ?elts_2 ?fin_2
  case hsn_2 => rfl
  case hh_2 => rfl
  case hk_2 => rfl
  case hx_2 => rfl
  case hcf_2 => intro _; rfl
  case tests_2 => intros; exact testsOf_nil
  case elts_2 =>
    intro C i v m₃ s₃ hi hv _ k₃ hn₃ hm₃
    have F₃ := F4.keeps k₃
    have N₃ := N4.grown k₃
    clear F4 N4
    obtain ⟨c, tv, hcv, rfl⟩ := signAt_of (y := ⟨a⟩) hi hv
    k_steps
    unfold Stop
    refine P.ord_of_char ?_
    exact ⟨⟨_, by rw [hcv]⟩, _, _, rfl, fun _ _ e => e⟩
  case fin_2 =>
    intro D1 h5 tk5 ys1 hD1 hl hG hk
    have hI1 := (hG.map (El' := IsI) (fun i : Nat => ((a.getD i 0 : Nat) : Int)) fun _ _ e => e).ints
    rw [filter_tt] at hI1
    obtain ⟨k1, F5, N5, ne1⟩ := fin_news F4 N4 hl hk hD1
    clear F4 N4 hl hG hk hD1
    simp only [AllLt] at ne1
    k_steps
    unfold Stop
    (rename _ = Data.cell (some (Value.ref _)) => dl)
    rename_i oc _ _
    refine' Assign_G (cl := ?cl2_3) (fun _ => true) (fun y b => IsI y (plane a b)) 8 ?hsw_3 ?hclos_3 ?hkind_3 ?hnames_3 ?hy_3 ?hp_3 ?hs_3 ?hsz_3 ?h_3
    case hsw_3 => with_unfolding_all rfl
    case hclos_3 => with_unfolding_all rfl
    case hkind_3 => rfl
    case hnames_3 => decide
    case hy_3 => rfl
    case hp_3 => rfl
    case hs_3 => intro _; rfl
    case hsz_3 => rw [sizeLine_eq]; decide
    k_steps
    (rename Fr _ _ _ _ => F4); (rename News _ _ _ _ => N4)
    refine' rangeC_srcG ?hh_4 ?hr_4 ?hz_4 ?hn_4 ?hk_4 ?hcf_4 ?hpc_4 ?hrl_4 ?tests_4 ?elts_4 ?fin_4
    case hr_4 => exact (N4 (_, rngO _ _ _ _) (by k_mem)).1
    case hh_4 => rfl
    case hz_4 => rfl
    case hn_4 => decide
    case hk_4 => rfl
    case hcf_4 => intro _; rfl
    case hpc_4 => intro _; rfl
    case hrl_4 => intro _ _; rfl
    case tests_4 => intros; exact testsOf_nil
    case elts_4 =>
      intro C b tb s₃ hb _ k₃ hcell
      have F₃ := F4.keeps k₃
      have N₃ := N4.grown k₃
      clear F4 N4
      k_steps
      unfold Stop
      refine' ListComp_G (cl := ?cl3_5) (bt a b) (fun y k => IsI y (2 ^ ((k : Int)).toNat)) a.size ?hclos_5 ?hkind_5 ?hnames_5 ?hs_5 ?hsz_5 ?h_5
      case hclos_5 => with_unfolding_all rfl
      case hkind_5 => rfl
      case hnames_5 => decide
      case hs_5 => intro _; rfl
      case hsz_5 => rw [sizeLine_eq]; omega
      k_steps
      unfold Stop
      refine' enum_srcG ?hh_6 ?hsn_6 ?hl_6 ?hk_6 ?hxa_6 ?hxb_6 ?hab_6 ?hcf_6 ?tests_6 ?elts_6 ?fin_6
      case hl_6 => exact isList_of N₃ (by k_mem)
      case hh_6 => rfl
      case hsn_6 => simpa using hI1.length
      case hk_6 => rfl
      case hxa_6 => rfl
      case hxb_6 => rfl
      case hab_6 => decide
      case hcf_6 => intro _; rfl
      case tests_6 =>
        intro C' k tk v m₄ s₄ hk hv k₄ hn₄ hm1 hm2
        have F₄ := F₃.keeps k₄
        have N₄ := N₃.grown k₄
        have hcell' : s₄.heap.IsCell (C + 1) (some (.int (b : Nat) tb)) := hcell.keeps k₄
        clear F₃ N₃ hcell
        obtain ⟨c, tv, rfl, hc⟩ := ints_at hI1 (by simpa using hv)
        have hcd : c = ((a.getD k 0 : Nat) : Int) := by
          rw [List.getElem?_map] at hc
          have hr : (List.range a.size)[k]? = some k := by simp [hk]
          rw [hr] at hc
          exact (Option.some.inj hc).symm
        subst hcd
        refine testsOf_one ?_
        k_steps
        · exact bt_of
        all_goals (exact ⟨_, _, rfl, fun _ _ e => e⟩)
      case elts_6 =>
        intro C' k tk v m₄ s₄ hk hv _ k₄ hn₄ hm1 hm2
        have F₄ := F₃.keeps k₄
        have N₄ := N₃.grown k₄
        clear F₃ N₃ hcell
        k_steps
        all_goals (exact ⟨_, _, rfl, fun _ _ e => e⟩)
      case fin_6 =>
        intro D7 h7 tk7 ys7 hD7 hl7 hG7 hk7
        have hI7 := (hG7.map (El' := IsI) (fun k : Nat => (2 : Int) ^ ((k : Int)).toNat) fun _ _ e => e).ints
        have F₄ := F₃.keeps hk7
        have N₄ := N₃.grown hk7
        clear F₃ N₃
        k_steps
        unfold Stop
        refine sum_K (by rfl) hl7.isList hI7 ?_
        intro h8 tk8 t8 hk8
        refine ⟨⟨t8, ?_⟩, _, _, rfl, Kp.trans hk7 hk8⟩
        unfold plane pows
        rw [List.map_map]
        rfl
    case fin_4 =>
      intro D2 h6 tk6 ys2 hD2 hl hG hk
      have hI2 := (hG.map (El' := IsI) (plane a) fun _ _ e => e).ints
      rw [filter_tt] at hI2
      refine assign_fin (by rfl) F4 N4 hl hk hD2 ?_
      clear F4 N4 hl hG hk hD2
      intro h7 tk7 k2 F5 N5 ne2
      simp only [AllLt] at ne2
      k_steps
      unfold Stop
      refine For_W g' (by rfl) (by rfl) ?_
      k_steps
      dsimp only at *
      (rename Fr _ _ _ _ => F2); (rename News _ _ _ _ => N2)
      (rename _ ∧ _ => lD)
      rename_i _ _ lK _ _ _ tT _
      have hTup := N2 _ (.head _)
      have N3 : News g' L' _ [(lK, W.listOf #[] 0), (D2, W.listOf ys2.toArray k2), (D1, W.listOf ys1.toArray k1), (L' + 1, oc)] := fun p hp => N2 p (by
        simp only [List.mem_cons, List.not_mem_nil, or_false] at hp ⊢
        rcases hp with h | h | h | h
        · exact .inr (.inl h)
        · exact .inr (.inr (.inl h))
        · exact .inr (.inr (.inr (.inr (.inl h))))
        · exact .inr (.inr (.inr (.inr (.inr h)))))
      clear N2
      refine' tup_W (JM a lK D2 [(D2, W.listOf ys2.toArray k2), (D1, W.listOf ys1.toArray k1), (L' + 1, oc)]) ?hh ?ht F2 N3 ?hnt ?hLt ?h0 ?turn ?done
      case ht => exact ⟨_, hTup.1, rfl, _, rfl⟩
      case hh => rfl
      case hnt => simp only [AllLt, and_true]; exact ⟨lD.1, lD.2.1, lD.2.2.2.1, lD.2.2.2.2⟩
      case hLt => exact Ne.symm hTup.2.1
      case h0 => exact ⟨[], 0, _, rfl, rfl, rfl, rfl, .nil⟩
      case turn =>
        clear F2 N3 hTup
        intro i v m₁ news₁ hI tkI own hi hv hJ had hoff F3 N3
        obtain ⟨vs, kk, tf, hmk, hmp, hmf, rfl, hS⟩ := hJ
        obtain ⟨c, tc, rfl, hc⟩ := ints_tuple hv
        simp only [List.map_cons, List.map_nil] at hoff had ⊢
        rw [mset hmk, mset hmp, mset hmf] at F3
        (try dsimp only at F3)
        simp only [List.cons_append, List.nil_append] at N3
        have hlen : vs.toArray.size ≤ sizeLine := by
          have h1 := hS.length
          rw [List.size_toArray, sizeLine_eq, h1]
          unfold kindsTo
          rw [List.length_map]
          exact Nat.le_trans (List.length_take_le' _ _) (by decide)
        k_steps
        unfold Stop
        refine For_W g' (by rfl) (by rfl) ?_
        k_steps
        dsimp only at *
        (rename Fr _ _ _ _ => F4); (rename News _ _ _ _ => N4)
        refine' range_Wc (n := 8) (JO a lK D2 tf tc c) ?hh2 ?hr2 ?hz2 ?hn2 F4 N4 ?h02 ?turn2 ?done2
        case hr2 => exact (N4 (_, rngO _ _ _ _) (by k_mem)).1
        case hh2 => rfl
        case hz2 => rfl
        case hn2 => decide
        case h02 => exact ⟨rfl, rfl, rfl, rfl, _, rfl⟩
        case turn2 =>
          clear F4 N4 N3 F3
          intro b tb m₂ h2 tk2 own2 hb hJ2 hoff2 F5 N5
          obtain ⟨hk2, hp2, hf2, hc2, to, ho2⟩ := hJ2
          rw [mset hk2, mset hp2, mset hf2, mset hc2, mset ho2] at F5
          (try dsimp only at F5)
          simp only [List.cons_append, List.nil_append, List.append_assoc] at N5
          have hpl : ((List.range 8).map (plane a))[((b : Nat) : Int).toNat]? = some (plane a b) := by
            have e : ((b : Nat) : Int).toNat = b := by omega
            rw [e]; simp [hb]
          k_steps
          · unfold Stop
            have hcd : cond c b = true := cond_yes (by assumption)
            refine item_ints (isList_of N5 (by k_mem)) hI2 (by omega) (by omega) _ hpl ?_
            intro _
            k_steps
            (rename Fr _ _ _ _ => FE); (rename News _ _ _ _ => NE)
            exact turnC_next FE (by simp only [List.cons_append, List.append_assoc]; exact NE) ⟨rfl, rfl, rfl, rfl, _, by rw [orTo_succ, if_pos hcd]; rfl⟩
          · unfold Stop
            have hcd : ¬ cond c b = true := cond_no (by assumption)
            refine item_ints (isList_of N5 (by k_mem)) hI2 (by omega) (by omega) _ hpl ?_
            intro _
            k_steps
            (rename Fr _ _ _ _ => FE); (rename News _ _ _ _ => NE)
            exact turnC_next FE (by simp only [List.cons_append, List.append_assoc]; exact NE) ⟨rfl, rfl, rfl, rfl, _, by rw [orTo_succ, if_neg hcd]; rfl⟩
        case done2 =>
          clear F4 N4 F3 N3
          intro h2 tk2 m₂ hJ2 F5 N5
          obtain ⟨hk2, hp2, hf2, hc2, to, ho2⟩ := hJ2
          rw [mset hk2, mset hp2, mset hf2, mset hc2, mset ho2] at F5
          (try dsimp only at F5)
          have N6 := fun p hp => N5 p (.tail _ hp)
          clear N5
          k_steps
          (rename Fr _ _ _ _ => FE); (rename News _ _ _ _ => NE)
          rw [List.push_toArray] at NE
          refine TurnN.next (news' := [_, _, _, _]) FE NE rfl ⟨_, _, _, rfl, rfl, rfl, rfl, ?_⟩
          rw [kindsTo_succ hc]
          exact ints_snoc hS _ _
      case done =>
        clear F2 N3 hTup
        intro hI tkI m₁ news₁ hJ had F3 N3
        obtain ⟨vs, kk, tf, hmk, hmp, hmf, rfl, hS⟩ := hJ
        rw [mset hmk, mset hmp, mset hmf] at F3
        (try dsimp only at F3)
        have hS' : IntsAre vs [kindI a 46, kindI a 13, kindI a 10] := hS
        obtain ⟨t46, t13, t10, rfl⟩ := ints3 hS'
        have bD := kindI_b a 46
        have bR := kindI_b a 13
        have bF := kindI_b a 10
        have bE := bor_b bR.1 bR.2 bF.1 bF.2
        have bL : 0 ≤ ledI a ∧ ledI a < 2 ^ a.size := band_b _ bD.1 bD.2
        have nE := abs_b (by omega) bE
        have nL := abs_b (by omega) bL
        have nR := abs_b (by omega) bR
        unfold ledI at nL
        k_steps
        (rename Fr _ _ _ _ => FE); (rename News _ _ _ _ => NE)
        have hz := NE _ (.head _)
        dsimp only at hz
        refine hret _ _ _ _ [_, _, _, _, _, _] ?_ ?_ hz.1 (.cons _ _ (.cons _ _ (.cons _ _ (.cons _ _ (.cons _ _ (.cons _ _ .nil))))))
        · exact hg' ▸ FE.keep
        · exact hg' ▸ hz.2.2
end
end Mine
end
-- part Ft
section
open PySem PySem.W PyProof.Rows PySem.Calls
set_option Elab.async false
set_option maxRecDepth 100000
set_option maxHeartbeats 8000000
namespace Mine
theorem fillupFt : (fun (_ : OpenLaw) (_ : Params → Frag) => True) PySem.Challenge.rw_wk0006_01 hd.heap_39 := by
  k_fill
  trivial
section
variable {w : World} {mean : ExcName → Option Value} {mg mb : Str → Option Value} {q : Str} {sc : Scope} {L fa : Addr} {cd : Value} {base h₀ : Heap} {m : Str → Option Value} {s : Shared} {Q : Value → Shared → Prop}
local macro_rules | `(tactic| walk_at "call type:range") => `(tactic| ((rename Fr _ _ _ _ => F'); (rename News _ _ _ _ => N'); refine range1_news F' N' ?_; intro _ _ _ _ _ _ _ _))
local macro_rules | `(tactic| walk_at "call builtin:sum") => `(tactic| (refine Stop.out ?_))
local macro_rules | `(tactic| walk_at "subscriptTail Name BinOp str int") => `(tactic| (refine Stop.out ?_))
local macro_rules | `(tactic| walk_at "subscriptTail") => `(tactic| (refine Stop.out ?_))
local macro_rules | `(tactic| walk_at "binaryOp Add str str") => `(tactic| ((refine' SBL.add ?_ ?hsz); (case hsz => (simp only [len_app, len_cps, len_one, len_nl, len_cr, sizeLine_eq]; omega)); intro _ _))
local macro_rules | `(tactic| walk_at "call builtin:str.strip") => `(tactic| (refine Stop.out ?_))
local macro_rules | `(tactic| walk_at "eval ListComp") => `(tactic| (refine Stop.out ?_))
local macro_rules | `(tactic| walk_at "eval Name") => `(tactic| ((with_reducible show wpAny _ _ (eval (Expr.Name _ _) (compEnvC _ _ _ _)) _ _ _); first
  | ((refine' nameL ?N ?v ?_ ?a ?b ?e); (case a => rfl); (case b => rfl); (case e => decide); (case N => assumption); (case v => assumption))
  | ((refine' nameC ?N ?m ?d ?c ?_ ?a ?b ?e); (case a => rfl); (case b => rfl); (case e => decide); (case c => rfl); (case N => assumption); (case m => k_mem); (case d => assumption))))
local macro_rules | `(tactic| walk_at "exec For Name Name cons nil") => `(tactic| (refine Stop.out ?_))
theorem c_told {a : Array Nat} {T : Tok} (ha : a.size ≤ 200) (B : Below callerA base [] h₀) (F : Fr h₀ L s.heap m) (X : Frag.In (hd.heap_39 w.params) h₀) (TT : Top hd.view_39 looseP mean mg mb h₀) (hsc : sc.kind = .function)
    (hret : ∀ D k h' tk' vs, Kp s.heap h' → s.heap.get? D = none → h'.get? D = some (W.listOf (vs : List Value).toArray k) → IntsAre vs (toldL a) → Q (.ref D) { s with heap := h', toks := tk' }) :
    wpAny (model progP w) (callerA.deeper (envOf q sc L fa cd)) (call (.ref 134) [.str ⟨a⟩ T]) Q (fun _ _ => False) s := by
  w_top off
  dsimp only [looseP, progP] at *
  refine wpAny_call ?_
  k_dflt (refine' raw_defC (binds := [(Str.ofString "text", .str ⟨a⟩ T)]) ?k1 ?k2 ?k3 ?k5 ?kA ?kF ?kK ?k6 ?k7 ?k8 ?k9 ?kB ?kD ?_ ?c2 ?c3 ?c4; (case kA => exact rfl); (case kF => exact rfl); (case kK => assumption); (case k1 => k_asm); (case k2 => k_asm); (case k3 => k_asm); (case k5 => k_asm); (case k6 => k_is); (case k7 => k_is); (case k8 => k_room); (case k9 => exact BindsTo.of_eq rfl); (case kB => exact rfl); (case kD => decide +kernel); (case c2 => exact rfl); (case c3 => exact rfl); (case c4 => exact rfl); k_whole; intro g' L' h' tk' cells' hg' F' N' Y' B' X' T'; k_cells Y'; (try simp only [List.cons_append, List.nil_append] at N'); (try dsimp only); (try k_lift B'); (try k_fold))
  clear F X TT B
  have hal : Str.length ⟨a⟩ ≤ 200 := ha
  rename_i o1 o2 o3 d1 d2 d3
  have F1 : Fr g' L' h' (fun _ => none) := F'
  have e1 : o1.data = .cell none := d1
  have e2 : o2.data = .cell none := d2
  have e3 : o3.data = .cell (some (.str ⟨a⟩ T)) := d3
  clear F' d1 d2 d3
  k_steps
  unfold Stop
  refine For_W g' (by rfl) (by rfl) ?_
  k_steps
  dsimp only at *
  (rename Fr _ _ _ _ => F2); (rename News _ _ _ _ => N2); (rename _ = Data.cell (some (Value.ref _)) => dl)
  rename_i l1 hA l1lt hB oH hC
  refine' str_W (JT a l1 o1 o3 (L' + 1 + 1 + 1) (L' + 1 + 1) (L' + 1)) (by rfl) F2 N2 ?init ?turn ?done
  case init => exact ⟨_, _, _, _, rfl, rfl, dl, .nil⟩
  case turn =>
    clear F2 N2 dl
    intro i v m₁ news₁ hI tkI own hi hv hJ had hoff F3 N3
    obtain ⟨tr, vs, k, o, hm, rfl, ho, hS⟩ := hJ
    obtain ⟨c, tv, hc, rfl⟩ := signAt_of hi hv
    simp only [List.map_cons, List.map_nil] at hoff had ⊢
    rw [mset hm] at F3
    (try dsimp only at F3)
    simp only [List.cons_append, List.nil_append] at N3
    have hlen : vs.toArray.size ≤ sizeLine := by
      have h1 := hS.len_eq
      rw [List.size_toArray, sizeLine_eq, h1]
      unfold headsTo
      rw [List.length_map, List.length_range]
      dsimp only at hi
      omega
    have hrl : (rowS a i).length ≤ 200 := by
      have := rowAt_len a i
      show (rowAt a i).toArray.size ≤ 200
      rw [List.size_toArray]
      dsimp only at hi
      omega
    k_steps
    · (rename (Builtin.Str.occurrences _ _ _ _ _).isEmpty = true => hin)
      (rename Fr _ _ _ _ => FE); (rename News _ _ _ _ => NE)
      dsimp only at hc
      rw [in_ends] at hin
      rw [List.push_toArray] at NE
      have hrow : rowS a (i + 1) = rowS a i ++ ⟨#[c]⟩ := by
        show (⟨(rowAt a (i + 1)).toArray⟩ : Str) = ⟨(rowAt a i).toArray ++ #[c]⟩
        rw [hc] at hin ⊢
        have e : rowAt a (i + 1) = if isEnd (a.getD i 0) then [] else rowAt a i ++ [a.getD i 0] := rfl
        rw [e, if_neg (by simpa using hin)]
        simp
      exact TurnN.next (news' := [_, _, _, _]) FE NE rfl ⟨_, _, _, _, by rw [hrow]; rfl, rfl, ho, by rw [headsTo_succ, hrow]; exact StrsAre.append' hS (.cons _ _ .nil)⟩
    · (rename (Builtin.Str.occurrences _ _ _ _ _).isEmpty = false => hin)
      (rename Fr _ _ _ _ => FE); (rename News _ _ _ _ => NE)
      dsimp only at hc
      rw [in_ends] at hin
      rw [List.push_toArray] at NE
      have hrow : rowS a (i + 1) = Str.ofString "" := by
        show (⟨(rowAt a (i + 1)).toArray⟩ : Str) = ⟨#[]⟩
        rw [hc] at hin
        unfold rowAt
        rw [if_pos (by simpa using hin)]
      exact TurnN.next (news' := [_, _, _, _]) FE NE rfl ⟨_, _, _, _, by rw [hrow]; rfl, rfl, ho, by rw [headsTo_succ, hrow]; exact StrsAre.append' hS (.cons _ _ .nil)⟩
  case done =>
    clear F2 N2 dl
    intro hI tkI m₁ news₁ hJ had F3 N3
    obtain ⟨tr, vs, k, o, hm, rfl, ho, hS⟩ := hJ
    rw [mset hm] at F3
    (try dsimp only at F3)
    k_steps
    unfold Stop
    have hn : (⟨a⟩ : Str).length = a.size := rfl
    have hget : ∀ i, i < a.size → (headsTo a a.size)[((i : Nat) : Int).toNat]? = some (rowS a (i + 1)) := fun i hi => by
      unfold headsTo
      simp [hi]
    refine' ListComp_G (cl := ?cl1) (q0 a) (fun y i => IsI y ((i : Int))) a.size ?hclos ?hkind ?hnames ?hs ?hsz ?h
    case hclos => with_unfolding_all rfl
    case hkind => rfl
    case hnames => decide
    case hs => intro _; rfl
    case hsz => rw [sizeLine_eq]; omega
    k_steps
    (rename Fr _ _ _ _ => F4); (rename News _ _ _ _ => N4)
    refine' range_srcG ?hh ?hr ?hz ?hn ?hk ?hx ?hcf ?t1 ?e1 ?f1
    case hr => exact (N4 (_, rngO _ _ _ _) (by k_mem)).1
    case hh => rfl
    case hz => rfl
    case hn => omega
    case hk => rfl
    case hx => rfl
    case hcf => intro _; rfl
    case t1 =>
      intro C i t m₃ s₃ hi k₃ hn₃ hm₃
      have F₃ := F4.keeps k₃
      have N₃ := N4.grown k₃
      clear F4 N4
      refine wpAny_tests_one ?_
      k_steps
      unfold Stop
      refine item_strs (isList_of N₃ (by k_mem)) hS (by omega) (by omega) _ (hget i hi) ?_
      intro _
      k_steps
      all_goals (exact ⟨_, _, rfl, fun _ _ e => e⟩)
    case e1 =>
      intro C i t m₃ s₃ hi hq k₃ hn₃ hm₃
      have F₃ := F4.keeps k₃
      have N₃ := N4.grown k₃
      clear F4 N4
      k_steps
      all_goals (exact ⟨_, _, rfl, fun _ _ e => e⟩)
    case f1 =>
      intro D1 h5 tk5 ys1 hD1 hl hG hk
      have hI1 := (hG.map (El' := IsI) (fun i : Nat => (i : Int)) fun _ _ e => e).ints
      obtain ⟨k1, F5, N5, ne1⟩ := fin_news F4 N4 hl hk hD1
      clear F4 N4 hl hG hk hD1
      simp only [AllLt] at ne1
      k_steps
      unfold Stop
      refine' ListComp_G (cl := ?cl2) (q1 a) (fun y i => IsI y ((i : Int))) a.size ?hclos ?hkind ?hnames ?hs ?hsz ?h
      case hclos => with_unfolding_all rfl
      case hkind => rfl
      case hnames => decide
      case hs => intro _; rfl
      case hsz => rw [sizeLine_eq]; omega
      k_steps
      (rename Fr _ _ _ _ => F4); (rename News _ _ _ _ => N4)
      refine' range_srcG ?hh ?hr ?hz ?hn ?hk ?hx ?hcf ?t1 ?e1 ?f1
      case hr => exact (N4 (_, rngO _ _ _ _) (by k_mem)).1
      case hh => rfl
      case hz => rfl
      case hn => omega
      case hk => rfl
      case hx => rfl
      case hcf => intro _; rfl
      case t1 =>
        intro C i t m₃ s₃ hi k₃ hn₃ hm₃
        have F₃ := F4.keeps k₃
        have N₃ := N4.grown k₃
        clear F4 N4
        refine wpAny_tests_one ?_
        k_steps
        unfold Stop
        refine item_strs (isList_of N₃ (by k_mem)) hS (by omega) (by omega) _ (hget i hi) ?_
        intro _
        k_steps
        rotate_left
        · first | exact q1_no (by assumption)
        · exact ⟨_, _, rfl, fun _ _ e => e⟩
        unfold Stop
        refine item_strs (isList_of N₃ (by k_mem)) hS (by omega) (by omega) _ (hget i hi) ?_
        intro _
        k_steps
        unfold Stop
        refine SC.stripChars ?_ ?hsz
        case hsz =>
          have := rowAt_len a (i + 1)
          rw [sizeLine_eq]
          show (rowAt a (i + 1)).toArray.size ≤ _
          rw [List.size_toArray]; omega
        intro _ _
        k_steps
        all_goals first | exact ⟨_, _, rfl, fun _ _ e => e⟩ | exact q1_yes (by assumption) (by assumption)
      case e1 =>
        intro C i t m₃ s₃ hi hq k₃ hn₃ hm₃
        have F₃ := F4.keeps k₃
        have N₃ := N4.grown k₃
        clear F4 N4
        k_steps
        all_goals (exact ⟨_, _, rfl, fun _ _ e => e⟩)
      case f1 =>
        intro D2 h5 tk5 ys2 hD2 hl hG hk
        have hI2 := (hG.map (El' := IsI) (fun i : Nat => (i : Int)) fun _ _ e => e).ints
        obtain ⟨k2, F5, N5, ne2⟩ := fin_news F4 N4 hl hk hD2
        clear F4 N4 hl hG hk hD2
        simp only [AllLt] at ne2
        k_steps
        unfold Stop
        refine' ListComp_G (cl := ?cl3) (q2 a) (fun y i => IsI y ((i : Int) + 1)) a.size ?hclos ?hkind ?hnames ?hs ?hsz ?h
        case hclos => with_unfolding_all rfl
        case hkind => rfl
        case hnames => decide
        case hs => intro _; rfl
        case hsz => rw [sizeLine_eq]; omega
        k_steps
        (rename Fr _ _ _ _ => F4); (rename News _ _ _ _ => N4)
        refine' range_srcG ?hh ?hr ?hz ?hn ?hk ?hx ?hcf ?t1 ?e1 ?f1
        case hr => exact (N4 (_, rngO _ _ _ _) (by k_mem)).1
        case hh => rfl
        case hz => rfl
        case hn => omega
        case hk => rfl
        case hx => rfl
        case hcf => intro _; rfl
        case t1 =>
          intro C i t m₃ s₃ hi k₃ hn₃ hm₃
          have F₃ := F4.keeps k₃
          have N₃ := N4.grown k₃
          clear F4 N4
          refine wpAny_tests_one ?_
          k_steps
          unfold Stop
          refine item_strs (isList_of N₃ (by k_mem)) hS (by omega) (by omega) _ (hget i hi) ?_
          intro _
          k_steps
          rotate_left
          · first | exact q2_no (by assumption)
          · exact ⟨_, _, rfl, fun _ _ e => e⟩
          unfold Stop
          refine item_sign (x := arS a) (k := (i : Int) + 2) (by omega) (by rw [arS_size]; omega) (by rw [arS_size]; omega) ?_
          intro _ _
          k_steps
          all_goals first | (exact ⟨_, _, rfl, fun _ _ e => e⟩) | exact q2_yes (b := true) (by assumption) (by assumption) | exact q2_yes (b := false) (by assumption) (by assumption)
        case e1 =>
          intro C i t m₃ s₃ hi hq k₃ hn₃ hm₃
          have F₃ := F4.keeps k₃
          have N₃ := N4.grown k₃
          clear F4 N4
          k_steps
          all_goals (exact ⟨_, _, rfl, fun _ _ e => e⟩)
        case f1 =>
          intro D3 h5 tk5 ys3 hD3 hl hG hk
          have hI3 := (hG.map (El' := IsI) (fun i : Nat => (i : Int) + 1) fun _ _ e => e).ints
          obtain ⟨k3, F5, N5, ne3⟩ := fin_news F4 N4 hl hk hD3
          clear F4 N4 hl hG hk hD3
          simp only [AllLt] at ne3
          k_steps
          unfold Stop
          refine' ListComp_G (cl := ?cl4) (q3 a) (fun y i => IsI y ((i : Int))) a.size ?hclos ?hkind ?hnames ?hs ?hsz ?h
          case hclos => with_unfolding_all rfl
          case hkind => rfl
          case hnames => decide
          case hs => intro _; rfl
          case hsz => rw [sizeLine_eq]; omega
          k_steps
          (rename Fr _ _ _ _ => F4); (rename News _ _ _ _ => N4)
          refine' range_srcG ?hh ?hr ?hz ?hn ?hk ?hx ?hcf ?t1 ?e1 ?f1
          case hr => exact (N4 (_, rngO _ _ _ _) (by k_mem)).1
          case hh => rfl
          case hz => rfl
          case hn => omega
          case hk => rfl
          case hx => rfl
          case hcf => intro _; rfl
          case t1 =>
            intro C i t m₃ s₃ hi k₃ hn₃ hm₃
            have F₃ := F4.keeps k₃
            have N₃ := N4.grown k₃
            clear F4 N4
            refine wpAny_tests_one ?_
            k_steps
            all_goals first | (exact ⟨_, _, rfl, fun _ _ e => e⟩) | exact q3_no hi (by assumption) | exact q3_yes hi (by assumption) (by assumption)
          case e1 =>
            intro C i t m₃ s₃ hi hq k₃ hn₃ hm₃
            have F₃ := F4.keeps k₃
            have N₃ := N4.grown k₃
            clear F4 N4
            k_steps
            all_goals (exact ⟨_, _, rfl, fun _ _ e => e⟩)
          case f1 =>
            intro D4 h5 tk5 ys4 hD4 hl hG hk
            have hI4 := (hG.map (El' := IsI) (fun i : Nat => (i : Int)) fun _ _ e => e).ints
            obtain ⟨k4, F5, N5, ne4⟩ := fin_news F4 N4 hl hk hD4
            clear F4 N4 hl hG hk hD4
            simp only [AllLt] at ne4
            k_steps
            unfold Stop
            refine' ListComp_G (cl := ?cl5) (q4 a) (fun y i => IsI y ((i : Int))) a.size ?hclos ?hkind ?hnames ?hs ?hsz ?h
            case hclos => with_unfolding_all rfl
            case hkind => rfl
            case hnames => decide
            case hs => intro _; rfl
            case hsz => rw [sizeLine_eq]; omega
            k_steps
            (rename Fr _ _ _ _ => F4); (rename News _ _ _ _ => N4)
            refine' range_srcG ?hh ?hr ?hz ?hn ?hk ?hx ?hcf ?t1 ?e1 ?f1
            case hr => exact (N4 (_, rngO _ _ _ _) (by k_mem)).1
            case hh => rfl
            case hz => rfl
            case hn => omega
            case hk => rfl
            case hx => rfl
            case hcf => intro _; rfl
            case t1 =>
              intro C i t m₃ s₃ hi k₃ hn₃ hm₃
              have F₃ := F4.keeps k₃
              have N₃ := N4.grown k₃
              clear F4 N4
              refine wpAny_tests_one ?_
              k_steps
              rotate_left
              · exact q4_no hi (by assumption)
              · exact ⟨_, _, rfl, fun _ _ e => e⟩
              unfold Stop
              refine item_sign (x := arS a) (k := (i : Int) + 2) (by omega) (by rw [arS_size]; omega) (by rw [arS_size]; omega) ?_
              intro _ _
              k_steps
              all_goals first | (exact ⟨_, _, rfl, fun _ _ e => e⟩) | exact q4_yes hi (by assumption) (by assumption)
            case e1 =>
              intro C i t m₃ s₃ hi hq k₃ hn₃ hm₃
              have F₃ := F4.keeps k₃
              have N₃ := N4.grown k₃
              clear F4 N4
              k_steps
              all_goals (exact ⟨_, _, rfl, fun _ _ e => e⟩)
            case f1 =>
              intro D5 h5 tk5 ys5 hD5 hl hG hk
              have hI5 := (hG.map (El' := IsI) (fun i : Nat => (i : Int)) fun _ _ e => e).ints
              obtain ⟨k5, F5, N5, ne5⟩ := fin_news F4 N4 hl hk hD5
              clear F4 N4 hl hG hk hD5
              simp only [AllLt] at ne5
              k_steps
              unfold Stop
              (rename Fr _ _ _ _ => F4); (rename News _ _ _ _ => N4)
              refine' ListComp_G (cl := ?cl6) (fun _ => true) (fun y i => IsI y (toldI a i)) 5 ?hclos ?hkind ?hnames ?hs ?hsz ?h
              case hclos => with_unfolding_all rfl
              case hkind => rfl
              case hnames => decide
              case hs => intro _; rfl
              case hsz => rw [sizeLine_eq]; decide
              k_steps
              refine' list_srcG ?hh ?hsn ?hl ?hk ?hx ?hcf ?tests ?elts ?fin
              case hl => exact isList_of N4 (by k_mem)
              case hh => rfl
              case hsn => rfl
              case hk => rfl
              case hx => rfl
              case hcf => intro _; rfl
              case tests => intros; exact testsOf_nil
              case fin =>
                intro D h6 tk6 ys hD hl hG hk
                rw [filter_tt] at hG
                obtain ⟨kk, hl⟩ := hl
                refine hret D kk h6 tk6 ys ?_ ?_ hl ((hG.map (El' := IsI) (toldI a) fun _ _ e => e).ints)
                · exact hg' ▸ Kp.trans F4.keep hk
                · exact hg' ▸ old_none F4.keep (new_none hD)
              case elts =>
                intro C i v m₃ s₃ hi hv hq k₃ hn₃ hm₃
                have hp : ∃ D ys kk, v = .ref D ∧ s₃.heap.get? D = some (W.listOf (ys : List Value).toArray kk) ∧ IntsAre ys (placeNs a i) := by
                  match i, hv with
                  | 0, hv => cases hv; exact ⟨D1, ys1, k1, rfl, k₃ _ _ (N4 (D1, W.listOf ys1.toArray k1) (by k_mem)).1, hI1⟩
                  | 1, hv => cases hv; exact ⟨D2, ys2, k2, rfl, k₃ _ _ (N4 (D2, W.listOf ys2.toArray k2) (by k_mem)).1, hI2⟩
                  | 2, hv => cases hv; exact ⟨D3, ys3, k3, rfl, k₃ _ _ (N4 (D3, W.listOf ys3.toArray k3) (by k_mem)).1, hI3⟩
                  | 3, hv => cases hv; exact ⟨D4, ys4, k4, rfl, k₃ _ _ (N4 (D4, W.listOf ys4.toArray k4) (by k_mem)).1, hI4⟩
                  | 4, hv => cases hv; exact ⟨D5, ys5, k5, rfl, k₃ _ _ (N4 (D5, W.listOf ys5.toArray k5) (by k_mem)).1, hI5⟩
                  | _ + 5, hv => cases hv
                obtain ⟨Dp, yp, kp, rfl, hgp, hIp⟩ := hp
                have hbp : ∀ k ∈ placeNs a i, 0 ≤ k ∧ k ≤ 200 := fun k hk => by have := placeNs_b hk; omega
                have F₃ := F4.keeps k₃
                have N₃ := N4.grown k₃
                clear N4 F4
                k_steps
                unfold Stop
                refine' ListComp_G (cl := ?cl7) (fun _ => true) (fun y j => IsI y (2 ^ ((placeNs a i).getD j 0).toNat)) (placeNs a i).length ?hclos ?hkind ?hnames ?hs ?hsz ?h
                case hclos => with_unfolding_all rfl
                case hkind => rfl
                case hnames => decide
                case hs => intro _; rfl
                case hsz => have := placeNs_len a i; rw [sizeLine_eq]; omega
                k_steps
                refine' list_srcG ?hh ?hsn ?hl ?hk ?hx ?hcf ?tests ?elts ?fin
                case hl => exact ⟨_, hgp, rfl, _, rfl⟩
                case hh => rfl
                case hsn => simpa using hIp.length
                case hk => rfl
                case hx => rfl
                case hcf => intro _; rfl
                case tests => intros; exact testsOf_nil
                case elts =>
                  intro C' j v m₄ s₄ hj hv _ k₄ hn₄ hm₄
                  obtain ⟨c, t, rfl, hc⟩ := ints_at hIp (by simpa using hv)
                  have hcb := hbp c (List.mem_of_getElem? hc)
                  have hcd : (placeNs a i).getD j 0 = c := by rw [List.getD_eq_getElem?_getD, hc]; rfl
                  rw [hcd]
                  have F₄ := F₃.keeps k₄
                  have N₄ := N₃.grown k₄
                  clear F₃ N₃
                  k_steps
                  all_goals (exact ⟨_, _, rfl, fun _ _ e => e⟩)
                case fin =>
                  intro D7 h7 tk7 ys7 hD7 hl7 hG7 hk7
                  have hI7 := each_pows hG7
                  have F₄ := F₃.keeps hk7
                  have N₄ := N₃.grown hk7
                  clear F₃ N₃
                  k_steps
                  unfold Stop
                  refine sum_K (by rfl) hl7.isList hI7 ?_
                  intro h8 tk8 t8 hk8
                  exact ⟨⟨_, rfl⟩, _, _, rfl, Kp.trans hk7 hk8⟩
end
end Mine
end
-- part Fw
section
open PySem PySem.W PyProof.Rows PySem.Calls
set_option Elab.async false
set_option maxRecDepth 100000
set_option maxHeartbeats 8000000
namespace Mine
theorem fillupFw : (fun (_ : OpenLaw) (_ : Params → Frag) => True) PySem.Challenge.rw_wk0006_01 hd.heap_39 := by
  k_fill
  trivial
section
variable {w : World} {mean : ExcName → Option Value} {mg mb : Str → Option Value} {q : Str} {sc : Scope} {L fa : Addr} {cd : Value} {base h₀ : Heap} {m : Str → Option Value} {s : Shared} {Q : Value → Shared → Prop}

local macro_rules | `(tactic| walk_at "exec Assign cons ListComp") => `(tactic| (refine Stop.out ?_))
local macro_rules | `(tactic| walk_at "eval Name") => `(tactic| ((with_reducible show wpAny _ _ (eval (Expr.Name _ _) (compEnvC _ _ _ _)) _ _ _); first
  | ((refine' nameL ?N ?v ?_ ?a ?b ?e); (case a => rfl); (case b => rfl); (case e => decide); (case N => assumption); (case v => assumption))
  | ((refine' nameC ?N ?m ?d ?c ?_ ?a ?b ?e); (case a => rfl); (case b => rfl); (case e => decide); (case c => rfl); (case N => assumption); (case m => k_mem); (case d => assumption))))
local macro_rules | `(tactic| walk_at "call builtin:hex") => `(tactic| (refine hex_walk (by assumption) ?_))
local macro_rules | `(tactic| walk_at "call builtin:str.join") => `(tactic| (refine Stop.out ?_))
local macro_rules | `(tactic| walk_at "subscriptTail") => `(tactic| (refine Stop.out ?_))
theorem c_words {V : Int} {T : Tok} (hVb : (clr V 32).natAbs < 2 ^ 400) (B : Below callerA base [] h₀) (F : Fr h₀ L s.heap m) (X : Frag.In (hd.heap_39 w.params) h₀) (TT : Top hd.view_39 looseP mean mg mb h₀) (hsc : sc.kind = .function)
    (hret : ∀ t h' tk', Kp s.heap h' → Q (.str (prettyS V) t) { s with heap := h', toks := tk' }) :
    wpAny (model progP w) (callerA.deeper (envOf q sc L fa cd)) (call (.ref 129) [.int V T]) Q (fun _ _ => False) s := by
  w_top off
  dsimp only [looseP, progP] at *
  refine wpAny_call ?_
  k_dflt (refine' raw_defC ?k1 ?k2 ?k3 ?k5 ?kA ?kF ?kK ?k6 ?k7 ?k8 ?k9 ?kB ?kD ?_ ?c2 ?c3 ?c4; (case kA => exact rfl); (case kF => exact rfl); (case kK => assumption); (case k1 => k_asm); (case k2 => k_asm); (case k3 => k_asm); (case k5 => k_asm); (case k6 => k_is); (case k7 => k_is); (case k8 => k_room); (case k9 => exact BindsTo.of_eq rfl); (case kB => exact rfl); (case kD => decide +kernel); (case c2 => exact rfl); (case c3 => exact rfl); (case c4 => exact rfl); k_whole; intro g' L' h' tk' cells' hg' F' N' Y' B' X' T'; k_cells Y'; (try simp only [List.cons_append, List.nil_append] at N'); (try dsimp only); (try k_lift B'); (try k_fold))
  clear F X TT B
  k_steps
  unfold Stop
  dsimp only at *
  refine' Assign_W (cl := ?cl) (fun v => match v with | .int k _ => ib V k.toNat | _ => false) (fun v y => ∃ k t t', v = .int k t ∧ y = .str (nm k.toNat) t') ?hsw ?hclos ?hcell ?hkind ?hnames ?hx ?hy ?hp ?hs ?h
  case hsw => with_unfolding_all rfl
  case hclos => with_unfolding_all rfl
  case hcell => decide
  case hkind => rfl
  case hnames => decide
  case hx => rfl
  case hy => rfl
  case hp => rfl
  case hs => intro _; rfl
  k_steps
  (try dsimp only at *)
  (rename IsRange _ _ _ _ _ _ _ _ => hR); (rename Fr _ _ _ _ => F2); (rename News _ _ _ _ => N2)
  refine' SrcA.range (n := 32) ?hh hR ?hs ?hn ?hl ?hL F2 N2 ⟨⟨?tests, ?elt⟩, ?fin⟩
  case hh => rfl
  case hs => decide
  case hn => decide
  case hl => rw [sizeLine_eq]; decide
  case hL => rfl
  case tests =>
    rintro C i _ s₃ m₃ hi ⟨t, rfl⟩ k₃ F₃ N₃ hn₃ hm₃
    refine wpAny_tests_one ?_
    k_steps
    · rw [low_bit hi]
      show ib V i = ib V (0 + (i : Int) * 1).toNat
      rw [show (0 + (i : Int) * 1).toNat = i by omega]
    · exact ⟨_, _, rfl, fun _ _ e => e⟩
  case elt =>
    rintro C i _ s₃ m₃ hi ⟨t, rfl⟩ hp k₃ F₃ N₃ hn₃ hm₃
    k_steps
    · unfold Stop
      (rename (0 + (i : Int) * 1 < 10) => hlt)
      refine item_strs (isList_of N₃ (by k_mem)) (by repeat constructor) (by omega) (by omega) (nm (0 + (i : Int) * 1).toNat) ?_ ?_
      · have : ∀ j : Fin 10, ([nm 0, nm 1, nm 2, nm 3, nm 4, nm 5, nm 6, nm 7, nm 8, nm 9] : List Str)[j.val]? = some (nm j.val) := by decide
        exact this ⟨(0 + (i : Int) * 1).toNat, by omega⟩
      · intro t'
        exact ⟨⟨_, t, _, rfl, rfl⟩, _, _, rfl, fun _ _ e => e⟩
    · (rename (¬ (0 + (i : Int) * 1 < 10)) => hlt)
      refine hex_walk ?_ ?_
      · rw [show (0 + (i : Int) * 1).toNat = i by omega, Int.natAbs_pow]
        exact Nat.pow_lt_pow_right (by decide) (by omega)
      · have e : nm (0 + (i : Int) * 1).toNat = baseText "0x" 16 (2 ^ (0 + (i : Int) * 1).toNat) := nm_high (by omega)
        rw [← e]
        exact ⟨⟨_, t, _, rfl, rfl⟩, _, _, rfl, fun _ _ e => e⟩
  case fin =>
    intro D h₄ tk₄ ys k₄ vs F₄ N₄ hD hlen hP hG
    have hE := (each_range (El := IsS) nm (ib V) vs 0 ys.toList (fun j v hj => by
      obtain ⟨t, rfl⟩ := hP j v hj
      refine ⟨t, by simp, ?_, ?_⟩
      · show ib V (0 + (j : Int) * 1).toNat = _
        rw [show (0 + (j : Int) * 1).toNat = 0 + j by omega]
      · rintro y ⟨k, t1, t2, e, rfl⟩
        cases e
        rw [show (0 + (j : Int) * 1).toNat = 0 + j by omega]
        exact ⟨_, rfl⟩) hG).strs
    rw [hlen, ← List.range_eq_range'] at hE
    have hS : StrsAre ys.toList (namesTo V 32) := hE
    have hcl : V - V.fmod (2 ^ Int.toNat 32) = clr V 32 := by
      unfold clr
      rw [show Int.toNat 32 = 32 from rfl, Int.fmod_eq_emod_of_nonneg _ (Int.le_of_lt (two_pow_pos' 32))]
    have hVb' : (V - V.fmod (2 ^ Int.toNat 32)).natAbs < 2 ^ 400 := by rw [hcl]; exact hVb
    k_steps
    all_goals (dsimp only at *)
    all_goals (
      (rename News _ _ _ _ => NE); (rename Fr _ _ _ _ => FE); (rename Heap.IsList _ _ _ => hIL)
      refine add_arrays FE NE (isList_of NE (by k_mem)) hIL ?_ ?_)
    rotate_left
    · simp only [List.size_toArray]
      have h1 := hS.len_eq
      have h2 := namesTo_len V 32
      have h3 := (rep_strs (c := V == 0) (x := baseText "0x" 16 (V - V.fmod (2 ^ Int.toNat 32))) (t := tk₄ + 1 + 1)).len_eq
      rw [sizeLine_eq]
      rw [Array.length_toList] at h1
      have h4 : (if (V == 0) = true then [baseText "0x" 16 (V - V.fmod (2 ^ Int.toNat 32))] else []).length ≤ 1 := by split <;> simp
      omega
    rotate_left
    · simp only [List.size_toArray]
      have h1 := hS.len_eq
      have h2 := namesTo_len V 32
      have h3 := (rep_strs (c := V != V.fmod (2 ^ Int.toNat 32)) (x := baseText "0x" 16 (V - V.fmod (2 ^ Int.toNat 32))) (t := tk₄ + 1 + 1)).len_eq
      rw [sizeLine_eq]
      rw [Array.length_toList] at h1
      have h4 : (if (V != V.fmod (2 ^ Int.toNat 32)) = true then [baseText "0x" 16 (V - V.fmod (2 ^ Int.toNat 32))] else []).length ≤ 1 := by split <;> simp
      omega
    · intro h5 F5 N5
      (rename V = 0 => hV0)
      k_steps
      unfold Stop
      dsimp only at *
      refine join_walk (ys := wordsS V) (isList_of N5 (by k_mem)) ?_ (words_fit hVb) ?_
      · rw [wordsS_end (.inl hV0), ← hcl]
        refine StrsAre.append' hS ?_
        have := rep_strs (c := V == 0) (x := baseText "0x" 16 (V - V.fmod (2 ^ Int.toNat 32))) (t := tk₄ + 1 + 1)
        rw [beq_iff_eq.mpr hV0] at this ⊢
        exact this
      · intro t' k'
        exact hret _ _ _ (hg' ▸ F5.keep)
    · intro h5 F5 N5
      (rename V ≠ 0 => hV0)
      k_steps
      unfold Stop
      dsimp only at *
      refine join_walk (ys := wordsS V) (isList_of N5 (by k_mem)) ?_ (words_fit hVb) ?_
      · unfold wordsS
        refine StrsAre.append' hS ?_
        have := rep_strs (c := V != V.fmod (2 ^ Int.toNat 32)) (x := baseText "0x" 16 (V - V.fmod (2 ^ Int.toNat 32))) (t := tk₄ + 1 + 1)
        rw [hcl] at this ⊢
        have e : (if (V != V.fmod (2 ^ Int.toNat 32)) = true then [baseText "0x" 16 (clr V 32)] else []) = (if V = 0 ∨ clr V 32 ≠ 0 then [baseText "0x" 16 (clr V 32)] else []) := by
          have hi : (V != V.fmod (2 ^ Int.toNat 32)) = true ↔ (V = 0 ∨ clr V 32 ≠ 0) := by
            rw [bne_iff_ne, ← hcl]
            constructor
            · intro h; exact .inr (by omega)
            · rintro (h | h)
              · exact absurd h hV0
              · omega
          by_cases hc : (V != V.fmod (2 ^ Int.toNat 32)) = true
          · rw [if_pos hc, if_pos (hi.mp hc)]
          · rw [if_neg hc, if_neg fun z => hc (hi.mpr z)]
        rw [← e]
        exact this
      · intro t' k'
        exact hret _ _ _ (hg' ▸ F5.keep)
end
end Mine
end
-- part Fp
section
open PySem PySem.W PyProof.Rows PySem.Calls
set_option Elab.async false
set_option maxRecDepth 100000
set_option maxHeartbeats 8000000
namespace Mine
theorem fillupFp : (fun (_ : OpenLaw) (_ : Params → Frag) => True) PySem.Challenge.rw_wk0006_01 hd.heap_39 := by
  k_fill
  trivial
section
variable {w : World} {mean : ExcName → Option Value} {mg mb : Str → Option Value} {q : Str} {sc : Scope} {L fa : Addr} {cd : Value} {base h₀ : Heap} {m : Str → Option Value} {s : Shared} {Q : Value → Shared → Prop}
local macro_rules | `(tactic| walk_at "pad Fp 0") => `(tactic| (fail "pad"))
local macro_rules | `(tactic| walk_at "call builtin:hex") => `(tactic| (refine hex_walk (by first | exact flag_bound (by assumption) | assumption) ?_))
local macro_rules | `(tactic| walk_at "call builtin:dict.get") => `(tactic| (refine get_walk (by assumption) (by assumption) (Fr.keep (by assumption)) ?_; intro _))

theorem news_list {h₀ h : Heap} {L l : Addr} {its : Array Value} {n : Nat} {r : List (Addr × Obj)} (N : News h₀ L h ((l, W.listOf its n) :: r)) : h.IsList l its := ⟨_, (N _ (.head _)).1, rfl, _, rfl⟩

def PJ (V : Int) (i : Nat) (m : Str → Option Value) (news : List (Addr × Obj)) : Prop :=
  ∃ l tf vs k, m (Str.ofString "flags") = some (.int (clr V i) tf) ∧ m (Str.ofString "names") = some (.ref l) ∧ news = [(l, W.listOf (vs : List Value).toArray k)] ∧ StrsAre vs (namesTo V i) ∧ (V = 0 ∨ clr V i ≠ 0)

theorem c_pretty {V : Int} {T : Tok} (hVb : (clr V 32).natAbs < 2 ^ 400) (B : Below callerA base [] h₀) (F : Fr h₀ L s.heap m) (X : Frag.In (hd.heap_39 w.params) h₀) (TT : Top hd.view_39 looseP mean mg mb h₀) (hsc : sc.kind = .function)
    (hret : ∀ t h' tk', Kp s.heap h' → Q (.str (prettyS V) t) { s with heap := h', toks := tk' }) :
    wpAny (model progP w) (callerA.deeper (envOf q sc L fa cd)) (call (.ref 39) [.int V T]) Q (fun _ _ => False) s := by
  w_top off
  dsimp only [looseP, progP] at *
  refine wpAny_call ?_
  k_dflt (refine' raw_def ?k1 ?k2 ?k3 ?k5 ?kA ?kF ?kK ?k6 ?k7 ?k8 ?k9 ?kB ?_ ?c2 ?c3 ?c4 ?c5; (case kA => exact rfl); (case kF => exact rfl); (case kK => assumption); (case k1 => k_asm); (case k2 => k_asm); (case k3 => k_asm); (case k5 => k_asm); (case k6 => k_is); (case k7 => k_is); (case k8 => k_room); (case k9 => exact BindsTo.of_eq rfl); (case c5 => decide); (case kB => exact locs rfl); (case c2 => exact rfl); (case c3 => exact rfl); (case c4 => exact rfl); k_whole; intro g' L' h' hg' F' N' B' X' T'; (try dsimp only); (try k_lift B'); (try k_fold))
  clear F X TT B
  k_steps
  refine For_W g' (by rfl) (by rfl) ?_
  k_steps
  dsimp only at *
  (rename IsRange _ _ _ _ _ _ _ _ => hR); (rename Fr _ _ _ _ => F2); (rename News _ _ _ _ => N2)
  refine range_W (n := 32) (PJ V) (by rfl) hR (by decide) (by decide) F2 N2 ?init ?turn ?done
  case init => exact ⟨_, T, [], 0, by rw [clr_zero]; rfl, rfl, rfl, .nil, by rw [clr_zero]; omega⟩
  case done =>
    clear hR F2 N2
    intro hI tkI m₁ news₁ hJ ha F3 N3
    obtain ⟨l, tf, vs, k, hf, hn, rfl, hS, hV⟩ := hJ
    rw [mset hn, mset hf] at F3
    (try dsimp only at F3)
    have hlen : vs.toArray.size ≤ sizeLine := by
      have h1 := hS.len_eq
      have h2 := namesTo_len V 32
      rw [List.size_toArray, sizeLine_eq]; omega
    k_steps
    (try dsimp only at *)
    (rename News _ _ _ _ => NE); (rename Fr _ _ _ _ => FE)
    rw [List.push_toArray] at NE
    refine join_walk (news_list NE) (StrsAre.append' hS (.cons _ _ .nil)) (join_fit ?hfit ?hmany) ?_
    case hfit =>
      intro y hy
      rcases List.mem_append.mp hy with h1 | h1
      · exact namesTo_fit (Nat.le_refl _) y h1
      · rw [List.mem_singleton.mp h1]; exact hex_fit hVb
    case hmany =>
      have h2 := namesTo_len V 32
      simp only [List.length_append, List.length_cons, List.length_nil]; omega
    intro t' k'
    rw [← wordsS_end hV]
    exact hret _ _ _ (hg' ▸ FE.keep)
  case turn =>
    clear hR F2 N2
    intro i t m₁ news₁ hI tkI own hi hJ ha hoff F3 N3
    obtain ⟨l, tf, vs, k, hf, hn, rfl, hS, hV⟩ := hJ
    simp only [List.map_cons, List.map_nil] at hoff ha ⊢
    rw [mset hn, mset hf] at F3
    (try dsimp only at F3)
    rw [← ha] at hoff
    simp only [List.cons_append, List.nil_append] at N3
    have hlen : vs.toArray.size ≤ sizeLine := by
      have h1 := hS.len_eq
      have h2 := namesTo_len V i
      rw [List.size_toArray, sizeLine_eq]; omega
    k_steps
    · dsimp only at *
      (rename News _ _ _ _ => NE); (rename Fr _ _ _ _ => FE); (rename Builtin.bitAnd _ _ ≠ 0 => hon); (rename Builtin.bitXor _ _ ≠ 0 => hx)
      have on := on_of hon
      rw [xor_flag on] at FE hx
      rw [List.push_toArray] at NE
      exact TurnN.next1 FE NE ha ⟨l, _, _, _, rfl, rfl, rfl, by rw [namesTo_succ, on]; exact StrsAre.append' hS (.cons _ _ .nil), .inr hx⟩
    · (rename Builtin.bitXor _ _ = 0 => hx); (rename Builtin.bitAnd _ _ ≠ 0 => hon)
      have on := on_of hon
      rw [xor_flag on] at hx
      dsimp only [TurnN]
      k_steps
      (try dsimp only at *)
      (rename News _ _ _ _ => NE); (rename Fr _ _ _ _ => FE)
      rw [List.push_toArray] at NE
      refine join_walk (news_list NE) (StrsAre.append' hS (.cons _ _ .nil)) (join_fit ?hfit ?hmany) ?_
      case hfit =>
        intro y hy
        rcases List.mem_append.mp hy with h1 | h1
        · exact namesTo_fit (Nat.le_of_lt hi) y h1
        · rw [List.mem_singleton.mp h1]; exact nm_len i hi
      case hmany =>
        have h2 := namesTo_len V i
        simp only [List.length_append, List.length_cons, List.length_nil]; omega
      intro t' k'
      rw [← wordsS_brk hi on hx]
      exact hret _ _ _ (hg' ▸ FE.keep)
    · (try dsimp only at *)
      (rename News _ _ _ _ => NE); (rename Fr _ _ _ _ => FE); (rename Builtin.bitAnd _ _ = 0 => hon)
      have off := off_of hon
      exact TurnN.next1 FE NE ha ⟨l, _, _, _, (by rw [clr_off off]; rfl), rfl, rfl, by rw [namesTo_succ, off]; simpa using hS, by rw [clr_off off]; exact hV⟩
end
end Mine
end
-- part ReWp
section
open PySem PySem.W PyProof.Rows PySem.Calls
open PySem.Builtin.Re
set_option Elab.async false
set_option maxRecDepth 100000
namespace Mine
section
variable {M : Model} {A : Around} {E : Value → Shared → Prop} {s : Shared}
theorem wp_reDrive {m m' : Sre.M} {n : Nat} {Q : Sre.M → Shared → Prop} (h : ∀ k, Sre.M.runFor (n + k) m = Sre.M.runFor k m') (ho : m'.outcome.isSome = true) (T : Nat) (hT : n ≤ 4 * T) (h0 : 0 < T) (hQ : Q m' s) : wpAny M A (reDrive T m) Q E s := by
  induction T generalizing m n with
  | zero => omega
  | succ T ih =>
    unfold reDrive
    have e4 : reTurnSteps = 4 := rfl
    rw [e4]
    dsimp only
    by_cases hs : (Sre.M.runFor 4 m).outcome.isSome = true
    · rw [if_pos hs]
      have h1 : Sre.M.runFor (4 + n) m = Sre.M.runFor 4 m := by rw [runFor_add, runFor_some hs]
      have h2 : Sre.M.runFor (4 + n) m = m' := by rw [Nat.add_comm, h, runFor_some ho]
      rw [← h1, h2]
      exact wpAny_pure hQ
    · rw [if_neg hs]
      refine wpAny_bind (wpAny_rule ?_)
      by_cases hn : n < 4
      · exfalso
        have h1 := h (4 - n)
        rw [show n + (4 - n) = 4 by omega, runFor_some ho] at h1
        rw [h1] at hs
        exact hs ho
      · refine ih (n := n - 4) (fun k => ?_) (by omega) ?_
        · rw [← runFor_add, ← h k]
          congr 1
          omega
        · by_cases hT0 : T = 0
          · subst hT0
            exfalso
            have : n = 4 := by omega
            subst this
            have h1 := h 0
            rw [runFor_some ho] at h1
            rw [show 4 + 0 = 4 by rfl] at h1
            rw [h1] at hs
            exact hs ho
          · omega
theorem wp_forSkip {α : Type} {f : α → PUnit → Sem (ForInStep PUnit)} {Q : PUnit → Shared → Prop} : ∀ (l : List α), (∀ a Q', Q' (ForInStep.yield PUnit.unit) s → wpAny M A (f a PUnit.unit) Q' E s) → Q PUnit.unit s → wpAny M A (forIn l PUnit.unit f) Q E s
  | [], _, hq => by rw [List.forIn_nil]; exact wpAny_pure hq
  | a :: l, hf, hq => by
    rw [List.forIn_cons]
    exact wpAny_bind (hf a _ (wp_forSkip l hf hq))
theorem wp_reRun {b : Nat} {m m' : Sre.M} {r : Option (Nat × Nat)} {Q : Option Sre.M → Shared → Prop} (g : Goes b m m') (t : Told r m') (hb : b ≤ 2 ^ 60) (hQ : Q (r.map fun _ => m') s) : wpAny M A (reRunToEnd m) Q E s := by
  obtain ⟨n, hn, h⟩ := g
  have ho : m'.outcome.isSome = true := by
    unfold Told at t
    cases r with
    | none => dsimp only at t; rw [t]; rfl
    | some p => dsimp only at t; rw [t.1]; rfl
  unfold reRunToEnd
  refine wpAny_bind (wp_reDrive h ho (2 ^ 64) (by omega) (by decide) ?_)
  refine wpAny_bind (wp_forSkip _ (fun a Q' hq => ?_) ?_)
  · split
    · exact wpAny_bind (wpAny_rule (wpAny_pure hq))
    · exact wpAny_pure hq
  · unfold Told at t
    cases r with
    | none => dsimp only at t; rw [t]; exact wpAny_pure hQ
    | some p => dsimp only at t; rw [t.1]; exact wpAny_pure hQ
end
end Mine
end
-- part ReTgt
section
open PySem PySem.W PyProof.Rows PySem.Calls
open PySem.Builtin PySem.Builtin.Re
set_option Elab.async false
set_option maxRecDepth 100000
namespace Mine
structure PatAt (h : Heap) (pa : Addr) (code : Array Nat) (kind : Nat) : Prop where
  at_ : ∃ ca vs cs n o o', h.get? pa = some o ∧ o.data = .fields vs ∧ o.cls = .type "re.Pattern" ∧ vs.getD 6 .none = rawInt kind ∧ vs.getD 5 .none = .ref ca ∧ vs.getD 2 .none = rawInt 0 ∧ h.get? ca = some o' ∧ o'.data = .seq cs n ∧ (cs.map reRawOf).map (·.toNat) = code
theorem PatAt.keeps {h h' : Heap} {pa : Addr} {code : Array Nat} {kind : Nat} (P : PatAt h pa code kind) (k : Kp h h') : PatAt h' pa code kind := by
  obtain ⟨ca, vs, cs, n, o, o', e1, e2, e3, e4, e5, e6, e7, e8, e9⟩ := P.at_
  exact ⟨ca, vs, cs, n, o, o', k _ _ e1, e2, e3, e4, e5, e6, k _ _ e7, e8, e9⟩
section
variable {prog : Program} {w : World} {A : Around} {E : Value → Shared → Prop} {s : Shared}
theorem wp_fieldsOf {M : Model} {a : Addr} {o : Obj} {vs : Array Value} {Q : Array Value → Shared → Prop} (ho : s.heap.get? a = some o) (hd : o.data = .fields vs) (h : Q vs s) : wpAny M A (fieldsOf (.ref a)) Q E s := wpAny_fieldsOf ho hd h
theorem wp_rawItems {M : Model} {a : Addr} {o : Obj} {cs : Array Value} {n : Nat} {Q : Array Int → Shared → Prop} (ho : s.heap.get? a = some o) (hd : o.data = .seq cs n) (h : Q (cs.map reRawOf) s) : wpAny M A (reRawItems (.ref a)) Q E s := by
  unfold reRawItems seqItems?
  dsimp only
  refine wpAny_bind (wpAny_bind (wpAny_load ho ?_))
  rw [hd]
  exact wpAny_pure (wpAny_pure h)
theorem wp_textOf_str {M : Model} {x : Str} {t : Tok} {Q : Array Nat × Nat → Shared → Prop} (h : Q (x.cps, 0) s) : wpAny M A (reTextOf (.str x t)) Q E s := by
  unfold reTextOf asStr?
  exact wpAny_bind (wpAny_pure (wpAny_pure h))
theorem asStr_bytes {b : Array UInt8} {t : Tok} : asStr? (.bytes b t) = pure none := rfl
theorem quiet_bytes {b : Array UInt8} {t : Tok} {id : String} : Bytes.bufferQuiet? id (.bytes b t) = pure (some b) := by
  exact KBy.quiet_eq
theorem wp_textOf_bytes {M : Model} {b : Array UInt8} {t : Tok} {Q : Array Nat × Nat → Shared → Prop} (h : Q (b.map (·.toNat), 1) s) : wpAny M A (reTextOf (.bytes b t)) Q E s := by
  unfold reTextOf
  rw [asStr_bytes]
  refine wpAny_bind (wpAny_pure ?_)
  dsimp only
  rw [quiet_bytes]
  exact wpAny_bind (wpAny_pure (wpAny_pure h))
theorem wp_tgt_str {M : Model} {pa : Addr} {code : Array Nat} {x : Str} {t : Tok} {Q : ReTarget → Shared → Prop} (P : PatAt s.heap pa code 0)
    (h : Q ⟨.ref pa, .str x t, code, x.cps, 0, 0, 0, x.cps.size⟩ s) : wpAny M A (reWholeTarget (.ref pa) (.str x t)) Q E s := by
  obtain ⟨ca, vs, cs, n, o, o', e1, e2, e3, e4, e5, e6, e7, e8, e9⟩ := P.at_
  unfold reWholeTarget
  refine wpAny_bind (wp_fieldsOf e1 e2 (wpAny_bind (wp_textOf_str ?_)))
  dsimp only
  rw [e4, e5, e6]
  have h0 : reRawNat (rawInt ((0 : Nat) : Int)) = 0 := rfl
  rw [h0]
  simp only [beq_self_eq_true, Bool.true_and, Bool.false_and, if_false, show ((0 : Nat) == 1) = false from rfl, Bool.false_eq_true]
  unfold reNoCollectionInside
  simp only [show ((0 : Nat) == 1) = false from rfl, Bool.false_eq_true, if_false]
  refine wpAny_bind (wpAny_pure (wpAny_bind (wp_rawItems e7 e8 ?_)))
  rw [e9]
  exact wpAny_pure h
theorem wp_tgt_bytes {pa : Addr} {code : Array Nat} {b : Array UInt8} {t : Tok} {Q : ReTarget → Shared → Prop} (P : PatAt s.heap pa code 1)
    (h : Q ⟨.ref pa, .bytes b t, code, b.map (·.toNat), 1, 0, 0, (b.map (·.toNat)).size⟩ s) : wpAny (model prog w) A (reWholeTarget (.ref pa) (.bytes b t)) Q E s := by
  obtain ⟨ca, vs, cs, n, o, o', e1, e2, e3, e4, e5, e6, e7, e8, e9⟩ := P.at_
  unfold reWholeTarget
  refine wpAny_bind (wp_fieldsOf e1 e2 (wpAny_bind (wp_textOf_bytes ?_)))
  dsimp only
  rw [e4, e5, e6]
  have h0 : reRawNat (rawInt ((0 : Nat) : Int)) = 0 := rfl
  have h1 : reRawNat (rawInt ((1 : Nat) : Int)) = 1 := rfl
  rw [h1]
  simp only [beq_self_eq_true, Bool.true_and, Bool.and_false, show ((1 : Nat) == 0) = false from rfl, Bool.false_and, if_false, Bool.false_eq_true]
  unfold reNoCollectionInside
  simp only [beq_self_eq_true, if_true]
  refine wpAny_bind (wpAny_bind (wpAny_isInstance (T := "bytes") (b := true) rfl ?_ ?_))
  · rw [isSubtype_type]; kernel_rfl
  · simp only [Bool.not_true, Bool.false_eq_true, if_false]
    refine wpAny_pure (wpAny_bind (wp_rawItems e7 e8 ?_))
    rw [e9]
    exact wpAny_pure h
end
end Mine
end
-- part ReSub
section
open PySem PySem.W PyProof.Rows PySem.Calls
open PySem.Builtin PySem.Builtin.Re
set_option Elab.async false
set_option maxRecDepth 100000
namespace Mine
def cat (ys : List (Array Nat)) : Array Nat := (ys.map (·.toList)).flatten.toArray
def MkAll (mk : Array Nat → Tok → Value) : List Value → List (Array Nat) → Prop
  | [], [] => True
  | v :: vs, y :: ys => (∃ t, v = mk y t) ∧ MkAll mk vs ys
  | _, _ => False
theorem MkAll.snoc {mk : Array Nat → Tok → Value} : ∀ {vs : List Value} {ys : List (Array Nat)} (y : Array Nat) (t : Tok), MkAll mk vs ys → MkAll mk (vs ++ [mk y t]) (ys ++ [y])
  | [], [], y, t, _ => ⟨⟨t, rfl⟩, trivial⟩
  | _ :: _, _ :: _, y, t, h => ⟨h.1, MkAll.snoc y t h.2⟩
theorem MkAll.length {mk : Array Nat → Tok → Value} : ∀ {vs : List Value} {ys : List (Array Nat)}, MkAll mk vs ys → vs.length = ys.length
  | [], [], _ => rfl
  | _ :: _, _ :: _, h => by simp [MkAll.length h.2]
def wt (ys : List (Array Nat)) : Nat := (ys.map (·.size)).sum + ys.length
structure KindOk (prog : Program) (w : World) (kind : Nat) (text : Array Nat) (code : Array Nat) (pa : Addr) (string repl : Value) (mk : Array Nat → Tok → Value) (rp : Array Nat) : Prop where
  tgt : ∀ (A : Around) (E : Value → Shared → Prop) (s : Shared) (Q : ReTarget → Shared → Prop), PatAt s.heap pa code kind → Q ⟨.ref pa, string, code, text, kind, 0, 0, text.size⟩ s → wpAny (model prog w) A (reWholeTarget (.ref pa) string) Q E s
  slice : ∀ (A : Around) (E : Value → Shared → Prop) (s : Shared) (b e : Nat) (Q : Value → Shared → Prop), (∀ t tk, Q (mk (text.extract b e) t) { s with toks := tk }) → wpAny (model prog w) A (reSlice text kind b e) Q E s
  lit : ∀ (A : Around) (E : Value → Shared → Prop) (s : Shared) (Q : Unit → Shared → Prop), Q () s → wpAny (model prog w) A (reLiteralCannotBeTurned repl) Q E s
  repl : ∃ t, repl = mk rp t
  some : ∀ a t, (mk a t != .none) = true
  join : ∀ (A : Around) (E : Value → Shared → Prop) (s : Shared) (D : Addr) (its : List Value) (t : Tok) (ys : List (Array Nat)) (Q : Value → Shared → Prop), s.heap.IsList D its.toArray → MkAll mk its ys → ys ≠ [] → wt ys ≤ 100000 →
    (∀ t k, Q (mk (cat ys) t) { s with toks := k }) → wpAny (model prog w) A (call (.builtin (if kind == 0 then "str.join" else "bytes.join")) [mk (text.extract 0 0) t, .ref D]) Q E s
def pcs (text rp : Array Nat) (nx : Nat → Option (Nat × Nat)) : Nat → Nat → List (Array Nat)
  | 0, _ => []
  | f + 1, p => match nx p with
    | some (k, e) => (if p < k then [text.extract p k] else []) ++ rp :: pcs text rp nx f e
    | none => if p < text.size then [text.extract p text.size] else []
structure Finds (code text : Array Nat) (nx : Nat → Option (Nat × Nat)) : Prop where
  run : ∀ p must, p ≤ text.size → ∃ m' b, b ≤ 2 ^ 60 ∧ Goes b (Sre.forSearch code text 0 p text.size must) m' ∧ Told (nx p) m'
  at_ : ∀ p k e, p ≤ text.size → nx p = some (k, e) → p ≤ k ∧ k < e ∧ e ≤ text.size
theorem entry_subloop : entryFor table "re.Pattern.sub.loop" = some Builtin.«re.Pattern.sub.loop» := entryFor_of_tree (by kernel_rfl)
theorem plain_subloop : plainId "re.Pattern.sub.loop" = true := by decide +kernel
section
variable {prog : Program} {w : World} {A : Around} {E : Value → Shared → Prop} {s : Shared} {kind : Nat} {text code rp : Array Nat} {pa : Addr} {string repl : Value} {mk : Array Nat → Tok → Value} {nx : Nat → Option (Nat × Nat)}
theorem wp_next {Q : Option Sre.M → Shared → Prop} (S : Finds code text nx) {p : Nat} {must : Bool} (hp : p ≤ text.size) (h : ∀ m', Told (nx p) m' → Q ((nx p).map fun _ => m') s) :
    wpAny (model prog w) A (reNextFound ⟨.ref pa, string, code, text, kind, 0, 0, text.size⟩ p must) Q E s := by
  obtain ⟨m', b, hb, g, t⟩ := S.run p must hp
  unfold reNextFound
  exact wp_reRun g t hb (h m' t)
theorem wp_push {D : Addr} {its : List Value} {n : Nat} {v : Value} {Q : Unit → Shared → Prop} (ho : s.heap.get? D = some (W.listOf its.toArray n)) (hz : its.length ≤ 16777000) (h : ∀ h', Heap.SameBut D s.heap h' → h'.get? D = some (W.listOf (its ++ [v]).toArray (n + 1)) → Q () { s with heap := h' }) :
    wpAny (model prog w) A (updateSeq D (·.push v)) Q E s := by
  refine wpAny_updateSeq ho rfl (h _ (Heap.SameBut.update ..) ?_) (by rw [List.size_toArray, sizeLine_eq]; omega) (by rw [Array.size_push, List.size_toArray, sizeLine_eq]; omega)
  rw [Heap.get?_update_self _ ho rfl]
  simp [Obj.mapSeq]

theorem sub_loop {D : Addr} {g : Heap} (K : KindOk prog w kind text code pa string repl mk rp) (S : Finds code text nx) (P : PatAt g pa code kind) (hD : g.get? D = none) : ∀ (f p : Nat) (must : Bool) (n : Int) (its : List Value) (k : Nat) (ys : List (Array Nat)) (s : Shared) (R : Result → Shared → Prop),
    text.size - p < f → p ≤ text.size → Kp g s.heap → s.heap.get? D = some (W.listOf its.toArray k) → MkAll mk its ys → wt (ys ++ pcs text rp nx f p) ≤ 100000 →
    (∀ t' h' tk', Kp g h' → R (.ok (.ret (mk (cat (ys ++ pcs text rp nx f p)) t'))) { s with heap := h', toks := tk' }) →
    codeAny (model prog w) A (.builtin "re.Pattern.sub.loop" ⟨[.ref pa, string, repl, rawInt 0, rawInt 0, rawInt n, rawInt (p : Nat), rawInt (p : Nat), .bool must, .ref D, .bool false], []⟩) R s := by
  intro f
  induction f with
  | zero => intros; omega
  | succ f ih =>
    intro p must n its k ys s R hf hp hk ho hM hw hR
    refine codeAny_builtin entry_subloop ?_
    rw [Around.under_plainId plain_subloop]
    unfold Builtin.«re.Pattern.sub.loop»
    dsimp only [rawInt]
    refine wpAny_bind (K.tgt _ _ _ _ (P.keeps hk) ?_)
    dsimp only
    simp only [show ((0 : Int) == 0) = true from rfl, show ((0 : Int) != 0) = false from rfl, if_true, Bool.false_and, Bool.false_eq_true, if_false, Int.toNat_natCast]
    refine wpAny_bind (K.lit _ _ _ _ (wpAny_bind ?_))
    refine wp_next S hp fun m' ht => ?_
    have hpn : pcs text rp nx (f + 1) p = match nx p with
      | some (k, e) => (if p < k then [text.extract p k] else []) ++ rp :: pcs text rp nx f e
      | none => if p < text.size then [text.extract p text.size] else [] := rfl
    have zlen : ∀ a b : List (Array Nat), wt (a ++ b) ≤ 100000 → a.length ≤ 100000 := fun a b h => by
      unfold wt at h
      rw [List.length_append] at h
      omega
    have hits : its.length ≤ 100000 := by rw [hM.length]; exact zlen _ _ hw
    have stay : ∀ {h h' : Heap}, Kp g h → Heap.SameBut D h h' → Kp g h' := fun x y b o e => y.extBut b o (by rintro rfl; rw [hD] at e; cases e) (x b o e)
    cases hn : nx p with
    | none =>
      rw [hn] at hpn
      dsimp only at hpn
      rw [hpn] at hw hR
      dsimp only [Option.map]
      -- the end: the rest, and all is joined
      have fin : ∀ (its' : List Value) (k' : Nat) (h' : Heap) (tk : Nat) (ys' : List (Array Nat)), Kp g h' → h'.get? D = some (W.listOf its'.toArray k') → MkAll mk its' ys' → wt ys' ≤ 100000 →
          (∀ t' tk', R (.ok (.ret (mk (cat ys') t'))) { s with heap := h', toks := tk' }) →
          wpAny (model prog w) A.in1 (do
            let joiner ← reSlice text kind 0 0
            let __do_lift ← seqItems? (Value.ref D)
            let text' ← if (__do_lift.getD #[]).isEmpty = true then pure joiner else call (.builtin (if (kind == 0) = true then "str.join" else "bytes.join")) [joiner, .ref D]
            ret text') (fun fin s' => match fin with | .done f => R (.ok f) s' | .again c' => c'.quiet = true ∧ codeAny (model prog w) A c' R s') (fun e s' => R (.error e) s') { s with heap := h', toks := tk } := by
        intro its' k' h' tk ys' hk' ho' hM' hw' hR'
        refine wpAny_bind (K.slice _ _ _ _ _ _ fun t1 tk1 => wpAny_bind ?_)
        unfold seqItems?
        dsimp only
        refine wpAny_bind (wpAny_load ho' (wpAny_pure ?_))
        dsimp only [Option.getD]
        cases its' with
        | nil =>
          cases ys' with
          | nil =>
            refine wpAny_bind (wpAny_pure (wpAny_pure ?_))
            have : text.extract 0 0 = cat [] := by simp [cat]
            rw [this]
            exact hR' t1 tk1
          | cons y ys' => exact hM'.elim
        | cons v its' =>
          refine wpAny_bind ?_
          have hne : ys' ≠ [] := by
            rintro rfl
            exact hM'.elim
          refine K.join A.in1 _ { s with heap := h', toks := tk1 } D (v :: its') t1 ys' _ ⟨_, ho', rfl, _, rfl⟩ hM' hne hw' ?_
          intro t2 k2
          exact wpAny_pure (hR' t2 k2)
      by_cases hlt : p < text.size
      · rw [if_pos hlt]
        rw [if_pos hlt] at hw hR
        refine wpAny_bind (K.slice _ _ _ _ _ _ fun t1 tk1 => wpAny_bind (wp_push (s := { s with toks := tk1 }) ho (by omega) fun h' hs' ho' => ?_))
        exact fin _ _ h' tk1 (ys ++ [text.extract p text.size]) (stay hk hs') ho' (hM.snoc _ _) hw fun t' tk' => hR t' h' tk' (stay hk hs')
      · rw [if_neg hlt]
        rw [if_neg hlt, List.append_nil] at hw hR
        exact fin its k s.heap s.toks ys hk ho hM hw fun t' tk' => hR t' s.heap tk' hk
    | some q =>
      obtain ⟨a, e⟩ := q
      rw [hn] at hpn ht
      dsimp only at hpn
      rw [hpn] at hw hR
      obtain ⟨h1, h2, h3⟩ := S.at_ p a e hp hn
      obtain ⟨-, hst, hhd⟩ := ht
      dsimp only [Option.map]
      rw [hst, hhd]
      obtain ⟨tr, hrp⟩ := K.repl
      have go : ∀ (its' : List Value) (k' : Nat) (h' : Heap) (tk : Nat) (ys' : List (Array Nat)), Kp g h' → h'.get? D = some (W.listOf its'.toArray k') → MkAll mk its' ys' → its'.length ≤ 200000 → wt (ys' ++ rp :: pcs text rp nx f e) ≤ 100000 →
          (∀ t' h'' tk', Kp g h'' → R (.ok (.ret (mk (cat (ys' ++ rp :: pcs text rp nx f e)) t'))) { s with heap := h'', toks := tk' }) →
          wpAny (model prog w) A.in1 (do
            let item ← pure repl
            if (item != Value.none) = true then do
              updateSeq D fun x => x.push item
              again (Code.builtin "re.Pattern.sub.loop" ⟨[.ref pa, string, repl, .int 0 0, .int 0 0, .int (n + 1) 0, .int (e : Nat) 0, .int (e : Nat) 0, .bool (e == a), .ref D, .bool false], []⟩)
            else
              again (Code.builtin "re.Pattern.sub.loop" ⟨[.ref pa, string, repl, .int 0 0, .int 0 0, .int (n + 1) 0, .int (e : Nat) 0, .int (e : Nat) 0, .bool (e == a), .ref D, .bool false], []⟩))
            (fun fin s' => match fin with | .done f => R (.ok f) s' | .again c' => c'.quiet = true ∧ codeAny (model prog w) A c' R s') (fun e s' => R (.error e) s') { s with heap := h', toks := tk } := by
        intro its' k' h' tk ys' hk' ho' hM' hl' hw' hR'
        refine wpAny_bind (wpAny_pure ?_)
        rw [if_pos (by rw [hrp]; exact K.some _ _)]
        refine wpAny_bind (wp_push (s := { s with heap := h', toks := tk }) ho' (by omega) fun h'' hs'' ho'' => wpAny_pure ⟨plainId_quiet plain_subloop _, ?_⟩)
        have assoc : (ys' ++ [rp]) ++ pcs text rp nx f e = ys' ++ rp :: pcs text rp nx f e := by simp
        refine ih e (e == a) (n + 1) (its' ++ [repl]) (k' + 1) (ys' ++ [rp]) { s with heap := h'', toks := tk } R (by omega) h3 (stay hk' hs'') ho'' ?_ (by rw [assoc]; exact hw') fun t' h3 tk' hk3 => ?_
        · rw [hrp]; exact hM'.snoc _ _
        · rw [assoc]; exact hR' t' h3 tk' hk3
      by_cases hlt : p < a
      · rw [if_pos hlt]
        rw [if_pos hlt] at hw hR
        have assoc : (ys ++ [text.extract p a]) ++ rp :: pcs text rp nx f e = ys ++ ([text.extract p a] ++ rp :: pcs text rp nx f e) := by simp
        refine wpAny_bind (K.slice _ _ _ _ _ _ fun t1 tk1 => wpAny_bind (wp_push (s := { s with toks := tk1 }) ho (by omega) fun h' hs' ho' => ?_))
        exact go _ _ h' tk1 (ys ++ [text.extract p a]) (stay hk hs') ho' (hM.snoc _ _) (by rw [List.length_append]; simp only [List.length_cons, List.length_nil]; omega) (by rw [assoc]; exact hw) fun t' h'' tk' hk'' => by rw [assoc]; exact hR t' h'' tk' hk''
      · rw [if_neg hlt]
        rw [if_neg hlt, List.nil_append] at hw hR
        exact go its k s.heap s.toks ys hk ho hM (by omega) hw hR
end
end Mine
end
-- part BJoin
section
open PySem PySem.W PyProof.Rows PySem.Calls
open PySem.Builtin PySem.Builtin.Re
set_option Elab.async false
set_option maxRecDepth 100000
namespace Mine
theorem slot_bjoin : Slot "bytes" "join" "bytes.join" :=
  .of (owner := "bytes") (n := "join") (by rw [typeLookup_type, builtinLookup_eq_fast]; kernel_rfl) (by decide +kernel) (by decide +kernel) (by decide +kernel)
    (by first | exact .inl (by decide +kernel) | exact .inr (by decide +kernel)) (by rw [isSubtype_type]; kernel_rfl)
theorem entry_bjoin : entryFor table "bytes.join" = some Builtin.«bytes.join» := entryFor_of_tree (by kernel_rfl)
theorem args_bjoin (a b : Value) : argsOk "bytes.join" ⟨[a, b], []⟩ := by unfold argsOk; kernel_rfl
theorem take_bytes {id : String} {b : Array UInt8} {t : Tok} : Bytes.takeBufferQuiet? id (.bytes b t) 0 = pure (some (b, none)) := by
  have hf : ((0 : Int) == Bytes.fullReadOnly) = false := by decide
  unfold Bytes.takeBufferQuiet? Bytes.takeBuffer?
  rw [KBy.special_eq KBy.look_buffer, KBy.own_buffer]
  simp only [hf, KBy.buffer_eq]
  kernel_rfl
def BAll : List Value → List (Array UInt8) → Prop
  | [], [] => True
  | v :: vs, y :: ys => (∃ t, v = .bytes y t) ∧ BAll vs ys
  | _, _ => False
theorem BAll.length : ∀ {vs : List Value} {ys : List (Array UInt8)}, BAll vs ys → vs.length = ys.length
  | [], [], _ => rfl
  | _ :: _, _ :: _, h => by simp [BAll.length h.2]
theorem BAll.get : ∀ {vs : List Value} {ys : List (Array UInt8)}, BAll vs ys → ∀ i, i < vs.length → ∃ y t, vs[i]? = some (.bytes y t) ∧ ys[i]? = some y
  | _ :: _, _ :: _, h, 0, _ => by obtain ⟨t, e⟩ := h.1; exact ⟨_, t, by rw [e]; rfl, rfl⟩
  | _ :: _, _ :: _, h, i + 1, hi => by
    obtain ⟨y, t, e1, e2⟩ := BAll.get h.2 i (by simpa using hi)
    exact ⟨y, t, by simpa using e1, by simpa using e2⟩
def catB (ys : List (Array UInt8)) : Array UInt8 := (ys.map (·.toList)).flatten.toArray
theorem joined_nil (ys : List (Array UInt8)) : Bytes.joined #[] ys = catB ys := by
  unfold Bytes.joined
  have : ∀ (l : List (Array UInt8)) (k : Nat) (acc : Array UInt8), (l.zipIdx k).foldl (fun out (x : Array UInt8 × Nat) => (if x.2 > 0 then out ++ #[] else out) ++ x.1) acc = acc ++ catB l := by
    intro l
    induction l with
    | nil => intro k acc; simp [catB]
    | cons a r ih =>
      intro k acc
      rw [List.zipIdx_cons, List.foldl_cons, ih]
      simp only [catB, List.map_cons, List.flatten_cons]
      have : (if k > 0 then acc ++ #[] else acc) = acc := by split <;> simp
      rw [this]
      apply Array.toList_inj.mp
      simp
  have h := this ys 0 #[]
  simp only [Array.empty_append] at h
  exact h
section
variable {prog : Program} {w : World} {A : Around} {E : Value → Shared → Prop} {s : Shared}
theorem wp_forList {M : Model} {β : Type} {f : Nat → β → Sem (ForInStep β)} {Q : β → Shared → Prop} (I : Nat → β → Shared → Prop) : ∀ (n a : Nat) (b : β) (s : Shared), I a b s → (∀ i b s, a ≤ i → i < a + n → I i b s → wpAny M A (f i b) (fun r s' => ∃ b', r = .yield b' ∧ I (i + 1) b' s') E s) →
    (∀ b s, I (a + n) b s → Q b s) → wpAny M A (forIn (List.range' a n) b f) Q E s
  | 0, a, b, s, h, _, hq => by rw [List.range'_zero, List.forIn_nil]; exact wpAny_pure (hq b s h)
  | n + 1, a, b, s, h, hf, hq => by
    rw [List.range'_succ, List.forIn_cons]
    refine wpAny_bind (wpAny_mono (hf a b s (Nat.le_refl _) (by omega) h) (fun r s' hr => ?_) fun _ _ e => e)
    obtain ⟨b', rfl, hI⟩ := hr
    exact wp_forList I n (a + 1) b' s' hI (fun i b s h1 h2 hi => hf i b s (by omega) (by omega) hi) fun b s hi => hq b s (by rw [show a + (n + 1) = a + 1 + n by omega]; exact hi)
theorem wp_letGo {M : Model} {Q : Unit → Shared → Prop} : ∀ (l k : List Value), Q () s → wpAny M A (letGo l k) Q E s
  | [], k, h => by unfold letGo; exact wpAny_pure h
  | a :: l, k, h => by unfold letGo; exact wpAny_bind (wpAny_holding (wpAny_point (wp_letGo l k h)))
theorem wp_joinLetGo {M : Model} {Q : Unit → Shared → Prop} : ∀ (l : List (Value × Option Value)) (k : List Value), (∀ p ∈ l, p.2 = none) → Q () s → wpAny M A (Bytes.joinLetGo l k) Q E s
  | [], k, _, h => by unfold Bytes.joinLetGo; exact wpAny_pure h
  | (x, w) :: l, k, hl, h => by
    have e : w = none := hl (x, w) (.head _)
    subst e
    unfold Bytes.joinLetGo
    exact wpAny_bind (wp_letGo _ _ (wp_joinLetGo l k (fun p hp => hl p (.tail _ hp)) h))
theorem wp_seqItems {M : Model} {D : Addr} {its : Array Value} {Q : Option (Array Value) → Shared → Prop} (hl : s.heap.IsList D its) (h : Q (some its) s) : wpAny M A (seqItems? (.ref D)) Q E s := by
  obtain ⟨o, ho, _, n, hd⟩ := hl
  unfold seqItems?
  dsimp only
  refine wpAny_bind (wpAny_load ho ?_)
  rw [hd]
  exact wpAny_pure h
theorem sum_foldl : ∀ (l : List (Array UInt8)) (k : Nat), l.foldl (fun a b => a + b.size) k = k + (l.map (·.size)).sum
  | [], k => by simp
  | a :: r, k => by rw [List.foldl_cons, sum_foldl r]; simp; omega
theorem jm {motive : Array Value → Sort u} (I : Array Value) (h1 : (x : Value) → motive #[x]) (h2 : (x : Array Value) → motive x) (hn : I.size ≠ 1) : Bytes.joinM.match_1 motive I h1 h2 = h2 I := by
  obtain ⟨l⟩ := I
  match l, hn with
  | [], _ => rfl
  | [x], hn => exact absurd rfl hn
  | x :: y :: r, _ => rfl
theorem bjoin_walk {D : Addr} {its : List Value} {t : Tok} {bs : List (Array UInt8)} {Q : Value → Shared → Prop} (hl : s.heap.IsList D its.toArray) (hB : BAll its bs) (hsz : (bs.map (·.size)).sum ≤ 100000) (h : ∀ t k, Q (.bytes (catB bs) t) { s with toks := k }) :
    wpAny (model prog w) A (call (.builtin "bytes.join") [.bytes #[] t, .ref D]) Q E s := by
  refine wpAny_call_entry slot_bjoin rfl entry_bjoin ?_ (args_bjoin _ _)
  unfold Builtin.«bytes.join» Bytes.joinM
  dsimp only
  have e0 : ∀ id, selfAndOne id { pos := [Value.bytes #[] t, Value.ref D] } = pure (Value.bytes #[] t, Value.ref D) := fun id => rfl
  rw [e0]
  refine wpAny_bind (wpAny_pure ?_)
  dsimp only
  rw [if_pos (by rfl)]
  have ej : wpAny (model prog w) A.in1 (Bytes.joinItems (.ref D)) (fun v s' => v = .ref D ∧ s' = s) (fun _ _ => False) s := by
    obtain ⟨o, ho, hc, _⟩ := hl
    unfold Bytes.joinItems
    refine wpAny_bind (wpAny_typeOf (T := "list") ⟨o, ho, hc⟩ ?_)
    rw [if_pos (by rfl)]
    exact wpAny_pure ⟨rfl, rfl⟩
  refine wpAny_bind (wpAny_mono ej (fun v s' hv => ?_) fun _ _ x => x.elim)
  obtain ⟨rfl, rfl⟩ := hv
  refine wpAny_bind (wp_seqItems hl ?_)
  dsimp only
  rw [if_pos (by rfl)]
  by_cases h1 : its.length = 1
  · match its, h1, hl, hB with
    | [x], _, hl, hB =>
    match bs, hB with
    | [y], hB =>
      obtain ⟨⟨t1, rfl⟩, _⟩ := hB
      refine wpAny_bind (wpAny_typeOf (T := "bytes") rfl ?_)
      rw [if_pos (by rfl)]
      refine wpAny_bind (wpAny_rule (wpAny_pure ⟨_, rfl, ?_⟩))
      have : catB [y] = y := by simp [catB]
      rw [← this]
      exact h t1 s'.toks
  · have hlen := hB.length
    rw [jm its.toArray _ _ (by simpa using h1)]
    refine wpAny_bind ?_
    rw [Std.Legacy.Range.forIn_eq_forIn_range']
    refine wp_forList (fun i (b : Array (Array UInt8) × List (Value × Option Value)) s₁ => s₁ = s' ∧ b.1.toList = bs.take i ∧ (∀ p ∈ b.2, p.2 = none ∧ p.1.onHeap = false)) _ _ _ s' ⟨rfl, by simp, fun _ hp => nomatch hp⟩ ?_ ?_
    · rintro i ⟨parts, taken⟩ s₁ - hi ⟨rfl, hp, ht⟩
      have hi' : i < its.length := by simpa [Std.Legacy.Range.size] using hi
      obtain ⟨y, ty, e1, e2⟩ := hB.get i hi'
      refine wpAny_bind (wp_seqItems hl ?_)
      dsimp only at hp ht ⊢
      have hno : (taken.any fun x => x.fst.onHeap) = false := by
        rw [List.any_eq_false]
        intro p hp'
        rw [(ht p hp').2]
        decide
      rw [hno, if_neg (by decide)]
      have hx : its.toArray.getD i Value.none = .bytes y ty := by
        rw [Array.getD_eq_getD_getElem?]
        simp [e1]
      rw [hx, take_bytes]
      refine wpAny_bind (wpAny_holding (wpAny_pure ?_))
      dsimp only
      refine wpAny_bind (wp_seqItems hl ?_)
      dsimp only
      rw [if_neg (by simp)]
      refine wpAny_pure ⟨_, rfl, rfl, ?_, ?_⟩
      · rw [Array.toList_push, hp, List.take_add_one, e2]; rfl
      · intro p hp'
        rcases List.mem_append.mp hp' with h1 | h1
        · exact ht p h1
        · rw [List.mem_singleton.mp h1]
          exact ⟨rfl, rfl⟩
    · rintro ⟨parts, taken⟩ s₁ ⟨rfl, hp, ht⟩
      dsimp only at hp ht ⊢
      have hpa : parts.toList = bs := by
        rw [hp]
        apply List.take_of_length_le
        simp [Std.Legacy.Range.size]
        omega
      have epl : Bytes.payload (.bytes #[] t) = pure #[] := rfl
      rw [epl]
      refine wpAny_bind (wpAny_pure ?_)
      have hfit : Bytes.tooLong (Array.foldl (fun x1 x2 => x1 + x2.size) ((#[] : Array UInt8).size * (parts.size - 1)) parts) = false := by
        unfold Bytes.tooLong
        rw [← Array.foldl_toList, hpa, sum_foldl, sizeLine_eq]
        exact decide_eq_false (by simp; omega)
      rw [hfit, if_neg (by decide), hpa, joined_nil]
      unfold Bytes.Kind.new
      dsimp only
      have hsz' : (catB bs).size ≤ 100000 := by
        have : (catB bs).size = (bs.map (·.size)).sum := by
          unfold catB
          rw [List.size_toArray, List.length_flatten, List.map_map]
          rfl
        omega
      unfold mkBytes
      rw [if_neg (by rw [sizeLine_eq]; omega)]
      refine wpAny_bind (wpAny_bind (wpAny_fresh (wpAny_pure ?_)))
      refine wpAny_bind (wpAny_holding (wpAny_point ?_))
      refine wpAny_bind (wp_joinLetGo _ _ (fun p hp' => (ht p hp').1) (wpAny_pure ⟨_, rfl, ?_⟩))
      exact h _ _
end
end Mine
end
-- part ReCall
section
open PySem PySem.W PyProof.Rows PySem.Calls
open PySem.Builtin PySem.Builtin.Re
set_option Elab.async false
set_option maxRecDepth 100000
namespace Mine
theorem slot_resub : Slot "re.Pattern" "sub" "re.Pattern.sub" :=
  .of (owner := "re.Pattern") (n := "sub") (by rw [typeLookup_type, builtinLookup_eq_fast]; kernel_rfl) (by decide +kernel) (by decide +kernel) (by decide +kernel)
    (by first | exact .inl (by decide +kernel) | exact .inr (by decide +kernel)) (by rw [isSubtype_type]; kernel_rfl)
theorem entry_resub : entryFor table "re.Pattern.sub" = some Builtin.«re.Pattern.sub» := entryFor_of_tree (by kernel_rfl)
theorem args_resub (a b c : Value) : argsOk "re.Pattern.sub" ⟨[a, b, c], []⟩ := by unfold argsOk; kernel_rfl
theorem nocall_str : typeLookup (.type "str") "__call__" = pure none := by rw [typeLookup_type, builtinLookup_eq_fast]; kernel_rfl
theorem nocall_bytes : typeLookup (.type "bytes") "__call__" = pure none := by rw [typeLookup_type, builtinLookup_eq_fast]; kernel_rfl
theorem named_resub (a b : Value) : Builtin.Re.reNamed "re.Pattern.sub" "sub" ["repl", "string", "count"] 2 [a, b] [] = pure [some a, some b, none] := rfl
theorem plain_rePattern : PlainAttrs "re.Pattern" := ⟨⟨"object.__getattribute__", by rw [typeLookup_type, builtinLookup_eq_fast]; kernel_rfl, by decide +kernel⟩, by rw [typeLookup_type, builtinLookup_eq_fast]; kernel_rfl⟩
theorem type_resub : typeOf (.builtin "re.Pattern.sub") = pure (.type "method_descriptor") := by kernel_rfl
section
variable {prog : Program} {w : World} {A : Around} {E : Value → Shared → Prop} {s : Shared} {kind : Nat} {text code rp : Array Nat} {pa : Addr} {string repl : Value} {mk : Array Nat → Tok → Value} {nx : Nat → Option (Nat × Nat)}
theorem PatAt.typeIs (P : PatAt s.heap pa code kind) : s.TypeIs (.ref pa) "re.Pattern" := by
  obtain ⟨ca, vs, cs, n, o, o', e1, e2, e3, _⟩ := P.at_
  exact ⟨o, e1, e3⟩
theorem wp_resub_method {pl : Sem Bool} {Q : Value × List Value → Shared → Prop} (ho : ∃ o, s.heap.get? pa = some o ∧ o.cls = .type "re.Pattern" ∧ o.dict = none) (h : Q (.builtin "re.Pattern.sub", [.ref pa]) s) : wpAny (model prog w) A (getMethod (.ref pa) "sub" pl) Q E s := by
  obtain ⟨o, e1, e2, e3⟩ := ho
  exact getMethod_builtin ⟨o, e1, e2⟩ plain_rePattern slot_resub type_resub (fun b e => by injection e with e; subst e; exact ⟨o, e1, e3⟩) h
/-- the tail of sub, once the replacement is known to be plain -/
theorem resub_tail {A' : Around} {R : Result → Shared → Prop} (K : KindOk prog w kind text code pa string repl mk rp) (S : Finds code text nx) (P : PatAt s.heap pa code kind) (hw : wt (pcs text rp nx (text.size + 1) 0) ≤ 100000)
    (hR : ∀ t' h' tk', Kp s.heap h' → R (.ok (.ret (mk (cat (pcs text rp nx (text.size + 1) 0)) t'))) { s with heap := h', toks := tk' }) :
    wpAny (model prog w) A (do
      let _ ← holding [repl] (reWholeTarget (.ref pa) string)
      if ((0 : Int) == 1) = true then reNotHeld "re.Pattern.sub" string
      again (.builtin "re.Pattern.sub.loop" ⟨[.ref pa, string, repl, rawInt 0, rawInt 0, rawInt 0, rawInt 0, rawInt 0, .bool false, ← newList [], .bool false], []⟩))
      (fun fin s' => match fin with | .done f => R (.ok f) s' | .again c' => c'.quiet = true ∧ codeAny (model prog w) A' c' R s') (fun e s' => R (.error e) s') s := by
  refine wpAny_bind (wpAny_holding (K.tgt _ _ _ _ P ?_))
  rw [if_neg (by decide)]
  refine wpAny_bind (wpAny_newList ?_ (Nat.zero_le _))
  refine wpAny_pure ⟨plainId_quiet plain_subloop _, ?_⟩
  have hsz : s.heap.get? s.heap.objs.size = none := by
    cases h : s.heap.get? s.heap.objs.size with
    | none => rfl
    | some o => exact absurd (Heap.lt_size h) (Nat.lt_irrefl _)
  refine sub_loop (g := s.heap) (D := s.heap.objs.size) K S P hsz (text.size + 1) 0 false 0 [] 0 [] _ R (by omega) (Nat.zero_le _) ?_ ?_ trivial (by simpa using hw) ?_
  · intro b o e
    exact Heap.get?_push_of_some _ e
  · exact Heap.get?_push_size _ rfl
  · intro t' h' tk' hk
    simpa using hR t' h' tk' hk
theorem resub_str_code {y : Str} {ty : Tok} {R : Result → Shared → Prop} (K : KindOk prog w kind text code pa string (.str y ty) mk rp) (S : Finds code text nx) (P : PatAt s.heap pa code kind) (hno : y.cps.contains 92 = false) (hw : wt (pcs text rp nx (text.size + 1) 0) ≤ 100000)
    (hR : ∀ t' h' tk', Kp s.heap h' → R (.ok (.ret (mk (cat (pcs text rp nx (text.size + 1) 0)) t'))) { s with heap := h', toks := tk' }) :
    codeAny (model prog w) A (.call (.builtin "re.Pattern.sub") ⟨[.ref pa, .str y ty, string], []⟩) R s := by
  refine codeAny_call_builtin slot_resub.plain entry_resub (slot_resub.check _ _ _ _ _ _ _ _ P.typeIs (args_resub _ _ _) ?_)
  unfold Builtin.«re.Pattern.sub» reSubstitute
  dsimp only
  rw [named_resub]
  refine wpAny_bind (wpAny_pure ?_)
  dsimp only
  refine wpAny_bind (wpAny_pure ?_)
  refine wpAny_bind (wpAny_specialOf (T := "str") rfl nocall_str ?_)
  dsimp only [Option.isSome]
  have ea : asStr? (.str y ty) = pure (some y) := rfl
  simp only [Bool.false_eq_true, if_false]
  rw [ea]
  refine wpAny_bind (wpAny_pure ?_)
  dsimp only
  rw [hno]
  refine wpAny_bind (wpAny_pure ?_)
  simp only [Bool.not_false, if_true]
  refine wpAny_bind (wpAny_pure ?_)
  exact resub_tail K S P hw hR
theorem resub_bytes_code {y : Array UInt8} {ty : Tok} {R : Result → Shared → Prop} (K : KindOk prog w kind text code pa string (.bytes y ty) mk rp) (S : Finds code text nx) (P : PatAt s.heap pa code kind) (hno : y.contains 92 = false) (hw : wt (pcs text rp nx (text.size + 1) 0) ≤ 100000)
    (hR : ∀ t' h' tk', Kp s.heap h' → R (.ok (.ret (mk (cat (pcs text rp nx (text.size + 1) 0)) t'))) { s with heap := h', toks := tk' }) :
    codeAny (model prog w) A (.call (.builtin "re.Pattern.sub") ⟨[.ref pa, .bytes y ty, string], []⟩) R s := by
  refine codeAny_call_builtin slot_resub.plain entry_resub (slot_resub.check _ _ _ _ _ _ _ _ P.typeIs (args_resub _ _ _) ?_)
  unfold Builtin.«re.Pattern.sub» reSubstitute
  dsimp only
  rw [named_resub]
  refine wpAny_bind (wpAny_pure ?_)
  dsimp only
  refine wpAny_bind (wpAny_pure ?_)
  refine wpAny_bind (wpAny_specialOf (T := "bytes") rfl nocall_bytes ?_)
  dsimp only [Option.isSome]
  simp only [Bool.false_eq_true, if_false]
  rw [asStr_bytes]
  refine wpAny_bind (wpAny_pure ?_)
  dsimp only
  rw [quiet_bytes]
  refine wpAny_bind (wpAny_pure ?_)
  dsimp only
  rw [hno]
  refine wpAny_bind (wpAny_pure ?_)
  simp only [Bool.not_false, if_true]
  refine wpAny_bind (wpAny_pure ?_)
  exact resub_tail K S P hw hR
theorem resub_str {y : Str} {ty : Tok} {Q : Value → Shared → Prop} (K : KindOk prog w kind text code pa string (.str y ty) mk rp) (S : Finds code text nx) (P : PatAt s.heap pa code kind) (hno : y.cps.contains 92 = false) (hw : wt (pcs text rp nx (text.size + 1) 0) ≤ 100000)
    (hQ : ∀ t' h' tk', Kp s.heap h' → Q (mk (cat (pcs text rp nx (text.size + 1) 0)) t') { s with heap := h', toks := tk' }) :
    wpAny (model prog w) A (call (.builtin "re.Pattern.sub") [.ref pa, .str y ty, string]) Q E s := wpAny_call (resub_str_code K S P hno hw hQ)
theorem resub_bytes {y : Array UInt8} {ty : Tok} {Q : Value → Shared → Prop} (K : KindOk prog w kind text code pa string (.bytes y ty) mk rp) (S : Finds code text nx) (P : PatAt s.heap pa code kind) (hno : y.contains 92 = false) (hw : wt (pcs text rp nx (text.size + 1) 0) ≤ 100000)
    (hQ : ∀ t' h' tk', Kp s.heap h' → Q (mk (cat (pcs text rp nx (text.size + 1) 0)) t') { s with heap := h', toks := tk' }) :
    wpAny (model prog w) A (call (.builtin "re.Pattern.sub") [.ref pa, .bytes y ty, string]) Q E s := wpAny_call (resub_bytes_code K S P hno hw hQ)
end
end Mine
end
-- part ReKind
section
open PySem PySem.W PyProof.Rows PySem.Calls
open PySem.Builtin PySem.Builtin.Re
set_option Elab.async false
set_option maxRecDepth 100000
namespace Mine
def mkS (a : Array Nat) (t : Tok) : Value := .str ⟨a⟩ t
def toB (a : Array Nat) : Array UInt8 := a.map (·.toUInt8)
def mkB (a : Array Nat) (t : Tok) : Value := .bytes (toB a) t
theorem mkAll_strs : ∀ {vs : List Value} {ys : List (Array Nat)}, MkAll mkS vs ys → StrsAre vs (ys.map Str.mk)
  | [], [], _ => .nil
  | _ :: _, y :: _, h => by
    obtain ⟨⟨t, rfl⟩, h2⟩ := h
    exact .cons ⟨y⟩ t (mkAll_strs h2)
theorem join_cat : ∀ ys : List (Array Nat), Str.join ⟨#[]⟩ (ys.map Str.mk) = ⟨cat ys⟩
  | [] => rfl
  | [y] => by simp [Str.join, cat]
  | y :: z :: r => by
    have h := join_cat (z :: r)
    show (⟨y⟩ : Str) ++ ⟨#[]⟩ ++ Str.join ⟨#[]⟩ ((z :: r).map Str.mk) = _
    rw [h]
    show (⟨(y ++ #[]) ++ cat (z :: r)⟩ : Str) = _
    congr 1
    apply Array.toList_inj.mp
    simp [cat]
theorem joinOk_wt {ys : List (Array Nat)} (h : wt ys ≤ 100000) : JoinOk ⟨#[]⟩ (ys.map Str.mk) = true := by
  refine joinOk_of_weight ?_ (Nat.zero_le _)
  unfold wt at h
  rw [List.map_map, List.length_map]
  have : ((fun x : Str => x.length) ∘ Str.mk) = fun x : Array Nat => x.size := rfl
  rw [this]
  omega
theorem mkAll_bytes : ∀ {vs : List Value} {ys : List (Array Nat)}, MkAll mkB vs ys → BAll vs (ys.map toB)
  | [], [], _ => trivial
  | _ :: _, y :: _, h => ⟨h.1, mkAll_bytes h.2⟩
theorem catB_cat (ys : List (Array Nat)) : catB (ys.map toB) = toB (cat ys) := by
  unfold catB cat toB
  apply Array.toList_inj.mp
  simp [List.map_flatten, Function.comp_def]
section
variable {prog : Program} {w : World} {A : Around} {E : Value → Shared → Prop} {s : Shared}
theorem kind_str {text code rp : Array Nat} {pa : Addr} (ts tr : Tok) (hsz : text.size ≤ 100000) : KindOk prog w 0 text code pa (.str ⟨text⟩ ts) (.str ⟨rp⟩ tr) mkS rp where
  tgt := fun A E s Q P h => wp_tgt_str P h
  slice := fun A E s b e Q h => by
    unfold reSlice
    rw [if_pos (by rfl)]
    refine wpAny_mkStr (h _ _) ?_
    show (text.extract b e).size ≤ sizeLine
    rw [Array.size_extract, sizeLine_eq]
    omega
  lit := fun A E s Q h => by
    unfold reLiteralCannotBeTurned
    have e : asStr? (.str ⟨rp⟩ tr) = pure (some ⟨rp⟩) := rfl
    rw [e]
    refine wpAny_bind (wpAny_pure ?_)
    simp only [Option.isNone, Bool.false_eq_true, if_false]
    exact wpAny_pure h
  repl := ⟨tr, rfl⟩
  some := fun a t => rfl
  join := fun A E s D its t ys Q hl hM hne hw h => by
    have e : text.extract 0 0 = #[] := by simp
    rw [e]
    show wpAny (model prog w) A (call (.builtin "str.join") [.str ⟨#[]⟩ t, .ref D]) Q E s
    refine join_walk hl (mkAll_strs hM) (joinOk_wt hw) fun t' k => ?_
    rw [join_cat]
    exact h t' k
theorem kind_bytes {b : Array UInt8} {code rp : Array Nat} {pa : Addr} (ts tr : Tok) (hsz : b.size ≤ 100000) : KindOk prog w 1 (b.map (·.toNat)) code pa (.bytes b ts) (.bytes (toB rp) tr) mkB rp where
  tgt := fun A E s Q P h => wp_tgt_bytes P h
  slice := fun A E s b e Q h => by
    unfold reSlice
    rw [if_neg (by decide)]
    refine wpAny_mkBytes (h _ _) ?_
    rw [Array.size_map, Array.size_extract, Array.size_map, sizeLine_eq]
    omega
  lit := fun A E s Q h => by
    unfold reLiteralCannotBeTurned
    rw [asStr_bytes]
    refine wpAny_bind (wpAny_pure ?_)
    simp only [Option.isNone, if_true]
    rw [KBy.isInstance_eq]
    refine wpAny_bind (wpAny_pure ?_)
    simp only [Bool.not_true, Bool.false_eq_true, if_false]
    exact wpAny_pure h
  repl := ⟨tr, rfl⟩
  some := fun a t => rfl
  join := fun A E s D its t ys Q hl hM hne hw h => by
    have e : (b.map (·.toNat)).extract 0 0 = #[] := by simp
    have e2 : mkB #[] t = .bytes #[] t := by simp [mkB, toB]
    rw [e, e2, if_neg (by decide)]
    show wpAny (model prog w) A (call (.builtin "bytes.join") [.bytes #[] t, .ref D]) Q E s
    refine bjoin_walk hl (mkAll_bytes hM) ?_ fun t' k => ?_
    · unfold wt at hw
      rw [List.map_map]
      have : ((fun x : Array UInt8 => x.size) ∘ toB) = fun x : Array Nat => x.size := by funext x; simp [toB]
      rw [this]
      omega
    · rw [catB_cat]
      exact h t' k
/-- where the next piece begins and ends -/
def nx1 (text : Array Nat) (p : Nat) : Option (Nat × Nat) := (find1 text (text.size - p) p).map fun k => (k, k + 1)
def nx3 (text : Array Nat) (p : Nat) : Option (Nat × Nat) := (find3 text (text.size - p) p).map fun k => (k, k + len3 text k)
theorem find1_at {text : Array Nat} : ∀ {d s k : Nat}, s + d = text.size → find1 text d s = some k → s ≤ k ∧ k < text.size
  | 0, _, _, _, h => nomatch h
  | d + 1, s, k, hs, h => by
    unfold find1 at h
    split at h
    · injection h with h
      omega
    · have := find1_at (d := d) (s := s + 1) (by omega) h
      omega
theorem len3_le {text : Array Nat} {k : Nat} (h : k < text.size) : 1 ≤ len3 text k ∧ k + len3 text k ≤ text.size := by
  unfold len3
  by_cases hc : (text.getD k 0 == 13 && (decide (k + 1 < text.size) && text.getD (k + 1) 0 == 10)) = true
  · rw [if_pos hc]
    simp only [Bool.and_eq_true, decide_eq_true_eq] at hc
    omega
  · rw [if_neg hc]
    omega
theorem finds1 (text : Array Nat) (hsz : text.size ≤ 100000) : Finds code1 text (nx1 text) where
  run := fun p must hp => by
    obtain ⟨m', g, t⟩ := forSearch1 text (text.size - p) p must (by omega)
    exact ⟨m', _, by omega, g, t⟩
  at_ := fun p k e hp h => by
    unfold nx1 at h
    cases hf : find1 text (text.size - p) p with
    | none => rw [hf] at h; cases h
    | some k' =>
      rw [hf] at h
      injection h with h
      injection h with h1 h2
      have := find1_at (by omega) hf
      omega
theorem finds3 (text : Array Nat) : Finds code3 text (nx3 text) where
  run := fun p must hp => by
    obtain ⟨m', g, t⟩ := forSearch3 text (text.size - p) p must (by omega)
    exact ⟨m', _, by decide, g, t⟩
  at_ := fun p k e hp h => by
    unfold nx3 at h
    cases hf : find3 text (text.size - p) p with
    | none => rw [hf] at h; cases h
    | some k' =>
      rw [hf] at h
      injection h with h
      injection h with h1 h2
      obtain ⟨a1, a2, -⟩ := find3_at (by omega) hf
      have := len3_le a2
      subst h1
      omega
end
end Mine
end
-- part Fq
section
open PySem PySem.W PyProof.Rows PySem.Calls
set_option Elab.async false
set_option maxRecDepth 100000
set_option maxHeartbeats 8000000
namespace Mine
theorem fillupFq : (fun (_ : OpenLaw) (_ : Params → Frag) => True) PySem.Challenge.rw_wk0006_01 hd.heap_39 := by
  k_fill
  trivial
section
local macro_rules | `(tactic| walk_at "pad Fq 0") => `(tactic| (fail "pad"))
local macro_rules | `(tactic| walk_at "pad Fq 1") => `(tactic| (fail "pad"))
local macro_rules | `(tactic| walk_at "call builtin:re.Pattern.sub") => `(tactic| (refine Stop.out ?_))
local macro_rules | `(tactic| walk_at "getMethod ref") => `(tactic| (refine Stop.out ?_))
variable {w : World} {mean : ExcName → Option Value} {mg mb : Str → Option Value} {q : Str} {sc : Scope} {L fa : Addr} {cd : Value} {base h₀ : Heap} {m : Str → Option Value} {s : Shared} {Q : Value → Shared → Prop}
def fixS (a : Array Nat) : Array Nat := cat (pcs a #[13, 10] (nx3 a) (a.size + 1) 0)
def dotS (a : Array Nat) : Array Nat := cat (pcs a #[46, 46] (nx1 a) (a.size + 1) 0)
theorem pat_103 (X : Frag.In (hd.heap_39 w.params) h₀) : PatAt h₀ 103 code3 0 := by
  refine ⟨102, _, _, _, _, _, X 103 _ (by k_is), rfl, rfl, rfl, rfl, rfl, X 102 _ (by k_is), rfl, ?_⟩
  decide +kernel
theorem pat_93 (X : Frag.In (hd.heap_39 w.params) h₀) : PatAt h₀ 93 code1 0 := by
  refine ⟨92, _, _, _, _, _, X 93 _ (by k_is), rfl, rfl, rfl, rfl, rfl, X 92 _ (by k_is), rfl, ?_⟩
  decide +kernel
theorem pat_98 (X : Frag.In (hd.heap_39 w.params) h₀) : PatAt h₀ 98 code1 1 := by
  refine ⟨97, _, _, _, _, _, X 98 _ (by k_is), rfl, rfl, rfl, rfl, rfl, X 97 _ (by k_is), rfl, ?_⟩
  decide +kernel
theorem crlf_eq : Str.ofString "\r\n" = ⟨#[13, 10]⟩ := by decide +kernel
theorem dots_eq : Str.ofString ".." = ⟨#[46, 46]⟩ := by decide +kernel
theorem wt_app (a b : List (Array Nat)) : wt (a ++ b) = wt a + wt b := by unfold wt; simp; omega
theorem wt_pcs {code text rp : Array Nat} {nx : Nat → Option (Nat × Nat)} (S : Finds code text nx) : ∀ (f p : Nat), p ≤ text.size → wt (pcs text rp nx f p) ≤ (text.size - p) * (rp.size + 4) + 4
  | 0, p, _ => by unfold pcs wt; simp
  | f + 1, p, hp => by
    have hpn : pcs text rp nx (f + 1) p = match nx p with
      | some (k, e) => (if p < k then [text.extract p k] else []) ++ rp :: pcs text rp nx f e
      | none => if p < text.size then [text.extract p text.size] else [] := rfl
    rw [hpn]
    cases hn : nx p with
    | none =>
      dsimp only
      split
      · unfold wt
        simp
        have : text.size - p ≤ (text.size - p) * (rp.size + 4) := Nat.le_mul_of_pos_right _ (by omega)
        omega
      · unfold wt; simp
    | some q =>
      obtain ⟨k, e⟩ := q
      dsimp only
      obtain ⟨h1, h2, h3⟩ := S.at_ p k e hp hn
      have ih := wt_pcs (rp := rp) S f e h3
      rw [wt_app]
      have hr : wt (rp :: pcs text rp nx f e) = rp.size + 1 + wt (pcs text rp nx f e) := by unfold wt; simp; omega
      have hl : wt (if p < k then [text.extract p k] else []) ≤ 2 * (k - p) := by
        split
        · unfold wt; simp; omega
        · unfold wt; simp
      have e1 : text.size - p = (text.size - e) + (e - k) + (k - p) := by omega
      rw [hr, e1, Nat.add_mul, Nat.add_mul]
      have h4 : 1 * (rp.size + 4) ≤ (e - k) * (rp.size + 4) := Nat.mul_le_mul_right _ (by omega)
      have h5 : 2 * (k - p) ≤ (k - p) * (rp.size + 4) := by rw [Nat.mul_comm 2]; exact Nat.mul_le_mul_left _ (by omega)
      omega
theorem wt_fix {a : Array Nat} (ha : a.size ≤ 1000) : wt (pcs a #[13, 10] (nx3 a) (a.size + 1) 0) ≤ 100000 := by
  have := wt_pcs (rp := #[13, 10]) (finds3 a) (a.size + 1) 0 (Nat.zero_le _)
  simp at this
  omega
theorem wt_dot {a : Array Nat} (ha : a.size ≤ 10000) : wt (pcs a #[46, 46] (nx1 a) (a.size + 1) 0) ≤ 100000 := by
  have := wt_pcs (rp := #[46, 46]) (finds1 a (by omega)) (a.size + 1) 0 (Nat.zero_le _)
  simp at this
  omega
theorem c_fix {a : Array Nat} {T : Tok} (ha : a.size ≤ 1000) (B : Below callerA base [] h₀) (F : Fr h₀ L s.heap m) (X : Frag.In (hd.heap_39 w.params) h₀) (TT : Top hd.view_39 looseP mean mg mb h₀) (hsc : sc.kind = .function)
    (hret : ∀ t h' tk', Kp s.heap h' → Q (.str ⟨fixS a⟩ t) { s with heap := h', toks := tk' }) :
    wpAny (model progP w) (callerA.deeper (envOf q sc L fa cd)) (call (.ref 124) [.str ⟨a⟩ T]) Q (fun _ _ => False) s := by
  w_top off
  dsimp only [looseP, progP] at *
  refine wpAny_call ?_
  k_dflt (refine' raw_def ?k1 ?k2 ?k3 ?k5 ?kA ?kF ?kK ?k6 ?k7 ?k8 ?k9 ?kB ?_ ?c2 ?c3 ?c4 ?c5; (case kA => exact rfl); (case kF => exact rfl); (case kK => assumption); (case k1 => k_asm); (case k2 => k_asm); (case k3 => k_asm); (case k5 => k_asm); (case k6 => k_is); (case k7 => k_is); (case k8 => k_room); (case k9 => exact BindsTo.of_eq rfl); (case c5 => decide); (case kB => exact locs rfl); (case c2 => exact rfl); (case c3 => exact rfl); (case c4 => exact rfl); k_whole; intro g' L' h' hg' F' N' B' X' T'; (try dsimp only); (try k_lift B'); (try k_fold))
  have P := pat_103 X'
  clear F X TT B
  k_steps
  have e103 := X' 103 _ (by k_is)
  unfold Stop
  refine wp_resub_method ⟨_, Fr.keep (by assumption) _ _ e103, rfl, rfl⟩ ?_
  k_steps
  (rename Fr _ _ _ _ => FE)
  show wpAny _ _ (call (.builtin "re.Pattern.sub") [.ref 103, .str (Str.ofString "\r\n") _, .str ⟨a⟩ T]) _ _ _
  rw [crlf_eq]
  refine resub_str (kind_str T _ (by omega)) (finds3 _) (P.keeps FE.keep) (by decide +kernel) (wt_fix ha) fun t' h' tk' hk => ?_
  exact hret _ _ _ (hg' ▸ Kp.trans FE.keep hk)
theorem fixS_size {a : Array Nat} (ha : a.size ≤ 1000) : (fixS a).size ≤ 10000 := by
  have h1 := wt_pcs (rp := #[13, 10]) (finds3 a) (a.size + 1) 0 (Nat.zero_le _)
  have h2 : (fixS a).size ≤ wt (pcs a #[13, 10] (nx3 a) (a.size + 1) 0) := by
    unfold fixS cat wt
    rw [List.size_toArray, List.length_flatten, List.map_map]
    exact Nat.le_add_right _ _
  simp at h1
  omega
theorem c_quote {a : Array Nat} {T : Tok} (ha : a.size ≤ 1000) (B : Below callerA base [] h₀) (F : Fr h₀ L s.heap m) (X : Frag.In (hd.heap_39 w.params) h₀) (TT : Top hd.view_39 looseP mean mg mb h₀) (hsc : sc.kind = .function)
    (hret : ∀ t h' tk', Kp s.heap h' → Q (.str ⟨dotS (fixS a)⟩ t) { s with heap := h', toks := tk' }) :
    wpAny (model progP w) (callerA.deeper (envOf q sc L fa cd)) (call (.ref 110) [.str ⟨a⟩ T]) Q (fun _ _ => False) s := by
  w_top off
  dsimp only [looseP, progP] at *
  refine wpAny_call ?_
  k_dflt (refine' raw_def ?k1 ?k2 ?k3 ?k5 ?kA ?kF ?kK ?k6 ?k7 ?k8 ?k9 ?kB ?_ ?c2 ?c3 ?c4 ?c5; (case kA => exact rfl); (case kF => exact rfl); (case kK => assumption); (case k1 => k_asm); (case k2 => k_asm); (case k3 => k_asm); (case k5 => k_asm); (case k6 => k_is); (case k7 => k_is); (case k8 => k_room); (case k9 => exact BindsTo.of_eq rfl); (case c5 => decide); (case kB => exact locs rfl); (case c2 => exact rfl); (case c3 => exact rfl); (case c4 => exact rfl); k_whole; intro g' L' h' hg' F' N' B' X' T'; (try dsimp only); (try k_lift B'); (try k_fold))
  have P := pat_103 X'
  have P1 := pat_93 X'
  clear F X TT B
  k_steps
  have e93 := X' 93 _ (by k_is)
  unfold Stop
  refine wp_resub_method ⟨_, Fr.keep (by assumption) _ _ e93, rfl, rfl⟩ ?_
  k_steps
  have e103 := X' 103 _ (by k_is)
  unfold Stop
  refine wp_resub_method ⟨_, Fr.keep (by assumption) _ _ e103, rfl, rfl⟩ ?_
  k_steps
  (rename Fr _ _ _ _ => FE)
  show wpAny _ _ (call (.builtin "re.Pattern.sub") [.ref 103, .str (Str.ofString "\r\n") _, .str ⟨a⟩ T]) _ _ _
  rw [crlf_eq]
  refine resub_str (kind_str T _ (by omega)) (finds3 _) (P.keeps FE.keep) (by decide +kernel) (wt_fix ha) fun t' h' tk' hk => ?_
  have k2 := Kp.trans FE.keep hk
  (try dsimp only at *)
  refine wpAny_pure ?_
  show wpAny _ _ (call (.builtin "re.Pattern.sub") [.ref 93, .str (Str.ofString "..") _, .str ⟨fixS a⟩ t']) _ _ _
  rw [dots_eq]
  have hz := fixS_size ha
  refine resub_str (kind_str t' _ (by omega)) (finds1 _ (by omega)) (P1.keeps k2) (by decide +kernel) (wt_dot hz) fun t'' h'' tk'' hk' => ?_
  exact hret _ _ _ (hg' ▸ Kp.trans k2 hk')
theorem dotsB_eq : (#[46, 46] : Array UInt8) = toB #[46, 46] := by decide +kernel
theorem c_periods {b : Array UInt8} {T : Tok} (hb : b.size ≤ 1000) (B : Below callerA base [] h₀) (F : Fr h₀ L s.heap m) (X : Frag.In (hd.heap_39 w.params) h₀) (TT : Top hd.view_39 looseP mean mg mb h₀) (hsc : sc.kind = .function)
    (hret : ∀ t h' tk', Kp s.heap h' → Q (.bytes (toB (dotS (b.map (·.toNat)))) t) { s with heap := h', toks := tk' }) :
    wpAny (model progP w) (callerA.deeper (envOf q sc L fa cd)) (call (.ref 117) [.bytes b T]) Q (fun _ _ => False) s := by
  w_top off
  dsimp only [looseP, progP] at *
  refine wpAny_call ?_
  k_dflt (refine' raw_def ?k1 ?k2 ?k3 ?k5 ?kA ?kF ?kK ?k6 ?k7 ?k8 ?k9 ?kB ?_ ?c2 ?c3 ?c4 ?c5; (case kA => exact rfl); (case kF => exact rfl); (case kK => assumption); (case k1 => k_asm); (case k2 => k_asm); (case k3 => k_asm); (case k5 => k_asm); (case k6 => k_is); (case k7 => k_is); (case k8 => k_room); (case k9 => exact BindsTo.of_eq rfl); (case c5 => decide); (case kB => exact locs rfl); (case c2 => exact rfl); (case c3 => exact rfl); (case c4 => exact rfl); k_whole; intro g' L' h' hg' F' N' B' X' T'; (try dsimp only); (try k_lift B'); (try k_fold))
  have P := pat_98 X'
  clear F X TT B
  k_steps
  have e98 := X' 98 _ (by k_is)
  unfold Stop
  refine wp_resub_method ⟨_, Fr.keep (by assumption) _ _ e98, rfl, rfl⟩ ?_
  k_steps
  (rename Fr _ _ _ _ => FE)
  show wpAny _ _ (call (.builtin "re.Pattern.sub") [.ref 98, .bytes #[46, 46] _, .bytes b T]) _ _ _
  rw [dotsB_eq]
  refine resub_bytes (kind_bytes T _ (by omega)) (finds1 _ (by rw [Array.size_map]; omega)) (P.keeps FE.keep) (by decide +kernel) (wt_dot (by rw [Array.size_map]; omega)) fun t' h' tk' hk => ?_
  exact hret _ _ _ (hg' ▸ Kp.trans FE.keep hk)
end
end Mine
end
-- part LoopZ
section
open PySem PySem.W PyProof.Rows PySem.Calls
set_option Elab.async false
set_option maxRecDepth 100000
set_option maxHeartbeats 8000000
namespace Mine
section
variable {prog : Program} {w : World} {A : Around} {s : Shared} {env : Env} {h₀ : Heap}

/-- a loop whose turns take pairs -/
def LoopP (prog : Program) (w : World) (A : Around) (h₀ : Heap) (env : Env) (xi xc : Str) (body orelse : List Stmt) (Q : Flow → Shared → Prop) (it : Value) (s : Shared) : Prop :=
  ∃ (I : Addr) (fp wr : List Addr) (n : Nat) (Pt : Nat → Array Value → Prop) (St : Nat → Heap → Prop) (Mid : Nat → Addr → Heap → Prop) (PP : Nat → Value → Value → Prop) (m : Str → Option Value) (news : List (Addr × Obj)) (J : Nat → (Str → Option Value) → Prop),
    it = .ref I ∧ WalksT prog w A I fp wr n Pt St Mid ∧ (∀ i vals, Pt i vals → ∃ x y, vals = #[x, y] ∧ PP i x y) ∧ env.locals ∉ fp ∧ (∀ b ∈ wr, h₀.get? b = none) ∧ (∀ p ∈ news, p.1 ∉ fp) ∧ St 0 s.heap ∧ Fr h₀ env.locals s.heap m ∧ News h₀ env.locals s.heap news ∧ J 0 m ∧
    (∀ i x y m₁ h tk own, i < n → PP i x y → J i m₁ → (∀ p ∈ own, p.1 ∈ fp) → Fr h₀ env.locals h (fun z => if z = xc then some y else if z = xi then some x else m₁ z) → News h₀ env.locals h (news ++ own) →
      wpAny (model prog w) A (execs body env) (TurnN h₀ env.locals own (news.map (·.1)) (fun m n => J (i + 1) m ∧ n = news) { s with heap := h, toks := tk } Q) (fun _ _ => False) { s with heap := h, toks := tk }) ∧
    (∀ h tk m₁, J n m₁ → Fr h₀ env.locals h m₁ → News h₀ env.locals h news → wpAny (model prog w) A (execs orelse env) Q (fun _ _ => False) { s with heap := h, toks := tk })

def ZipSrc (prog : Program) (w : World) (A : Around) (h₀ : Heap) (env : Env) (xi xc : Str) (body orelse : List Stmt) (Q : Flow → Shared → Prop) (xv : Value) (s₁ : Shared) : Prop :=
  wpAny (model prog w) A (pyIter xv) (fun it s₂ => LoopP prog w A h₀ env xi xc body orelse Q it s₂) (fun _ _ => False) s₁

theorem For_P {Q : Flow → Shared → Prop} {xi xc : Str} {pk pv pt pos : Pos} {x1 : Nat} {iter : Expr} {body orelse : List Stmt} (h₀ : Heap) (hh : A.handled = none) (hxi : env.kindOf xi = some .local) (hxc : env.kindOf xc = some .local)
    (hp : (env.scope.kind == .class || (env.scope.kind == .module && env.locals != env.globals)) = false)
    (h : wpAny (model prog w) A (eval iter env) (ZipSrc prog w A h₀ env xi xc body orelse Q) (fun _ _ => False) s)
    (hs : ∀ x, foldedSetIterable iter env x = pure x := by intro _; rfl) :
    wpAny (model prog w) A (exec (.For (.Tuple [.Name xi pk, .Name xc pv] x1 pt) iter body orelse pos) env) Q (fun _ _ => False) s := by
  refine wpAny_For (wpAny_mono h (fun xv s₁ h₁ => wpAny_mono h₁ (fun it s₂ h₂ => ?_) fun _ _ e => e) fun _ _ e => e) hs
  obtain ⟨I, fp, wr, n, Pt, St, Mid, PP, m, news, J, rfl, W, hPt, hLf, hwr, hnf, hst, F, N, h0, turn, done⟩ := h₂
  have hLw : env.locals ∉ wr := fun h => hLf (W.sub _ h)
  have old : ∀ b o, h₀.get? b = some o → b ∉ wr := fun b o e hb => by rw [hwr b hb] at e; cases e
  refine codeAny_forLoop_any
    (fun k s' => ∃ h' tk m' i, s' = { s₂ with heap := h', toks := tk } ∧ St i h' ∧ Fr h₀ env.locals h' m' ∧ News h₀ env.locals h' news ∧ J i m' ∧ i ≤ n ∧ k = n + 1 - i) ?_ (n + 1)
    ⟨s₂.heap, s₂.toks, m, 0, rfl, hst, F, N, h0, Nat.zero_le _, rfl⟩
  rintro k s' ⟨h', tk, m', i, rfl, hst', F', N', hJ, hi, rfl⟩
  have next : ∀ h₁ : Heap, (∀ b o, b ∉ wr → h'.get? b = some o → h₁.get? b = some o) → Fr h₀ env.locals h₁ m' ∧ News h₀ env.locals h₁ news := fun h₁ hk₁ =>
    ⟨⟨F'.ns.at' fun o e => hk₁ _ o hLw e, fun b o e => hk₁ b o (old b o e) (F'.keep b o e), F'.above⟩, fun p hp => ⟨hk₁ _ _ (fun q => hnf p hp (W.sub _ q)) (N' p hp).1, (N' p hp).2⟩⟩
  by_cases hlt : i < n
  · refine W.item i _ _ _ hlt hst' fun T vals h₁ tk₁ hP _ hTup hMid hk₁ => ?_
    obtain ⟨x, y, rfl, hPP⟩ := hPt i vals hP
    refine W.go _ x1 pt i T _ _ _ hMid fun h₂ hst₂ hk₂ => ?_
    have hT₂ : h₂.IsTuple T #[x, y] := hTup.at fun o e => hk₂ T o (W.apart i T h₁ hMid) e
    refine wpAny_assign_Tuple hh hT₂ rfl rfl fun h₃ hx₃ => ?_
    replace hx₃ : Heap.ExtBut h₂.objs.size h₂ h₃ := hx₃
    have up₃ : ∀ b o, h₂.get? b = some o → h₃.get? b = some o := fun b o e => hx₃ b o (Nat.ne_of_lt (Heap.lt_size e)) e
    obtain ⟨F₃, N₃⟩ := next h₃ fun b o hb e => up₃ b o (hk₂ b o hb (hk₁ b o hb e))
    have hst₃ : St (i + 1) h₃ := W.frame _ _ _ hst₂ fun b _ o e => up₃ b o e
    show wpAny _ _ (assignInOrder [assign (.Name xi pk) env, assign (.Name xc pv) env] [x, y]) _ _ _
    refine assignInOrder_cons (wpAny_assign_Name (wpAny_storeName_local hxi F₃.ns (fun h₄ hn₄ hs₄ => ?_) hp))
    have F₄ := F₃.set hn₄ hs₄
    have N₄ := N₃.set hs₄
    refine assignInOrder_cons (wpAny_assign_Name (wpAny_storeName_local hxc F₄.ns (fun h₅ hn₅ hs₅ => ?_) hp))
    have F₅ := F₄.set hn₅ hs₅
    have N₅ := N₄.set hs₅
    refine assignInOrder_nil ?_
    have hst₅ : St (i + 1) h₅ := W.frame _ _ _ hst₃ fun b hb o e => hs₅.extBut b o (fun q => hLf (q ▸ hb)) (hs₄.extBut b o (fun q => hLf (q ▸ hb)) e)
    have Nown : News h₀ env.locals h₅ (ownOf h₀ fp h₅) := news_ownOf hLf
    refine wpAny_mono (turn i x y m' h₅ _ (ownOf h₀ fp h₅) hlt hPP hJ ownOf_sub F₅ (N₅.append Nown)) (fun f s₃ h₃ => ?_) fun _ _ e => e.elim
    have go : (∃ h' tk' m' news', s₃ = { s₂ with heap := h', toks := tk' } ∧ Fr h₀ env.locals h' m' ∧ News h₀ env.locals h' (news' ++ ownOf h₀ fp h₅) ∧ news'.map (·.1) = news.map (·.1) ∧ J (i + 1) m' ∧ news' = news) →
        ∃ m, m < n + 1 - i ∧ (∃ h' tk m' j, s₃ = { s₂ with heap := h', toks := tk } ∧ St j h' ∧ Fr h₀ env.locals h' m' ∧ News h₀ env.locals h' news ∧ J j m' ∧ j ≤ n ∧ m = n + 1 - j) := by
      rintro ⟨g₃, tk₃, m₃, news₃, rfl, F₆, N₆, -, hJ₆, rfl⟩
      refine ⟨n + 1 - (i + 1), by omega, g₃, tk₃, m₃, i + 1, rfl, ?_, F₆, fun p hp => N₆ p (List.mem_append_left _ hp), hJ₆, hlt, rfl⟩
      refine W.frame _ _ _ hst₅ fun b hb o e => ?_
      cases hn : h₀.get? b with
      | some o₀ =>
        have : o₀ = o := by have := F₅.keep b o₀ hn; rw [e] at this; exact (Option.some.inj this).symm
        exact this ▸ F₆.keep b o₀ hn
      | none => exact (N₆ _ (List.mem_append_right _ (mem_ownOf hb hn e))).1
    cases f with
    | ret v => exact h₃
    | brk => exact h₃
    | cont => exact go h₃
    | next => exact go h₃
  · have hin : i = n := by omega
    subst hin
    refine W.done _ _ _ hst' fun h₁ tk₁ hk₁ => ?_
    obtain ⟨F₁, N₁⟩ := next h₁ hk₁
    exact wpAny_mono (done h₁ tk₁ m' hJ F₁ N₁) (fun _ _ x => x) fun _ _ e => e.elim

/-- zip of two lists of ints -/
theorem zip_W {l1 l2 : Addr} {vs1 vs2 : List Value} {ns1 ns2 : List Int} {n : Nat} {m : Str → Option Value} {news : List (Addr × Obj)} {xi xc : Str} {body orelse : List Stmt} {Q : Flow → Shared → Prop}
    (J : Nat → (Str → Option Value) → Prop) (hh : A.handled = none) (hl1 : s.heap.IsList l1 vs1.toArray) (hl2 : s.heap.IsList l2 vs2.toArray) (hI1 : IntsAre vs1 ns1) (hI2 : IntsAre vs2 ns2) (hn1 : ns1.length = n) (hn2 : ns2.length = n)
    (F : Fr h₀ env.locals s.heap m) (N : News h₀ env.locals s.heap news) (ha1 : ∀ p ∈ news, p.1 ≠ l1) (ha2 : ∀ p ∈ news, p.1 ≠ l2) (hL1 : env.locals ≠ l1) (hL2 : env.locals ≠ l2) (h0 : J 0 m)
    (turn : ∀ i a b ta tb m₁ h tk own, i < n → ns1[i]? = some a → ns2[i]? = some b → J i m₁ → OwnOff own (news.map (·.1)) → Fr h₀ env.locals h (fun z => if z = xc then some (.int b tb) else if z = xi then some (.int a ta) else m₁ z) → News h₀ env.locals h (news ++ own) →
      wpAny (model prog w) A (execs body env) (TurnN h₀ env.locals own (news.map (·.1)) (fun m n => J (i + 1) m ∧ n = news) { s with heap := h, toks := tk } Q) (fun _ _ => False) { s with heap := h, toks := tk })
    (done : ∀ h tk m₁, J n m₁ → Fr h₀ env.locals h m₁ → News h₀ env.locals h news → wpAny (model prog w) A (execs orelse env) Q (fun _ _ => False) { s with heap := h, toks := tk }) :
    wpAny (model prog w) A (call (.type "zip") [.ref l1, .ref l2]) (ZipSrc prog w A h₀ env xi xc body orelse Q) (fun _ _ => False) s := by
  refine call_zip_2 hl1 hl2 fun h' hz hTI hTO hi1 hi2 hsz hk => ?_
  unfold ZipSrc
  have lt1 : l1 < s.heap.objs.size := by obtain ⟨_, e, _⟩ := hl1; exact Heap.lt_size e
  have lt2 : l2 < s.heap.objs.size := by obtain ⟨_, e, _⟩ := hl2; exact Heap.lt_size e
  generalize hS : s.heap.objs.size = S at *
  have ne : ∀ {a : Addr} (k : Nat), a < S → a ≠ S + k := fun k h e => by subst e; exact absurd h (Nat.not_lt.mpr (Nat.le_add_right _ _))
  have D : ZipApart (S + 4) (S + 2) (S + 3) S (S + 1) l1 l2 := by
    constructor <;> first | exact ne _ lt1 | exact ne 0 lt1 | exact ne _ lt2 | exact ne 0 lt2 | (intro e; simp at e) | (intro e; exact absurd (Nat.add_left_cancel (m := 0) e) (by decide))
  have W := WalksT.zip2 (prog := prog) (w := w) hh (S + 4) (S + 2) (S + 3) S (S + 1) l1 l2 D vs1.toArray vs2.toArray
  refine wpAny_pyIter_zip (s := { s with heap := h' }) hz ?_
  have hmin : min vs1.toArray.size vs2.toArray.size = n := by
    rw [List.size_toArray, List.size_toArray, hI1.length, hI2.length, hn1, hn2]; exact Nat.min_self _
  have hfr : ∀ b : Addr, S ≤ b → h₀.get? b = none := fun b hb => by
    cases e : h₀.get? b with
    | none => rfl
    | some o => exact absurd (Heap.lt_size (F.keep b o e)) (by rw [hS]; exact Nat.not_lt.mpr hb)
  have hltL : env.locals < S := hS ▸ F.ns.lt
  have hltN : ∀ p ∈ news, p.1 < S := fun p hp => hS ▸ Heap.lt_size (N p hp).1
  have memfp : ∀ a : Addr, a < S → a ≠ l1 → a ≠ l2 → a ∉ [S + 4, S + 2, S + 3, S, S + 1, l1, l2] := fun a ha h1 h2 hm => by
    simp only [List.mem_cons, List.not_mem_nil, or_false] at hm
    rcases hm with e | e | e | e | e | e | e
    · exact ne 4 ha e
    · exact ne 2 ha e
    · exact ne 3 ha e
    · exact ne 0 ha e
    · exact ne 1 ha e
    · exact h1 e
    · exact h2 e
  refine ⟨S + 4, _, _, _, _, _, _, (fun i x y => ∃ a b ta tb, x = .int a ta ∧ y = .int b tb ∧ ns1[i]? = some a ∧ ns2[i]? = some b), m, news, J, rfl, W, ?_, memfp _ hltL hL1 hL2, ?_, fun p hp => memfp _ (hltN p hp) (ha1 p hp) (ha2 p hp),
    ⟨hz, hTI, ⟨_, _, hTO⟩, hi1, hi2, hl1.at fun o e => hk _ o e, hl2.at fun o e => hk _ o e⟩, F.keeps hk, N.grown hk, h0, ?_, ?_⟩
  · rintro i vals ⟨x, y, hx, hy, rfl⟩
    obtain ⟨a, ta, rfl, ha⟩ := ints_at hI1 (by simpa using hx)
    obtain ⟨b, tb, rfl, hb⟩ := ints_at hI2 (by simpa using hy)
    exact ⟨_, _, rfl, a, b, ta, tb, rfl, rfl, ha, hb⟩
  · intro b hb
    simp only [List.mem_cons, List.not_mem_nil, or_false] at hb
    rcases hb with rfl | rfl | rfl | rfl
    · exact hfr _ (Nat.le_add_right _ _)
    · exact hfr _ (Nat.le_add_right _ _)
    · exact hfr _ (Nat.le_refl _)
    · exact hfr _ (Nat.le_add_right _ _)
  · rintro i x y m₁ h tk own hi ⟨a, b, ta, tb, rfl, rfl, ha, hb⟩ hJ hown F₁ N₁
    refine turn i a b ta tb m₁ h tk own (hmin ▸ hi) ha hb hJ (fun p hp b hb e => ?_) F₁ N₁
    obtain ⟨q, hq, rfl⟩ := List.mem_map.mp hb
    exact memfp _ (hltN q hq) (ha1 q hq) (ha2 q hq) (e ▸ hown p hp)
  · intro h tk m₁ hJ F₁ N₁
    exact done h tk m₁ (hmin ▸ hJ) F₁ N₁
end
end Mine
end
-- part LawA
section
open PySem PySem.W PyProof.Rows PySem.Calls
set_option Elab.async false
set_option maxRecDepth 100000
set_option maxHeartbeats 8000000
set_option exponentiation.threshold 2000
namespace Mine
/-- the code of a script's sign -/
def sgn (x : Int) : Nat := match (x % 6).toNat with
  | 0 => 46 | 1 => 46 | 2 => 10 | 3 => 13 | 4 => 97 | _ => (x / 6 % 256).toNat
theorem sgn_lt (x : Int) : sgn x < 256 := by
  unfold sgn
  split <;> first | decide | omega
theorem sgn_at (c : Int) (t0 t1 t2 t3 t4 t5 : Tok) : ∃ t, (#[Value.str (Str.ofString ".") t0, Value.str (Str.ofString ".") t1, Value.str (Str.ofString "\n") t2, Value.str (Str.ofString "\r") t3, Value.str (Str.ofString "a") t4, Value.str ⟨#[((c.fdiv 6).fmod 256).toNat]⟩ t5] : Array Value)[(c.fmod 6).toNat]? = some (.str ⟨#[sgn c]⟩ t) := by
  have h1 : c.fmod 6 = c % 6 := Int.fmod_eq_emod_of_nonneg _ (by decide)
  have h2 : c.fdiv 6 = c / 6 := Int.fdiv_eq_ediv_of_nonneg _ (by decide)
  have h3 : (c / 6).fmod 256 = c / 6 % 256 := Int.fmod_eq_emod_of_nonneg _ (by decide)
  rw [h1, h2, h3]
  have hlt : (c % 6).toNat < 6 := by omega
  have d1 : Str.ofString "." = ⟨#[46]⟩ := by decide +kernel
  have d2 : Str.ofString "a" = ⟨#[97]⟩ := by decide +kernel
  rw [d1, d2, nl_eq, cr_eq]
  unfold sgn
  generalize (c % 6).toNat = r at *
  match r, hlt with
  | 0, _ => exact ⟨_, rfl⟩
  | 1, _ => exact ⟨_, rfl⟩
  | 2, _ => exact ⟨_, rfl⟩
  | 3, _ => exact ⟨_, rfl⟩
  | 4, _ => exact ⟨_, rfl⟩
  | 5, _ => exact ⟨_, rfl⟩
  | n + 6, h => exact absurd h (by omega)
def tailA : Array Nat := (Str.ofString "..a.\n.\r\n...\r\ra.\n\n.\x0b.\n\r.").cps
def txt0 (xs : List Int) : Array Nat := ((xs.take 10).map sgn).toArray ++ tailA
theorem tailA_size : tailA.size = 23 := by decide +kernel
theorem txt0_size (xs : List Int) : (txt0 xs).size ≤ 33 := by
  unfold txt0
  rw [Array.size_append, tailA_size, List.size_toArray, List.length_map]
  have := List.length_take_le 10 xs
  omega
theorem join_txt (xs : List Int) : Str.join (Str.ofString "") (((xs.take 10).map sgn).map fun c => (⟨#[c]⟩ : Str)) ++ Str.ofString "..a.\n.\r\n...\r\ra.\n\n.\x0b.\n\r." = ⟨txt0 xs⟩ := by
  have h := join_cat (((xs.take 10).map sgn).map fun c => #[c])
  rw [List.map_map] at h
  have e : Str.ofString "" = ⟨#[]⟩ := rfl
  rw [e]
  have h2 : (((xs.take 10).map sgn).map fun c => (⟨#[c]⟩ : Str)) = ((xs.take 10).map sgn).map (Str.mk ∘ fun c => #[c]) := rfl
  rw [h2, h]
  have h3 : cat (((xs.take 10).map sgn).map fun c => #[c]) = ((xs.take 10).map sgn).toArray := by
    unfold cat
    rw [List.map_map]
    congr 1
    generalize (xs.take 10).map sgn = l
    induction l with
    | nil => rfl
    | cons x r ih => simp only [List.map_cons, List.flatten_cons, ih]; rfl
  rw [h3]
  rfl
theorem signs_are {xs : List Int} {ys : List Value} (h : Each (fun y i => IsS y ⟨#[sgn ((xs.take 10).getD i 0)]⟩) ys (List.range (xs.take 10).length)) : StrsAre ys (((xs.take 10).map sgn).map fun c => (⟨#[c]⟩ : Str)) := by
  have h2 := (h.map (El' := IsS) (fun i => (⟨#[sgn ((xs.take 10).getD i 0)]⟩ : Str)) fun _ _ e => e).strs
  have e : (List.range (xs.take 10).length).map (fun i => (⟨#[sgn ((xs.take 10).getD i 0)]⟩ : Str)) = ((xs.take 10).map sgn).map fun c => (⟨#[c]⟩ : Str) := by
    rw [List.map_map]
    generalize xs.take 10 = l
    apply List.ext_getElem (by simp)
    intro j h1 h2
    simp only [List.length_map, List.length_range] at h1
    simp [h1]
  rw [← e]
  exact h2
theorem join_ok0 (xs : List Int) : JoinOk (Str.ofString "") (((xs.take 10).map sgn).map fun c => (⟨#[c]⟩ : Str)) = true := by
  refine joinOk_of_weight ?_ (by decide)
  have := sum_le_len (B := 1) (((xs.take 10).map sgn).map fun c => (⟨#[c]⟩ : Str)) (fun y hy => by
    obtain ⟨c, _, rfl⟩ := List.mem_map.mp hy
    exact Nat.le_refl 1)
  rw [List.length_map, List.length_map] at this
  have h2 := List.length_take_le 10 xs
  simp only [List.length_map]
  omega
def dotA (a : Array Nat) (k : Nat) : Array Nat := if ib (toldI a 0) k then #[46] else #[]
def partA (a : Array Nat) (k : Nat) : Array Nat := (if ib (toldI a 3) k then #[13] else #[]) ++ #[a.getD k 0] ++ (if ib (toldI a 4) k then #[10] else #[])
def fr (a : Array Nat) (k : Nat) : Bool := (#[10] ++ a).getD k 0 == 10
def sentTo (a : Array Nat) : Nat → Array Nat
  | 0 => #[]
  | k + 1 => sentTo a k ++ dotA a k ++ partA a k
def mendTo (a : Array Nat) : Nat → Array Nat
  | 0 => #[]
  | k + 1 => mendTo a k ++ partA a k
def dotdTo (a : Array Nat) : Nat → Array Nat
  | 0 => #[]
  | k + 1 => dotdTo a k ++ (if fr a k then dotA a k else #[]) ++ #[a.getD k 0]
def sentA (a : Array Nat) : Array Nat := sentTo a a.size
def txt (xs : List Int) : Nat → Array Nat
  | 0 => txt0 xs
  | i + 1 => sentA (txt xs i)
theorem dotA_size (a : Array Nat) (k : Nat) : (dotA a k).size ≤ 1 := by unfold dotA; split <;> simp
theorem partA_size (a : Array Nat) (k : Nat) : (partA a k).size ≤ 3 := by unfold partA; split <;> split <;> simp
theorem sentTo_size (a : Array Nat) : ∀ k, (sentTo a k).size ≤ 4 * k
  | 0 => Nat.zero_le _
  | k + 1 => by
    have h1 := dotA_size a k
    have h2 := partA_size a k
    have h3 := sentTo_size a k
    unfold sentTo
    rw [Array.size_append, Array.size_append]
    omega
theorem mendTo_size (a : Array Nat) : ∀ k, (mendTo a k).size ≤ 4 * k
  | 0 => Nat.zero_le _
  | k + 1 => by
    have h2 := partA_size a k
    have h3 := mendTo_size a k
    unfold mendTo
    rw [Array.size_append]
    omega
theorem dotdTo_size (a : Array Nat) : ∀ k, (dotdTo a k).size ≤ 4 * k
  | 0 => Nat.zero_le _
  | k + 1 => by
    have h1 := dotA_size a k
    have h3 := dotdTo_size a k
    unfold dotdTo
    rw [Array.size_append, Array.size_append]
    have : (if fr a k = true then dotA a k else #[]).size ≤ 1 := by split <;> simp [h1]
    simp only [List.size_toArray, List.length_cons, List.length_nil]
    omega
theorem txt_size (xs : List Int) {i : Nat} (h : i < 2) : (txt xs i).size ≤ 132 := by
  have h0 := txt0_size xs
  match i, h with
  | 0, _ => exact Nat.le_trans h0 (by decide)
  | 1, _ =>
    have := sentTo_size (txt0 xs) (txt0 xs).size
    show (sentTo (txt0 xs) (txt0 xs).size).size ≤ 132
    omega
theorem all_append {p : Nat → Prop} {a b : Array Nat} (ha : ∀ c ∈ a, p c) (hb : ∀ c ∈ b, p c) : ∀ c ∈ a ++ b, p c := fun c hc => by
  rcases Array.mem_append.mp hc with h | h
  · exact ha c h
  · exact hb c h
theorem sentTo_lt {a : Array Nat} (ha : ∀ c ∈ a, c < 256) : ∀ k, k ≤ a.size → ∀ c ∈ sentTo a k, c < 256
  | 0, _ => fun c hc => by simp [sentTo] at hc
  | k + 1, hk => by
    have hg : a.getD k 0 < 256 := ha _ (by
      rw [Array.getD_eq_getD_getElem?, Array.getElem?_eq_getElem (by omega)]
      exact Array.getElem_mem _)
    unfold sentTo
    refine all_append (all_append (sentTo_lt ha k (by omega)) ?_) ?_
    · intro c hc
      unfold dotA at hc
      split at hc <;> simp at hc
      omega
    · unfold partA
      refine all_append (all_append ?_ ?_) ?_
      · intro c hc
        split at hc <;> simp at hc
        omega
      · rintro c ⟨hc⟩
        cases hc with
        | head => exact hg
        | tail _ h => cases h
      · intro c hc
        split at hc <;> simp at hc
        omega
theorem txt0_lt (xs : List Int) : ∀ c ∈ txt0 xs, c < 256 := by
  unfold txt0
  refine all_append ?_ ?_
  · intro c hc
    rw [List.mem_toArray] at hc
    obtain ⟨x, _, rfl⟩ := List.mem_map.mp hc
    exact sgn_lt x
  · have : tailA.all (fun c => decide (c < 256)) = true := by decide +kernel
    intro c hc
    have := Array.all_eq_true_iff_forall_mem.mp this c hc
    simpa using this
theorem txt_lt (xs : List Int) : ∀ i, ∀ c ∈ txt xs i, c < 256
  | 0 => txt0_lt xs
  | i + 1 => sentTo_lt (txt_lt xs i) _ (Nat.le_refl _)
def JL (xs : List Int) (i : Nat) (m : Str → Option Value) (news : List (Addr × Obj)) : Prop := (∃ T, m (Str.ofString "text") = some (.str ⟨txt xs i⟩ T)) ∧ news = []
/-- the names of the inner loop -/
def JK (a : Array Nat) (T u0 tl tf tr : Tok) (D : Addr) (u : Int) (i : Nat) (m : Str → Option Value) : Prop :=
  m (Str.ofString "text") = some (.str ⟨a⟩ T) ∧ m (Str.ofString "up") = some (.int u u0) ∧ m (Str.ofString "told") = some (.ref D) ∧ m (Str.ofString "led") = some (.int (toldI a 0) tl) ∧ m (Str.ofString "feeds") = some (.int (toldI a 3) tf) ∧ m (Str.ofString "returns") = some (.int (toldI a 4) tr) ∧
  (∃ t, m (Str.ofString "sent") = some (.str ⟨sentTo a i⟩ t)) ∧ (∃ t, m (Str.ofString "mended") = some (.str ⟨mendTo a i⟩ t)) ∧ ∃ t, m (Str.ofString "dotted") = some (.str ⟨dotdTo a i⟩ t)
theorem news_new {h₀ h h' : Heap} {L D : Addr} {m : Str → Option Value} {o : Obj} (F : Fr h₀ L h m) (hD : h.get? D = none) (hg : h'.get? D = some o) : News h₀ L h' [(D, o)] := by
  intro p hp
  rw [List.mem_singleton.mp hp]
  refine ⟨hg, ?_, ?_⟩
  · rintro rfl
    obtain ⟨oL, _, _, e, _⟩ := F.ns
    rw [e] at hD; cases hD
  · exact old_none F.keep hD
theorem news_more {h₀ h h' : Heap} {L D : Addr} {m : Str → Option Value} {o : Obj} {news : List (Addr × Obj)} (F : Fr h₀ L h m) (N : News h₀ L h news) (hk : Kp h h') (hD : h.get? D = none) (hg : h'.get? D = some o) : News h₀ L h' ((D, o) :: news) := by
  intro p hp
  rcases List.mem_cons.mp hp with rfl | hp
  · exact news_new F hD hg _ (.head _)
  · exact ⟨hk _ _ (N p hp).1, (N p hp).2⟩
def nlS (a : Array Nat) : Str := Str.ofString "\n" ++ ⟨a⟩
theorem nla_size (a : Array Nat) : (nlS a).cps.size = a.size + 1 := by
  have h : (nlS a).length = a.size + 1 := by
    unfold nlS
    rw [len_app, len_nl, len_cps]; omega
  exact h
theorem fr_eq {a : Array Nat} {k : Nat} : ((⟨#[(nlS a).cps.getD ((k : Int)).toNat 0]⟩ : Str) == Str.ofString "\n") = fr a k := by
  unfold nlS
  have e : (k : Int).toNat = k := by omega
  rw [e, one_eq _ _ 10 nl_eq, nl_eq]
  rfl
theorem dotz {a : Array Nat} {k : Nat} {b : Bool} (h : b = fr a k) : (if b = true then (⟨if ib (toldI a 0) k = true then #[46] else #[]⟩ : Str) else ⟨#[]⟩) = ⟨if fr a k = true then dotA a k else #[]⟩ := by
  subst h
  unfold dotA
  split <;> rfl
theorem len_dz {a : Array Nat} {k : Nat} : Str.length ⟨if fr a k = true then dotA a k else #[]⟩ ≤ 1 := by
  split
  · exact dotA_size a k
  · exact Nat.zero_le 1
theorem len_sg (c : Nat) : Str.length ⟨#[c]⟩ = 1 := rfl
theorem len_ifle {b : Bool} {c : Nat} : Str.length ⟨if b = true then #[c] else #[]⟩ ≤ 1 := by
  cases b
  · exact Nat.zero_le 1
  · exact Nat.le_refl 1
theorem len_le {a : Array Nat} {n : Nat} (h : a.size ≤ n) : Str.length ⟨a⟩ ≤ n := h
theorem len_if {b : Bool} {c : Nat} : Str.length ⟨if b = true then #[c] else #[]⟩ = if b = true then 1 else 0 := by
  cases b <;> rfl
theorem ns_ne {h₀ h : Heap} {L D : Addr} {m : Str → Option Value} (F : Fr h₀ L h m) (hlt : ∀ b o, h.get? b = some o → b < D) : L ≠ D := by
  rintro rfl
  obtain ⟨oL, _, _, e, _⟩ := F.ns
  exact absurd (hlt _ _ e) (Nat.lt_irrefl _)
theorem ups {i : Nat} {v : Value} {t u : Tok} (h : (#[Value.int 0 t, .int 5 u] : Array Value)[i]? = some v) : ∃ c tc, v = .int c tc ∧ (c = 0 ∨ c = 5) := by
  match i, h with
  | 0, h => exact ⟨_, _, (Option.some.inj h).symm, .inl rfl⟩
  | 1, h => exact ⟨_, _, (Option.some.inj h).symm, .inr rfl⟩
  | n + 2, h => simp at h
section
variable {prog : Program} {w : World} {A : Around} {E : Value → Shared → Prop} {s : Shared}
theorem newTup_K {items : List Value} {Q : Value → Shared → Prop} (hsz : items.length ≤ 100) (h : ∀ D h', Kp s.heap h' → (∀ b o, s.heap.get? b = some o → b < D) → IsTup h' D items.toArray → Q (.ref D) { s with heap := h' }) : wpAny (model prog w) A (newTuple items) Q E s := by
  refine wpAny_newTuple (h _ _ (fun b o e => Heap.get?_push_of_some _ e) (fun b o e => Heap.lt_size e) ⟨_, Heap.get?_push_size _ rfl, rfl, _, rfl⟩) ?_
  rw [sizeLine_eq]; omega
theorem dot_eq : Str.ofString "." = ⟨#[46]⟩ := by decide +kernel
theorem mulC {x z : Str} {n : Int} {b : Bool} {t u : Tok} {Q : Value → Shared → Prop} (hn : n = if b = true then 1 else 0) (hz : (if b = true then x else ⟨#[]⟩) = z) (h : ∀ t' k', Q (.str z t') { s with toks := k' }) :
    wpAny (model prog w) A (binaryOp .Mult (.str x t) (.int n u)) Q E s := by
  subst hz hn
  cases b with
  | true =>
    refine SB.mul ⟨by decide, fun _ hc => ?_, fun _ hc => ?_⟩ fun t' k' => ?_
    · simp at hc
    · simp at hc
    · have : Txt.mul x (if true = true then 1 else 0) = x := rfl
      rw [this]
      exact h t' k'
  | false =>
    refine SB.mul ⟨by decide, fun hc _ => ?_, fun hc _ => ?_⟩ fun t' k' => ?_
    · exact absurd (by decide) hc
    · exact absurd (by decide) hc
    · have : Txt.mul x (if false = true then 1 else 0) = ⟨#[]⟩ := rfl
      rw [this]
      exact h t' k'
theorem bitv (y : Int) (k : Nat) : (y.fdiv (2 ^ (k : Int).toNat)).fmod 2 = if ib y k = true then 1 else 0 := by
  have e : (k : Int).toNat = k := by omega
  rw [e, Int.fdiv_eq_ediv_of_nonneg _ (Int.le_of_lt (two_pow_pos' k)), Int.fmod_eq_emod_of_nonneg _ (by decide)]
  unfold ib
  by_cases h : y / 2 ^ k % 2 = 1
  · simp [h]
  · simp only [h, decide_false]
    have := Int.emod_two_eq (y / 2 ^ k)
    rcases this with h1 | h1
    · rw [h1]; rfl
    · exact absurd h1 h
theorem mulB {x : Str} {y : Int} {c k : Nat} {t u : Tok} {Q : Value → Shared → Prop} (hx : x = ⟨#[c]⟩) (h : ∀ t' k', Q (.str ⟨if ib y k = true then #[c] else #[]⟩ t') { s with toks := k' }) :
    wpAny (model prog w) A (binaryOp .Mult (.str x t) (.int ((y.fdiv (2 ^ (k : Int).toNat)).fmod 2) u)) Q E s := by
  refine mulC (bitv y k) ?_ h
  subst hx
  split <;> rfl
theorem newTup_L {items : List Value} {h₀ : Heap} {L : Addr} {m : Str → Option Value} {news : List (Addr × Obj)} {Q : Value → Shared → Prop} (F : Fr h₀ L s.heap m) (N : News h₀ L s.heap news) (hsz : items.length ≤ 100)
    (h : ∀ D h', Fr h₀ L h' m → News h₀ L h' ((D, { cls := .type "tuple", data := .seq items.toArray }) :: news) → AllLt D news → Q (.ref D) { s with heap := h' }) : wpAny (model prog w) A (newTuple items) Q E s := by
  refine newTuple_N F N (fun h' F' N' => h _ h' F' N' (allLt_of fun p hp => Heap.lt_size (N p hp).1)) ?_
  rw [sizeLine_eq]; omega
theorem item_tupK {value slice : PySem.Expr} {t : Addr} {items : Array Value} {k : Int} {u : Tok} {v : Value} {Q : Value → Shared → Prop} (ht : IsTup s.heap t items) (h0 : 0 ≤ k) (hk : k.toNat < items.size) (hz : items.size ≤ 100) (hv : items[k.toNat]? = some v) (h : Q v s)
    (hs : subscripted slice false (.ref t) (.int k u) = operate [.ref t, .int k u] (getItem (.ref t) (.int k u)) := by with_unfolding_all rfl) :
    wpAny (model prog w) A (subscriptTail value slice (.ref t) (.int k u)) Q E s := by
  refine tail_any ht.typeIs slot_tuple_getitem.lookup (getItem_tuple ht (by omega) (by omega) (j := k.toNat) ?_ hv h) hs
  unfold seqIndex?
  have hj : (if k < 0 then k + (items.size : Int) else k) = k := if_neg (by omega)
  simp only [hj]
  rw [if_pos (by simp only [Bool.and_eq_true, decide_eq_true_eq]; omega)]
end
end Mine
end
-- part LawB
section
open PySem PySem.W PyProof.Rows PySem.Calls
set_option Elab.async false
set_option maxRecDepth 100000
set_option maxHeartbeats 8000000
set_option exponentiation.threshold 2000
namespace Mine
/-- the sum of the powers at the places below n that q names -/
def sm (q : Nat → Bool) (n : Nat) : Int := (pows (((List.range n).filter q).map fun k : Nat => (k : Int))).sum
theorem sm_succ (q : Nat → Bool) (n : Nat) : sm q (n + 1) = sm q n + if q n = true then 2 ^ n else 0 := by
  unfold sm pows
  rw [List.range_succ, List.filter_append, List.map_append, List.map_append, List.sum_append]
  congr 1
  cases h : q n <;> simp [h]
theorem sm_b (q : Nat → Bool) : ∀ n, 0 ≤ sm q n ∧ sm q n < 2 ^ n
  | 0 => ⟨Int.le_refl 0, (by decide : (0 : Int) < 2 ^ 0)⟩
  | n + 1 => by
    have h := sm_b q n
    have hp := two_pow_pos' n
    rw [sm_succ, Int.pow_succ]
    split <;> omega
theorem ib_high {x : Int} {n k : Nat} (h0 : 0 ≤ x) (h : x < 2 ^ n) (hk : n ≤ k) : ib x k = false := by
  obtain ⟨m, rfl⟩ : ∃ m : Nat, x = m := ⟨x.toNat, by omega⟩
  rw [ib_nat]
  have hc : ((2 : Int) ^ n) = ((2 ^ n : Nat) : Int) := by push_cast; rfl
  rw [hc] at h
  exact Nat.testBit_lt_two_pow (Nat.lt_of_lt_of_le (by omega) (Nat.pow_le_pow_right (by decide) hk))
theorem ib_addpow {x : Int} {n : Nat} (h0 : 0 ≤ x) (h : x < 2 ^ n) (k : Nat) : ib (x + 2 ^ n) k = (ib x k || decide (n = k)) := by
  have hd : x + 2 ^ n = Builtin.bitOr x (2 ^ n) := add_disj (fun k => by
    rw [ib_pow]
    by_cases e : n = k
    · subst e; rw [ib_high h0 h (Nat.le_refl _)]; rfl
    · simp [e]) h0 (Int.le_of_lt (two_pow_pos' n))
  rw [hd, ib_or, ib_pow]
theorem ib_sm (q : Nat → Bool) (k : Nat) : ∀ n, ib (sm q n) k = (decide (k < n) && q k)
  | 0 => by
    have : sm q 0 = 0 := rfl
    rw [this, ib_zero]
    simp
  | n + 1 => by
    have h := sm_b q n
    have ih := ib_sm q k n
    rw [sm_succ]
    cases hq : q n with
    | true =>
      rw [if_pos rfl, ib_addpow h.1 h.2, ih]
      by_cases e : n = k
      · subst e; simp [hq]
      · have : k < n + 1 ↔ k < n := by omega
        simp [e, this]
    | false =>
      rw [if_neg (by decide), Int.add_zero, ih]
      by_cases e : n = k
      · subst e; simp [hq]
      · have : k < n + 1 ↔ k < n := by omega
        simp [this]
theorem sm_congr {p q : Nat → Bool} {n : Nat} (h : ∀ k, k < n → p k = q k) : sm p n = sm q n := by
  apply ib_ext
  intro k
  rw [ib_sm, ib_sm]
  by_cases hk : k < n
  · rw [h k hk]
  · simp [hk]
theorem sm_disj {p q r : Nat → Bool} {n : Nat} (h : ∀ k, k < n → r k = (p k || q k)) (hd : ∀ k, k < n → (p k && q k) = false) : sm r n = sm p n + sm q n := by
  rw [add_disj _ (sm_b p n).1 (sm_b q n).1]
  · apply ib_ext
    intro k
    rw [ib_or, ib_sm, ib_sm, ib_sm]
    by_cases hk : k < n
    · rw [h k hk]; simp [hk]
    · simp [hk]
  · intro k
    rw [ib_sm, ib_sm]
    by_cases hk : k < n
    · simp only [hk, decide_true, Bool.true_and]; exact hd k hk
    · simp [hk]
/-- what stands behind a place -/
def opn (R : Nat → Bool) : Nat → Bool
  | 0 => false
  | k + 1 => R k
theorem carry {L R D S : Nat → Bool} (hR : ∀ k, R k = (D k && (S k || opn R k))) (hL : ∀ k, L k = (D k && S k)) (hS : ∀ k, (S k && opn R k) = false) : ∀ n,
    sm L n + sm R n = sm (fun k => opn R k && !R k) n + if opn R n = true then 2 ^ n else 0
  | 0 => rfl
  | n + 1 => by
    have ih := carry hR hL hS n
    have hr := hR n
    have hl := hL n
    have hs := hS n
    rw [sm_succ, sm_succ, sm_succ]
    have e : opn R (n + 1) = R n := rfl
    rw [e]
    have h2 : (2 : Int) ^ (n + 1) = 2 ^ n + 2 ^ n := by rw [Int.pow_succ]; omega
    rw [h2]
    generalize opn R n = o at *
    generalize R n = r at *
    generalize L n = l at *
    generalize D n = d at *
    generalize S n = s at *
    cases d <;> cases s <;> cases o <;> simp at hr hl hs <;> subst hr <;> subst hl <;> simp at ih ⊢ <;> omega
theorem carry_end {L R D S : Nat → Bool} {n : Nat} (hR : ∀ k, R k = (D k && (S k || opn R k))) (hL : ∀ k, L k = (D k && S k)) (hS : ∀ k, (S k && opn R k) = false) (hD : ∀ k, n ≤ k → D k = false) :
    Builtin.bitAnd (sm L n + sm D n) (Builtin.bitNot (sm D n)) = sm (fun k => opn R k && !R k) (n + 1) := by
  have h1 := carry hR hL hS n
  have hRn : R n = false := by rw [hR, hD n (Nat.le_refl _)]; rfl
  have h2 : sm (fun k => opn R k && !R k) (n + 1) = sm (fun k => opn R k && !R k) n + if opn R n = true then 2 ^ n else 0 := by
    rw [sm_succ]
    simp [hRn]
  have h3 : sm D n = sm R n + sm (fun k => D k && !R k) n := sm_disj (fun k _ => by rw [hR k]; cases D k <;> cases S k <;> cases opn R k <;> rfl) (fun k _ => by cases D k <;> cases R k <;> rfl)
  have h4 : sm L n + sm D n = sm (fun k => opn R k && !R k) (n + 1) + sm (fun k => D k && !R k) n := by rw [h3, h2, ← h1]; omega
  have h5 : sm (fun k => opn R k && !R k) (n + 1) + sm (fun k => D k && !R k) n = Builtin.bitOr (sm (fun k => opn R k && !R k) (n + 1)) (sm (fun k => D k && !R k) n) := by
    refine add_disj (fun k => ?_) (sm_b _ _).1 (sm_b _ _).1
    rw [ib_sm, ib_sm, hR k]
    cases D k <;> cases S k <;> cases opn R k <;> simp
  rw [h4, h5]
  apply ib_ext
  intro k
  rw [ib_and, ib_or, ib_not, ib_sm, ib_sm, ib_sm]
  have hk := hR k
  by_cases hlt : k < n
  · have : k < n + 1 := by omega
    simp only [hlt, this, decide_true, Bool.true_and]
    rw [hk]
    cases D k <;> cases S k <;> cases opn R k <;> rfl
  · simp [hlt]
theorem carry_runs {L R D S : Nat → Bool} {n : Nat} (hR : ∀ k, R k = (D k && (S k || opn R k))) (hL : ∀ k, L k = (D k && S k)) (hS : ∀ k, (S k && opn R k) = false) (hD : ∀ k, n ≤ k → D k = false) :
    Builtin.bitAnd (sm L n + sm D n) (Builtin.bitNot (sm D n)) - sm L n = sm R n := by
  rw [carry_end hR hL hS hD]
  have h1 := carry hR hL hS n
  have hRn : R n = false := by rw [hR, hD n (Nat.le_refl _)]; rfl
  rw [sm_succ]
  simp only [hRn, Bool.not_false, Bool.and_true]
  omega

/-- codes of a text -/
abbrev Octets (a : Array Nat) : Prop := ∀ c ∈ a, c < 256
theorem getD_lt {a : Array Nat} (ha : Octets a) (k : Nat) : a.getD k 0 < 256 := by
  rw [Array.getD_eq_getD_getElem?]
  by_cases h : k < a.size
  · rw [Array.getElem?_eq_getElem h]
    exact ha _ (Array.getElem_mem _)
  · rw [Array.getElem?_eq_none (by omega)]
    decide
theorem cond_nat (c b : Nat) : cond (c : Int) b = c.testBit b := by
  have e : ((b : Int)).toNat = b := by omega
  unfold cond
  rw [e, Int.fdiv_eq_ediv_of_nonneg _ (Int.le_of_lt (two_pow_pos' b)), Int.fmod_eq_emod_of_nonneg _ (by decide)]
  have h := ib_nat c b
  unfold ib at h
  rw [← h]
  rfl
theorem ib_plane (a : Array Nat) (b k : Nat) : ib (plane a b) k = (decide (k < a.size) && (a.getD k 0).testBit b) := ib_sm (bt a b) k a.size
theorem ib_orTo (a : Array Nat) (c k : Nat) : ∀ m, ib (orTo a (c : Int) m) k = false ↔ ∀ b, b < m → c.testBit b = ib (plane a b) k
  | 0 => by
    have : orTo a (c : Int) 0 = 0 := rfl
    rw [this, ib_zero]
    exact ⟨fun _ b hb => absurd hb (Nat.not_lt_zero _), fun _ => rfl⟩
  | m + 1 => by
    have ih := ib_orTo a c k m
    rw [orTo_succ, ib_or, cond_nat, Bool.or_eq_false_iff, ih]
    have e : ib (if c.testBit m = true then Builtin.bitNot (plane a m) else plane a m) k = false ↔ c.testBit m = ib (plane a m) k := by
      cases hc : c.testBit m with
      | true => rw [if_pos rfl, ib_not]; cases ib (plane a m) k <;> simp
      | false => rw [if_neg (by decide)]; cases ib (plane a m) k <;> simp
    rw [e]
    constructor
    · rintro ⟨h1, h2⟩ b hb
      rcases Nat.lt_succ_iff_lt_or_eq.mp hb with h | rfl
      · exact h1 b h
      · exact h2
    · exact fun h => ⟨fun b hb => h b (by omega), h m (by omega)⟩
theorem ib_full (a : Array Nat) (k : Nat) : ib (fullI a) k = decide (k < a.size) := by
  have e : fullI a = sm (fun _ => true) a.size := by
    unfold fullI
    have e : ((a.size : Int)).toNat = a.size := by omega
    rw [e]
    generalize a.size = n
    induction n with
    | zero => rfl
    | succ n ih => rw [sm_succ, ← ih, Int.pow_succ]; simp only [if_true]; omega
  rw [e, ib_sm, Bool.and_true]
theorem ib_kind {a : Array Nat} (ha : Octets a) {c : Nat} (hc : c < 256) (k : Nat) : ib (kindI a (c : Int)) k = (decide (k < a.size) && a.getD k 0 == c) := by
  unfold kindI
  rw [ib_and, ib_not, ib_full]
  by_cases hk : k < a.size
  · simp only [hk, decide_true, Bool.true_and]
    have h := ib_orTo a c k 8
    have hg := getD_lt ha k
    have e : (∀ b, b < 8 → c.testBit b = ib (plane a b) k) ↔ a.getD k 0 = c := by
      simp only [ib_plane, hk, decide_true, Bool.true_and]
      constructor
      · intro h
        apply Nat.eq_of_testBit_eq
        intro b
        by_cases hb : b < 8
        · exact (h b hb).symm
        · have h8 : (2 : Nat) ^ 8 ≤ 2 ^ b := Nat.pow_le_pow_right (by decide) (by omega)
          rw [Nat.testBit_lt_two_pow (by omega), Nat.testBit_lt_two_pow (by omega)]
      · rintro rfl b _; rfl
    rw [e] at h
    by_cases hx : a.getD k 0 = c
    · rw [h.mpr hx]; simp [hx]
    · have : ib (orTo a (c : Int) 8) k = true := by
        cases hy : ib (orTo a (c : Int) 8) k with
        | true => rfl
        | false => exact absurd (h.mp hy) hx
      rw [this, beq_eq_false_iff_ne.mpr hx]; rfl
  · simp [hk]
theorem kind_sm {a : Array Nat} (ha : Octets a) {c : Nat} (hc : c < 256) : kindI a (c : Int) = sm (fun k => decide (k < a.size) && a.getD k 0 == c) a.size := by
  apply ib_ext
  intro k
  rw [ib_kind ha hc, ib_sm]
  cases decide (k < a.size) <;> rfl

def dt (a : Array Nat) (k : Nat) : Bool := decide (k < a.size) && a.getD k 0 == 46
def en (a : Array Nat) (k : Nat) : Bool := decide (k < a.size) && isEnd (a.getD k 0)
/-- where a row begins -/
def bg (a : Array Nat) : Nat → Bool
  | 0 => true
  | k + 1 => en a k
def rn (a : Array Nat) (k : Nat) : Bool := decide (k < a.size) && q1 a k
theorem rowAt_nil {a : Array Nat} {k : Nat} (hk : k ≤ a.size) : (rowAt a k = []) ↔ bg a k = true := by
  cases k with
  | zero => exact ⟨fun _ => rfl, fun _ => rfl⟩
  | succ k =>
    unfold rowAt bg en
    have hk' : k < a.size := hk
    cases h : isEnd (a.getD k 0) with
    | true => dsimp only; rw [decide_eq_true hk', h]; simp
    | false => dsimp only; rw [decide_eq_true hk', h]; simp
theorem rowS_eq {a : Array Nat} {i : Nat} {y : Str} {l : List Nat} (hy : y = ⟨l.toArray⟩) : (rowS a i == y) = (rowAt a i == l) := by
  subst hy
  unfold rowS
  by_cases h : rowAt a i = l
  · rw [h]; simp
  · have : (⟨(rowAt a i).toArray⟩ : Str) ≠ ⟨l.toArray⟩ := by
      intro e
      injection e with e
      exact h (by simpa using e)
    rw [beq_eq_false_iff_ne.mpr this, beq_eq_false_iff_ne.mpr h]
theorem dot1 : Str.ofString "." = ⟨[46].toArray⟩ := by decide +kernel
theorem no46 : isEnd 46 = false := rfl
theorem q0_eq {a : Array Nat} {k : Nat} (hk : k < a.size) : q0 a k = (dt a k && bg a k) := by
  unfold q0
  rw [rowS_eq dot1]
  have hn := rowAt_nil (a := a) (k := k) (by omega)
  have e : rowAt a (k + 1) = if isEnd (a.getD k 0) then [] else rowAt a k ++ [a.getD k 0] := rfl
  rw [e]
  unfold dt
  simp only [hk, decide_true, Bool.true_and]
  by_cases h46 : a.getD k 0 = 46
  · rw [h46, no46]
    simp only [Bool.false_eq_true, if_false, beq_self_eq_true, Bool.true_and]
    by_cases hb : bg a k = true
    · rw [hb, hn.mpr hb]; rfl
    · have hne : rowAt a k ≠ [] := fun h => hb (hn.mp h)
      have hf : bg a k = false := by simpa using hb
      rw [hf, beq_eq_false_iff_ne]
      intro h
      have := congrArg List.length h
      simp only [List.length_append, List.length_cons, List.length_nil] at this
      exact hne (List.length_eq_zero_iff.mp (by omega))
  · have hf : (a.getD k 0 == 46) = false := by simpa using h46
    rw [hf, Bool.false_and, beq_eq_false_iff_ne]
    cases isEnd (a.getD k 0) with
    | true => rw [if_pos rfl]; intro h; cases h
    | false =>
      rw [if_neg (by decide)]
      intro h
      have := congrArg List.getLast? h
      rw [List.getLast?_concat] at this
      injection this with this
      exact h46 this
theorem row_all {a : Array Nat} {k : Nat} (hk : k ≤ a.size) : (rowAt a k).all (· == 46) = (bg a k || opn (rn a) k) := by
  have hn := rowAt_nil (a := a) (k := k) hk
  by_cases hb : bg a k = true
  · rw [hb, hn.mpr hb]; rfl
  · have hf : bg a k = false := by simpa using hb
    have hne : rowAt a k ≠ [] := fun h => hb (hn.mp h)
    rw [hf, Bool.false_or]
    cases k with
    | zero => exact absurd rfl hb
    | succ k =>
      show _ = rn a k
      unfold rn q1
      have hk' : k < a.size := hk
      have he : (rowS a (k + 1) == Str.ofString "") = false := by
        rw [rowS_eq (y := Str.ofString "") (l := []) rfl, beq_eq_false_iff_ne]; exact hne
      rw [he]
      simp [hk']
theorem rn_eq (a : Array Nat) (k : Nat) : rn a k = (dt a k && (bg a k || opn (rn a) k)) := by
  by_cases hk : k < a.size
  · rw [← row_all (by omega)]
    unfold rn q1 dt
    simp only [hk, decide_true, Bool.true_and]
    have e : rowAt a (k + 1) = if isEnd (a.getD k 0) then [] else rowAt a k ++ [a.getD k 0] := rfl
    rw [rowS_eq (y := Str.ofString "") (l := []) rfl, e]
    cases hE : isEnd (a.getD k 0) with
    | true =>
      have : a.getD k 0 ≠ 46 := fun h => by rw [h] at hE; cases hE
      have hf : (a.getD k 0 == 46) = false := by simpa using this
      rw [hf]; rfl
    | false =>
      simp only [Bool.false_eq_true, if_false, List.all_append, List.all_cons, List.all_nil, Bool.and_true]
      have : (rowAt a k ++ [a.getD k 0] == []) = false := by rw [beq_eq_false_iff_ne]; simp
      rw [this, Bool.not_false, Bool.true_and, Bool.and_comm]
  · unfold rn dt
    simp [hk]
theorem bg_opn (a : Array Nat) (k : Nat) : (bg a k && opn (rn a) k) = false := by
  cases k with
  | zero => rfl
  | succ k =>
    show (en a k && rn a k) = false
    rw [rn_eq]
    unfold en dt
    by_cases h : a.getD k 0 = 46
    · rw [h, no46]; simp
    · have hf : (a.getD k 0 == 46) = false := by simpa using h
      rw [hf]; simp
theorem ar_zero (a : Array Nat) : ar a 0 = 10 := by
  unfold ar arS
  rw [nl_eq, cr_eq]
  show ((#[10] ++ a ++ #[13] : Array Nat)).getD 0 0 = 10
  rw [Array.append_assoc, Array.getD_eq_getD_getElem?, Array.getElem?_append_left (by simp)]
  rfl
theorem ar_succ {a : Array Nat} {k : Nat} (hk : k < a.size) : ar a (k + 1) = a.getD k 0 := by
  unfold ar arS
  rw [nl_eq, cr_eq]
  show ((#[10] ++ a ++ #[13] : Array Nat)).getD (k + 1) 0 = _
  rw [Array.getD_eq_getD_getElem?, Array.getElem?_append_left (by simp; omega), Array.getElem?_append_right (by simp), Array.getD_eq_getD_getElem?]
  rfl
theorem ar_last (a : Array Nat) : ar a (a.size + 1) = 13 := by
  unfold ar arS
  rw [nl_eq, cr_eq]
  show ((#[10] ++ a ++ #[13] : Array Nat)).getD (a.size + 1) 0 = _
  rw [Array.getD_eq_getD_getElem?, Array.getElem?_append_right (by simp; omega)]
  simp
  have : a.size + 1 - (1 + a.size) = 0 := by omega
  simp [this]

theorem ib_end {a : Array Nat} (ha : Octets a) (k : Nat) : ib (Builtin.bitOr (kindI a 13) (kindI a 10)) k = en a k := by
  have h1 := ib_kind ha (c := 13) (by decide) k
  have h2 := ib_kind ha (c := 10) (by decide) k
  rw [ib_or]
  have e1 : ((13 : Nat) : Int) = 13 := rfl
  have e2 : ((10 : Nat) : Int) = 10 := rfl
  rw [e1] at h1; rw [e2] at h2
  rw [h1, h2]
  unfold en isEnd
  cases decide (k < a.size) <;> cases (a.getD k 0 == 13) <;> cases (a.getD k 0 == 10) <;> rfl
theorem ib_shl1 (x : Int) (k : Nat) : ib (x * 2 ^ (1 : Int).toNat) k = match k with | 0 => false | k + 1 => ib x k := by
  have e : (1 : Int).toNat = 1 := rfl
  rw [e, ib_shl]
  cases k with
  | zero => rfl
  | succ k => simp
theorem ib_led {a : Array Nat} (ha : Octets a) (k : Nat) : ib (ledI a) k = (dt a k && bg a k) := by
  have h1 := ib_kind ha (c := 46) (by decide) k
  have e1 : ((46 : Nat) : Int) = 46 := rfl
  rw [e1] at h1
  unfold ledI
  rw [ib_and, h1, ib_or, ib_shl1]
  have e : ib 1 k = decide (0 = k) := ib_pow 0 k
  rw [e]
  cases k with
  | zero => rfl
  | succ k =>
    dsimp only
    rw [ib_end ha]; simp [dt, bg]
theorem led_sm {a : Array Nat} (ha : Octets a) : ledI a = sm (fun k => dt a k && bg a k) a.size := by
  apply ib_ext
  intro k
  rw [ib_led ha, ib_sm]
  unfold dt
  cases decide (k < a.size) <;> simp
theorem dots_sm {a : Array Nat} (ha : Octets a) : kindI a 46 = sm (dt a) a.size := kind_sm ha (c := 46) (by decide)
theorem dt_high {a : Array Nat} {k : Nat} (h : a.size ≤ k) : dt a k = false := by
  unfold dt
  have : ¬ k < a.size := by omega
  simp [this]
theorem behind_eq {a : Array Nat} (ha : Octets a) : behindI a = sm (fun k => opn (rn a) k && !rn a k) (a.size + 1) := by
  unfold behindI
  rw [led_sm ha, dots_sm ha]
  exact carry_end (rn_eq a) (fun _ => rfl) (bg_opn a) (fun _ h => dt_high h)
theorem runs_eq {a : Array Nat} (ha : Octets a) : behindI a - ledI a = sm (rn a) a.size := by
  unfold behindI
  rw [led_sm ha, dots_sm ha]
  exact carry_runs (rn_eq a) (fun _ => rfl) (bg_opn a) (fun _ h => dt_high h)
theorem told0 (a : Array Nat) : toldI a 0 = sm (fun k => dt a k && bg a k) a.size := sm_congr fun _ hk => q0_eq hk
theorem told1 (a : Array Nat) : toldI a 1 = sm (rn a) a.size := sm_congr fun k hk => by unfold rn; simp [hk]
theorem told2 (a : Array Nat) : toldI a 2 = sm (q2 a) a.size * 2 ^ (1 : Int).toNat := by
  show (pows (((List.range a.size).filter (q2 a)).map fun i : Nat => (i : Int) + 1)).sum = _
  unfold sm pows
  generalize (List.range a.size).filter (q2 a) = l
  induction l with
  | nil => rfl
  | cons x r ih =>
    simp only [List.map_cons, List.sum_cons] at ih ⊢
    rw [ih, Int.add_mul]
    have e1 : ((x : Int) + 1).toNat = x + 1 := by omega
    have e2 : (x : Int).toNat = x := by omega
    have e3 : (1 : Int).toNat = 1 := rfl
    rw [e1, e2, e3, Int.pow_succ, Int.pow_one]
theorem told3 (a : Array Nat) : toldI a 3 = sm (q3 a) a.size := rfl
theorem told4 (a : Array Nat) : toldI a 4 = sm (q4 a) a.size := rfl
theorem ib_told3 (a : Array Nat) (k : Nat) : ib (toldI a 3) k = (decide (k < a.size) && q3 a k) := ib_sm _ _ _
theorem ib_told4 (a : Array Nat) (k : Nat) : ib (toldI a 4) k = (decide (k < a.size) && q4 a k) := ib_sm _ _ _
theorem ib_told0 {a : Array Nat} {k : Nat} (hk : k < a.size) : ib (toldI a 0) k = (dt a k && bg a k) := by
  rw [told0, ib_sm]; simp [hk]
theorem made2 {a : Array Nat} (ha : Octets a) : Builtin.bitAnd (Builtin.bitAnd (ledI a * 2 ^ (1 : Int).toNat) (behindI a)) (Builtin.bitOr (Builtin.bitOr (kindI a 13) (kindI a 10)) (fullI a + 1)) = toldI a 2 := by
  apply ib_ext
  intro k
  have hf : fullI a + 1 = 2 ^ a.size := by
    unfold fullI
    have e : ((a.size : Int)).toNat = a.size := by omega
    rw [e]; omega
  rw [ib_and, ib_and, ib_or, ib_end ha, hf, ib_pow, ib_shl1, behind_eq ha, ib_sm, told2, ib_shl1]
  cases k with
  | zero => rfl
  | succ k =>
    simp only [ib_sm]
    rw [ib_led ha]
    by_cases hk : k < a.size
    · have hk1 : k + 1 < a.size + 1 := by omega
      unfold q2
      have h0 := q0_eq hk
      unfold q0 at h0
      rw [h0]
      simp only [hk, hk1, decide_true, Bool.true_and]
      cases hl : dt a k && bg a k with
      | false => rfl
      | true =>
        simp only [Bool.true_and]
        simp only [Bool.and_eq_true] at hl
        have hr : opn (rn a) (k + 1) = true := by
          show rn a k = true
          rw [rn_eq, hl.1, hl.2]; rfl
        rw [hr, Bool.true_and]
        have hE : isEnd (ar a (k + 2)) = (en a (k + 1) || decide (a.size = k + 1)) := by
          by_cases h1 : k + 1 < a.size
          · rw [ar_succ h1]
            have : ¬ a.size = k + 1 := by omega
            unfold en
            simp [h1, this]
          · have h2 : a.size = k + 1 := by omega
            have h3 : k + 2 = a.size + 1 := by omega
            rw [h3, ar_last]
            simp [h2, isEnd]
        rw [hE]
        have hnr : rn a (k + 1) = true → (en a (k + 1) || decide (a.size = k + 1)) = false := by
          intro h
          rw [rn_eq] at h
          simp only [Bool.and_eq_true] at h
          have hd := h.1
          unfold dt at hd
          simp only [Bool.and_eq_true, decide_eq_true_eq, beq_iff_eq] at hd
          unfold en
          rw [hd.2, no46]
          have : ¬ a.size = k + 1 := by omega
          simp [this]
        cases hrr : rn a (k + 1) with
        | false => rfl
        | true => rw [hnr hrr]; rfl
    · have : dt a k = false := dt_high (by omega)
      rw [this]
      simp [hk]
theorem made3 {a : Array Nat} (ha : Octets a) : Builtin.bitAnd (kindI a 10) (Builtin.bitNot (kindI a 13 * 2 ^ (1 : Int).toNat)) = toldI a 3 := by
  apply ib_ext
  intro k
  have h2 := ib_kind ha (c := 10) (by decide) k
  have e2 : ((10 : Nat) : Int) = 10 := rfl
  have e1 : ((13 : Nat) : Int) = 13 := rfl
  rw [e2] at h2
  rw [ib_and, ib_not, ib_shl1, h2, told3, ib_sm]
  by_cases hk : k < a.size
  · unfold q3
    simp only [hk, decide_true, Bool.true_and]
    congr 1
    cases k with
    | zero => rw [ar_zero]; rfl
    | succ k =>
      have h1 := ib_kind ha (c := 13) (by decide) k
      rw [e1] at h1
      dsimp only
      rw [ar_succ (by omega), h1]
      have : k < a.size := by omega
      simp [this]
  · simp [hk]
theorem made4 {a : Array Nat} (ha : Octets a) : Builtin.bitAnd (kindI a 13) (Builtin.bitNot ((kindI a 10).fdiv (2 ^ (1 : Int).toNat))) = toldI a 4 := by
  apply ib_ext
  intro k
  have h2 := ib_kind ha (c := 13) (by decide) k
  have h1 := ib_kind ha (c := 10) (by decide) (k + 1)
  have e1 : ((10 : Nat) : Int) = 10 := rfl
  have e2 : ((13 : Nat) : Int) = 13 := rfl
  rw [e2] at h2; rw [e1] at h1
  have e3 : (1 : Int).toNat = 1 := rfl
  rw [ib_and, ib_not, e3, Int.fdiv_eq_ediv_of_nonneg _ (by decide), ib_shr, h2, h1, told4, ib_sm]
  by_cases hk : k < a.size
  · unfold q4
    simp only [hk, decide_true, Bool.true_and]
    congr 1
    by_cases h : k + 1 < a.size
    · rw [ar_succ h]; simp [h]
    · have h3 : k + 2 = a.size + 1 := by omega
      rw [h3, ar_last]
      simp [h]
  · simp [hk]
theorem made_told {a : Array Nat} (ha : Octets a) : madeL a = toldL a ++ [-1 - toldI a 1] := by
  have h0 : ledI a = toldI a 0 := by rw [led_sm ha, told0]
  have h1 : behindI a - ledI a = toldI a 1 := by rw [runs_eq ha, told1]
  have h2 := made2 ha
  have h3 := made3 ha
  have h4 := made4 ha
  have e : toldL a ++ [-1 - toldI a 1] = [toldI a 0, toldI a 1, toldI a 2, toldI a 3, toldI a 4, -1 - toldI a 1] := rfl
  rw [e]
  unfold madeL
  rw [h1, h2, h3, h4, h0]
  have : Builtin.bitNot (toldI a 1) = -1 - toldI a 1 := by
    unfold Builtin.bitNot
    omega
  rw [this]
theorem told_b {a : Array Nat} (i : Nat) (hi : i < 5) : 0 ≤ toldI a i ∧ toldI a i < 2 ^ (a.size + 1) := by
  have hp := two_pow_pos' a.size
  have e : (2 : Int) ^ (a.size + 1) = 2 ^ a.size + 2 ^ a.size := by rw [Int.pow_succ]; omega
  rw [e]
  match i, hi with
  | 0, _ => have := sm_b (q0 a) a.size; rw [show toldI a 0 = sm (q0 a) a.size from rfl]; omega
  | 1, _ => have := sm_b (q1 a) a.size; rw [show toldI a 1 = sm (q1 a) a.size from rfl]; omega
  | 2, _ =>
    have := sm_b (q2 a) a.size
    rw [told2, show (1 : Int).toNat = 1 from rfl, Int.pow_one]; omega
  | 3, _ => have := sm_b (q3 a) a.size; rw [told3]; omega
  | 4, _ => have := sm_b (q4 a) a.size; rw [told4]; omega
/-- the last of all: the hex of a number of 32 zeros -/
theorem pretty_hi (x : Int) : prettyS (x * 2 ^ 32) = baseText "0x" 16 (x * 2 ^ 32) := by
  have hb : ∀ k, k < 32 → ib (x * 2 ^ 32) k = false := fun k hk => by
    rw [ib_shl]
    have : ¬ 32 ≤ k := by omega
    simp [this]
  have hc : clr (x * 2 ^ 32) 32 = x * 2 ^ 32 := by
    unfold clr
    rw [Int.mul_emod_left]; omega
  have hn : namesTo (x * 2 ^ 32) 32 = [] := by
    unfold namesTo
    have : (List.range 32).filter (ib (x * 2 ^ 32)) = [] := by
      rw [List.filter_eq_nil_iff]
      intro k hk
      rw [hb k (List.mem_range.mp hk)]
      decide
    rw [this]; rfl
  have hw : wordsS (x * 2 ^ 32) = [baseText "0x" 16 (x * 2 ^ 32)] := by
    rw [wordsS_end, hc, hn]
    · rfl
    · rw [hc]; exact Decidable.em _
  unfold prettyS
  rw [hw]
  rfl
end Mine
end
-- part LawC
section
open PySem PySem.W PyProof.Rows PySem.Calls
set_option Elab.async false
set_option maxRecDepth 100000
set_option maxHeartbeats 8000000
set_option exponentiation.threshold 2000
namespace Mine
theorem cat_cons (x : Array Nat) (r : List (Array Nat)) : cat (x :: r) = x ++ cat r := by
  unfold cat
  apply Array.toList_inj.mp
  simp
theorem cat_nil : cat [] = #[] := rfl
theorem getD_in {a : Array Nat} {k : Nat} (h : k < a.size) : a.getD k 0 = a[k] := by
  rw [Array.getD_eq_getD_getElem?, Array.getElem?_eq_getElem h]; rfl
theorem ext_nil (a : Array Nat) (p : Nat) : a.extract p p = #[] := by
  apply Array.eq_empty_of_size_eq_zero
  rw [Array.size_extract]; omega
theorem ext_step {a : Array Nat} {p q : Nat} (hp : p < q) (hq : q ≤ a.size) : a.extract p q = #[a.getD p 0] ++ a.extract (p + 1) q := by
  apply Array.ext
  · simp; omega
  · intro i h1 h2
    rw [Array.getElem_extract]
    cases i with
    | zero => rw [Array.getElem_append_left (by simp)]; simp [show p < a.size by omega]
    | succ i =>
      rw [Array.getElem_append_right (by simp), Array.getElem_extract]
      congr 1
      simp; omega
/-- the pieces from place p on: with a hit at p, or with none -/
theorem pcs_fuel {text rp : Array Nat} {nx : Nat → Option (Nat × Nat)} {code : Array Nat} (S : Finds code text nx) : ∀ (f g p : Nat), p ≤ text.size → text.size - p < f → text.size - p < g → pcs text rp nx f p = pcs text rp nx g p
  | 0, _, _, _, h, _ => absurd h (Nat.not_lt_zero _)
  | _ + 1, 0, _, _, _, h => absurd h (Nat.not_lt_zero _)
  | f + 1, g + 1, p, hp, hf, hg => by
    unfold pcs
    cases hn : nx p with
    | none => rfl
    | some q =>
      obtain ⟨k, e⟩ := q
      obtain ⟨h1, h2, h3⟩ := S.at_ p k e hp hn
      dsimp only
      rw [pcs_fuel S f g e h3 (by omega) (by omega)]
/-- a text with its hits turned, from place p on -/
def turned (text rp : Array Nat) (nx : Nat → Option (Nat × Nat)) (p : Nat) : Array Nat := cat (pcs text rp nx (text.size - p + 1) p)
theorem turned_hit {text rp code : Array Nat} {nx : Nat → Option (Nat × Nat)} (S : Finds code text nx) {p e : Nat} (hp : p ≤ text.size) (h : nx p = some (p, e)) : turned text rp nx p = rp ++ turned text rp nx e := by
  obtain ⟨h1, h2, h3⟩ := S.at_ p p e hp h
  unfold turned
  have e1 : pcs text rp nx (text.size - p + 1) p = rp :: pcs text rp nx (text.size - p) e := by
    conv => lhs; unfold pcs
    rw [h]
    simp
  rw [e1, cat_cons, pcs_fuel S (text.size - p) (text.size - e + 1) e h3 (by omega) (by omega)]
theorem turned_end {text rp code : Array Nat} {nx : Nat → Option (Nat × Nat)} (S : Finds code text nx) : turned text rp nx text.size = #[] := by
  unfold turned
  have e1 : pcs text rp nx (text.size - text.size + 1) text.size = [] := by
    unfold pcs
    cases hn : nx text.size with
    | none => simp
    | some q =>
      obtain ⟨k, e⟩ := q
      obtain ⟨h1, h2, h3⟩ := S.at_ _ k e (Nat.le_refl _) hn
      omega
  rw [e1]; rfl
theorem turned_miss {text rp code : Array Nat} {nx : Nat → Option (Nat × Nat)} (S : Finds code text nx) {p : Nat} (hp : p < text.size) (h : nx p = nx (p + 1)) : turned text rp nx p = #[text.getD p 0] ++ turned text rp nx (p + 1) := by
  unfold turned
  have e2 : text.size - p + 1 = (text.size - (p + 1) + 1) + 1 := by omega
  rw [e2]
  generalize hF : text.size - (p + 1) = F
  have e1 : ∀ f p, pcs text rp nx (f + 1) p = match nx p with
      | some (k, e) => (if p < k then [text.extract p k] else []) ++ rp :: pcs text rp nx f e
      | none => if p < text.size then [text.extract p text.size] else [] := fun _ _ => rfl
  rw [e1, e1, h]
  cases hn : nx (p + 1) with
  | none =>
    dsimp only
    rw [if_pos hp, cat_cons, ext_step hp (Nat.le_refl _)]
    split
    · rw [cat_cons, Array.append_assoc]
    · have : p + 1 = text.size := by omega
      rw [this, ext_nil, cat_nil]; simp
  | some q =>
    obtain ⟨k, e⟩ := q
    obtain ⟨h1, h2, h3⟩ := S.at_ _ k e (by omega) hn
    dsimp only
    rw [if_pos (by omega : p < k), List.singleton_append, cat_cons, ext_step (by omega : p < k) (by omega), pcs_fuel S (F + 1) F e h3 (by omega) (by omega)]
    split
    · simp only [List.singleton_append, cat_cons, Array.append_assoc]
    · have : p + 1 = k := by omega
      rw [this, ext_nil, List.nil_append]
      simp
theorem turned_all {text rp : Array Nat} {nx : Nat → Option (Nat × Nat)} : turned text rp nx 0 = cat (pcs text rp nx (text.size + 1) 0) := rfl

/-- dots: l's signs, a dot doubled at a line's beginning -/
def dotL : Bool → List Nat → List Nat
  | _, [] => []
  | b, c :: r => (if b && c == 46 then [46] else []) ++ c :: dotL (c == 10) r
def aft : Bool → List Nat → Bool
  | b, [] => b
  | _, c :: r => aft (c == 10) r
theorem dotL_app : ∀ (x y : List Nat) (b : Bool), dotL b (x ++ y) = dotL b x ++ dotL (aft b x) y
  | [], y, b => rfl
  | c :: r, y, b => by
    show (if b && c == 46 then [46] else []) ++ c :: dotL (c == 10) (r ++ y) = _
    rw [dotL_app r y (c == 10), ← List.cons_append, ← List.append_assoc]
    rfl
theorem aft_app : ∀ (x y : List Nat) (b : Bool), aft b (x ++ y) = aft (aft b x) y
  | [], _, _ => rfl
  | c :: r, y, _ => aft_app r y (c == 10)
theorem nx1_hit {text : Array Nat} {p : Nat} (hp : p < text.size) (h : hit1 text p = true) : nx1 text p = some (p, p + 1) := by
  unfold nx1
  obtain ⟨d, hd⟩ : ∃ d, text.size - p = d + 1 := ⟨text.size - p - 1, by omega⟩
  rw [hd]
  unfold find1
  rw [if_pos h]; rfl
theorem nx1_miss {text : Array Nat} {p : Nat} (hp : p < text.size) (h : hit1 text p = false) : nx1 text p = nx1 text (p + 1) := by
  unfold nx1
  obtain ⟨d, hd⟩ : ∃ d, text.size - p = d + 1 := ⟨text.size - p - 1, by omega⟩
  have hd2 : text.size - (p + 1) = d := by omega
  rw [hd, hd2]
  conv => lhs; unfold find1
  rw [h]; rfl
theorem nx3_hit {text : Array Nat} {p : Nat} (hp : p < text.size) (h : isEnd (text.getD p 0) = true) : nx3 text p = some (p, p + len3 text p) := by
  unfold nx3
  obtain ⟨d, hd⟩ : ∃ d, text.size - p = d + 1 := ⟨text.size - p - 1, by omega⟩
  rw [hd]
  unfold find3
  rw [if_pos h]; rfl
theorem nx3_miss {text : Array Nat} {p : Nat} (hp : p < text.size) (h : isEnd (text.getD p 0) = false) : nx3 text p = nx3 text (p + 1) := by
  unfold nx3
  obtain ⟨d, hd⟩ : ∃ d, text.size - p = d + 1 := ⟨text.size - p - 1, by omega⟩
  have hd2 : text.size - (p + 1) = d := by omega
  rw [hd, hd2]
  conv => lhs; unfold find3
  rw [h]; rfl
theorem list_at {a : Array Nat} {p : Nat} (hp : p < a.size) : a.toList.drop p = a.getD p 0 :: a.toList.drop (p + 1) := by
  rw [List.drop_eq_getElem_cons (by simpa using hp), getD_in hp]
  simp
def lineAt (a : Array Nat) (p : Nat) : Bool := p == 0 || a.getD (p - 1) 0 == 10
theorem dotS_from {a : Array Nat} (ha : a.size ≤ 100000) : ∀ (d p : Nat), p + d = a.size → (turned a #[46, 46] (nx1 a) p).toList = dotL (lineAt a p) (a.toList.drop p)
  | 0, p, h => by
    have hp : p = a.size := by omega
    subst hp
    rw [turned_end (finds1 a ha), List.drop_of_length_le (by simp)]
    rfl
  | d + 1, p, h => by
    have hp : p < a.size := by omega
    have ih := dotS_from ha d (p + 1) (by omega)
    have hl : lineAt a (p + 1) = (a.getD p 0 == 10) := by unfold lineAt; simp
    rw [hl] at ih
    rw [list_at hp]
    have hh : hit1 a p = (lineAt a p && a.getD p 0 == 46) := rfl
    unfold dotL
    rw [← hh]
    cases hc : hit1 a p with
    | true =>
      rw [turned_hit (finds1 a ha) (by omega) (nx1_hit hp hc), Array.toList_append, ih]
      rw [hh, Bool.and_eq_true, beq_iff_eq] at hc
      rw [hc.2]; rfl
    | false =>
      rw [turned_miss (finds1 a ha) hp (nx1_miss hp hc), Array.toList_append, ih]
      rfl
theorem dotS_eq {a : Array Nat} (ha : a.size ≤ 100000) : (dotS a).toList = dotL true a.toList := dotS_from ha a.size 0 (by omega)

/-- the parts from place p on -/
def partsFrom (a : Array Nat) : Nat → Nat → List Nat
  | 0, _ => []
  | d + 1, p => (partA a p).toList ++ partsFrom a d (p + 1)
theorem parts_snoc (a : Array Nat) : ∀ d p, partsFrom a (d + 1) p = partsFrom a d p ++ (partA a (p + d)).toList
  | 0, p => by simp [partsFrom]
  | d + 1, p => by
    have ih := parts_snoc a d (p + 1)
    have e : partsFrom a (d + 1 + 1) p = (partA a p).toList ++ partsFrom a (d + 1) (p + 1) := rfl
    have e2 : partsFrom a (d + 1) p = (partA a p).toList ++ partsFrom a d (p + 1) := rfl
    rw [e, e2, ih, List.append_assoc, show p + 1 + d = p + (d + 1) by omega]
theorem mendTo_parts (a : Array Nat) : ∀ k, (mendTo a k).toList = partsFrom a k 0
  | 0 => rfl
  | k + 1 => by
    rw [parts_snoc, ← mendTo_parts a k, Nat.zero_add]
    exact Array.toList_append
theorem part_eq {a : Array Nat} {k : Nat} (hk : k < a.size) : (partA a k).toList = (if q3 a k then [13] else []) ++ a.getD k 0 :: (if q4 a k then [10] else []) := by
  unfold partA
  rw [ib_told3, ib_told4]
  simp only [hk, decide_true, Bool.true_and]
  cases q3 a k <;> cases q4 a k <;> rfl
/-- no return stands right ahead of a feed at p -/
def cut (a : Array Nat) (p : Nat) : Bool := !(ar a p == 13 && a.getD p 0 == 10)
theorem fixS_from (a : Array Nat) : ∀ (n d p : Nat), d ≤ n → p + d = a.size → cut a p = true → (turned a #[13, 10] (nx3 a) p).toList = partsFrom a d p
  | _, 0, p, _, h, _ => by
    have hp : p = a.size := by omega
    subst hp
    rw [turned_end (finds3 a)]
    rfl
  | 0, d + 1, _, h, _, _ => absurd h (by omega)
  | n + 1, d + 1, p, hn, h, hcut => by
    have hp : p < a.size := by omega
    have e : partsFrom a (d + 1) p = (partA a p).toList ++ partsFrom a d (p + 1) := rfl
    rw [e, part_eq hp]
    unfold cut at hcut
    cases hE : isEnd (a.getD p 0) with
    | false =>
      have h10 : (a.getD p 0 == 10) = false := by
        unfold isEnd at hE; rw [Bool.or_eq_false_iff] at hE; exact hE.1
      have h13 : (a.getD p 0 == 13) = false := by
        unfold isEnd at hE; rw [Bool.or_eq_false_iff] at hE; exact hE.2
      have hq3 : q3 a p = false := by unfold q3; rw [h10]; rfl
      have hq4 : q4 a p = false := by unfold q4; rw [h13]; rfl
      have hc2 : cut a (p + 1) = true := by unfold cut; rw [ar_succ hp, h13]; rfl
      rw [turned_miss (finds3 a) hp (nx3_miss hp hE), Array.toList_append, fixS_from a n d (p + 1) (by omega) (by omega) hc2, hq3, hq4]
      rfl
    | true =>
      rw [turned_hit (finds3 a) (by omega) (nx3_hit hp hE), Array.toList_append]
      cases h13 : a.getD p 0 == 13 with
      | false =>
        have h10 : (a.getD p 0 == 10) = true := by unfold isEnd at hE; rw [h13, Bool.or_false] at hE; exact hE
        have hl : len3 a p = 1 := by unfold len3; rw [h13]; rfl
        have har : (ar a p == 13) = false := by rw [h10, Bool.and_true] at hcut; simpa using hcut
        have hq3 : q3 a p = true := by unfold q3; rw [h10, har]; rfl
        have hq4 : q4 a p = false := by unfold q4; rw [h13]; rfl
        have hc2 : cut a (p + 1) = true := by unfold cut; rw [ar_succ hp, h13]; rfl
        rw [hl, fixS_from a n d (p + 1) (by omega) (by omega) hc2, hq3, hq4]
        have e10 : a.getD p 0 = 10 := by simpa using h10
        rw [e10]; rfl
      | true =>
        have e13 : a.getD p 0 = 13 := by simpa using h13
        have h10 : (a.getD p 0 == 10) = false := by rw [e13]; rfl
        have hq3 : q3 a p = false := by unfold q3; rw [h10]; rfl
        by_cases hlt : p + 1 < a.size ∧ a.getD (p + 1) 0 = 10
        · have h10' : (a.getD (p + 1) 0 == 10) = true := by rw [hlt.2]; rfl
          have hl : len3 a p = 2 := by unfold len3; rw [h13, h10', decide_eq_true hlt.1]; rfl
          have hq4 : q4 a p = false := by unfold q4; rw [show p + 2 = p + 1 + 1 from rfl, ar_succ hlt.1, h10']; simp
          obtain ⟨d', rfl⟩ : ∃ d', d = d' + 1 := ⟨d - 1, by omega⟩
          have e2 : partsFrom a (d' + 1) (p + 1) = (partA a (p + 1)).toList ++ partsFrom a d' (p + 1 + 1) := rfl
          have har : (ar a (p + 1) == 13) = true := by rw [ar_succ hp]; exact h13
          have hq3' : q3 a (p + 1) = false := by unfold q3; rw [h10', har]; rfl
          have h13' : (a.getD (p + 1) 0 == 13) = false := by rw [hlt.2]; rfl
          have hq4' : q4 a (p + 1) = false := by unfold q4; rw [h13']; rfl
          have hc2 : cut a (p + 1 + 1) = true := by unfold cut; rw [ar_succ hlt.1, h13']; rfl
          rw [hl, e2, part_eq hlt.1, show p + 2 = p + 1 + 1 from rfl, fixS_from a n d' (p + 1 + 1) (by omega) (by omega) hc2, hq3, hq4, hq3', hq4', e13, hlt.2]
          rfl
        · have hl : len3 a p = 1 := by
            unfold len3
            rw [h13]
            have : (decide (p + 1 < a.size) && a.getD (p + 1) 0 == 10) = false := by
              rw [Bool.and_eq_false_iff]
              by_cases h1 : p + 1 < a.size
              · exact .inr (beq_eq_false_iff_ne.mpr fun z => hlt ⟨h1, z⟩)
              · exact .inl (decide_eq_false h1)
            rw [this]; rfl
          have hq4 : q4 a p = true := by
            unfold q4
            rw [h13, Bool.true_and]
            by_cases h1 : p + 1 < a.size
            · rw [show p + 2 = p + 1 + 1 from rfl, ar_succ h1, beq_eq_false_iff_ne.mpr fun z => hlt ⟨h1, z⟩]; rfl
            · have h3 : p + 2 = a.size + 1 := by omega
              rw [h3, ar_last]; rfl
          have hc2 : cut a (p + 1) = true := by
            unfold cut
            by_cases h1 : p + 1 < a.size
            · rw [beq_eq_false_iff_ne.mpr fun z => hlt ⟨h1, z⟩, Bool.and_false]; rfl
            · have : a.getD (p + 1) 0 = 0 := by rw [Array.getD_eq_getD_getElem?, Array.getElem?_eq_none (by omega)]; rfl
              rw [this, Bool.and_comm]; rfl
          rw [hl, fixS_from a n d (p + 1) (by omega) (by omega) hc2, hq3, hq4, e13]
          rfl
theorem fixS_eq (a : Array Nat) : fixS a = mendTo a a.size := by
  apply Array.toList_inj.mp
  rw [mendTo_parts]
  refine fixS_from a a.size a.size 0 (Nat.le_refl _) (by omega) ?_
  unfold cut
  rw [ar_zero]; rfl

/-- where the mended text stands behind k signs -/
theorem aft_part {a : Array Nat} {k : Nat} (hk : k < a.size) (b : Bool) : aft b (partA a k).toList = (isEnd (a.getD k 0) && !(a.getD k 0 == 13 && ar a (k + 2) == 10)) := by
  rw [part_eq hk, aft_app]
  unfold isEnd
  have e : ∀ x, aft x (a.getD k 0 :: (if q4 a k then [10] else [])) = if q4 a k then true else a.getD k 0 == 10 := by
    intro x
    cases q4 a k <;> rfl
  rw [e]
  unfold q4
  by_cases h13 : a.getD k 0 = 13
  · rw [h13]; cases ar a (k + 2) == 10 <;> rfl
  · rw [beq_eq_false_iff_ne.mpr h13]; simp
theorem aft_mend {a : Array Nat} {k : Nat} (hk : k ≤ a.size) : aft true (mendTo a k).toList = (bg a k && !(k != 0 && (ar a k == 13 && (decide (k = a.size) || a.getD k 0 == 10) && !decide (k = a.size)))) := by
  cases k with
  | zero => rfl
  | succ k =>
    have hk' : k < a.size := hk
    have e : mendTo a (k + 1) = mendTo a k ++ partA a k := rfl
    rw [e, Array.toList_append, aft_app, aft_part hk', ar_succ hk']
    unfold bg en
    simp only [hk', decide_true, Bool.true_and]
    by_cases h1 : k + 1 < a.size
    · have : ¬ k + 1 = a.size := by omega
      rw [show k + 2 = k + 1 + 1 from rfl, ar_succ h1, decide_eq_false this]
      simp
    · have h2 : k + 1 = a.size := by omega
      rw [show k + 2 = a.size + 1 by omega, ar_last, decide_eq_true h2]
      simp
theorem sent_eq {a : Array Nat} : ∀ k, k ≤ a.size → (sentTo a k).toList = dotL true (mendTo a k).toList
  | 0, _ => rfl
  | k + 1, hk => by
    have hk' : k < a.size := hk
    have ih := sent_eq (a := a) k (by omega)
    have e1 : sentTo a (k + 1) = sentTo a k ++ dotA a k ++ partA a k := rfl
    have e2 : mendTo a (k + 1) = mendTo a k ++ partA a k := rfl
    rw [e1, e2, Array.toList_append, Array.toList_append, Array.toList_append, dotL_app, ih, List.append_assoc]
    congr 1
    rw [aft_mend (by omega), part_eq hk']
    unfold dotA
    rw [ib_told0 hk']
    unfold dt
    simp only [hk', decide_true, Bool.true_and]
    by_cases h46 : a.getD k 0 = 46
    · have hq3 : q3 a k = false := by unfold q3; rw [h46]; rfl
      have hq4 : q4 a k = false := by unfold q4; rw [h46]; rfl
      have hne : ¬ k = a.size := by omega
      rw [hq3, hq4, h46, decide_eq_false hne]
      simp only [beq_self_eq_true, Bool.true_and, Bool.not_false, Bool.and_true]
      have : (46 == 10) = false := rfl
      rw [show ((46 : Nat) == 10) = false from rfl]
      cases bg a k <;> simp [dotL]
    · rw [beq_eq_false_iff_ne.mpr h46, Bool.false_and]
      have : ∀ (b : Bool), dotL b ((if q3 a k then [13] else []) ++ a.getD k 0 :: (if q4 a k then [10] else [])) = (if q3 a k then [13] else []) ++ a.getD k 0 :: (if q4 a k then [10] else []) := by
        intro b
        have h46' := beq_eq_false_iff_ne.mpr h46
        cases q3 a k <;> cases q4 a k <;> simp [dotL, h46', -Array.getD_eq_getD_getElem?]
      rw [this]; rfl
theorem sent_all {a : Array Nat} (ha : a.size ≤ 1000) : dotS (fixS a) = sentTo a a.size := by
  apply Array.toList_inj.mp
  rw [sent_eq _ (Nat.le_refl _), ← fixS_eq]
  have := fixS_size ha
  exact dotS_eq (by omega)
theorem fr_line {a : Array Nat} {k : Nat} (hk : k < a.size) : fr a k = lineAt a k := by
  unfold fr lineAt
  cases k with
  | zero => rw [Array.getD_eq_getD_getElem?, Array.getElem?_append_left (by simp)]; rfl
  | succ k =>
    rw [Array.getD_eq_getD_getElem?, Array.getElem?_append_right (by simp), Array.getD_eq_getD_getElem?]
    rfl
theorem dotd_eq {a : Array Nat} : ∀ k, k ≤ a.size → (dotdTo a k).toList = dotL true (a.toList.take k) ∧ (0 < k → aft true (a.toList.take k) = (a.getD (k - 1) 0 == 10))
  | 0, _ => ⟨rfl, fun h => absurd h (by decide)⟩
  | k + 1, hk => by
    have hk' : k < a.size := hk
    obtain ⟨ih, ih2⟩ := dotd_eq (a := a) k (by omega)
    have e1 : dotdTo a (k + 1) = dotdTo a k ++ (if fr a k then dotA a k else #[]) ++ #[a.getD k 0] := rfl
    have e2 : a.toList.take (k + 1) = a.toList.take k ++ [a.getD k 0] := by
      rw [List.take_add_one, getD_in hk']; simp [hk']
    have e3 : aft true (a.toList.take k) = lineAt a k := by
      unfold lineAt
      cases k with
      | zero => rfl
      | succ k => rw [ih2 (by omega)]; rfl
    refine ⟨?_, fun _ => by rw [e2, aft_app]; rfl⟩
    rw [e1, e2, Array.toList_append, Array.toList_append, dotL_app, ih, List.append_assoc, e3, fr_line hk']
    congr 1
    unfold dotA
    rw [ib_told0 hk']
    unfold dt
    simp only [hk', decide_true, Bool.true_and]
    unfold dotL dotL
    by_cases h46 : a.getD k 0 = 46
    · rw [h46]
      cases hl : lineAt a k with
      | false => rfl
      | true =>
        have hb : bg a k = true := by
          cases k with
          | zero => rfl
          | succ k =>
            unfold lineAt at hl
            simp only [Nat.add_one_ne_zero, beq_iff_eq, Bool.or_eq_true, false_or, Nat.add_sub_cancel] at hl
            show (decide (k < a.size) && isEnd (a.getD k 0)) = true
            rw [hl, decide_eq_true (by omega : k < a.size)]; rfl
        rw [hb]; rfl
    · rw [beq_eq_false_iff_ne.mpr h46]
      cases lineAt a k <;> rfl
theorem dotd_all {a : Array Nat} (ha : a.size ≤ 1000) : dotS a = dotdTo a a.size := by
  apply Array.toList_inj.mp
  rw [(dotd_eq _ (Nat.le_refl _)).1, dotS_eq (by omega), List.take_of_length_le (by simp)]
end Mine
end
-- part LawD
section
open PySem PySem.W PyProof.Rows PySem.Calls
set_option Elab.async false
set_option maxRecDepth 100000
set_option maxHeartbeats 8000000
set_option exponentiation.threshold 2000
namespace Mine
section
variable {prog : Program} {w : World} {A : Around} {E : Value → Shared → Prop} {s : Shared}
theorem ne_same {x y : Str} {t u : Tok} {Q : Value → Shared → Prop} (e : x = y) (h : Q (.bool false) s) : wpAny (model prog w) A (compareOp .NotEq (.str x t) (.str y u)) Q E s := by
  subst e
  refine ne_str ?_
  have : (x != x) = false := by simp
  rw [this]; exact h
theorem neB_same {x y : Array UInt8} {t u : Tok} {Q : Value → Shared → Prop} (e : x = y) (h : Q (.bool false) s) : wpAny (model prog w) A (compareOp .NotEq (.bytes x t) (.bytes y u)) Q E s := by
  subst e
  refine ne_bytes ?_
  have : (x.toList != x.toList) = false := by simp
  rw [this]; exact h
end
theorem byteArr_toB (a : Array Nat) : byteArr ((List.range a.size).map fun i : Nat => ((a.getD i 0 : Nat) : Int)) = toB a := by
  unfold byteArr toB
  apply Array.ext (by simp)
  intro i h1 h2
  simp only [List.map_map, List.size_toArray, List.length_map, List.length_range] at h1
  simp [h1]
theorem octs (a : Array Nat) (ha : Octets a) : ∀ n ∈ (List.range a.size).map fun i : Nat => ((a.getD i 0 : Nat) : Int), 0 ≤ n ∧ n < 256 := by
  intro n hn
  obtain ⟨i, _, rfl⟩ := List.mem_map.mp hn
  have := getD_lt ha i
  omega
theorem toB_back {a : Array Nat} (ha : Octets a) : (toB a).map (·.toNat) = a := by
  unfold toB
  rw [Array.map_map]
  apply Array.ext (by simp)
  intro i h1 h2
  simp only [Array.getElem_map, Function.comp_apply]
  have := ha _ (Array.getElem_mem h2)
  show (a[i].toUInt8).toNat = a[i]
  rw [Nat.toUInt8, UInt8.toNat_ofNat']
  exact Nat.mod_eq_of_lt this
theorem dotB {a : Array Nat} (ha : Octets a) (hz : a.size ≤ 1000) : toB (dotS ((toB a).map (·.toNat))) = toB (dotdTo a a.size) := by
  rw [toB_back ha, dotd_all hz]
theorem toB_size (a : Array Nat) : (toB a).size = a.size := by unfold toB; simp
theorem dotd_lt {a : Array Nat} (ha : Octets a) : ∀ k, Octets (dotdTo a k)
  | 0 => fun c hc => by simp [dotdTo] at hc
  | k + 1 => by
    have hg := getD_lt ha k
    unfold dotdTo
    refine all_append (all_append (dotd_lt ha k) ?_) ?_
    · intro c hc
      split at hc
      · unfold dotA at hc
        split at hc <;> simp at hc
        omega
      · simp at hc
    · rintro c ⟨hc⟩
      cases hc with
      | head => exact hg
      | tail _ h => cases h
theorem madeL_at {a : Array Nat} (ha : Octets a) {i : Nat} {x y : Int} (h1 : (toldL a ++ [-1 - toldI a 1])[i]? = some x) (h2 : (madeL a)[i]? = some y) : y = x := by
  rw [made_told ha, h1] at h2
  exact (Option.some.inj h2).symm
theorem told_abs {a : Array Nat} {i : Nat} (hi : i < 5) : (toldI a i).natAbs ≤ 2 ^ (a.size + 1) := by
  have h := told_b (a := a) i hi
  have hc : ((2 : Int) ^ (a.size + 1)) = ((2 ^ (a.size + 1) : Nat) : Int) := by push_cast; rfl
  rw [hc] at h
  omega
theorem all_abs {a : Array Nat} (hz : a.size ≤ 132) {i : Nat} {x : Int} (h1 : (toldL a ++ [-1 - toldI a 1])[i]? = some x) : x.natAbs ≤ 2 ^ 134 := by
  have h2 : (2 : Nat) ^ (a.size + 1) ≤ 2 ^ 133 := Nat.pow_le_pow_right (by decide) (by omega)
  have h3 : (2 : Nat) ^ 134 = 2 ^ 133 + 2 ^ 133 := by decide +kernel
  have key : ∀ j, j < 5 → (toldI a j).natAbs ≤ 2 ^ 133 := fun j hj => Nat.le_trans (told_abs hj) h2
  have hp : 1 ≤ (2 : Nat) ^ 133 := Nat.one_le_two_pow
  rw [h3]
  generalize (2 : Nat) ^ 133 = P at *
  match i, h1 with
  | 0, h1 => have := key 0 (by decide); obtain rfl : toldI a 0 = x := Option.some.inj h1; omega
  | 1, h1 => have := key 1 (by decide); obtain rfl : toldI a 1 = x := Option.some.inj h1; omega
  | 2, h1 => have := key 2 (by decide); obtain rfl : toldI a 2 = x := Option.some.inj h1; omega
  | 3, h1 => have := key 3 (by decide); obtain rfl : toldI a 3 = x := Option.some.inj h1; omega
  | 4, h1 => have := key 4 (by decide); obtain rfl : toldI a 4 = x := Option.some.inj h1; omega
  | 5, h1 => have := key 1 (by decide); obtain rfl : -1 - toldI a 1 = x := Option.some.inj h1; omega
theorem clr_abs (V : Int) : (clr V 32).natAbs ≤ V.natAbs + 2 ^ 32 := by
  unfold clr
  have h1 := Int.emod_nonneg V (b := 2 ^ 32) (by decide)
  have h2 := Int.emod_lt_of_pos V (b := 2 ^ 32) (by decide)
  omega
theorem up_abs {x : Int} {u : Int} (hx : x.natAbs ≤ 2 ^ 134) (hu : 0 ≤ u) (hu2 : u ≤ 32) : (x * 2 ^ u.toNat).natAbs ≤ 2 ^ 166 := by
  rw [Int.natAbs_mul, Int.natAbs_pow]
  have h1 : (2 : Nat) ^ u.toNat ≤ 2 ^ 32 := Nat.pow_le_pow_right (by decide) (by omega)
  have h2 := Nat.mul_le_mul hx h1
  rw [← Nat.pow_add] at h2
  exact h2
theorem clr_up {x : Int} {u : Int} (hx : x.natAbs ≤ 2 ^ 134) (hu : 0 ≤ u) (hu2 : u ≤ 32) : (clr (x * 2 ^ u.toNat) 32).natAbs < 2 ^ 400 := by
  have h1 := clr_abs (x * 2 ^ u.toNat)
  have h2 := up_abs hx hu hu2
  have h3 : (2 : Nat) ^ 166 + 2 ^ 32 < 2 ^ 400 := by decide +kernel
  omega
theorem abs_1000 {x : Int} (hx : x.natAbs ≤ 2 ^ 134) : x.natAbs < 2 ^ 1000 := Nat.lt_of_le_of_lt hx (by decide +kernel)
theorem abs_400 {x u : Int} (hx : x.natAbs ≤ 2 ^ 134) (hu : 0 ≤ u) (hu2 : u ≤ 32) : (x * 2 ^ u.toNat).natAbs < 2 ^ 400 := Nat.lt_of_le_of_lt (up_abs hx hu hu2) (by decide +kernel)
theorem pretty_led {x : Int} : prettyS (x * 2 ^ (32 : Int).toNat) = baseText "0x" 16 (x * 2 ^ (32 : Int).toNat) := pretty_hi x
theorem mul_up {x u : Int} (hx : x.natAbs ≤ 2 ^ 134) (hu : 0 ≤ u) (hu2 : u ≤ 32) : PySem.IntMulOk x (2 ^ u.toNat) := by
  refine mulOk_of_bits (m := 1000) (n := 1000) (intBits_le (abs_1000 hx)) (intBits_le ?_) (by decide)
  rw [Int.natAbs_pow]
  exact Nat.pow_lt_pow_right (by decide) (by omega)
/-- the names of the pairs' loop -/
def JZ (a : Array Nat) (u0 tl ts : Tok) (u : Int) (_ : Nat) (m : Str → Option Value) : Prop :=
  m (Str.ofString "up") = some (.int u u0) ∧ m (Str.ofString "led") = some (.int (toldI a 0) tl) ∧ m (Str.ofString "sent") = some (.str ⟨sentTo a a.size⟩ ts)
theorem pair_led {x : Int} {y z : Str} (h1 : y = prettyS (x * 2 ^ (32 : Int).toNat)) (h2 : z = baseText "0x" 16 (x * 2 ^ (32 : Int).toNat)) : y = z := by
  rw [h1, h2]; exact pretty_led
end Mine
end
-- part Fl
section
open PySem PySem.W PyProof.Rows PySem.Calls
set_option Elab.async false
set_option maxRecDepth 100000
set_option maxHeartbeats 8000000
namespace Mine
theorem fillupFl : (fun (_ : OpenLaw) (_ : Params → Frag) => True) PySem.Challenge.rw_wk0006_01 hd.heap_39 := by
  k_fill
  trivial
section
local macro_rules | `(tactic| walk_at "call type:range") => `(tactic| ((rename Fr _ _ _ _ => F'); (rename News _ _ _ _ => N'); refine range1_news F' N' ?_; intro _ _ _ _ _ _ _ _))
local macro_rules | `(tactic| walk_at "exec For Name Tuple cons nil") => `(tactic| (refine Stop.out ?_))
local macro_rules | `(tactic| walk_at "exec For Name Call cons nil") => `(tactic| (refine Stop.out ?_))
local macro_rules | `(tactic| walk_at "exec For Tuple Call cons nil") => `(tactic| (refine Stop.out ?_))
local macro_rules | `(tactic| walk_at "exec For Tuple Call") => `(tactic| (refine Stop.out ?_))
local macro_rules | `(tactic| walk_at "exec For") => `(tactic| (refine Stop.out ?_))
local macro_rules | `(tactic| walk_at "compareOp NotEq str str") => `(tactic| (k_dflt (refine' ne_same ?e ?_; (case e => first | (with_reducible rfl) | exact pretty_led | rfl))))
local macro_rules | `(tactic| walk_at "compareOp NotEq bytes bytes") => `(tactic| (k_dflt (refine' neB_same ?e ?_; (case e => rfl))))
local macro_rules | `(tactic| walk_at "binaryOp Add ref ref") => `(tactic| (refine Stop.out ?_))
local macro_rules | `(tactic| walk_at "call builtin:hex") => `(tactic| (k_dflt (refine' hex_walk ?b ?_; (case b => exact abs_400 (by assumption) (by decide) (by decide)))))
local macro_rules | `(tactic| walk_at "binaryOp Mult int int") => `(tactic| (k_dflt (refine' mul_int ?_ ?m; (case m => exact mul_up (by assumption) (by first | assumption | decide) (by first | assumption | decide)))))
local macro_rules | `(tactic| walk_at "newTuple") => `(tactic| (refine Stop.out ?_))
local macro_rules | `(tactic| walk_at "binaryOp Mult str int") => `(tactic| (k_dflt (first | ((with_reducible refine' mulB ?hx ?_); (case hx => first | (with_reducible exact dot_eq) | (with_reducible exact cr_eq) | (with_reducible exact nl_eq)); intro _ _; (try dsimp only)) | (refine Stop.out ?_))))
local macro_rules | `(tactic| walk_at "binaryOp Add str str") => `(tactic| (k_dflt ((refine' SB.add ?_ ?hsz); (case hsz => (simp only [len_app, len_sg, len_nl, sizeLine_eq]; omega)); intro _ _; (try dsimp only))))
local macro_rules | `(tactic| walk_at "subscriptTail Name Name str int") => `(tactic| (refine Stop.out ?_))
local macro_rules | `(tactic| walk_at "subscriptTail BinOp Name str int") => `(tactic| (refine Stop.out ?_))
local macro_rules | `(tactic| walk_at "binaryOp Pow int int") => `(tactic| (k_dflt (refine' pow_int_small ?h0 ?h1 ?h2 ?_; (case h0 => omega); (case h1 => omega); (case h2 => decide); (try dsimp only))))
local macro_rules | `(tactic| walk_at "call ref") => `(tactic| (refine Stop.out ?_))
local macro_rules | `(tactic| walk_at "call type:bytes") => `(tactic| (refine Stop.out ?_))
local macro_rules | `(tactic| walk_at "call type:zip") => `(tactic| (refine Stop.out ?_))
local macro_rules | `(tactic| walk_at "call builtin:ord") => `(tactic| (refine Stop.out ?_))
local macro_rules | `(tactic| walk_at "call builtin:str.join") => `(tactic| (refine Stop.out ?_))
local macro_rules | `(tactic| walk_at "subscriptTail") => `(tactic| (refine Stop.out ?_))
local macro_rules | `(tactic| walk_at "eval ListComp") => `(tactic| (refine Stop.out ?_))
local macro_rules | `(tactic| walk_at "exec Assign cons ListComp") => `(tactic| (refine Stop.out ?_))
local macro_rules | `(tactic| walk_at "eval Name") => `(tactic| ((with_reducible show wpAny _ _ (eval (Expr.Name _ _) (compEnvC _ _ _ _)) _ _ _); k_dflt (first
  | ((refine' nameL ?N ?v ?_ ?a ?b ?e); (case a => rfl); (case b => rfl); (case e => decide); (case N => assumption); (case v => assumption))
  | ((refine' nameC ?N ?m ?d ?c ?_ ?a ?b ?e); (case a => rfl); (case b => rfl); (case e => decide); (case c => rfl); (case N => assumption); (case m => k_mem); (case d => assumption)))))
theorem law_holds : PySem.Challenge.rw_wk0006_01.Holds := hd (by
  w_top off
  k_go0
  all_goals try k_fold
  (rename IntsAre _ _ => hI); (rename Heap.IsList _ _ _ => hL); (rename ¬ _ < _ => hlen)
  rename_i w s₀ s₁ mg mb G Y fa o pm doc kV ho hgens KX X V GL TT Bx TE TW a9 a8 M a7 a6 hcd xs hs1 hlay hl1 hr1 hl2 a4 a3 ax vs a0 ra wl r0 hr0 hc1 K0 hD h1 F0 N0
  clear hs1 hlay hl1 hr1 hl2 ra wl r0 hr0 hc1
  refine wpAny_noRaise ?_
  k_steps
  unfold Stop
  refine' Assign_G (cl := ?cl) (fun _ => true) (fun y i => IsS y ⟨#[sgn ((xs.take 10).getD i 0)]⟩) (xs.take 10).length ?hsw ?hclos ?hkind ?hnames ?hy ?hp ?hs ?hsz ?h
  case hsw => with_unfolding_all rfl
  case hclos => with_unfolding_all rfl
  case hkind => rfl
  case hnames => decide
  case hy => rfl
  case hp => rfl
  case hs => intro _; rfl
  case hsz => rw [sizeLine_eq]; exact Nat.le_trans (List.length_take_le _ _) (by decide)
  k_steps
  (rename IntsAre _ (List.take 10 xs) => hI10); (rename Fr _ _ _ _ => F4); (rename News _ _ _ _ => N4)
  refine' list_srcG ?hh_2 ?hsn_2 ?hl_2 ?hk_2 ?hx_2 ?hcf_2 ?tests_2 ?elts_2 ?fin_2
  case hl_2 => exact isList_of N4 (by k_mem)
  case hh_2 => rfl
  case hsn_2 => simpa using hI10.length
  case hk_2 => rfl
  case hx_2 => rfl
  case hcf_2 => intro _; rfl
  case tests_2 => intros; exact testsOf_nil
  case elts_2 =>
    intro C i v m₃ s₃ hi hv _ k₃ hn₃ hm₃
    have F₃ := F4.keeps k₃
    have N₃ := N4.grown k₃
    clear F4 N4
    obtain ⟨c, tc, rfl, hc⟩ := ints_at hI10 (by simpa using hv)
    k_steps
    unfold Stop
    refine newTup_K (by simp) fun D h₄ k₄ hD₄ hT => ?_
    have F₅ := F₃.keeps k₄
    have N₅ := N₃.grown k₄
    have hn₅ := Heap.Ns.at' hn₃ (fun o e => k₄ _ o e)
    clear F₃ N₃ hn₃
    k_steps
    unfold Stop
    have hcd : (List.take 10 xs).getD i 0 = c := by rw [List.getD_eq_getElem?_getD, hc]; rfl
    have h6 : 0 ≤ c.fmod 6 ∧ c.fmod 6 < 6 := by
      rw [Int.fmod_eq_emod_of_nonneg _ (by decide)]; omega
    obtain ⟨tv, htv⟩ := sgn_at c _ _ _ _ _ _
    refine item_tupK hT h6.1 (by simp; omega) (by simp) htv ?_
    exact ⟨⟨_, by rw [hcd]⟩, _, _, rfl, k₄⟩
  case fin_2 =>
    intro D1 h5 tk5 ys1 hD1 hl hG hk
    rw [filter_tt] at hG
    refine assign_fin (by rfl) F4 N4 hl hk hD1 ?_
    clear F4 N4 hl hk hD1
    intro h7 tk7 k2 F5 N5 ne2
    simp only [AllLt] at ne2
    have hS := signs_are hG
    k_steps
    unfold Stop
    refine join_walk (isList_of N5 (by k_mem)) hS (join_ok0 xs) fun tj kj => ?_
    k_steps
    refine SBL.add ?_ ?hsz0
    case hsz0 =>
      have h1 := congrArg Str.length (join_txt xs)
      rw [len_app] at h1
      have h2 : Str.length ⟨txt0 xs⟩ ≤ 33 := txt0_size xs
      rw [sizeLine_eq]
      omega
    intro tt kt
    rw [join_txt]
    k_steps
    unfold Stop
    refine For_W s₁.heap (by rfl) (by rfl) ?_
    k_steps
    unfold Stop
    refine newTup_K (by simp) fun DT hT kT hDT hTup => ?_
    (rename Fr _ _ _ _ => F6)
    have F7 := F6.keeps kT
    have hLT := ns_ne F6 hDT
    clear F6
    have N7 : News s₁.heap s₁.heap.objs.size hT [] := fun p hp => nomatch hp
    refine' tup_W (JL xs) ?hh_3 ?ht_3 F7 N7 ?hnt_3 ?hLt_3 ?h0_3 ?turn_3 ?done_3
    case ht_3 => exact hTup
    case hh_3 => rfl
    case hnt_3 => exact trivial
    case hLt_3 => exact hLT
    case h0_3 => exact ⟨⟨_, rfl⟩, rfl⟩
    case turn_3 =>
      clear F7 N7
      intro i v m₁ news₁ hI tkI own hi hv hJ had hoff F3 N3
      obtain ⟨⟨T, hmt⟩, rfl⟩ := hJ
      obtain ⟨u, tu, rfl, hu⟩ := ups hv
      rw [mset hmt] at F3
      (try dsimp only at F3)
      simp only [List.nil_append] at N3
      have hsz := txt_size xs (i := i) hi
      have hlt := txt_lt xs i
      have hnext : txt xs (i + 1) = sentA (txt xs i) := rfl
      generalize txt xs i = a at *
      have hal : Str.length ⟨a⟩ ≤ 132 := hsz
      k_steps
      unfold Stop
      (rename Fr _ _ _ _ => FA)
      refine c_told (by omega) K0 FA KX TT (by rfl) ?_
      intro D kD hB tkB vsD hkB hDn hgD hID
      have FB := FA.keeps hkB
      have NB := news_more FA N3 hkB hDn hgD
      clear FA N3 hkB hDn hgD
      (try dsimp only at FB NB)
      k_steps
      unfold Stop
      (rename News _ _ _ _ => NC)
      refine item_ints (isList_of NC (by k_mem)) hID (by decide) (by decide) (toldI a 0) rfl ?_
      intro tl
      k_steps
      unfold Stop
      (rename News _ _ _ _ => NC)
      refine item_ints (isList_of NC (by k_mem)) hID (by decide) (by decide) (toldI a 3) rfl ?_
      intro tf
      k_steps
      unfold Stop
      (rename News _ _ _ _ => NC)
      refine item_ints (isList_of NC (by k_mem)) hID (by decide) (by decide) (toldI a 4) rfl ?_
      intro tr
      k_steps
      unfold Stop
      (rename Fr _ _ _ _ => FC); (rename News _ _ _ _ => NC)
      refine newTup_L FC NC (by simp) fun DX hX FX NX lX => ?_
      clear FC NC
      simp only [AllLt] at lX
      k_steps
      unfold Stop
      (rename Fr _ _ _ _ => FC); (rename News _ _ _ _ => NC)
      refine newTup_L FC NC (by simp) fun DX hX FX NX lX => ?_
      clear FC NC
      simp only [AllLt] at lX
      k_steps
      unfold Stop
      refine For_W s₁.heap (by rfl) (by rfl) ?_
      k_steps
      dsimp only at *
      (rename Fr _ _ _ _ => F4); (rename News _ _ _ _ => N4)
      refine' range_Wc (n := a.size) (JK a T tu tl tf tr D u) ?hh_4 ?hr_4 ?hz_4 ?hn_4 F4 N4 ?h0_4 ?turn_4 ?done_4
      case hr_4 => exact (N4 (_, rngO _ _ _ _) (by k_mem)).1
      case hh_4 => rfl
      case hz_4 => rfl
      case hn_4 => omega
      case h0_4 => exact ⟨rfl, rfl, rfl, rfl, rfl, rfl, ⟨_, rfl⟩, ⟨_, rfl⟩, ⟨_, rfl⟩⟩
      case turn_4 =>
        clear F4 N4
        intro k tk m₂ h2 tk2 own2 hk hJ2 hoff2 F5 N5
        obtain ⟨e1, e2, e3, e4, e5, e6, ⟨ts, e7⟩, ⟨tm, e8⟩, td, e9⟩ := hJ2
        rw [mset e1, mset e2, mset e3, mset e4, mset e5, mset e6, mset e7, mset e8, mset e9] at F5
        (try dsimp only at F5)
        simp only [List.cons_append] at N5
        have z1 := len_le (sentTo_size a k)
        have z2 := len_le (mendTo_size a k)
        have z3 := len_le (dotdTo_size a k)
        have z4 := len_ifle (b := ib (toldI a 0) k) (c := 46)
        have z5 := len_ifle (b := ib (toldI a 3) k) (c := 13)
        have z6 := len_ifle (b := ib (toldI a 4) k) (c := 10)
        k_steps
        unfold Stop
        refine item_sign (x := ⟨a⟩) (k := (k : Int)) (by omega) (by simpa using hk) (by dsimp only; omega) ?_
        intro t1 k1
        (try dsimp only)
        k_steps
        unfold Stop
        (rename Fr _ _ _ _ => FC); (rename News _ _ _ _ => NC)
        refine newTup_L FC NC (by simp) fun DX hX FX NX lX => ?_
        clear FC NC
        simp only [AllLt] at lX
        k_steps
        unfold Stop
        refine item_sign (x := nlS a) (k := (k : Int)) (by omega) (by rw [nla_size]; omega) (by rw [nla_size]; omega) ?_
        intro t5 k5
        (try dsimp only)
        k_steps
        unfold Stop
        refine mulC rfl (dotz fr_eq) ?_
        intro t6 k6
        have z7 := len_dz (a := a) (k := k)
        (try dsimp only)
        k_steps
        unfold Stop
        refine item_sign (x := ⟨a⟩) (k := (k : Int)) (by omega) (by simpa using hk) (by dsimp only; omega) ?_
        intro t7 k7
        (try dsimp only)
        k_steps
        (rename Fr _ _ _ _ => FE); (rename News _ _ _ _ => NE)
        exact turnC_next FE (fun p hp => NE p (.tail _ hp)) ⟨rfl, rfl, rfl, rfl, rfl, rfl, ⟨_, rfl⟩, ⟨_, rfl⟩, ⟨_, rfl⟩⟩
      case done_4 =>
        clear F4 N4
        intro h2 tk2 m₂ hJ2 F5 N5
        obtain ⟨e1, e2, e3, e4, e5, e6, ⟨ts, e7⟩, ⟨tm, e8⟩, td, e9⟩ := hJ2
        rw [mset e1, mset e2, mset e3, mset e4, mset e5, mset e6, mset e7, mset e8, mset e9] at F5
        (try dsimp only at F5)
        k_steps
        unfold Stop
        (rename Fr _ _ _ _ => FA); (rename News _ _ _ _ => NA)
        refine c_quote (by omega) K0 FA KX TT (by rfl) ?_
        intro tq hq tkq kq
        have FB := FA.keeps kq
        have NB := NA.grown kq
        clear FA NA kq
        (try dsimp only at FB NB)
        (try dsimp only)
        rw [sent_all (by omega)]
        k_steps
        unfold Stop
        (rename Fr _ _ _ _ => FA); (rename News _ _ _ _ => NA)
        refine c_fix (by omega) K0 FA KX TT (by rfl) ?_
        intro tq hq tkq kq
        have FB := FA.keeps kq
        have NB := NA.grown kq
        clear FA NA kq
        (try dsimp only at FB NB)
        (try dsimp only)
        rw [fixS_eq]
        k_steps
        unfold Stop
        refine' ListComp_G (cl := ?cl_5) (fun _ => true) (fun y i => IsI y ((a.getD i 0 : Nat) : Int)) a.size ?hclos_5 ?hkind_5 ?hnames_5 ?hs_5 ?hsz_5 ?h_5
        case hclos_5 => with_unfolding_all rfl
        case hkind_5 => rfl
        case hnames_5 => decide
        case hs_5 => intro _; rfl
        case hsz_5 => rw [sizeLine_eq]; omega
        k_steps
        (rename Fr _ _ _ _ => FA); (rename News _ _ _ _ => NA)
        refine' str_srcG ?hh_6 ?hsn_6 ?hk_6 ?hx_6 ?hcf_6 ?tests_6 ?elts_6 ?fin_6
        case hsn_6 => rfl
        case hh_6 => rfl
        case hk_6 => rfl
        case hx_6 => rfl
        case hcf_6 => intro _; rfl
        case tests_6 => intros; exact testsOf_nil
        case elts_6 =>
          intro C i v m₃ s₃ hi hv _ k₃ hn₃ hm₃
          have F₃ := FA.keeps k₃
          have N₃ := NA.grown k₃
          clear FA NA
          obtain ⟨c, tv, hcv, rfl⟩ := signAt_of (y := ⟨a⟩) hi hv
          k_steps
          unfold Stop
          refine P.ord_of_char ?_
          exact ⟨⟨_, by rw [hcv]⟩, _, _, rfl, fun _ _ e => e⟩
        case fin_6 =>
          intro D1 h6 tk6 ys1 hD1 hl1 hG hk6
          have hI1 := (hG.map (El' := IsI) (fun i : Nat => ((a.getD i 0 : Nat) : Int)) fun _ _ e => e).ints
          rw [filter_tt] at hI1
          have FB := FA.keeps hk6
          have NB := NA.grown hk6
          clear FA NA hD1 hG hk6
          (try dsimp only at FB NB)
          (try dsimp only)
          k_steps
          unfold Stop
          (rename Fr _ _ _ _ => FA); (rename News _ _ _ _ => NA)
          refine call_bytes_ints hl1.isList hI1 (octs a hlt) (by rw [hI1.length, List.length_map, List.length_range, sizeLine_eq]; omega) rfl ?_
          intro h7 t7 tk7 hk7
          rw [byteArr_toB]
          have FB := FA.keeps hk7
          have NB := NA.grown hk7
          clear FA NA hk7 hl1 hI1
          (try dsimp only at FB NB)
          (try dsimp only)
          k_steps
          unfold Stop
          (rename Fr _ _ _ _ => FA); (rename News _ _ _ _ => NA)
          refine c_periods (by rw [toB_size]; omega) K0 FA KX TT (by rfl) ?_
          intro tq hq tkq kq
          have FB := FA.keeps kq
          have NB := NA.grown kq
          clear FA NA kq
          (try dsimp only at FB NB)
          (try dsimp only)
          rw [dotB hlt (by omega)]
          have hbz : (dotdTo a a.size).size ≤ 1000 := by
            have := dotdTo_size a a.size
            omega
          have hbo := dotd_lt hlt a.size
          k_steps
          unfold Stop
          refine' ListComp_G (cl := ?cl_7) (fun _ => true) (fun y i => IsI y (((dotdTo a a.size).getD i 0 : Nat) : Int)) (dotdTo a a.size).size ?hclos_7 ?hkind_7 ?hnames_7 ?hs_7 ?hsz_7 ?h_7
          case hclos_7 => with_unfolding_all rfl
          case hkind_7 => rfl
          case hnames_7 => decide
          case hs_7 => intro _; rfl
          case hsz_7 => rw [sizeLine_eq]; omega
          k_steps
          (rename Fr _ _ _ _ => FA); (rename News _ _ _ _ => NA)
          refine' str_srcG ?hh_8 ?hsn_8 ?hk_8 ?hx_8 ?hcf_8 ?tests_8 ?elts_8 ?fin_8
          case hsn_8 => rfl
          case hh_8 => rfl
          case hk_8 => rfl
          case hx_8 => rfl
          case hcf_8 => intro _; rfl
          case tests_8 => intros; exact testsOf_nil
          case elts_8 =>
            intro C i v m₃ s₃ hi hv _ k₃ hn₃ hm₃
            have F₃ := FA.keeps k₃
            have N₃ := NA.grown k₃
            clear FA NA
            obtain ⟨c, tv, hcv, rfl⟩ := signAt_of (y := ⟨dotdTo a a.size⟩) hi hv
            k_steps
            unfold Stop
            refine P.ord_of_char ?_
            exact ⟨⟨_, by rw [hcv]⟩, _, _, rfl, fun _ _ e => e⟩
          case fin_8 =>
            intro D1 h6 tk6 ys1 hD1 hl1 hG hk6
            have hI1 := (hG.map (El' := IsI) (fun i : Nat => (((dotdTo a a.size).getD i 0 : Nat) : Int)) fun _ _ e => e).ints
            rw [filter_tt] at hI1
            have FB := FA.keeps hk6
            have NB := NA.grown hk6
            clear FA NA hD1 hG hk6
            (try dsimp only at FB NB)
            (try dsimp only)
            k_steps
            unfold Stop
            (rename Fr _ _ _ _ => FA); (rename News _ _ _ _ => NA)
            refine call_bytes_ints hl1.isList hI1 (octs _ hbo) (by rw [hI1.length, List.length_map, List.length_range, sizeLine_eq]; omega) rfl ?_
            intro h7 t7 tk7 hk7
            rw [byteArr_toB]
            have FB := FA.keeps hk7
            have NB := NA.grown hk7
            clear FA NA hk7 hl1 hI1
            (try dsimp only at FB NB)
            (try dsimp only)
            k_steps
            unfold Stop
            refine For_P s₁.heap (by rfl) (by rfl) (by rfl) (by rfl) ?_
            k_steps
            unfold Stop
            (rename News _ _ _ _ => NC)
            refine item_ints (isList_of NC (by k_mem)) hID (by decide) (by decide) (toldI a 1) rfl ?_
            intro t1
            k_steps
            unfold Stop
            (rename Fr _ _ _ _ => FA); (rename News _ _ _ _ => NA)
            refine kmk_add_ints FA NA (isList_of NA (by k_mem)) (isList_of NA (by k_mem)) hID (.cons _ _ .nil) ?_ ?hz_9
            case hz_9 => rw [sizeLine_eq]; exact Nat.le_of_ble_eq_true rfl
            intro D2 us2 h8 F8 N8 lt8 hI2
            have ow2 : ∀ p ∈ own, p.1 ≠ D2 := fun p hp => Nat.ne_of_lt (lt8 p (by simp only [List.mem_cons]; exact .inr (.inr (.inr (.inr (.inr hp))))))
            have N9 : News _ _ h8 ((D2, W.listOf (List.toArray us2) 0) :: own) := fun p hp => N8 p (by
              rcases List.mem_cons.mp hp with rfl | hp
              · exact .head _
              · exact .tail _ (.tail _ (.tail _ (.tail _ (.tail _ (.tail _ hp))))))
            clear FA NA N8 lt8
            (try dsimp only at F8 N9)
            (try dsimp only)
            k_steps
            unfold Stop
            (rename Fr _ _ _ _ => FA); (rename News _ _ _ _ => NA)
            refine c_made (by omega) K0 FA KX TT (by rfl) ?_
            intro D3 kD3 h9 tk9 us3 hk9 hDn9 hgD9 hI3
            have ow3 : ∀ p ∈ own, p.1 ≠ D3 := fun p hp e => by
              have := (NA p (.tail _ hp)).1
              rw [e] at this
              rw [hDn9] at this
              cases this
            have FB := FA.keeps hk9
            have NB := news_more FA NA hk9 hDn9 hgD9
            clear FA NA hk9 hDn9 hgD9
            (try dsimp only at FB NB)
            (try dsimp only)
            k_steps
            unfold Stop
            (rename Fr _ _ _ _ => FA); (rename News _ _ _ _ => NA)
            have hL2 := (NA _ (.tail _ (.head _))).2.1
            have hL3 := (NA _ (.head _)).2.1
            refine' zip_W (n := 6) (JZ a tu tl ts u) ?hh_9 (isList_of NA (.tail _ (.head _))) (isList_of NA (.head _)) hI2 hI3 ?hn1_9 ?hn2_9 FA (fun p hp => NA p (.tail _ (.tail _ hp))) ow2 ow3 ?hL1_9 ?hL2_9 ?h0_9 ?turn_9 ?done_9
            case hh_9 => rfl
            case hn1_9 => rfl
            case hn2_9 => rfl
            case hL1_9 => exact fun e => hL2 e.symm
            case hL2_9 => exact fun e => hL3 e.symm
            case h0_9 => exact ⟨rfl, rfl, rfl⟩
            case turn_9 =>
              clear FA NA hL2 hL3 ow2 ow3
              intro j x y tx ty m₃ h10 tk10 own10 hj hx hy hJ3 hoff3 FA NA
              obtain ⟨z1, z2, z3⟩ := hJ3
              rw [mset z1, mset z2, mset z3] at FA
              (try dsimp only at FA)
              have hxy : y = x := madeL_at hlt hx hy
              subst hxy
              have hxa := all_abs hsz hx
              clear hx hy hI2 hI3
              have hu0 : 0 ≤ u := by omega
              have hu32 : u ≤ 32 := by omega
              k_steps
              unfold Stop
              (rename Fr _ _ _ _ => FC); (rename News _ _ _ _ => NC)
              refine o1_lsh hu0 (by omega) (abs_1000 hxa) K0 FC KX TT (by rfl) ?_
              intro t11 h11 tk11 k11
              have FB := FC.keeps k11
              have NB := NC.grown k11
              clear FC NC k11
              (try dsimp only at FB NB)
              (try dsimp only)
              k_steps
              unfold Stop
              (rename Fr _ _ _ _ => FC); (rename News _ _ _ _ => NC)
              refine c_pretty (clr_up hxa hu0 hu32) K0 FC KX TT (by rfl) ?_
              intro t11 h11 tk11 k11
              have FB := FC.keeps k11
              have NB := NC.grown k11
              clear FC NC k11
              (try dsimp only at FB NB)
              (try dsimp only)
              k_steps
              unfold Stop
              (rename Fr _ _ _ _ => FC); (rename News _ _ _ _ => NC)
              refine c_words (clr_up hxa hu0 hu32) K0 FC KX TT (by rfl) ?_
              intro t11 h11 tk11 k11
              have FB := FC.keeps k11
              have NB := NC.grown k11
              clear FC NC k11
              (try dsimp only at FB NB)
              (try dsimp only)
              k_steps
              (rename Fr _ _ _ _ => FE); (rename News _ _ _ _ => NE)
              exact turnC_next FE NE ⟨rfl, rfl, rfl⟩
            case done_9 =>
              clear FA NA hL2 hL3 ow2 ow3 hI2 hI3
              intro h10 tk10 m₃ hJ3 FA NA
              obtain ⟨z1, z2, z3⟩ := hJ3
              rw [mset z1, mset z2, mset z3] at FA
              (try dsimp only at FA)
              have hla : (toldI a 0).natAbs ≤ 2 ^ 134 := all_abs hsz (i := 0) rfl
              k_steps
              unfold Stop
              (rename Fr _ _ _ _ => FC); (rename News _ _ _ _ => NC)
              refine o1_lsh (by decide) (by decide) (abs_1000 hla) K0 FC KX TT (by rfl) ?_
              intro t11 h11 tk11 k11
              have FB := FC.keeps k11
              have NB := NC.grown k11
              clear FC NC k11
              (try dsimp only at FB NB)
              (try dsimp only)
              k_steps
              unfold Stop
              (rename Fr _ _ _ _ => FC); (rename News _ _ _ _ => NC)
              refine c_pretty (clr_up hla (by decide) (by decide)) K0 FC KX TT (by rfl) ?_
              intro t11 h11 tk11 k11
              have FB := FC.keeps k11
              have NB := NC.grown k11
              clear FC NC k11
              (try dsimp only at FB NB)
              (try dsimp only)
              k_steps
              (rename Fr _ _ _ _ => FE); (rename News _ _ _ _ => NE)
              exact TurnN.next0 FE NE rfl ⟨⟨_, by rw [hnext]; rfl⟩, rfl⟩
    case done_3 =>
      intro hI tkI m₁ news₁ hJ had F8 N8
      k_steps)
end
end Mine
end
theorem PySem.Challenge.cw_wk0006_01_holds : PySem.Challenge.rw_wk0006_01.Holds := by
  exact Mine.law_holds
