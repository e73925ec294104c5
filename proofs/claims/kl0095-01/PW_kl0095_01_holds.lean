import PyProof.Rows.All
import Wide.All
import OpenK.AllK
import Wide.FinOn
import PySem.Challenge.RW_kl0095_01
open PySem PySem.W PyProof.Rows
set_option Elab.async false
set_option maxRecDepth 100000
set_option maxHeartbeats 40000000
section SHEAD1
namespace Mine
theorem hookIs {P : Prop} {H : Hook} (f : ∀ H', H' = H → False) (H' : Hook) (e : H' = H) : P := (f H' e).elim
section
local macro_rules | `(tactic| o_head $H) => `(tactic| (refine hookIs (H := ?hh) ?f $H ?e; (case f => assumption); (case e => exact rfl)))
noncomputable def lay : PSigma fun H : Hook => (∀ H', H' = H → False) → PySem.Challenge.rw_kl0095_01.row.Holds := by
  refine' ⟨_, fun hF => ?_⟩
  rotate_left
  · k_head
end
end Mine
end SHEAD1
section SToks
namespace Mine
theorem runs_toks {M : Model} {Γ : Ctx} {p : Pos} {t : Sem Fin} {fs : List Frame} {s s' : Shared} {e : End} (h : Runs M Γ p t fs s e s') : s.toks ≤ s'.toks := by
  induction h <;> first | exact Nat.le_refl _ | assumption | exact Nat.le_of_succ_le ‹_› | exact Nat.le_trans ‹_› ‹_›
theorem wakes_toks {M : Model} {Γ : Ctx} {p : Pos} {g : Nat} {r : Resume} {s s' : Shared} {res : GenResult} (h : Wakes M Γ p g r s res s') : s.toks ≤ s'.toks := by
  unfold Wakes at h
  split at h
  · exact h.elim
  · split at h
    · obtain ⟨_, _, hr, _, _, rfl⟩ := h; have z := runs_toks hr; exact z
    · exact h.2 ▸ Nat.le_refl _
    · exact h.2 ▸ Nat.le_refl _
  · obtain ⟨_, _, hr, _, _, rfl⟩ := h; have z := runs_toks hr; exact z
  · exact h.2 ▸ Nat.le_refl _
  · exact h.2 ▸ Nat.le_refl _
theorem wp_toks {α : Type} {M : Model} {Γ : Ctx} {Q : α → Pos → Shared → Prop} {E : Value → Pos → Shared → Prop} {n : Nat} : ∀ {t : Sem α} {p : Pos} {s : Shared}, n ≤ s.toks → Sem.wp M Γ t (fun a p' s' => n ≤ s'.toks → Q a p' s') E p s → Sem.wp M Γ t Q E p s := by
  intro t
  induction t with
  | pure a => intro p s hk h; exact h hk
  | load a part k ih => intro p s hk ⟨o, e, h⟩; exact ⟨o, e, ih _ hk h⟩
  | update a part f k ih => intro p s hk h; exact ⟨h.1, ih _ hk h.2⟩
  | choose a b k ih => intro p s hk h; exact ⟨h.1, ih _ hk h.2⟩
  | genState g k ih => intro p s hk ⟨o, e, h⟩; exact ⟨o, e, ih _ hk h⟩
  | fresh k ih => intro p s hk h; exact ih _ (Nat.le_succ_of_le hk) h
  | call c a b d k ih => intro p s hk ⟨r, s', e, h⟩; exact ⟨r, s', e, ih _ (Nat.le_trans hk (runs_toks e)) h⟩
  | resume g r a k ih => intro p s hk ⟨r, s', e, h⟩; exact ⟨r, s', e, ih _ (Nat.le_trans hk (wakes_toks e)) h⟩
  | rule _ k ih => intro p s hk h; exact ih _ hk h
  | «at» _ k ih => intro p s hk h; exact ih _ hk h
  | alloc _ k ih => intro p s hk h; exact ih _ hk h
  | loadIfAlive _ k ih => intro p s hk h; exact ih _ hk h
  | point _ k ih => intro p s hk h; exact ih _ hk h
  | ask k ih => intro p s hk h; exact ih _ hk h
  | os _ _ k ih => intro p s hk h; exact ih _ hk h
  | handled _ k ih => intro p s hk h; exact ih _ hk h
  | newGen _ k ih => intro p s hk h; exact ih _ hk h
  | stack k ih => intro p s hk h; exact ih _ hk h
  | thread k ih => intro p s hk h; exact ih _ hk h
  | _ => intro p s hk h; exact h
/-- the count of tokens never falls -/
theorem toksUp {α : Type} {M : Model} {A : Around} {t : Sem α} {Q : α → Shared → Prop} {E : Value → Shared → Prop} {s : Shared} (h : wpAny M A t (fun a s' => s.toks ≤ s'.toks → Q a s') E s) : wpAny M A t Q E s :=
  fun Γ p hΓ => wp_toks (Nat.le_refl _) (h Γ p hΓ)
/-- and so of code -/
theorem toksUpCode {M : Model} {A : Around} {c : Code} {R : Result → Shared → Prop} {s : Shared} (h : codeAny M A c (fun r s' => s.toks ≤ s'.toks → R r s') s) : codeAny M A c R s :=
  fun Γ p e hΓ => let ⟨r, s', hr, q⟩ := h Γ p e hΓ; ⟨r, s', hr, q (runs_toks hr)⟩
end Mine
end SToks
section SBase
namespace Mine
abbrev PG : Program := PySem.Challenge.rw_kl0095_01.row.prog
def fm : List (Str × Value) → Str → Option Value
  | [], _ => none
  | (x, v) :: l, y => if y = x then some v else fm l y
theorem fr_re {h₀ h : Heap} {L : Addr} {m₁ m₂ : Str → Option Value} (F : Fr h₀ L h m₁) (e : ∀ y, m₁ y = m₂ y) : Fr h₀ L h m₂ := (funext e : m₁ = m₂) ▸ F
theorem fr_turn {h₀ h : Heap} {L : Addr} {m₁ : Str → Option Value} {x : Str} {v : Value} {l : List (Str × Value)} (F : Fr h₀ L h (fun y => if y = x then some v else m₁ y)) (e : ∀ y, y ≠ x → m₁ y = fm l y) : Fr h₀ L h (fm ((x, v) :: l)) :=
  fr_re F fun y => by
    show _ = if y = x then some v else fm l y
    by_cases h : y = x
    · rw [if_pos h, if_pos h]
    · rw [if_neg h, if_neg h, e y h]
theorem fr_done {h₀ h : Heap} {L : Addr} {m₁ : Str → Option Value} {x : Str} {l : List (Str × Value)} (F : Fr h₀ L h m₁) (e : ∀ y, y ≠ x → m₁ y = fm l y) : Fr h₀ L h (fun y => if y = x then m₁ x else fm l y) :=
  fr_re F fun y => by
    by_cases h : y = x
    · rw [if_pos h, h]
    · rw [if_neg h, e y h]
theorem fm_of_lookup (y : Str) : ∀ l : List (Str × Value), l.lookup y = fm l y
  | [] => rfl
  | (x, v) :: l => by
    rw [List.lookup_cons]
    show _ = if y = x then some v else fm l y
    by_cases h : y = x
    · rw [if_pos h, h]; simp
    · rw [if_neg h, ← fm_of_lookup y l]
      have : (y == x) = false := by simpa using h
      rw [this]
theorem fr_binds {h₀ h : Heap} {L : Addr} {b l : List (Str × Value)} (F : Fr h₀ L h (fun y => b.lookup y)) (e : b = l) : Fr h₀ L h (fm l) := fr_re F fun y => (congrArg (List.lookup y) e).trans (fm_of_lookup y l)
abbrev Grow (h h' : Heap) : Prop := ∀ b o, h.get? b = some o → h'.get? b = some o

section
variable {prog : Program} {w : World} {A₀ A : Around} {s : Shared} {base h₀ : Heap} {outer : List Env} {L : Addr} {m : Str → Option Value} {env : Env} {K : Frag} {p : Program} {loose : List Str} {mean : ExcName → Option Value} {mg mb : Str → Option Value}
  {R : Result → Shared → Prop} {name qual : Str} {params : Arguments} {body : List Stmt} {scope : Scope} {dV kV doc pm cdv ct oc : Value} {an od : Option Addr} {osl : Array (Option Value)} {f : Addr} {args : Args} {binds : List (Str × Value)}
theorem enter0 (B : Below A₀ base outer h₀) (F : Fr h₀ L s.heap m) (X₀ : K.In h₀) (T : Top p loose mean mg mb h₀) (hA : A.frames = some (env :: outer)) (hf : env.frame = some L) (hke : env.scope.kind = .function)
    (ho : K.lookup f = some ⟨oc, od, .func (fnOf name qual params body scope dV kV doc pm an cdv ct), osl⟩) (hcd : codeIn K cdv qual = true) (hroom : A.depth < recursionLimit)
    (hbind : BindsTo s (fnOf name qual params body scope dV kV doc pm an cdv ct) args binds) (hloc : ∀ y ∈ binds, scope.names.lookup y.1 = some .local)
    (h : ∀ L' h₁ tk, s.toks ≤ tk → Fr s.heap L' h₁ (fun y => binds.reverse.lookup y) → News s.heap L' h₁ [] → Below A base (env :: outer) s.heap → K.In s.heap → Top p loose mean mg mb s.heap →
      wpAny (model prog w) (A.deeper (envOf qual scope L' f cdv)) (execs body (envOf qual scope L' f cdv))
        (fun fl s' => LeaveK h₀ L m s.heap R (match fl with | .ret v => v | _ => .none) s')
        (fun e s' => wpAny (model prog w) (A.deeper (envOf qual scope L' f cdv)) (leaving (envOf qual scope L' f cdv) e) (fun _ s'' => R (.error e) s'') (fun e' s'' => R (.error e') s'') s')
        { s with heap := h₁, toks := tk })
    (hco : scope.isCoroutine = false) (hgen : scope.isGenerator = false) (hk : scope.kind = .function)
    (hcell : ∀ x ∈ scope.names, x.2 ≠ .cell) : codeAny (model prog w) A (.call (.ref f) args) R s := by
  obtain ⟨FG, BG, st, lv⟩ := groundX (R := R) B F (News.nil) hA hf hke
  refine PySem.codeAny_call_def (fd := fnX name qual params body scope [] dV kV doc pm an cdv ct) (body := body) (binds := binds) hroom ((X₀.keeps F.keep) _ _ ho) rfl (T.nolimit.keeps F.keep) (codeRec_of (X₀.keeps F.keep) hcd) rfl hbind hcell hloc (fun h₁ hns hk₁ => ?_) hco hgen hk
  exact wpAny_mono (h s.heap.objs.size h₁ _ (Nat.le_add_right _ _) ⟨hns, hk₁, Nat.le_refl _⟩ News.nil BG (X₀.keeps F.keep) (T.keeps F.keep)) (fun fl s' hl => lv _ _ hl) fun _ _ y => y
theorem enterC {mu : List (Addr × Obj)} (B : Below A₀ base outer h₀) (F : Fr h₀ L s.heap m) (X₀ : K.In h₀) (N : News h₀ L s.heap mu) (T : Top p loose mean mg mb h₀) (hA : A.frames = some (env :: outer)) (hf : env.frame = some L) (hke : env.scope.kind = .function)
    (ho : K.lookup f = some ⟨oc, od, .func (fnOf name qual params body scope dV kV doc pm an cdv ct), osl⟩) (hcd : codeIn K cdv qual = true) (hroom : A.depth < recursionLimit)
    (hbind : BindsTo s (fnOf name qual params body scope dV kV doc pm an cdv ct) args binds) (hkind : (binds.all fun y => scope.names.lookup y.1 == some .local || scope.names.lookup y.1 == some .cell) = true)
    (hnd : ((cellsFrom 0 scope.names []).map (·.1)).Nodup)
    (h : ∀ L' h₁ tk cells, s.toks ≤ tk → Fr (hideAll s.heap (mu.map (·.1))) L' h₁ (bindL (envOfC qual scope L' f cdv).kindOf binds fun _ => none) → News (hideAll s.heap (mu.map (·.1))) L' h₁ (cells ++ mu) →
      CellsAre (bindC (envOfC qual scope L' f cdv).kindOf binds fun _ => none) (cellsFrom (L' + 1) scope.names []) cells → Below A base (env :: outer) (hideAll s.heap (mu.map (·.1))) → K.In (hideAll s.heap (mu.map (·.1))) → Top p loose mean mg mb (hideAll s.heap (mu.map (·.1))) → (∀ p ∈ mu, p.1 < L') →
      wpAny (model prog w) (A.deeper (envOfC qual scope L' f cdv)) (execs body (envOfC qual scope L' f cdv))
        (fun fl s' => LeaveK h₀ L m (hideAll s.heap (mu.map (·.1))) R (match fl with | .ret v => v | _ => .none) s')
        (fun e s' => wpAny (model prog w) (A.deeper (envOfC qual scope L' f cdv)) (leaving (envOfC qual scope L' f cdv) e) (fun _ s'' => R (.error e) s'') (fun e' s'' => R (.error e') s'') s')
        { s with heap := h₁, toks := tk })
    (hco : scope.isCoroutine = false) (hgen : scope.isGenerator = false) (hk : scope.kind = .function) : codeAny (model prog w) A (.call (.ref f) args) R s := by
  obtain ⟨FG, BG, st, lv⟩ := groundX (R := R) B F N hA hf hke
  refine codeAny_call_function hroom ((X₀.keeps F.keep) _ _ ho) rfl hco hgen rfl (codeRec_of (X₀.keeps F.keep) hcd) (hbind _ _ _ _ ?_)
  refine toksUp (wpAny_newFunctionEnv_cells hk (kindsX hkind _) fun env' he s' x hU => ?_)
  subst he
  refine ⟨(T.nolimit.keeps F.keep).keeps x.toInCall.keep, codeAny_func ?_⟩
  obtain ⟨h₁, tk, rfl, _⟩ := x.done
  have hk₁ := x.toInCall.keep
  obtain ⟨cells, NC, Y⟩ := Cl.news (h₀ := s.heap) (Nat.le_refl _) fun n c hm => ⟨x.cell n c (lookup_of_mem_nodup (cellsFrom_names scope.names 0 (s.heap.objs.size + 1) [] [] rfl ▸ hnd) hm), x.above n c hm⟩
  refine wpAny_mono (h s.heap.objs.size h₁ tk cells hU ⟨x.toInCall.ns, fun b o e => hk₁ b o (of_hideAll _ e), Nat.le_of_eq (hideAll_size _ _)⟩ (fun p hp => ?_) Y BG (X₀.keeps st) (T.keeps st) (fun p hp => Heap.lt_size (N p hp).1)) (fun fl s' hl => lv _ _ hl) fun _ _ y => y
  rcases List.mem_append.mp hp with hp | hp
  · refine ⟨(NC p hp).1, (NC p hp).2.1, ?_⟩
    cases q : (hideAll s.heap (mu.map (·.1))).get? p.1 with
    | none => rfl
    | some o => have := of_hideAll _ q; rw [(NC p hp).2.2] at this; cases this
  · exact ⟨hk₁ _ _ (N p hp).1, Nat.ne_of_lt (Heap.lt_size (N p hp).1), hideAll_none _ (List.mem_map_of_mem hp)⟩
end
theorem ret_new {h₀ h h' : Heap} {L L1 : Addr} {m m1 : Str → Option Value} {news nw : List (Addr × Obj)} {a : Addr} {o : Obj} (F : Fr h₀ L h m) (N : News h₀ L h news) (F' : Fr h L1 h' m1) (N' : News h L1 h' nw) (hm : (a, o) ∈ nw) :
    Fr h₀ L h' m ∧ News h₀ L h' ((a, o) :: news) ∧ ∀ p ∈ news, p.1 ≠ a := by
  have ha := N' _ hm
  have fr : ∀ b x, h.get? b = some x → b ≠ a := fun b x e q => by have := ha.2.2; rw [← q, e] at this; cases this
  refine ⟨F.keeps F'.keep, fun p hp => ?_, fun p hp => fr _ _ (N p hp).1⟩
  rcases List.mem_cons.mp hp with rfl | hp
  · refine ⟨ha.1, fun q => ?_, ?_⟩
    · obtain ⟨oL, _, _, e, _⟩ := F.ns
      exact fr _ _ e q.symm
    · cases q : h₀.get? a with
      | none => rfl
      | some x => exact absurd rfl (fr _ _ (F.keep _ _ q))
  · exact ⟨F'.keep _ _ (N p hp).1, (N p hp).2⟩
theorem cut {α : Type} {M : Model} {A : Around} {E : Value → Shared → Prop} {s : Shared} {t : Sem α} {Q : α → Shared → Prop} (P : α → Shared → Prop) (h1 : ∀ Q' : α → Shared → Prop, (∀ a s', P a s' → Q' a s') → wpAny M A t Q' E s) (h2 : ∀ a s', P a s' → Q a s') : wpAny M A t Q E s := h1 Q h2
theorem absQ {α : Type} {M : Model} {A : Around} {t : Sem α} {Q : α → Shared → Prop} {E : Value → Shared → Prop} {s : Shared} (h : ∀ (K : α → Shared → Prop) (E' : Value → Shared → Prop), (∀ v s', Q v s' → K v s') → wpAny M A t K E' s) : wpAny M A t Q E s := h Q E fun _ _ h => h
/-- a halt of the walk: the script goes on by hand -/
def Stop (P : Prop) : Prop := P
theorem Stop.out {P : Prop} (h : Stop P) : P := h
theorem Stop.go {P : Prop} (h : P) : Stop P := h
section
variable {prog : Program} {w : World} {A : Around} {E : Value → Shared → Prop} {s : Shared}
theorem item_ints {value slice : Expr} {l : Addr} {vs : List Value} {ns : List Int} {k : Int} {u : Tok} {Q : Value → Shared → Prop} (hl : s.heap.IsList l vs.toArray) (hi : IntsAre vs ns) (h0 : 0 ≤ k) (hk : k < ns.length) (hf : ns.length ≤ 1000)
    (h : ∀ t, Q (.int (ns.getD k.toNat 0) t) s) (hs : subscripted slice false (.ref l) (.int k u) = operate [.ref l, .int k u] (getItem (.ref l) (.int k u)) := by with_unfolding_all rfl) :
    wpAny (model prog w) A (subscriptTail value slice (.ref l) (.int k u)) Q E s := by
  have hlt : k.toNat < ns.length := by omega
  obtain ⟨t, hx⟩ := hi.get k.toNat ns[k.toNat] (by simp [hlt])
  have e : ns.getD k.toNat 0 = ns[k.toNat] := by simp [List.getD, hlt]
  exact tail_any hl.typeIs slot_list_getitem.lookup (wpAny_getItem_list hl h0 (by omega) (by simpa using hx) (e ▸ h t)) hs
end
end Mine
end SBase
section SLoops
open PySem.Calls
namespace Mine
def ForEnd (h₀ : Heap) (L I : Addr) (oI : Obj) (S : List (Addr × Obj) → Prop) (Jn : Nat → (Str → Option Value) → List (Addr × Obj) → Prop) (s₁ : Shared) (Q : Flow → Shared → Prop) (f : Flow) (s₂ : Shared) : Prop :=
  match f with
  | .ret v => Q (.ret v) s₂
  | .brk => Q .next s₂
  | _ => ∃ h' tk m₂ news₂, s₂ = { s₁ with heap := h', toks := tk } ∧ Fr h₀ L h' m₂ ∧ News h₀ L h' ((I, oI) :: news₂) ∧ (∀ p ∈ news₂, p.1 ≠ I) ∧ S news₂ ∧ Jn tk m₂ news₂
theorem ForEnd.next {h₀ : Heap} {L I : Addr} {oI : Obj} {S : List (Addr × Obj) → Prop} {Jn : Nat → (Str → Option Value) → List (Addr × Obj) → Prop} {s₁ : Shared} {Q : Flow → Shared → Prop} {h' : Heap} {tk : Nat} {m₂ : Str → Option Value} {news₂ : List (Addr × Obj)}
    (F : Fr h₀ L h' m₂) (N : News h₀ L h' ((I, oI) :: news₂)) (off : ∀ p ∈ news₂, p.1 ≠ I) (hS : S news₂) (hJ : Jn tk m₂ news₂) : ForEnd h₀ L I oI S Jn s₁ Q .next { s₁ with heap := h', toks := tk } :=
  ⟨h', tk, m₂, news₂, rfl, F, N, off, hS, hJ⟩

section
variable {prog : Program} {w : World} {A : Around} {s : Shared} {env : Env} {h₀ : Heap}
theorem forCore {R : Result → Shared → Prop} {x : Str} {px : Pos} {body : List Stmt} {I : Addr} {fp : List Addr} {n : Nat} {P : Nat → Value → Prop} {St : Nat → Heap → Prop} {m : Str → Option Value} {news : List (Addr × Obj)} {S : List (Addr × Obj) → Prop}
    (J : Nat → Nat → (Str → Option Value) → List (Addr × Obj) → Prop) (hmono : ∀ i k k' m nw, k ≤ k' → J i k m nw → J i k' m nw)
    (W : Walks prog w A I fp [I] n P St) (hIo : ∀ i h, St i h → ∃ o, h.get? I = some o)
    (hSt : ∀ i h h' o nw, St i h → h.get? I = some o → h'.get? I = some o → Grow h₀ h' → News h₀ env.locals h' nw → S nw → St i h')
    (hx : env.kindOf x = some .local) (hp : (env.scope.kind == .class || (env.scope.kind == .module && env.locals != env.globals)) = false)
    (hLf : env.locals ∉ fp) (hst : St 0 s.heap) (F : Fr h₀ env.locals s.heap m) (N : News h₀ env.locals s.heap news) (hI₀ : h₀.get? I = none) (off : ∀ p ∈ news, p.1 ≠ I) (hS : S news) (h0 : J 0 s.toks m news)
    (turn : ∀ i v oI m₁ news₁ h tk E', i < n → P i v → J i tk m₁ news₁ → S news₁ → (∀ p ∈ news₁, p.1 ≠ I) → Fr h₀ env.locals h (fun y => if y = x then some v else m₁ y) → News h₀ env.locals h ((I, oI) :: news₁) →
      wpAny (model prog w) A (execs body env) (ForEnd h₀ env.locals I oI S (J (i + 1)) { s with heap := h, toks := tk } (fun f s' => R (.ok f) s')) E' { s with heap := h, toks := tk })
    (hR : ∀ h' tk m' news', Fr h₀ env.locals h' m' → News h₀ env.locals h' news' → S news' → J n tk m' news' → R (.ok .next) { s with heap := h', toks := tk }) :
    codeAny (model prog w) A (.forLoop (.Name x px) (.ref I) body [] env) R s := by
  have hLI : env.locals ≠ I := fun e => hLf (e ▸ W.sub I (List.mem_singleton.mpr rfl))
  refine codeAny_forLoop
    (fun k s' => ∃ h' tk m' news' i, s' = { s with heap := h', toks := tk } ∧ St i h' ∧ Fr h₀ env.locals h' m' ∧ News h₀ env.locals h' news' ∧ (∀ p ∈ news', p.1 ≠ I) ∧ S news' ∧ J i tk m' news' ∧ i ≤ n ∧ k = n + 1 - i) ?_ (n + 1)
    ⟨s.heap, s.toks, m, news, 0, rfl, hst, F, N, off, hS, h0, Nat.zero_le _, rfl⟩
  rintro k s' ⟨h', tk, m', news', i, rfl, hst', F', N', off', hS', hJ, hi, rfl⟩
  have upd : ∀ h₁ : Heap, (∀ b o, b ∉ [I] → h'.get? b = some o → h₁.get? b = some o) → Fr h₀ env.locals h₁ m' ∧ News h₀ env.locals h₁ news' := fun h₁ hk => by
    refine ⟨⟨F'.ns.at' fun o e => hk _ o (by simpa using hLI) e, fun b o e => hk b o (fun hm => ?_) (F'.keep b o e), F'.above⟩, fun p hp => ⟨hk _ _ (by simpa using off' p hp) (N' p hp).1, (N' p hp).2⟩⟩
    rw [List.mem_singleton.mp hm, hI₀] at e; cases e
  by_cases hlt : i < n
  · refine toksUp (W.item i _ _ _ hlt hst' fun v h₁ tk₁ hP hst₁ hk₁ hu₁ => ?_)
    obtain ⟨F₁, N₁⟩ := upd h₁ hk₁
    obtain ⟨oI, hoI⟩ := hIo _ _ hst₁
    refine toksUp (wpAny_assign_Name (wpAny_storeName_local hx F₁.ns (fun h₂ hn₂ hs₂ hu₂ => ?_) hp))
    have hoI₂ : h₂.get? I = some oI := (hs₂.2 I (Ne.symm hLI)).trans hoI
    have hst₂ : St (i + 1) h₂ := W.frame _ _ _ hst₁ fun b hb o e => (hs₂.2 b fun q => hLf (q ▸ hb)).trans e
    refine wpAny_mono (turn i v oI m' news' h₂ _ _ hlt hP (hmono _ _ _ _ _ (Nat.le_trans hu₁ hu₂) hJ) hS' off' (F₁.set hn₂ hs₂) (fun p hp => ?_)) (fun f s₃ h₃ => ?_) fun _ _ e => e
    · rcases List.mem_cons.mp hp with rfl | hp
      · exact ⟨hoI₂, Ne.symm hLI, hI₀⟩
      · exact (N₁.set hs₂) p hp
    · have fin : (∃ h' tk m₂ news₂, s₃ = { s with heap := h', toks := tk } ∧ Fr h₀ env.locals h' m₂ ∧ News h₀ env.locals h' ((I, oI) :: news₂) ∧ (∀ p ∈ news₂, p.1 ≠ I) ∧ S news₂ ∧ J (i + 1) tk m₂ news₂) →
          ∃ q, q < n + 1 - i ∧ ∃ h' tk m' news' i, s₃ = { s with heap := h', toks := tk } ∧ St i h' ∧ Fr h₀ env.locals h' m' ∧ News h₀ env.locals h' news' ∧ (∀ p ∈ news', p.1 ≠ I) ∧ S news' ∧ J i tk m' news' ∧ i ≤ n ∧ q = n + 1 - i := by
        rintro ⟨h₄, tk₄, m₂, news₂, rfl, F₄, N₄, off₄, hS₄, hJ₄⟩
        have N₅ : News h₀ env.locals h₄ news₂ := fun p hp => N₄ p (List.mem_cons_of_mem _ hp)
        exact ⟨n + 1 - (i + 1), by omega, h₄, tk₄, m₂, news₂, i + 1, rfl, hSt _ _ _ _ _ hst₂ hoI₂ (N₄ _ List.mem_cons_self).1 F₄.keep N₅ hS₄, F₄, N₅, off₄, hS₄, hJ₄, hlt, rfl⟩
      cases f with
      | ret v => exact h₃
      | brk => exact h₃
      | next => exact fin h₃
      | cont => exact fin h₃
  · have hin : i = n := by omega
    subst hin
    refine toksUp (W.done _ _ _ hst' fun h₁ tk₁ hk₁ hu₁ => wpAny_execs_nil ?_)
    obtain ⟨F₁, N₁⟩ := upd h₁ hk₁
    exact hR h₁ tk₁ m' news' F₁ N₁ hS' (hmono _ _ _ _ _ hu₁ hJ)

/-- what a source gives: a fresh iterator -/
def Src (prog : Program) (w : World) (A : Around) (h₀ : Heap) (L : Addr) (m : Str → Option Value) (news : List (Addr × Obj)) (S : List (Addr × Obj) → Prop) (n : Nat) (P : Nat → Value → Prop) (xv : Value) (s₁ : Shared) : Prop :=
  ∀ (Q : Value → Shared → Prop) (E : Value → Shared → Prop),
    (∀ I fp St h, Walks prog w A I fp [I] n P St → (∀ i h, St i h → ∃ o, h.get? I = some o) → (∀ i h h' o nw, St i h → h.get? I = some o → h'.get? I = some o → Grow h₀ h' → News h₀ L h' nw → S nw → St i h') →
      L ∉ fp → (∀ b ∈ fp, b < h.objs.size) → St 0 h → Fr h₀ L h m → News h₀ L h news → h₀.get? I = none → (∀ p ∈ news, p.1 ≠ I) → S news → Q (.ref I) { s₁ with heap := h }) →
    wpAny (model prog w) A (pyIter xv) Q E s₁

/-- what is to be shown at a for's source -/
def ForAt (prog : Program) (w : World) (A : Around) (h₀ : Heap) (env : Env) (x : Str) (body : List Stmt) (Q : Flow → Shared → Prop) (xv : Value) (s₁ : Shared) : Prop :=
  ∀ P₀ : Prop, (∀ (m : Str → Option Value) (news : List (Addr × Obj)) (S : List (Addr × Obj) → Prop) (n : Nat) (P : Nat → Value → Prop) (J : Nat → Nat → (Str → Option Value) → List (Addr × Obj) → Prop), Src prog w A h₀ env.locals m news S n P xv s₁ → J 0 s₁.toks m news → (∀ i k k' m nw, k ≤ k' → J i k m nw → J i k' m nw) →
      (∀ (I : Addr) (i : Nat) (v : Value) (oI : Obj) (m₁ : Str → Option Value) (news₁ : List (Addr × Obj)) (h : Heap) (tk : Nat) (E' : Value → Shared → Prop), i < n → P i v → J i tk m₁ news₁ → S news₁ → (∀ p ∈ news₁, p.1 ≠ I) → Fr h₀ env.locals h (fun y => if y = x then some v else m₁ y) → News h₀ env.locals h ((I, oI) :: news₁) →
        wpAny (model prog w) A (execs body env) (ForEnd h₀ env.locals I oI S (J (i + 1)) { s₁ with heap := h, toks := tk } Q) E' { s₁ with heap := h, toks := tk }) →
      (∀ (h' : Heap) (tk : Nat) (m' : Str → Option Value) (news' : List (Addr × Obj)), Fr h₀ env.locals h' m' → News h₀ env.locals h' news' → S news' → J n tk m' news' → Q .next { s₁ with heap := h', toks := tk }) → P₀) → P₀
theorem forU {E : Value → Shared → Prop} {Q : Flow → Shared → Prop} {x : Str} {px pos : Pos} {iter : Expr} {body : List Stmt} {m₀ : Str → Option Value} (_F : Fr h₀ env.locals s.heap m₀) (hx : env.kindOf x = some .local)
    (hp : (env.scope.kind == .class || (env.scope.kind == .module && env.locals != env.globals)) = false)
    (h : wpAny (model prog w) A (eval iter env) (ForAt prog w A h₀ env x body Q) E s)
    (hs : ∀ x, foldedSetIterable iter env x = pure x := by intro _; rfl) :
    wpAny (model prog w) A (exec (.For (.Name x px) iter body [] pos) env) Q E s := by
  refine wpAny_For (wpAny_mono h (fun xv s₁ h₁ => ?_) fun _ _ e => e) hs
  refine h₁ _ fun m news S n P J src h0 hmono turn hQ => ?_
  refine src _ _ fun I fp St h W hIo hSt hLf _ hst F N hI₀ off hS => ?_
  exact forCore (R := fun r s' => match r with | .ok f => Q f s' | .error e => cameBackBy (model prog w) A env E e s') (s := { s₁ with heap := h }) J hmono W hIo hSt hx hp hLf hst F N hI₀ off hS h0
    (fun i v oI m₁ news₁ h' tk E' a b c d e f g => turn I i v oI m₁ news₁ h' tk E' a b c d e f g) hQ

theorem Src.list {L l : Addr} {items : Array Value} {m : Str → Option Value} {news : List (Addr × Obj)} (hh : A.handled = none) (F : Fr h₀ L s.heap m) (N : News h₀ L s.heap news) (hl : LCg.SrcAt h₀ l items news) :
    Src prog w A h₀ L m news (LCg.SrcAt h₀ l items) items.size (fun i v => items[i]? = some v) (.ref l) s := by
  intro Q E k
  have hls := hl.list F.keep N
  obtain ⟨ol, hol, _⟩ := id hls
  have hlt : l < s.heap.objs.size := Heap.lt_size hol
  have hLlt : L < s.heap.objs.size := F.ns.lt
  have hlL : l ≠ L := by
    rcases hl with ⟨o, e, _⟩ | ⟨o, hm, _⟩
    · exact Nat.ne_of_lt (Nat.lt_of_lt_of_le (Heap.lt_size e) F.above)
    · exact (N _ hm).2.1
  refine wpAny_pyIter_list hls ?_
  have up : Grow s.heap (s.heap.push { cls := .type "list_iterator", data := .fields #[.ref l, .int 0 0] }) := fun b o e => Heap.get?_push_of_some _ e
  refine k s.heap.objs.size _ _ _ (Walks.list hh s.heap.objs.size l (Nat.ne_of_lt hlt) items) (fun i h st => by obtain ⟨o, e, _⟩ := st.1; exact ⟨o, e⟩)
    (fun i h h' o nw st e e' k N S => LCg.list_st (h₀ := h₀) (L := L) i h h' o nw st e e' k N S) ?_ ?_ ⟨⟨_, Heap.get?_push_size _ rfl, rfl, rfl⟩, hls.at fun o e => up _ _ e⟩ (F.keeps up) (N.grown up) (next_is_new F) (fun p hp => Nat.ne_of_lt (Heap.lt_size (N p hp).1)) hl
  · intro hm
    rcases List.mem_cons.mp hm with e | hm
    · exact absurd hLlt (e ▸ Nat.lt_irrefl _)
    · exact hlL (List.mem_singleton.mp hm).symm
  · intro b hb
    rw [Heap.size_push]
    rcases List.mem_cons.mp hb with rfl | hb
    · exact Nat.lt_succ_self _
    · rw [List.mem_singleton.mp hb]; exact Nat.lt_succ_of_lt hlt

theorem Src.range {L r : Addr} {a b : Int} {t u v : Tok} {n : Nat} {m : Str → Option Value} {news : List (Addr × Obj)} (hh : A.handled = none) (F : Fr h₀ L s.heap m) (N : News h₀ L s.heap news) (hr : IsRange s.heap r a b 1 t u v)
    (hsm : Builtin.Range.small a b 1 = true) (hn : Builtin.Range.rangeSize a b 1 = ((n : Nat) : Int)) :
    Src prog w A h₀ L m news (fun _ => True) n (fun i v => ∃ t, v = .int (a + (i : Int)) t) (.ref r) s := by
  intro Q E k
  have hLlt : L < s.heap.objs.size := F.ns.lt
  refine wpAny_pyIter_range hr hsm ?_
  refine k s.heap.objs.size _ _ _ (LCg.range_walks hh a n) (fun i h st => ⟨_, st⟩) (fun i h h' o nw st e e' k N S => LCg.range_st (h₀ := h₀) (L := L) i h h' o nw st e e' k N S) ?_ ?_
    (by show IsRangeIter _ _ _ _ _; rw [hn]; simpa using Heap.get?_push_size _ rfl) (F.keeps fun _ _ e => Heap.get?_push_of_some _ e) (N.grown fun _ _ e => Heap.get?_push_of_some _ e) (next_is_new F) (fun p hp => Nat.ne_of_lt (Heap.lt_size (N p hp).1)) trivial
  · intro hm
    exact absurd hLlt ((List.mem_singleton.mp hm) ▸ Nat.lt_irrefl _)
  · intro b hb
    rw [List.mem_singleton.mp hb]
    show s.heap.objs.size < (s.heap.push _).objs.size
    rw [Heap.size_push]; exact Nat.lt_succ_self _
end
theorem srcUp {h₀ : Heap} {l : Addr} {its : Array Value} {news news' : List (Addr × Obj)} (x : LCg.SrcAt h₀ l its news) (h : ∀ p ∈ news, p ∈ news') : LCg.SrcAt h₀ l its news' := x.imp id fun ⟨o, hm, r⟩ => ⟨o, h _ hm, r⟩
theorem srcRe {h₀ g : Heap} {l : Addr} {its : Array Value} {news : List (Addr × Obj)} (k : ∀ b o, h₀.get? b = some o → g.get? b = some o) (x : LCg.SrcAt h₀ l its news) : LCg.SrcAt g l its news := x.imp (fun h => h.at fun o e => k _ _ e) id
theorem ret_led {h₀ g h hs : Heap} {L L' : Addr} {m m' : Str → Option Value} {news nw : List (Addr × Obj)} (FG : Fr h₀ L g m) (F : Fr g L' h m') (N₀ : News h₀ L hs news) (N : News g L' h nw) (sub : ∀ p ∈ news, p ∈ nw) : Fr h₀ L h m ∧ News h₀ L h news ∧ ∀ x ∈ nw, News h₀ L h (x :: news) := by
  have a : News h₀ L h news := fun p hp => ⟨(N p (sub p hp)).1, (N₀ p hp).2⟩
  refine ⟨FG.keeps F.keep, a, fun x hx p hp => ?_⟩
  rcases List.mem_cons.mp hp with rfl | hp
  · refine ⟨(N p hx).1, fun e => ?_, ?_⟩
    · have z := (N p hx).2.2
      obtain ⟨o, _, _, e2, _⟩ := FG.ns
      rw [e, e2] at z; cases z
    · cases e : h₀.get? p.1 with
      | none => rfl
      | some o => have z := (N p hx).2.2; rw [FG.keep _ _ e] at z; cases z
  · exact a p hp
theorem ints_snoc {zs : List Value} {ns : List Int} (h : IntsAre zs ns) (n : Int) (t : Tok) : IntsAre (zs ++ [Value.int n t]) (ns ++ [n]) := by
  induction h with
  | nil => exact .cons _ _ .nil
  | cons k u _ ih => exact .cons k u ih
theorem srcHide {h₀ h : Heap} {L l : Addr} {m : Str → Option Value} {its : Array Value} {tl news : List (Addr × Obj)} (x : LCg.SrcAt h₀ l its news) (F : Fr h₀ L h m) (N : News h₀ L h (tl ++ news)) (off : ∀ p ∈ tl, ∀ q ∈ news, q.1 ≠ p.1) : (hideAll h (tl.map (·.1))).IsList l its := by
  obtain ⟨o, e, r⟩ := x.list F.keep fun p hp => N p (List.mem_append_right _ hp)
  refine ⟨o, hideAll_get _ e fun hm => ?_, r⟩
  obtain ⟨p, hp, rfl⟩ := List.mem_map.mp hm
  rcases x with ⟨o', e', _⟩ | ⟨o', hm', _⟩
  · have z := (N p (List.mem_append_left _ hp)).2.2
    rw [e'] at z; cases z
  · exact off p hp _ hm' rfl
theorem ret_hide {h₀ h h' : Heap} {L L1 : Addr} {m m1 : Str → Option Value} {tl tl' news nw : List (Addr × Obj)} (F : Fr h₀ L h m) (N : News h₀ L h (tl ++ news)) (off : ∀ p ∈ tl, ∀ q ∈ news, q.1 ≠ p.1) (F' : Fr (hideAll h (tl.map (·.1))) L1 h' m1) (N' : News (hideAll h (tl.map (·.1))) L1 h' nw) (sub : ∀ p ∈ tl', p ∈ nw) : Fr h₀ L h' m ∧ News h₀ L h' (tl' ++ news) := by
  have hk : ∀ b o, h₀.get? b = some o → (hideAll h (tl.map (·.1))).get? b = some o := fun b o e => hideAll_get _ (F.keep b o e) fun hm => by
    obtain ⟨p, hp, rfl⟩ := List.mem_map.mp hm
    have z := (N p (List.mem_append_left _ hp)).2.2
    rw [e] at z; cases z
  have hLm : ∀ o, h.get? L = some o → (hideAll h (tl.map (·.1))).get? L = some o := fun o e => hideAll_get _ e fun hm => by
    obtain ⟨p, hp, e2⟩ := List.mem_map.mp hm
    exact (N p (List.mem_append_left _ hp)).2.1 e2
  refine ⟨⟨F.ns.at' fun o e => F'.keep _ _ (hLm o e), fun b o e => F'.keep _ _ (hk b o e), F.above⟩, fun p hp => ?_⟩
  rcases List.mem_append.mp hp with hp | hp
  · have z := N' p (sub p hp)
    refine ⟨z.1, fun e => ?_, ?_⟩
    · obtain ⟨o, _, _, e2, _⟩ := F.ns
      have z2 := z.2.2
      rw [e, hLm o e2] at z2; cases z2
    · cases e : h₀.get? p.1 with
      | none => rfl
      | some o => have z2 := z.2.2; rw [hk _ _ e] at z2; cases z2
  · have z := N p (List.mem_append_right _ hp)
    exact ⟨F'.keep _ _ (hideAll_get _ z.1 fun hm => by obtain ⟨q, hq, e⟩ := List.mem_map.mp hm; exact off q hq p hp e.symm), z.2⟩
end Mine
end SLoops
section SComps
open PySem.Calls
namespace Mine
/-- the end of a comprehension's turn -/
def CEnd (h₀ : Heap) (L : Addr) (m : Str → Option Value) (I : Addr) (oI : Obj) (C : Addr) (oC : Obj) (D : Addr) (oD : Obj) (S : List (Addr × Obj) → Prop) (Jn : Nat → List (Addr × Obj) → Prop) (s₁ s₂ : Shared) : Prop :=
  ∃ h' tk news', s₂ = { s₁ with heap := h', toks := tk } ∧ Fr h₀ L h' m ∧ News h₀ L h' ((I, oI) :: (C, oC) :: (D, oD) :: news') ∧ LCg.Off3 I C D news' ∧ S news' ∧ Jn tk news'
theorem CEnd.intro {h₀ : Heap} {L : Addr} {m : Str → Option Value} {I : Addr} {oI : Obj} {C : Addr} {oC : Obj} {D : Addr} {oD : Obj} {S : List (Addr × Obj) → Prop} {Jn : Nat → List (Addr × Obj) → Prop} {s₁ : Shared} {h' : Heap} {tk : Nat} {news' : List (Addr × Obj)}
    (F : Fr h₀ L h' m) (N : News h₀ L h' ((I, oI) :: (C, oC) :: (D, oD) :: news')) (off : LCg.Off3 I C D news') (hS : S news') (hJ : Jn tk news') : CEnd h₀ L m I oI C oC D oD S Jn s₁ { s₁ with heap := h', toks := tk } :=
  ⟨h', tk, news', rfl, F, N, off, hS, hJ⟩
abbrev testsOf (ifs : List Expr) (env : Env) : Sem Bool := forIn ifs true fun c r => if r = true then do let ok ← isTrue c env (eval c env); pure (ForInStep.yield ok) else pure (ForInStep.yield r)

section
variable {prog : Program} {w : World} {A : Around} {E : Value → Shared → Prop} {s : Shared} {env : Env} {h₀ : Heap} {L : Addr} {m : Str → Option Value}

theorem compCore {elt iter : Expr} {ifs : List Expr} {x : Str} {px : Pos} {scope : Scope} {cl : List (Str × Addr)} {pos : Pos} {s₂ : Shared} {I : Addr} {fp : List Addr} {n : Nat} {P : Nat → Value → Prop} {St : Nat → Heap → Prop} {S : List (Addr × Obj) → Prop} {news : List (Addr × Obj)}
    {RR : Value → Addr → Result → Shared → Prop} (J : Nat → Nat → List Value → List (Addr × Obj) → Prop) (hmono : ∀ i k k' ys nw, k ≤ k' → J i k ys nw → J i k' ys nw)
    (W : Walks prog w A I fp [I] n P St) (hsz : n ≤ sizeLine) (hIo : ∀ i h, St i h → ∃ o, h.get? I = some o)
    (hSt : ∀ i h h' o nw, St i h → h.get? I = some o → h'.get? I = some o → Grow h₀ h' → News h₀ L h' nw → S nw → St i h')
    (hcell : ∀ y ∈ scope.names, y.2 ≠ .cell) (hkind : scope.kind = .function) (hx : scope.names.lookup x = some .local) (hst : St 0 s₂.heap) (hfp : ∀ b ∈ fp, b < s₂.heap.objs.size)
    (F : Fr h₀ L s₂.heap m) (N : News h₀ L s₂.heap news) (hLI : L ≠ I) (hI₀ : h₀.get? I = none) (off : ∀ p ∈ news, p.1 ≠ I) (hS : S news) (h0 : J 0 s₂.toks [] news)
    (turn : ∀ i v oI C oC D m₂ ys news₁ h tk E', i < n → P i v → J i tk ys news₁ → S news₁ → LCg.NsObj oC m₂ → m₂ x = some v → Fr h₀ L h m → News h₀ L h ((I, oI) :: (C, oC) :: (D, LCg.lst ys) :: news₁) → LCg.Off3 I C D news₁ → ((@Ne Nat I C) ∧ (@Ne Nat I D) ∧ (@Ne Nat C D)) →
      wpAny (model prog w) A (testsOf ifs (compEnvC scope cl C env)) (fun ok s₃ => if ok = true then
        wpAny (model prog w) A (eval elt (compEnvC scope cl C env)) (fun y s₄ => CEnd h₀ L m I oI C oC D (LCg.lst ys) S (fun k => J (i + 1) k (ys ++ [y])) { s₂ with heap := h, toks := tk } s₄) E' s₃
        else CEnd h₀ L m I oI C oC D (LCg.lst ys) S (fun k => J (i + 1) k ys) { s₂ with heap := h, toks := tk } s₃) E' { s₂ with heap := h, toks := tk })
    (hlen : ∀ i k ys nw, J i k ys nw → ys.length ≤ i)
    (hRR : ∀ D C h tk m' ys news', Fr h₀ L h m → News h₀ L h ((D, LCg.lst ys) :: news') → LCg.Off1 D news' → h.Ns C m' → h₀.get? C = none → C ≠ L → C ≠ D → (∀ p ∈ news', p.1 ≠ C) → S news' → J n tk ys news' → RR (.ref D) C (.ok .next) { s₂ with heap := h, toks := tk }) :
    wpAny (model prog w) A (newList []) (fun acc s₃ => wpAny (model prog w) A (newFunctionEnv scope env.globals cl [] env.qual none .none (some env)) (fun cenv s₄ =>
      codeAny (model prog w) A (.compStart (.ListComp elt [⟨.Name x px, iter, ifs, 0⟩] scope pos) 0 (.ref I) acc { cenv with scope := relabel scope env }) (RR acc cenv.locals) s₄) E s₃) E s₂ := by
  refine wpAny_newObj_type (wpAny_newFunctionEnv hcell (by intro y hy; simp at hy) (fun h₁ hns₁ hsb₁ => ?_) hkind)
  dsimp only at hns₁ hsb₁ ⊢
  generalize hH2 : s₂.heap.push { cls := .type "list", dict := none, data := .seq ([] : List Value).toArray } = H2 at hns₁ hsb₁ ⊢
  generalize hD : s₂.heap.objs.size = D
  have hC : H2.objs.size = D + 1 := by rw [← hH2, Heap.size_push, hD]
  generalize H2.objs.size = C at hns₁ hsb₁ hC ⊢
  have hDC : D ≠ C := by rw [hC]; exact Nat.ne_of_lt (Nat.lt_succ_self _)
  have below : ∀ b, b < D → b ≠ C ∧ b ≠ D := fun b hb => ⟨by rw [hC]; exact Nat.ne_of_lt (Nat.lt_succ_of_lt hb), Nat.ne_of_lt hb⟩
  have hfp' : ∀ b ∈ fp, b ≠ C ∧ b ≠ D := fun b hb => below b (hD ▸ hfp b hb)
  have hI := hfp' I (W.sub I (List.mem_singleton.mpr rfl))
  have lt : ∀ b o, s₂.heap.get? b = some o → b ≠ C ∧ b ≠ D := fun b o e => below b (hD ▸ Heap.lt_size e)
  have old : Grow s₂.heap h₁ := fun b o e => hsb₁.extBut b o (lt b o e).1 (Heap.get?_push_of_some _ (hH2 ▸ Heap.get?_push_of_some _ e))
  have hacc : h₁.get? D = some (LCg.lst []) := hsb₁.extBut _ _ hDC (Heap.get?_push_of_some _ (by rw [← hH2, ← hD]; exact Heap.get?_push_size _ rfl))
  have fresh : ∀ a, D ≤ a → h₀.get? a = none := fun a ha => by
    cases e : h₀.get? a with
    | none => rfl
    | some o' => exact absurd (hD ▸ Heap.lt_size (F.keep a o' e)) (Nat.not_lt.mpr ha)
  have hD₀ := fresh D (Nat.le_refl _)
  have hC₀ := fresh C (by rw [hC]; exact Nat.le_succ _)
  have hL := below L (hD ▸ F.ns.lt)
  have off₀ : LCg.Off3 I C D news := LCg.Off3.of fun p hp => ⟨off p hp, lt _ _ (N p hp).1⟩
  have inI : ∀ {nw : List (Addr × Obj)} {h h' : Heap}, News h₀ L h nw → (∀ b o, b ∉ [I] → h.get? b = some o → h'.get? b = some o) → (∀ p ∈ nw, p.1 ≠ I) → News h₀ L h' nw := fun N hk o p hp => ⟨hk _ _ (by simpa using o p hp) (N p hp).1, (N p hp).2⟩
  have loop : ∀ s₃ : Shared, s₃ = { s₂ with heap := h₁, toks := s₂.toks + ([] : List (Str × Value)).length } →
      codeAny (model prog w) A (.compLoop (.ListComp elt [⟨.Name x px, iter, ifs, 0⟩] scope pos) 0 (.ref I) (.ref D) (compEnvC scope cl C env)) (RR (.ref D) C) s₃ := by
    rintro s₃ rfl
    refine codeAny_compLoop_tests
      (fun k s' => ∃ h' tk i ys m' nw, s' = { s₂ with heap := h', toks := tk } ∧ i ≤ n ∧ k = n + 1 - i ∧ St i h' ∧ Fr h₀ L h' m ∧ h'.Ns C m' ∧ News h₀ L h' ((D, LCg.lst ys) :: nw) ∧ LCg.Off3 I C D nw ∧ S nw ∧ J i tk ys nw) ?_ (n + 1)
      ⟨h₁, _, 0, [], _, news, rfl, Nat.zero_le _, rfl, W.frame _ _ _ hst fun b _ o e => old b o e, F.keeps old, hns₁, fun p hp => ?_, off₀, hS, hmono _ _ _ _ _ (Nat.le_add_right _ _) h0⟩
    · rintro k s' ⟨h', tk, i, ys, m', nw, rfl, hi, rfl, hst', F', hn', N', off', hS', hJ⟩
      have off3 := off'.mem
      have offI : ∀ p ∈ (D, LCg.lst ys) :: nw, p.1 ≠ I := fun p hp => by
        rcases List.mem_cons.mp hp with rfl | hp
        · exact Ne.symm hI.2
        · exact (off3 p hp).1
      by_cases hlt : i < n
      · refine toksUp (W.item i _ _ _ hlt hst' fun v h₂ tk₂ hPv hst₂ hk₂ hu₂ => ?_)
        refine toksUp (wpAny_assign_Name (wpAny_storeName_local (lookup_relabel_local hx) (hn'.at' fun o e => hk₂ _ o (by simpa using Ne.symm hI.1) e) (fun h₃ hn₃ hs₃ hu₃ => ?_) (by simp [compEnvC, relabel, hkind])))
        have hst₃ : St (i + 1) h₃ := W.frame _ _ _ hst₂ fun b hb o e => hs₃.extBut b o (fun q => (hfp' b hb).1 q) e
        obtain ⟨oI, heI⟩ := hIo _ _ hst₃
        obtain ⟨oC, heC, hoC⟩ := LCg.ns_obj hn₃
        have F₃ : Fr h₀ L h₃ m := (LCg.fr_but F' hk₂ hLI hI₀).change hs₃ (Ne.symm hL.1) hC₀
        have N₂ := inI N' hk₂ offI
        have N₃ : News h₀ L h₃ ((I, oI) :: (C, oC) :: (D, LCg.lst ys) :: nw) := fun p hp => by
          rcases List.mem_cons.mp hp with rfl | hp
          · exact ⟨heI, Ne.symm hLI, hI₀⟩
          rcases List.mem_cons.mp hp with rfl | hp
          · exact ⟨heC, Ne.symm hL.1, hC₀⟩
          · refine ⟨hs₃.extBut _ _ ?_ (N₂ p hp).1, (N₂ p hp).2⟩
            rcases List.mem_cons.mp hp with rfl | hp
            · exact hDC
            · exact (off3 p hp).2.1
        have back : ∀ (h₄ : Heap) tk₄ (ys' : List Value) news₄, Fr h₀ L h₄ m → News h₀ L h₄ ((I, oI) :: (C, oC) :: (D, LCg.lst ys') :: news₄) → LCg.Off3 I C D news₄ → S news₄ → J (i + 1) tk₄ ys' news₄ →
            ∃ q, q < n + 1 - i ∧ ∃ h' tk i ys m' nw, ({ s₂ with heap := h₄, toks := tk₄ } : Shared) = { s₂ with heap := h', toks := tk } ∧ i ≤ n ∧ q = n + 1 - i ∧ St i h' ∧ Fr h₀ L h' m ∧ h'.Ns C m' ∧ News h₀ L h' ((D, LCg.lst ys) :: nw) ∧ LCg.Off3 I C D nw ∧ S nw ∧ J i tk ys nw := fun h₄ tk₄ ys' news₄ F₄ N₄ off₄ hS₄ hJ₄ => by
          have N₅ : News h₀ L h₄ news₄ := fun p hp => N₄ p (List.mem_cons_of_mem _ (List.mem_cons_of_mem _ (List.mem_cons_of_mem _ hp)))
          exact ⟨n + 1 - (i + 1), by omega, h₄, tk₄, i + 1, ys', _, news₄, rfl, hlt, rfl, hSt _ _ _ _ _ hst₃ heI (N₄ _ List.mem_cons_self).1 F₄.keep N₅ hS₄, F₄, hoC.ns (N₄ _ (List.mem_cons_of_mem _ List.mem_cons_self)).1,
            fun p hp => N₄ p (List.mem_cons_of_mem _ (List.mem_cons_of_mem _ hp)), off₄, hS₄, hJ₄⟩
        refine wpAny_mono (turn i v oI C oC D _ ys nw h₃ _ _ hlt hPv (hmono _ _ _ _ _ (Nat.le_trans hu₂ hu₃) hJ) hS' hoC (by simp) F₃ N₃ off' ⟨hI.1, hI.2, Ne.symm hDC⟩) (fun ok s₄ h₄ => ?_) fun _ _ e => e
        cases ok with
        | false =>
          simp only [Bool.false_eq_true, if_false] at h₄ ⊢
          obtain ⟨h₄, tk₄, news₄, rfl, F₄, N₄, off₄, hS₄, hJ₄⟩ := h₄
          exact back h₄ tk₄ ys news₄ F₄ N₄ off₄ hS₄ hJ₄
        | true =>
          simp only [if_true] at h₄ ⊢
          refine wpAny_mono h₄ (fun y s₅ h₅ => ?_) fun _ _ e => e
          obtain ⟨h₅, tk₅, news₅, rfl, F₅, N₅, off₅, hS₅, hJ₅⟩ := h₅
          have zD := (N₅ (D, LCg.lst ys) (List.mem_cons_of_mem _ (List.mem_cons_of_mem _ List.mem_cons_self))).1
          refine append_at (hsz := by show ys.toArray.size ≤ sizeLine; rw [List.size_toArray]; exact Nat.le_trans (hlen _ _ _ _ hJ) (Nat.le_trans hi hsz)) zD fun h₆ hs₆ hD₆ => ?_
          have off5 := off₅.mem
          refine back h₆ tk₅ (ys ++ [y]) news₅ (F₅.change hs₆ (Ne.symm hL.2) hD₀) (fun p hp => ?_) off₅ hS₅ hJ₅
          have keep : ∀ p ∈ (I, oI) :: (C, oC) :: news₅, h₆.get? p.1 = some p.2 ∧ p.1 ≠ L ∧ h₀.get? p.1 = none := fun p hp => by
            have hp' : p ∈ (I, oI) :: (C, oC) :: (D, LCg.lst ys) :: news₅ := by
              rcases List.mem_cons.mp hp with rfl | hp
              · exact List.mem_cons_self
              rcases List.mem_cons.mp hp with rfl | hp
              · exact List.mem_cons_of_mem _ List.mem_cons_self
              · exact List.mem_cons_of_mem _ (List.mem_cons_of_mem _ (List.mem_cons_of_mem _ hp))
            refine ⟨hs₆.extBut _ _ ?_ (N₅ p hp').1, (N₅ p hp').2⟩
            rcases List.mem_cons.mp hp with rfl | hp
            · exact hI.2
            rcases List.mem_cons.mp hp with rfl | hp
            · exact Ne.symm hDC
            · exact (off5 p hp).2.2
          rcases List.mem_cons.mp hp with rfl | hp
          · exact keep _ List.mem_cons_self
          rcases List.mem_cons.mp hp with rfl | hp
          · exact keep _ (List.mem_cons_of_mem _ List.mem_cons_self)
          rcases List.mem_cons.mp hp with rfl | hp
          · exact ⟨hD₆.trans (congrArg some (LCg.lst_snoc ys y)), Ne.symm hL.2, hD₀⟩
          · exact keep _ (List.mem_cons_of_mem _ (List.mem_cons_of_mem _ hp))
      · obtain rfl : i = n := Nat.le_antisymm hi (Nat.not_lt.mp hlt)
        refine toksUp (W.done _ _ _ hst' fun h₂ tk₂ hk₂ hu₂ => ?_)
        exact hRR _ _ h₂ tk₂ _ ys nw (LCg.fr_but F' hk₂ hLI hI₀) (inI N' hk₂ offI) off'.one (hn'.at' fun o e => hk₂ _ o (by simpa using Ne.symm hI.1) e) hC₀ (Ne.symm hL.1) (Ne.symm hDC) (fun p hp => (off3 p hp).2.1) hS' (hmono _ _ _ _ _ hu₂ hJ)
    · rcases List.mem_cons.mp hp with rfl | hp
      · exact ⟨hacc, Ne.symm hL.2, hD₀⟩
      · exact ⟨old _ _ (N p hp).1, (N p hp).2⟩
  exact codeAny_compStart_list (loop _ rfl) (W.self 0 _ _ _ (W.frame _ _ _ hst fun b _ o e => old b o e) (loop _ rfl))

def FinE (h₀ : Heap) (L : Addr) (m : Str → Option Value) (s : Shared) (Q : Value → Shared → Prop) (tk : Nat) (ys : List Value) (news : List (Addr × Obj)) : Prop :=
  ∀ D h, Fr h₀ L h m → News h₀ L h ((D, LCg.lst ys) :: news) → LCg.Off1 D news → Q (.ref D) { s with heap := h, toks := tk }
def FinA (h₀ : Heap) (L : Addr) (m : Str → Option Value) (s : Shared) (y : Str) (Q : Flow → Shared → Prop) (tk : Nat) (ys : List Value) (news : List (Addr × Obj)) : Prop :=
  ∀ D h, Fr h₀ L h (fun z => if z = y then some (.ref D) else m z) → News h₀ L h ((D, LCg.lst ys) :: news) → LCg.Off1 D news → Q .next { s with heap := h, toks := tk }
/-- what is to be shown at a comprehension's source -/
def CompAt (prog : Program) (w : World) (A : Around) (h₀ : Heap) (L : Addr) (m : Str → Option Value) (env : Env) (elt : Expr) (ifs : List Expr) (x : Str) (scope : Scope) (cl : List (Str × Addr)) (Fin : Shared → Nat → List Value → List (Addr × Obj) → Prop) (xv : Value) (s₁ : Shared) : Prop :=
  ∀ P₀ : Prop, (∀ (news : List (Addr × Obj)) (S : List (Addr × Obj) → Prop) (n : Nat) (P : Nat → Value → Prop) (J : Nat → Nat → List Value → List (Addr × Obj) → Prop), Src prog w A h₀ L m news S n P xv s₁ → n ≤ sizeLine → J 0 s₁.toks [] news → (∀ i k k' ys nw, k ≤ k' → J i k ys nw → J i k' ys nw) → (∀ i k ys nw, J i k ys nw → ys.length ≤ i) →
    (∀ (I C D : Addr) (i : Nat) (v : Value) (oI oC : Obj) (m₂ : Str → Option Value) (ys : List Value) (news₁ : List (Addr × Obj)) (h : Heap) (tk : Nat) (E' : Value → Shared → Prop), i < n → P i v → J i tk ys news₁ → S news₁ → LCg.NsObj oC m₂ → m₂ x = some v → Fr h₀ L h m → News h₀ L h ((I, oI) :: (C, oC) :: (D, LCg.lst ys) :: news₁) → LCg.Off3 I C D news₁ → ((@Ne Nat I C) ∧ (@Ne Nat I D) ∧ (@Ne Nat C D)) →
      wpAny (model prog w) A (testsOf ifs (compEnvC scope cl C env)) (fun ok s₃ => if ok = true then
        wpAny (model prog w) A (eval elt (compEnvC scope cl C env)) (fun y s₄ => CEnd h₀ L m I oI C oC D (LCg.lst ys) S (fun k => J (i + 1) k (ys ++ [y])) { s₁ with heap := h, toks := tk } s₄) E' s₃
        else CEnd h₀ L m I oI C oC D (LCg.lst ys) S (fun k => J (i + 1) k ys) { s₁ with heap := h, toks := tk } s₃) E' { s₁ with heap := h, toks := tk }) →
    (∀ k ys nw, S nw → J n k ys nw → Fin s₁ k ys nw) → P₀) → P₀

theorem compU {elt iter : Expr} {ifs : List Expr} {x : Str} {px : Pos} {scope : Scope} {cl : List (Str × Addr)} {pos : Pos} {Q : Value → Shared → Prop} (_F₀ : Fr h₀ L s.heap m)
    (hclos : closureFor scope env = pure cl) (hcell : ∀ y ∈ scope.names, y.2 ≠ .cell) (hkind : scope.kind = .function)
    (hnames : ∀ y ∈ scope.names, y.2 = .local → scope.names.lookup y.1 = some .local) (hx : scope.names.lookup x = some .local)
    (h : wpAny (model prog w) A (eval iter env) (CompAt prog w A h₀ L m env elt ifs x scope cl (fun s₂ => FinE h₀ L m s₂ Q)) E s)
    (hs : ∀ x, foldedSetIterable iter env x = pure x := by intro _; rfl) :
    wpAny (model prog w) A (eval (.ListComp elt [⟨.Name x px, iter, ifs, 0⟩] scope pos) env) Q E s := by
  rw [eval_ListComp]
  refine wpAny_comprehension_free (use := none) rfl hs hclos hkind hnames (wpAny_mono h (fun xv s₁ h₁ => ?_) fun _ _ e => e)
  refine h₁ _ fun news S n P J src hsz h0 hmono hlen turn fin => ?_
  refine src _ _ fun I fp St h W hIo hSt hLf hfp hst F N hI₀ off hS => ?_
  have hLI : L ≠ I := fun e => hLf (e ▸ W.sub I (List.mem_singleton.mpr rfl))
  refine compCore (RR := fun acc C => compPost (model prog w) A E none Q acc C) (s₂ := { s₁ with heap := h }) J hmono W hsz hIo hSt hcell hkind hx hst hfp F N hLI hI₀ off hS h0
    (fun i v oI C oC D m₂ ys news₁ h' tk E' a1 a2 a3 a4 a5 a6 a7 a8 a9 a10 => turn I C D i v oI oC m₂ ys news₁ h' tk E' a1 a2 a3 a4 a5 a6 a7 a8 a9 a10) hlen ?_
  intro D C h' tk m' ys nw F' N' o1 hn hC₀ hCL hCD offC hS' hJ
  refine ⟨m', hn, fun h'' hs'' => fin _ ys nw hS' hJ D h'' (F'.change hs'' hCL hC₀) (fun p hp => ?_) o1⟩
  refine ⟨hs''.extBut _ _ ?_ (N' p hp).1, (N' p hp).2⟩
  rcases List.mem_cons.mp hp with rfl | hp
  · exact Ne.symm hCD
  · exact offC p hp

theorem compA {elt iter : Expr} {ifs : List Expr} {x y : Str} {px py : Pos} {scope : Scope} {cl : List (Str × Addr)} {pos spos : Pos} {Q : Flow → Shared → Prop} (_F₀ : Fr h₀ L s.heap m) (hLe : env.locals = L)
    (hsw : swapsWith (.ListComp elt [⟨.Name x px, iter, ifs, 0⟩] scope pos) (some (.Name y py)) spos.line env = pure true)
    (hclos : closureFor scope env = pure cl) (hcell : ∀ z ∈ scope.names, z.2 ≠ .cell) (hkind : scope.kind = .function)
    (hnames : ∀ z ∈ scope.names, z.2 = .local → scope.names.lookup z.1 = some .local) (hx : scope.names.lookup x = some .local)
    (hy : env.kindOf y = some .local) (hp : (env.scope.kind == .class || (env.scope.kind == .module && env.locals != env.globals)) = false)
    (h : wpAny (model prog w) A (eval iter env) (CompAt prog w A h₀ L m env elt ifs x scope cl (fun s₂ => FinA h₀ L m s₂ y Q)) E s)
    (hs : ∀ x, foldedSetIterable iter env x = pure x := by intro _; rfl) :
    wpAny (model prog w) A (exec (.Assign [.Name y py] (.ListComp elt [⟨.Name x px, iter, ifs, 0⟩] scope pos) spos) env) Q E s := by
  subst hLe
  rw [exec_Assign_Name_used _ _ _ _ hsw]
  refine wpAny_bind (wpAny_standAt (wpAny_bind ?_))
  show wpAny _ A (do let _ ← comprehension (.ListComp elt [⟨.Name x px, iter, ifs, 0⟩] scope pos) scope env _ (newList []) false (eval iter env) (some (assign (.Name y py) env))) _ _ s
  refine wpAny_bind (wpAny_mono (wpAny_comprehension_free (use := some (assign (.Name y py) env)) (Q := fun _ s' => Q .next s') rfl hs hclos hkind hnames
    (wpAny_mono h (fun xv s₁ h₁ => ?_) fun _ _ e => e)) (fun _ s' hq => wpAny_pure (wpAny_pure hq)) fun _ _ e => e)
  refine h₁ _ fun news S n P J src hsz h0 hmono hlen turn fin => ?_
  refine src _ _ fun I fp St h W hIo hSt hLf hfp hst F N hI₀ off hS => ?_
  have hLI : env.locals ≠ I := fun e => hLf (e ▸ W.sub I (List.mem_singleton.mpr rfl))
  refine compCore (RR := fun acc C => compPost (model prog w) A E (some (assign (.Name y py) env)) (fun _ s' => Q .next s') acc C) (s₂ := { s₁ with heap := h }) J hmono W hsz hIo hSt hcell hkind hx hst hfp F N hLI hI₀ off hS h0
    (fun i v oI C oC D m₂ ys news₁ h' tk E' a1 a2 a3 a4 a5 a6 a7 a8 a9 a10 => turn I C D i v oI oC m₂ ys news₁ h' tk E' a1 a2 a3 a4 a5 a6 a7 a8 a9 a10) hlen ?_
  intro D C h' tk m' ys nw F' N' o1 hn hC₀ hCL hCD offC hS' hJ
  show wpAny _ A (assign (.Name y py) env (.ref D)) _ _ _
  refine toksUp (wpAny_assign_Name (wpAny_storeName_local hy F'.ns (fun h₂ hn₂ hs₂ hu₂ => ?_) hp))
  have hL₀ : h₀.get? env.locals = none := Heap.get?_none_of_le F'.above
  have F₂ : Fr h₀ env.locals h₂ (fun z => if z = y then some (.ref D) else m z) := ⟨hn₂, fun b o e => hs₂.extBut b o (fun q => by rw [q, hL₀] at e; cases e) (F'.keep b o e), F'.above⟩
  refine ⟨m', hn.sameBut hs₂ hCL, fun h'' hs'' => fin _ ys nw hS' (hmono _ _ _ _ _ hu₂ hJ) D h'' (F₂.change hs'' hCL hC₀) (fun p hp => ?_) o1⟩
  have z : h₂.get? p.1 = some p.2 := hs₂.extBut _ _ (N' p hp).2.1 (N' p hp).1
  refine ⟨hs''.extBut _ _ ?_ z, (N' p hp).2⟩
  rcases List.mem_cons.mp hp with rfl | hp
  · exact Ne.symm hCD
  · exact offC p hp

/-- a comprehension's own name, a free one -/
theorem cName {x : Str} {pos : Pos} {scope : Scope} {cl : List (Str × Addr)} {C : Addr} {oC : Obj} {m₂ : Str → Option Value} {news : List (Addr × Obj)} {v : Value} {Q : Value → Shared → Prop} (N : News h₀ L s.heap news) (hm : (C, oC) ∈ news) (hC : LCg.NsObj oC m₂) (hx : m₂ x = some v) (h : Q v s)
    (hk : (compEnvC scope cl C env).scope.kind = .function := by rfl) (hl : (compEnvC scope cl C env).kindOf x = some .local := by rfl) (hd : (x == ("__debug__" : Str)) = false := by decide) :
    wpAny (model prog w) A (eval (.Name x pos) (compEnvC scope cl C env)) Q E s := wpAny_Name (wpAny_loadName_local hk hl (hC.ns (N _ hm).1) hx h) hd
theorem tests0 {env' : Env} {Q : Bool → Shared → Prop} (h : Q true s) : wpAny (model prog w) A (testsOf [] env') Q E s := wpAny_tests_nil h
end
end Mine
end SComps
section SDicts
open PySem.Calls PyProof.V
namespace Mine
/-- a dict object of ints -/
def DI (prog : Program) (w : World) (o : Obj) (c : List (Int × Int)) : Prop := ∃ kvs, o.IsDictOf (PySem.intKind prog w) kvs ∧ FlatPairs PyData.int kvs (kdfD c)
theorem di_made {prog : Program} {w : World} {o : Obj} {k v : Int} {t1 t2 : Tok} (h : o.IsDictOf (PySem.intKind prog w) (intKeyPairs [(.int k t1, .int v t2)])) : DI prog w o [(k, v)] :=
  ⟨_, h, .cons (PyProof.V.Flat.int v t2) .nil⟩
theorem flat_at : ∀ {kvs : List (Int × Value)} {c : List (Int × Int)}, FlatPairs PyData.int kvs (kdfD c) → ∀ {i : Nat} {k : Int} {v : Value}, kvs[i]? = some (k, v) → ∃ y t, c[i]? = some (k, y) ∧ v = .int y t
  | [], [], _, i, k, v, h => by simp at h
  | [], _ :: _, hf, _, _, _, _ => by cases hf
  | _ :: _, [], hf, _, _, _, _ => by cases hf
  | (k0, v0) :: kvs, (a, b) :: c, hf, i, k, v, h => by
    cases hf with
    | cons h1 h2 =>
      cases i with
      | zero =>
        simp only [List.getElem?_cons_zero, Option.some.injEq, Prod.mk.injEq] at h
        obtain ⟨rfl, rfl⟩ := h
        obtain ⟨t, rfl⟩ := PyProof.V.Flat.int_inv h1
        exact ⟨b, t, rfl, rfl⟩
      | succ i => exact flat_at h2 (by simpa using h)
theorem flat_len : ∀ {kvs : List (Int × Value)} {c : List (Int × Int)}, FlatPairs PyData.int kvs (kdfD c) → kvs.length = c.length
  | [], [], _ => rfl
  | [], _ :: _, hf => by cases hf
  | _ :: _, [], hf => by cases hf
  | _ :: kvs, _ :: c, hf => by cases hf with | cons _ h2 => simp [flat_len h2]
theorem flat_keys : ∀ {kvs : List (Int × Value)} {c : List (Int × Int)}, FlatPairs PyData.int kvs (kdfD c) → kvs.map (·.1) = c.map (·.1)
  | [], [], _ => rfl
  | [], _ :: _, hf => by cases hf
  | _ :: _, [], hf => by cases hf
  | (k, v) :: kvs, (a, b) :: c, hf => by
    cases hf with
    | cons _ h2 => simp [flat_keys h2]
theorem DI.nodup {prog : Program} {w : World} {o : Obj} {c : List (Int × Int)} (h : DI prog w o c) : (c.map (·.1)).Nodup := by
  obtain ⟨kvs, ⟨_, _, _, _, _, _, hn⟩, hf⟩ := h
  rw [← flat_keys hf]; exact hn
/-- the object stands: in the ground or in the ledger -/
def ObjAt (h₀ : Heap) (d : Addr) (o : Obj) (news : List (Addr × Obj)) : Prop := h₀.get? d = some o ∨ (d, o) ∈ news
theorem ObjAt.get {h₀ h : Heap} {L d : Addr} {o : Obj} {news : List (Addr × Obj)} (x : ObjAt h₀ d o news) (k : Grow h₀ h) (N : News h₀ L h news) : h.get? d = some o := x.elim (k _ _) fun hm => (N _ hm).1
theorem ObjAt.ne {h₀ h : Heap} {L d : Addr} {m : Str → Option Value} {o : Obj} {news : List (Addr × Obj)} (x : ObjAt h₀ d o news) (F : Fr h₀ L h m) (N : News h₀ L h news) : d ≠ L :=
  x.elim (fun e => Nat.ne_of_lt (Nat.lt_of_lt_of_le (Heap.lt_size e) F.above)) fun hm => (N _ hm).2.1
section
variable {prog : Program} {w : World} {A : Around} {E : Value → Shared → Prop} {s : Shared} {h₀ : Heap} {L : Addr} {m : Str → Option Value}
theorem DI.tab {h : Heap} {d : Addr} {o : Obj} {c : List (Int × Int)} (hd : DI prog w o c) (ho : h.get? d = some o) (lo : (d == sysModules) = false) : IntTab prog w h d (kdfD c) :=
  let ⟨kvs, a, b⟩ := hd; ⟨lo, kvs, Heap.dictOf_iff.mpr ⟨o, ho, a⟩, b⟩
theorem Src.dict {d : Addr} {o : Obj} {c : List (Int × Int)} {news : List (Addr × Obj)} (hh : A.handled = none) (F : Fr h₀ L s.heap m) (N : News h₀ L s.heap news) (ho : ObjAt h₀ d o news) (hd : DI prog w o c) (lo : (d == sysModules) = false) :
    Src prog w A h₀ L m news (ObjAt h₀ d o) c.length (fun i v => ∃ k y t, c[i]? = some (k, y) ∧ v = .int k t) (.ref d) s := by
  intro Q E k
  have hdL := ho.ne F N
  have hg := ho.get F.keep N
  obtain ⟨kvs, a, b⟩ := hd
  obtain ⟨es, ep, r1, r2, r3, r4, r5⟩ := id a
  have at' : ∀ {h : Heap}, h.get? d = some o → h.DictAt (PySem.intKind prog w) d kvs ep := fun e => ⟨o, es, e, r1, r2, r3, r4, r5⟩
  have hlt : d < s.heap.objs.size := Heap.lt_size hg
  have hLlt : L < s.heap.objs.size := F.ns.lt
  refine wpAny_pyIter_dict lo (at' hg) ?_
  generalize hO : ({ cls := .type "dict_keyiterator", data := .fields #[.ref d, .int 0 0, .int kvs.length 0, .int ep 0] } : Obj) = O
  have up : Grow s.heap (s.heap.push O) := fun b o e => Heap.get?_push_of_some _ e
  have W := Walks.dictKeys (knd := PySem.intKind prog w) hh s.heap.objs.size d (Nat.ne_of_lt hlt) kvs ep
  rw [flat_len b] at W
  have W' : Walks prog w A s.heap.objs.size [s.heap.objs.size, d] [s.heap.objs.size] c.length (fun i v => ∃ k y t, c[i]? = some (k, y) ∧ v = .int k t) (fun i h => h.IsKeyIter s.heap.objs.size d i c.length ep ∧ h.DictAt (PySem.intKind prog w) d kvs ep) :=
    { sub := W.sub, frame := W.frame, done := W.done, self := W.self
      item := fun i s Q E hi st hQ => W.item i s Q E hi st fun v h' tk hP => hQ v h' tk (by
        obtain ⟨k, x, hx, hk⟩ := hP
        obtain ⟨y, t, hy, _⟩ := flat_at b hx
        obtain ⟨t', e⟩ := Value.isInt_shape hk
        exact ⟨k, y, t', hy, e⟩) }
  refine k s.heap.objs.size _ (fun i h => (h.IsKeyIter s.heap.objs.size d i c.length ep ∧ h.DictAt (PySem.intKind prog w) d kvs ep)) _ W' (fun i h st => by obtain ⟨o, e, _⟩ := st.1; exact ⟨o, e⟩) ?_ ?_ ?_ ⟨?_, at' (up _ _ hg)⟩ (F.keeps up) (N.grown up) (next_is_new F) (fun p hp => Nat.ne_of_lt (Heap.lt_size (N p hp).1)) ho
  · intro i h h' oI nw st e e' k' N' S'
    refine ⟨?_, at' (S'.get k' N')⟩
    obtain ⟨o', q, r⟩ := st.1
    rw [e] at q; cases q
    exact ⟨_, e', r⟩
  · intro hm
    rcases List.mem_cons.mp hm with e | hm
    · exact absurd hLlt (e ▸ Nat.lt_irrefl _)
    · exact hdL (List.mem_singleton.mp hm).symm
  · intro b hb
    rw [Heap.size_push]
    rcases List.mem_cons.mp hb with rfl | hb
    · exact Nat.lt_succ_self _
    · rw [List.mem_singleton.mp hb]; exact Nat.lt_succ_of_lt hlt
  · rw [← flat_len b, ← hO]
    exact ⟨_, Heap.get?_push_size _ rfl, rfl, rfl⟩

theorem stored_one {FK : Value → Int → Prop} {FV : Value → Value → Prop} {v0 : Value} {kvs : List (Int × Value)} (h : StoredAll FK FV [v0] kvs) : ∃ k y, FK v0 k ∧ FV v0 y ∧ kvs = [(k, y)] := by
  generalize e : [v0] = l at h
  cases h with
  | nil => cases e
  | snoc h1 h2 h3 =>
    rename_i l' kvs' v k y
    have hl : l' = [] := by
      cases l' with
      | nil => rfl
      | cons a l => simp at e
    subst hl
    have hv : v0 = v := by simpa using e
    subst hv
    generalize e2 : ([] : List Value) = l2 at h1
    cases h1 with
    | nil => exact ⟨k, y, h2, h3, rfl⟩
    | snoc _ _ _ => simp at e2

/-- a dict comprehension over a dict of one key -/
theorem dcomp1 {kx vx iter : Expr} {x : Str} {px : Pos} {scope : Scope} {cl : List (Str × Addr)} {pos : Pos} {env : Env} {Q : Value → Shared → Prop} {d : Addr} {o : Obj} {k0 y0 y1 : Int} {news : List (Addr × Obj)} (hbig : sysModules < h₀.objs.size)
    (hclos : closureFor scope env = pure cl) (hcell : ∀ y ∈ scope.names, y.2 ≠ .cell) (hkind : scope.kind = .function)
    (hnames : ∀ y ∈ scope.names, y.2 = .local → scope.names.lookup y.1 = some .local) (hx : scope.names.lookup x = some .local) (hh : A.handled = none)
    (hi : wpAny (model prog w) A (eval iter env) (fun xv s₁ => xv = .ref d ∧ s₁ = s) E s) (F : Fr h₀ L s.heap m) (N : News h₀ L s.heap news) (ho : ObjAt h₀ d o news) (hd : DI prog w o [(k0, y0)]) (lo : (d == sysModules) = false)
    (hkey : ∀ C t s₃ m₃ E', s₃.heap.Ns C m₃ → m₃ x = some (.int k0 t) → wpAny (model prog w) A (eval kx (compEnvC scope cl C env)) (fun key s₄ => (∃ t, key = .int k0 t) ∧ Keeps s₃ s₄) E' s₃)
    (hval : ∀ C t s₃ m₃ E', s₃.heap.Ns C m₃ → m₃ x = some (.int k0 t) → Grow h₀ s₃.heap → News h₀ L s₃.heap news → wpAny (model prog w) A (eval vx (compEnvC scope cl C env)) (fun y s₄ => (∃ t, y = .int y1 t) ∧ Keeps s₃ s₄) E' s₃)
    (hQ : ∀ D oD h' tk, DI prog w oD [(k0, y1)] → Fr h₀ L h' m → News h₀ L h' ((D, oD) :: news) → (∀ p ∈ news, p.1 < D) → (D == sysModules) = false → Q (.ref D) { s with heap := h', toks := tk })
    (hs : ∀ x, foldedSetIterable iter env x = pure x := by intro _; rfl) :
    wpAny (model prog w) A (eval (.DictComp kx vx [⟨.Name x px, iter, [], 0⟩] scope pos) env) Q E s := by
  rw [arm_eval_DictComp]
  refine wpAny_comprehension_free (use := none) rfl hs hclos hkind hnames (wpAny_mono hi (fun xv s₁ h₁ => ?_) fun _ _ e => e)
  obtain ⟨rfl, rfl⟩ := h₁
  refine Src.dict hh F N ho hd lo _ _ fun I fp St h W hIo hSt hLf hfp hst F₂ N₂ hI₀ off hS => ?_
  have hLI : L ≠ I := fun e => hLf (e ▸ W.sub I (List.mem_singleton.mpr rfl))
  refine wpAny_newObj_type (wpAny_newFunctionEnv hcell (by intro y hy; simp at hy) (fun h₁ hns₁ hsb₁ => ?_) hkind)
  dsimp only at hns₁ hsb₁ ⊢
  have hnew : (h.push { cls := .type "dict", dict := none, data := .dict #[] }).DictOf (PySem.intKind prog w) h.objs.size [] := Heap.DictOf.new h
  generalize hH2 : h.push { cls := .type "dict", dict := none, data := .dict #[] } = H2 at hns₁ hsb₁ hnew ⊢
  have hC : H2.objs.size = h.objs.size + 1 := by rw [← hH2, Heap.size_push]
  have hDlt : ∀ b, b < h.objs.size → b ≠ H2.objs.size ∧ b ≠ h.objs.size := fun b hb => ⟨by rw [hC]; exact Nat.ne_of_lt (Nat.lt_succ_of_lt hb), Nat.ne_of_lt hb⟩
  have hDC : h.objs.size ≠ H2.objs.size := by rw [hC]; exact Nat.ne_of_lt (Nat.lt_succ_self _)
  have old : Grow h h₁ := fun b o e => hsb₁.extBut b o (hDlt b (Heap.lt_size e)).1 (Heap.get?_push_of_some _ (hH2 ▸ Heap.get?_push_of_some _ e))
  have hacc : h₁.DictOf (PySem.intKind prog w) h.objs.size [] := hnew.at fun o e => hsb₁.extBut _ _ hDC (Heap.get?_push_of_some _ e)
  have hst₁ : St 0 h₁ := W.frame _ _ _ hst fun b _ o e => old b o e
  have keepG : ∀ {h' : Heap}, (∀ b o, b ≠ H2.objs.size → b ∉ [I] → b ≠ h.objs.size → h₁.get? b = some o → h'.get? b = some o) → (∀ b o, b ≠ I → h.get? b = some o → h'.get? b = some o) := fun hk b o hb e =>
    hk b o (hDlt b (Heap.lt_size e)).1 (by simpa using hb) (hDlt b (Heap.lt_size e)).2 (old b o e)
  have inB : ∀ {h' : Heap}, (∀ b o, b ≠ I → h.get? b = some o → h'.get? b = some o) → Grow h₀ h' ∧ News h₀ L h' news ∧ Fr h₀ L h' m := fun {h'} hk =>
    have g : Grow h₀ h' := fun b o e => hk b o (fun q => by rw [q, hI₀] at e; cases e) (F₂.keep b o e)
    ⟨g, fun p hp => ⟨hk _ _ (off p hp) (N₂ p hp).1, (N₂ p hp).2⟩, ⟨F₂.ns.at' fun o e => hk _ o hLI e, g, F₂.above⟩⟩
  have one : ∀ {i : Nat} {v : Value}, (∃ k y t, ([(k0, y0)] : List (Int × Int))[i]? = some (k, y) ∧ v = .int k t) → ∃ t, v = .int k0 t := by
    rintro i v ⟨k, y, t, hc, rfl⟩
    cases i with
    | zero => simp only [List.getElem?_cons_zero, Option.some.injEq, Prod.mk.injEq] at hc; exact ⟨t, by rw [hc.1]⟩
    | succ i => simp at hc
  have loop : ∀ s₃ : Shared, s₃ = { s₁ with heap := h₁, toks := s₁.toks + ([] : List (Str × Value)).length } →
      codeAny (model prog w) A (.compLoop (.DictComp kx vx [⟨.Name x px, iter, [], 0⟩] scope pos) 0 (.ref I) (.ref h.objs.size) (compEnvC scope cl H2.objs.size env)) (compPost (model prog w) A E none Q (.ref h.objs.size) H2.objs.size) s₃ := by
    rintro s₃ rfl
    refine codeAny_compLoop_walkD (knd := PySem.intKind prog w) (cenv := compEnvC scope cl H2.objs.size env) W (fun _ => true) (fun _ k => k = k0) (fun _ y => ∃ t, y = .int y1 t) (lookup_relabel_local hx) (by simp [compEnvC, relabel, hkind]) hDC
      (fun hm => Nat.lt_irrefl _ (hfp _ hm)) (fun hm => by have := hfp _ hm; rw [show (compEnvC scope cl H2.objs.size env).locals = H2.objs.size from rfl, hC] at this; exact Nat.lt_irrefl _ (Nat.lt_of_succ_lt this)) hst₁ hacc hns₁ ?_ ?_ ?_ ?_ (by rw [sizeLine_eq]; simp)
    · intro i v s₂ m₂ _ _ _ _
      exact wpAny_tests_nil ⟨rfl, _, _, rfl, fun _ _ e => e⟩
    · intro i v s₂ m₂ hP _ hn hm _
      obtain ⟨t, rfl⟩ := one hP
      exact wpAny_mono (hkey _ t s₂ m₂ _ hn hm) (fun key s₄ hq => by obtain ⟨⟨t', rfl⟩, k⟩ := hq; exact ⟨⟨k0, intKind_is _ _ _ _, rfl⟩, k⟩) fun _ _ e => e
    · intro i v s₂ m₂ hP _ hn hm hk
      obtain ⟨t, rfl⟩ := one hP
      obtain ⟨g, N', _⟩ := inB (keepG hk)
      exact hval _ t s₂ m₂ _ hn hm g N'
    · intro h' tk m' kvs vs hn hdict hlen hP hSA hk
      obtain ⟨g, N', F'⟩ := inB (keepG hk)
      have hvs : ∃ v0, vs = [v0] := by
        match vs, hlen with
        | [v0], _ => exact ⟨v0, rfl⟩
      obtain ⟨v0, rfl⟩ := hvs
      obtain ⟨k, y, rfl, ⟨t, rfl⟩, rfl⟩ := stored_one hSA
      obtain ⟨oD, eD, hDd⟩ := Heap.dictOf_iff.mp hdict
      have hD₀ : h₀.get? h.objs.size = none := by
        cases q : h₀.get? h.objs.size with
        | none => rfl
        | some o' => exact absurd (Heap.lt_size (F₂.keep _ _ q)) (Nat.lt_irrefl _)
      have hC₀ : h₀.get? H2.objs.size = none := by
        cases q : h₀.get? H2.objs.size with
        | none => rfl
        | some o' => exact absurd (Heap.lt_size (F₂.keep _ _ q)) (by rw [hC]; exact Nat.not_lt.mpr (Nat.le_succ _))
      have hL := hDlt L F₂.ns.lt
      refine ⟨m', hn, fun h'' hs'' => hQ h.objs.size oD h'' tk ⟨_, hDd, .cons (PyProof.V.Flat.int y1 t) .nil⟩ (F'.change hs'' (Ne.symm hL.1) hC₀) (fun p hp => ?_) (fun p hp => Heap.lt_size (N₂ p hp).1) ?_⟩
      · rcases List.mem_cons.mp hp with rfl | hp
        · exact ⟨hs''.extBut _ _ hDC eD, Ne.symm hL.2, hD₀⟩
        · exact ⟨hs''.extBut _ _ (hDlt _ (Heap.lt_size (N₂ p hp).1)).1 (N' p hp).1, (N' p hp).2⟩
      · have h1 : h₀.objs.size ≤ L := F₂.above
        have h2 : L < h.objs.size := F₂.ns.lt
        have h3 : h.objs.size ≠ sysModules := Nat.ne_of_gt (Nat.lt_of_lt_of_le hbig (Nat.le_trans h1 (Nat.le_of_lt h2)))
        simpa using h3
  exact codeAny_compStart_dict (loop _ rfl) (W.self 0 _ _ _ hst₁ (loop _ rfl))
end
theorem has_of_get : ∀ {c : List (Int × Int)} {i : Nat} {k y : Int}, c[i]? = some (k, y) → kdfHas c k = true := fun {c i k y} h => by
  have : (k, y) ∈ c := List.mem_of_getElem? h
  simp only [kdfHas, List.any_eq_true]
  exact ⟨_, this, by simp⟩
theorem take_map {c : List (Int × Int)} {i : Nat} {k y : Int} (h : c[i]? = some (k, y)) : (c.map (·.1)).take (i + 1) = (c.map (·.1)).take i ++ [k] := by
  rw [List.take_add_one]; simp [h]
theorem fr_turn2 {h₀ h : Heap} {L : Addr} {m₁ : Str → Option Value} {x z : Str} {v : Value} {l : List (Str × Value)} (F : Fr h₀ L h (fun y => if y = x then some v else m₁ y)) (e : ∀ y : Str, y ≠ x → y ≠ z → m₁ y = fm l y) : Fr h₀ L h (fun y => if y = x then some v else if y = z then m₁ z else fm l y) :=
  fr_re F fun y => by
    by_cases h : y = x
    · rw [if_pos h, if_pos h]
    · rw [if_neg h, if_neg h]
      by_cases h2 : y = z
      · rw [if_pos h2, h2]
      · rw [if_neg h2, e y h h2]
theorem fr_done2 {h₀ h : Heap} {L : Addr} {m₁ : Str → Option Value} {x z : Str} {l : List (Str × Value)} (F : Fr h₀ L h m₁) (e : ∀ y : Str, y ≠ x → y ≠ z → m₁ y = fm l y) : Fr h₀ L h (fun y => if y = x then m₁ x else if y = z then m₁ z else fm l y) :=
  fr_re F fun y => by
    by_cases h : y = x
    · rw [if_pos h, h]
    · rw [if_neg h]
      by_cases h2 : y = z
      · rw [if_pos h2, h2]
      · rw [if_neg h2, e y h h2]
end Mine
end SDicts
section SPairs
open PySem.Calls
namespace Mine
section
variable {prog : Program} {w : World} {A : Around} {E : Value → Shared → Prop} {s : Shared} {env : Env} {h₀ : Heap} {L : Addr} {m : Str → Option Value}
theorem off1_of {D : Addr} : ∀ {l : List (Addr × Obj)}, (∀ p ∈ l, p.1 ≠ D) → LCg.Off1 D l
  | [], _ => trivial
  | _ :: _, h => ⟨h _ List.mem_cons_self, off1_of fun q hq => h q (List.mem_cons_of_mem _ hq)⟩
/-- one turn's value of a comprehension over pairs: it only adds objects -/
def PTurn (prog : Program) (w : World) (A : Around) (h₀ : Heap) (L : Addr) (m : Str → Option Value) (env : Env) (elt : Expr) (x x₂ : Str) (scope : Scope) (cl : List (Str × Addr)) (news : List (Addr × Obj)) (PP : Nat → Value → Value → Prop) (V : Nat → Value → Prop) (s₂ : Shared) : Prop :=
  ∀ i a b C oC m₂ nw h tk (Q' : Value → Shared → Prop) (E' : Value → Shared → Prop), PP i a b → LCg.NsObj oC m₂ → m₂ x = some a → m₂ x₂ = some b → (C, oC) ∈ nw → (∀ p ∈ news, p ∈ nw) → Fr h₀ L h m → News h₀ L h nw →
    (∀ v h' tk', V i v → Fr h₀ L h' m → News h₀ L h' nw → Q' v { s₂ with heap := h', toks := tk' }) → wpAny (model prog w) A (eval elt (compEnvC scope cl C env)) Q' E' { s₂ with heap := h, toks := tk }
theorem pairCore {elt iter : Expr} {x x₂ : Str} {px px₂ tp : Pos} {kk : Nat} {scope : Scope} {cl : List (Str × Addr)} {pos : Pos} {s₂ : Shared} {I b0 : Addr} {fp wr : List Addr} {n : Nat} {Pt : Nat → Array Value → Prop} {St : Nat → Heap → Prop} {Mid : Nat → Addr → Heap → Prop} {PP : Nat → Value → Value → Prop} {V : Nat → Value → Prop} {news : List (Addr × Obj)}
    {RR : Value → Addr → Result → Shared → Prop} (W : WalksU prog w A I fp wr n Pt St Mid) (hh : A.handled = none) (hsz : n ≤ sizeLine) (hPt : ∀ i vals, Pt i vals → ∃ a b, vals = #[a, b] ∧ PP i a b)
    (hcell : ∀ y ∈ scope.names, y.2 ≠ .cell) (hkind : scope.kind = .function) (hx : scope.names.lookup x = some .local) (hx₂ : scope.names.lookup x₂ = some .local) (hxx : x ≠ x₂) (hst : St 0 s₂.heap) (hfp : ∀ b ∈ fp, b < s₂.heap.objs.size)
    (hLb : L < b0) (hNb : ∀ p ∈ news, p.1 < b0) (hwr : ∀ b ∈ wr, b0 ≤ b) (hcov : ∀ b ∈ fp, b0 ≤ b ∨ (∃ o, h₀.get? b = some o) ∨ ∃ o, (b, o) ∈ news) (F : Fr h₀ L s₂.heap m) (N : News h₀ L s₂.heap news)
    (turn : PTurn prog w A h₀ L m env elt x x₂ scope cl news PP V s₂)
    (hRR : ∀ D C h tk m' ys, Fr h₀ L h m → News h₀ L h ((D, LCg.lst ys) :: news) → LCg.Off1 D news → h.Ns C m' → h₀.get? C = none → C ≠ L → C ≠ D → (∀ p ∈ news, p.1 ≠ C) → ys.length = n → (∀ j v, ys[j]? = some v → V j v) → RR (.ref D) C (.ok .next) { s₂ with heap := h, toks := tk }) :
    wpAny (model prog w) A (newList []) (fun acc s₃ => wpAny (model prog w) A (newFunctionEnv scope env.globals cl [] env.qual none .none (some env)) (fun cenv s₄ =>
      codeAny (model prog w) A (.compStart (.ListComp elt [⟨.Tuple [.Name x px, .Name x₂ px₂] kk tp, iter, [], 0⟩] scope pos) 0 (.ref I) acc { cenv with scope := relabel scope env }) (RR acc cenv.locals) s₄) E s₃) E s₂ := by
  refine wpAny_newObj_type (wpAny_newFunctionEnv hcell (by intro y hy; simp at hy) (fun h₁ hns₁ hsb₁ => ?_) hkind)
  dsimp only at hns₁ hsb₁ ⊢
  generalize hH2 : s₂.heap.push { cls := .type "list", dict := none, data := .seq ([] : List Value).toArray } = H2 at hns₁ hsb₁ ⊢
  generalize hD : s₂.heap.objs.size = D
  have hC : H2.objs.size = D + 1 := by rw [← hH2, Heap.size_push, hD]
  generalize H2.objs.size = C at hns₁ hsb₁ hC ⊢
  have hDC : D ≠ C := by rw [hC]; exact Nat.ne_of_lt (Nat.lt_succ_self _)
  have below : ∀ b, b < D → b ≠ C ∧ b ≠ D := fun b hb => ⟨by rw [hC]; exact Nat.ne_of_lt (Nat.lt_succ_of_lt hb), Nat.ne_of_lt hb⟩
  have hfp' : ∀ b ∈ fp, b ≠ C ∧ b ≠ D := fun b hb => below b (hD ▸ hfp b hb)
  have lt : ∀ b o, s₂.heap.get? b = some o → b ≠ C ∧ b ≠ D := fun b o e => below b (hD ▸ Heap.lt_size e)
  have old : Grow s₂.heap h₁ := fun b o e => hsb₁.extBut b o (lt b o e).1 (Heap.get?_push_of_some _ (hH2 ▸ Heap.get?_push_of_some _ e))
  have hacc : h₁.get? D = some (LCg.lst []) := hsb₁.extBut _ _ hDC (Heap.get?_push_of_some _ (by rw [← hH2, ← hD]; exact Heap.get?_push_size _ rfl))
  have fresh : ∀ a, L ≤ a → h₀.get? a = none := fun a ha => Heap.get?_none_of_le (Nat.le_trans F.above ha)
  have hL := below L (hD ▸ F.ns.lt)
  have hD₀ := fresh D (Nat.le_of_lt (hD ▸ F.ns.lt))
  have hC₀ := fresh C (by rw [hC]; exact Nat.le_succ_of_le (Nat.le_of_lt (hD ▸ F.ns.lt)))
  have offN : ∀ p ∈ news, p.1 ≠ C ∧ p.1 ≠ D := fun p hp => lt _ _ (N p hp).1
  have wL : L ∉ wr := fun q => absurd (hwr _ q) (Nat.not_le.mpr hLb)
  have w0 : ∀ b o, h₀.get? b = some o → b ∉ wr := fun b o e q => by rw [fresh b (Nat.le_trans (Nat.le_of_lt hLb) (hwr b q))] at e; cases e
  have wN : ∀ p ∈ news, p.1 ∉ wr := fun p hp q => absurd (hwr _ q) (Nat.not_le.mpr (hNb p hp))
  have upF : ∀ {h h' : Heap}, Fr h₀ L h m → (∀ b o, b ∉ wr → h.get? b = some o → h'.get? b = some o) → Fr h₀ L h' m := fun F hk => ⟨F.ns.at' fun o e => hk L o wL e, fun b o e => hk b o (w0 b o e) (F.keep b o e), F.above⟩
  have upN : ∀ {h h' : Heap} {ys : List Value}, News h₀ L h ((D, LCg.lst ys) :: news) → (∀ b o, b ∉ wr → h.get? b = some o → h'.get? b = some o) → News h₀ L h' ((D, LCg.lst ys) :: news) := fun N hk p hp => ⟨hk _ _ (by rcases List.mem_cons.mp hp with rfl | hp; exact fun q => (hfp' _ (W.sub _ q)).2 rfl; exact wN p hp) (N p hp).1, (N p hp).2⟩
  have loop : ∀ s₃ : Shared, s₃ = { s₂ with heap := h₁, toks := s₂.toks + ([] : List (Str × Value)).length } →
      codeAny (model prog w) A (.compLoop (.ListComp elt [⟨.Tuple [.Name x px, .Name x₂ px₂] kk tp, iter, [], 0⟩] scope pos) 0 (.ref I) (.ref D) (compEnvC scope cl C env)) (RR (.ref D) C) s₃ := by
    rintro s₃ rfl
    refine LCp.codeAny_compLoop_pair
      (fun k s' => ∀ P : Prop, (∀ h' tk i ys m', s' = { s₂ with heap := h', toks := tk } → i ≤ n → k = n + 1 - i → ys.length = i → (∀ j v, ys[j]? = some v → V j v) → St i h' → Fr h₀ L h' m → h'.Ns C m' → News h₀ L h' ((D, LCg.lst ys) :: news) → P) → P) ?_ (n + 1)
      fun P k => k h₁ _ 0 [] _ rfl (Nat.zero_le _) rfl rfl (fun j v e => by simp at e) (W.frame _ _ _ hst fun b _ o e => old b o e) (F.keeps old) hns₁ fun p hp => ?_
    · intro k s' hI
      refine hI _ fun h' tk i ys m' e1 hi e2 hyl hV hst' F' hn' N' => ?_
      subst e1 e2
      by_cases hlt : i < n
      · refine W.item i _ _ _ hlt hst' fun T vals h₂ tk₂ hP hT hm hk₂ => ?_
        obtain ⟨a, b, rfl, hPP⟩ := hPt _ _ hP
        refine W.go _ _ _ _ _ _ _ _ hm fun h₅ hst₅ hk₅ => ?_
        have wC : C ∉ wr := fun q => (hfp' _ (W.sub _ q)).1 rfl
        refine kcp_assign hh (hT.at fun o e => hk₅ T o (W.apart i T _ hm) e) (lookup_relabel_local hx) (lookup_relabel_local hx₂) (by simp [compEnvC, relabel, hkind]) ((hn'.at' fun o e => hk₂ _ o wC e).at' fun o e => hk₅ _ o wC e) fun h₆ tk₆ hn₆ hk₆ => ?_
        have F₅ := upF (upF F' hk₂) hk₅
        have N₅ := upN (upN N' hk₂) hk₅
        have F₆ : Fr h₀ L h₆ m := ⟨F₅.ns.at' fun o e => hk₆ L o hL.1 e, fun b o e => hk₆ b o (fun q => by rw [q] at e; exact absurd (e.symm.trans hC₀) (by simp)) (F₅.keep b o e), F₅.above⟩
        obtain ⟨oC, heC, hoC⟩ := LCg.ns_obj hn₆
        have hst₆ : St (i + 1) h₆ := W.frame _ _ _ hst₅ fun b hb o e => hk₆ b o (hfp' b hb).1 e
        have N₆ : News h₀ L h₆ ((C, oC) :: (fp.filterMap fun b => if b0 ≤ b then (h₆.get? b).map fun o => (b, o) else none) ++ (D, LCg.lst ys) :: news) := fun p hp => by
          rcases List.mem_append.mp hp with hp | hp
          · rcases List.mem_cons.mp hp with rfl | hp
            · exact ⟨heC, Ne.symm hL.1, hC₀⟩
            · obtain ⟨b, hb, e⟩ := List.mem_filterMap.mp hp
              by_cases hb0 : b0 ≤ b
              · rw [if_pos hb0] at e
                obtain ⟨o, e', rfl⟩ := Option.map_eq_some_iff.mp e
                exact ⟨e', Ne.symm (Nat.ne_of_lt (Nat.lt_of_lt_of_le hLb hb0)), fresh _ (Nat.le_trans (Nat.le_of_lt hLb) hb0)⟩
              · rw [if_neg hb0] at e; cases e
          · refine ⟨hk₆ _ _ ?_ (N₅ p hp).1, (N₅ p hp).2⟩
            rcases List.mem_cons.mp hp with rfl | hp
            · exact hDC
            · exact (offN p hp).1
        refine turn i a b C oC _ _ h₆ tk₆ _ _ hPP hoC (by simp [hxx]) (by simp) (List.mem_append_left _ List.mem_cons_self) (fun p hp => List.mem_append_right _ (List.mem_cons_of_mem _ hp)) F₆ N₆ fun v h₄ tk₄ hv F₄ N₄ => ?_
        have N₇ : News h₀ L h₄ ((D, LCg.lst ys) :: news) := fun p hp => N₄ p (List.mem_append_right _ hp)
        have hst₄ : St (i + 1) h₄ := W.frame _ _ _ hst₆ fun b hb o e => by
          rcases hcov b hb with q | ⟨o', q⟩ | ⟨o', q⟩
          · exact (N₄ (b, o) (List.mem_append_left _ (List.mem_cons_of_mem _ (List.mem_filterMap.mpr ⟨b, hb, by rw [if_pos q, e]; rfl⟩)))).1
          · exact (F₄.keep b o' q).trans ((F₆.keep b o' q).symm.trans e)
          · exact (N₇ (b, o') (List.mem_cons_of_mem _ q)).1.trans ((N₆ (b, o') (List.mem_append_right _ (List.mem_cons_of_mem _ q))).1.symm.trans e)
        refine append_at (hsz := by show ys.toArray.size ≤ sizeLine; rw [List.size_toArray, hyl]; exact Nat.le_trans hi hsz) (N₇ _ List.mem_cons_self).1 fun h₇ hs₇ hD₇ => ?_
        refine ⟨n + 1 - (i + 1), Nat.sub_lt_sub_left (Nat.lt_succ_of_lt hlt) (Nat.lt_succ_self i), fun P k => k h₇ tk₄ (i + 1) (ys ++ [v]) _ rfl hlt rfl (by rw [List.length_append, List.length_singleton, hyl]) (fun j u e => ?_) (W.frame _ _ _ hst₄ fun b hb o e => hs₇.extBut b o (hfp' b hb).2 e) (F₄.change hs₇ (Ne.symm hL.2) hD₀)
          ((hoC.ns (N₄ _ (List.mem_append_left _ List.mem_cons_self)).1).sameBut hs₇ (Ne.symm hDC)) fun p hp => ?_⟩
        · rw [List.getElem?_append] at e
          split at e
          · exact hV j u e
          · have hj : j = i := by
              have := (List.getElem?_eq_some_iff.mp e).1
              simp only [List.length_singleton] at this; omega
            subst hj
            rw [hyl, Nat.sub_self] at e
            cases e
            exact hv
        · rcases List.mem_cons.mp hp with rfl | hp
          · exact ⟨hD₇.trans (congrArg some (LCg.lst_snoc ys v)), Ne.symm hL.2, hD₀⟩
          · exact ⟨hs₇.extBut _ _ (offN p hp).2 (N₇ p (List.mem_cons_of_mem _ hp)).1, (N₇ p (List.mem_cons_of_mem _ hp)).2⟩
      · obtain rfl : i = n := Nat.le_antisymm hi (Nat.not_lt.mp hlt)
        refine W.done _ _ _ hst' fun h₂ tk₂ hk₂ => ?_
        exact hRR _ _ h₂ tk₂ _ ys (upF F' hk₂) (upN N' hk₂) (off1_of fun p hp => (offN p hp).2) (hn'.at' fun o e => hk₂ _ o (fun q => (hfp' _ (W.sub _ q)).1 rfl) e) hC₀ (Ne.symm hL.1) (Ne.symm hDC) (fun p hp => (offN p hp).1) hyl hV
    · rcases List.mem_cons.mp hp with rfl | hp
      · exact ⟨hacc, Ne.symm hL.2, hD₀⟩
      · exact ⟨old _ _ (N p hp).1, (N p hp).2⟩
  exact codeAny_compStart_list (loop _ rfl) (W.self 0 _ _ _ (W.frame _ _ _ hst fun b _ o e => old b o e) (loop _ rfl))
/-- what is to be shown at a pair comprehension's source -/
def PairAt (prog : Program) (w : World) (A : Around) (h₀ : Heap) (L : Addr) (m : Str → Option Value) (env : Env) (elt : Expr) (x x₂ : Str) (scope : Scope) (cl : List (Str × Addr)) (Fin : Shared → List Value → List (Addr × Obj) → Prop) (xv : Value) (s₁ : Shared) : Prop :=
  ∀ P : Prop, (∀ (news : List (Addr × Obj)) (I b0 : Addr) (fp wr : List Addr) (n : Nat) (Pt : Nat → Array Value → Prop) (St : Nat → Heap → Prop) (Mid : Nat → Addr → Heap → Prop) (PP : Nat → Value → Value → Prop) (V : Nat → Value → Prop),
    xv = .ref I → WalksU prog w A I fp wr n Pt St Mid → A.handled = none → n ≤ sizeLine → (∀ i vals, Pt i vals → ∃ a b, vals = #[a, b] ∧ PP i a b) → St 0 s₁.heap → (∀ b ∈ fp, b < s₁.heap.objs.size) → L < b0 → (∀ p ∈ news, p.1 < b0) → (∀ b ∈ wr, b0 ≤ b) → (∀ b ∈ fp, b0 ≤ b ∨ (∃ o, h₀.get? b = some o) ∨ ∃ o, (b, o) ∈ news) →
    Fr h₀ L s₁.heap m → News h₀ L s₁.heap news → PTurn prog w A h₀ L m env elt x x₂ scope cl news PP V s₁ → (∀ ys, ys.length = n → (∀ j v, ys[j]? = some v → V j v) → Fin s₁ ys news) → P) → P
theorem pairU {elt iter : Expr} {x x₂ : Str} {px px₂ tp : Pos} {kk : Nat} {scope : Scope} {cl : List (Str × Addr)} {pos : Pos} {Q : Value → Shared → Prop} (_F₀ : Fr h₀ L s.heap m)
    (hclos : closureFor scope env = pure cl) (hcell : ∀ y ∈ scope.names, y.2 ≠ .cell) (hkind : scope.kind = .function)
    (hnames : ∀ y ∈ scope.names, y.2 = .local → scope.names.lookup y.1 = some .local) (hx : scope.names.lookup x = some .local) (hx₂ : scope.names.lookup x₂ = some .local) (hxx : x ≠ x₂)
    (h : wpAny (model prog w) A (eval iter env) (PairAt prog w A h₀ L m env elt x x₂ scope cl (fun s₂ => LCg.FinE h₀ L m s₂ Q)) E s)
    (hs : ∀ x, foldedSetIterable iter env x = pure x := by intro _; rfl) :
    wpAny (model prog w) A (eval (.ListComp elt [⟨.Tuple [.Name x px, .Name x₂ px₂] kk tp, iter, [], 0⟩] scope pos) env) Q E s := by
  rw [eval_ListComp]
  refine wpAny_comprehension_free (use := none) rfl hs hclos hkind hnames (wpAny_mono h (fun xv s₁ h₁ => ?_) fun _ _ e => e)
  refine h₁ _ fun news I b0 fp wr n Pt St Mid PP V e W hh hsz hPt hst hfp hLb hNb hwr hcov F N turn fin => ?_
  subst e
  refine W.self 0 _ _ _ hst (pairCore (RR := fun acc C => compPost (model prog w) A E none Q acc C) W hh hsz hPt hcell hkind hx hx₂ hxx hst hfp hLb hNb hwr hcov F N turn ?_)
  intro D C h' tk m' ys F' N' o1 hn hC₀ hCL hCD offC hyl hV
  refine ⟨m', hn, fun h'' hs'' => fin ys hyl hV D h'' tk (F'.change hs'' hCL hC₀) (fun p hp => ?_) o1⟩
  refine ⟨hs''.extBut _ _ ?_ (N' p hp).1, (N' p hp).2⟩
  rcases List.mem_cons.mp hp with rfl | hp
  · exact Ne.symm hCD
  · exact offC p hp
theorem pairA {elt iter : Expr} {x x₂ y : Str} {px px₂ py tp : Pos} {kk : Nat} {scope : Scope} {cl : List (Str × Addr)} {pos spos : Pos} {Q : Flow → Shared → Prop} (_F₀ : Fr h₀ L s.heap m) (hLe : env.locals = L)
    (hsw : swapsWith (.ListComp elt [⟨.Tuple [.Name x px, .Name x₂ px₂] kk tp, iter, [], 0⟩] scope pos) (some (.Name y py)) spos.line env = pure true)
    (hclos : closureFor scope env = pure cl) (hcell : ∀ z ∈ scope.names, z.2 ≠ .cell) (hkind : scope.kind = .function)
    (hnames : ∀ z ∈ scope.names, z.2 = .local → scope.names.lookup z.1 = some .local) (hx : scope.names.lookup x = some .local) (hx₂ : scope.names.lookup x₂ = some .local) (hxx : x ≠ x₂)
    (hy : env.kindOf y = some .local) (hp : (env.scope.kind == .class || (env.scope.kind == .module && env.locals != env.globals)) = false)
    (h : wpAny (model prog w) A (eval iter env) (PairAt prog w A h₀ L m env elt x x₂ scope cl (fun s₂ => LCg.FinA h₀ L m s₂ y Q)) E s)
    (hs : ∀ x, foldedSetIterable iter env x = pure x := by intro _; rfl) :
    wpAny (model prog w) A (exec (.Assign [.Name y py] (.ListComp elt [⟨.Tuple [.Name x px, .Name x₂ px₂] kk tp, iter, [], 0⟩] scope pos) spos) env) Q E s := by
  subst hLe
  rw [exec_Assign_Name_used _ _ _ _ hsw]
  refine wpAny_bind (wpAny_standAt (wpAny_bind ?_))
  show wpAny _ A (do let _ ← comprehension (.ListComp elt [⟨.Tuple [.Name x px, .Name x₂ px₂] kk tp, iter, [], 0⟩] scope pos) scope env _ (newList []) false (eval iter env) (some (assign (.Name y py) env))) _ _ s
  refine wpAny_bind (wpAny_mono (wpAny_comprehension_free (use := some (assign (.Name y py) env)) (Q := fun _ s' => Q .next s') rfl hs hclos hkind hnames
    (wpAny_mono h (fun xv s₁ h₁ => ?_) fun _ _ e => e)) (fun _ s' hq => wpAny_pure (wpAny_pure hq)) fun _ _ e => e)
  refine h₁ _ fun news I b0 fp wr n Pt St Mid PP V e W hh hsz hPt hst hfp hLb hNb hwr hcov F N turn fin => ?_
  subst e
  refine W.self 0 _ _ _ hst (pairCore (RR := fun acc C => compPost (model prog w) A E (some (assign (.Name y py) env)) (fun _ s' => Q .next s') acc C) W hh hsz hPt hcell hkind hx hx₂ hxx hst hfp hLb hNb hwr hcov F N turn ?_)
  intro D C h' tk m' ys F' N' o1 hn hC₀ hCL hCD offC hyl hV
  show wpAny _ A (assign (.Name y py) env (.ref D)) _ _ _
  refine wpAny_assign_Name (wpAny_storeName_local hy F'.ns (fun h₂ hn₂ hs₂ => ?_) hp)
  have hL₀ : h₀.get? env.locals = none := Heap.get?_none_of_le F'.above
  have F₂ : Fr h₀ env.locals h₂ (fun z => if z = y then some (.ref D) else m z) := ⟨hn₂, fun b o e => hs₂.extBut b o (fun q => by rw [q, hL₀] at e; cases e) (F'.keep b o e), F'.above⟩
  refine ⟨m', hn.sameBut hs₂ hCL, fun h'' hs'' => fin ys hyl hV D h'' _ (F₂.change hs'' hCL hC₀) (fun p hp => ?_) o1⟩
  have z : h₂.get? p.1 = some p.2 := hs₂.extBut _ _ (N' p hp).2.1 (N' p hp).1
  refine ⟨hs''.extBut _ _ ?_ z, (N' p hp).2⟩
  rcases List.mem_cons.mp hp with rfl | hp
  · exact Ne.symm hCD
  · exact offC p hp
theorem srcCov {h₀ : Heap} {l : Addr} {its : Array Value} {news : List (Addr × Obj)} : LCg.SrcAt h₀ l its news → (∃ o, h₀.get? l = some o) ∨ ∃ o, (l, o) ∈ news
  | .inl ⟨o, e, _⟩ => .inl ⟨o, e⟩
  | .inr ⟨o, e, _⟩ => .inr ⟨o, e⟩
theorem pairZip {elt : Expr} {x x₂ : Str} {scope : Scope} {cl : List (Str × Addr)} {l1 l2 : Addr} {xs ys : Array Value} {news : List (Addr × Obj)} {Fin : Shared → List Value → List (Addr × Obj) → Prop} {V : Nat → Value → Prop} (hh : A.handled = none) (F : Fr h₀ L s.heap m) (N : News h₀ L s.heap news)
    (s1 : LCg.SrcAt h₀ l1 xs news) (s2 : LCg.SrcAt h₀ l2 ys news) (hsz : xs.size ≤ sizeLine)
    (turn : ∀ h', PTurn prog w A h₀ L m env elt x x₂ scope cl news (fun i a b => xs[i]? = some a ∧ ys[i]? = some b) V { s with heap := h' })
    (fin : ∀ h' zs, zs.length = min xs.size ys.size → (∀ j v, zs[j]? = some v → V j v) → Fin { s with heap := h' } zs news) :
    wpAny (model prog w) A (call (.type "zip") [.ref l1, .ref l2]) (PairAt prog w A h₀ L m env elt x x₂ scope cl Fin) E s := by
  have hl1 := s1.list F.keep N
  have hl2 := s2.list F.keep N
  have hlt1 : l1 < s.heap.objs.size := let ⟨_, e, _⟩ := hl1; Heap.lt_size e
  have hlt2 : l2 < s.heap.objs.size := let ⟨_, e, _⟩ := hl2; Heap.lt_size e
  refine call_zip_2 hl1 hl2 fun h' hz hTI hTO hi1 hi2 hsz' hk => ?_
  refine fun P k => k news _ s.heap.objs.size _ _ _ _ _ _ _ V rfl (WalksT.zip2 hh _ _ _ _ _ _ _ (ktu_apart _ _ _ hlt1 hlt2) xs ys).toU hh (Nat.le_trans (Nat.min_le_left ..) hsz) (fun i vals ⟨a, b, e1, e2, e⟩ => ⟨a, b, e, e1, e2⟩)
    ⟨hz, hTI, ⟨_, _, hTO⟩, hi1, hi2, hl1.at fun o e => hk l1 o e, hl2.at fun o e => hk l2 o e⟩ ?_ F.ns.lt (fun p hp => Heap.lt_size (N p hp).1) ?_ ?_ (F.keeps hk) (N.grown hk) (turn h') (fin h')
  · rw [hsz']; exact List.forall_mem_cons.mpr ⟨Nat.add_lt_add_left (by decide) _, List.forall_mem_cons.mpr ⟨Nat.add_lt_add_left (by decide) _, List.forall_mem_cons.mpr ⟨Nat.add_lt_add_left (by decide) _, List.forall_mem_cons.mpr ⟨Nat.lt_add_of_pos_right (by decide), List.forall_mem_cons.mpr ⟨Nat.add_lt_add_left (by decide) _, List.forall_mem_cons.mpr ⟨Nat.lt_add_right _ hlt1, List.forall_mem_cons.mpr ⟨Nat.lt_add_right _ hlt2, List.forall_mem_nil _⟩⟩⟩⟩⟩⟩⟩
  · exact List.forall_mem_cons.mpr ⟨Nat.le_add_right _ _, List.forall_mem_cons.mpr ⟨Nat.le_add_right _ _, List.forall_mem_cons.mpr ⟨Nat.le_refl _, List.forall_mem_cons.mpr ⟨Nat.le_add_right _ _, List.forall_mem_nil _⟩⟩⟩⟩
  · exact List.forall_mem_cons.mpr ⟨.inl (Nat.le_add_right _ _), List.forall_mem_cons.mpr ⟨.inl (Nat.le_add_right _ _), List.forall_mem_cons.mpr ⟨.inl (Nat.le_add_right _ _), List.forall_mem_cons.mpr ⟨.inl (Nat.le_refl _), List.forall_mem_cons.mpr ⟨.inl (Nat.le_add_right _ _), List.forall_mem_cons.mpr ⟨.inr (srcCov s1), List.forall_mem_cons.mpr ⟨.inr (srcCov s2), List.forall_mem_nil _⟩⟩⟩⟩⟩⟩⟩
theorem pairEnum {elt : Expr} {x x₂ : Str} {scope : Scope} {cl : List (Str × Addr)} {l : Addr} {xs : Array Value} {news : List (Addr × Obj)} {Fin : Shared → List Value → List (Addr × Obj) → Prop} {V : Nat → Value → Prop} (hh : A.handled = none) (F : Fr h₀ L s.heap m) (N : News h₀ L s.heap news)
    (s1 : LCg.SrcAt h₀ l xs news) (hsz : xs.size ≤ sizeLine)
    (turn : ∀ h', PTurn prog w A h₀ L m env elt x x₂ scope cl news (fun i a b => ∃ t, a = .int i t ∧ xs[i]? = some b) V { s with heap := h' })
    (fin : ∀ h' zs, zs.length = xs.size → (∀ j v, zs[j]? = some v → V j v) → Fin { s with heap := h' } zs news) :
    wpAny (model prog w) A (call (.type "enumerate") [.ref l]) (PairAt prog w A h₀ L m env elt x x₂ scope cl Fin) E s := by
  have hl := s1.list F.keep N
  have hlt : l < s.heap.objs.size := let ⟨_, e, _⟩ := hl; Heap.lt_size e
  refine call_enumerate_list hl fun h' hE hI hsz' hk => ?_
  refine fun P k => k news _ s.heap.objs.size _ _ _ _ _ _ _ V rfl (WalksT.enumerate hh (s.heap.objs.size + 1) s.heap.objs.size l (Nat.succ_ne_self _) (ktu_ne 1 hlt) (Nat.ne_of_lt hlt) xs).toU hh hsz (fun i vals ⟨t, x, e1, e⟩ => ⟨_, x, e, t, rfl, e1⟩)
    ⟨⟨.none, hE⟩, hI, hl.at fun o e => hk l o e⟩ ?_ F.ns.lt (fun p hp => Heap.lt_size (N p hp).1) ?_ ?_ (F.keeps hk) (N.grown hk) (turn h') (fin h')
  · rw [hsz']; exact List.forall_mem_cons.mpr ⟨Nat.add_lt_add_left (by decide) _, List.forall_mem_cons.mpr ⟨Nat.lt_add_of_pos_right (by decide), List.forall_mem_cons.mpr ⟨Nat.lt_add_right _ hlt, List.forall_mem_nil _⟩⟩⟩
  · exact List.forall_mem_cons.mpr ⟨Nat.le_add_right _ _, List.forall_mem_cons.mpr ⟨Nat.le_refl _, List.forall_mem_nil _⟩⟩
  · exact List.forall_mem_cons.mpr ⟨.inl (Nat.le_add_right _ _), List.forall_mem_cons.mpr ⟨.inl (Nat.le_refl _), List.forall_mem_cons.mpr ⟨.inr (srcCov s1), List.forall_mem_nil _⟩⟩⟩
end
end Mine
end SPairs
section SKw
open PySem.Calls
namespace Mine
section
variable {prog : Program} {w : World} {A : Around} {E : Value → Shared → Prop} {s : Shared}
theorem merge_empty {d a : Addr} {o od : Obj} {ep ep' : Nat} {Q : Unit → Shared → Prop} (ha : s.heap.get? a = some o) (hT : s.TypeIs (.ref a) "dict") (hod : o.data = .dict #[] ep) (lo : (a == sysModules) = false) (hd : s.heap.get? d = some od) (hdd : od.data = .dict #[] ep') (h : Q () s) :
    wpAny (model prog w) A (mergeMapping d (.ref a) true) Q E s := by
  unfold mergeMapping
  refine wpAny_bind (wpAny_isInstance hT isSubtype_dict_dict ?_)
  refine wpAny_bind (wpAny_specialOf hT F.slot_dict_iter.lookup ?_)
  refine wpAny_bind (wpAny_pure ?_)
  rw [show (some (Value.builtin "dict.__iter__") == some (Value.builtin "dict.__iter__")) = true from rfl]
  dsimp only
  rw [if_neg (by rw [lo]; decide)]
  refine wpAny_bind (wpAny_dictEntries hd hdd ?_)
  rw [if_pos (show (#[] : Array DictEntry).isEmpty = true from rfl)]
  refine wpAny_bind (wpAny_dictEntries ha hod ?_)
  refine wpAny_bind (wpAny_pure ?_)
  refine wpAny_bind (wpAny_dictEntries ha hod ?_)
  refine wpAny_bind (wpAny_dictEpoch ha hod ?_)
  exact wpAny_bind (wpAny_pure (wpAny_pure h))
theorem merged_empty {f : Value} {k : Sem Value} {Q : Addr → Shared → Prop}
    (h : ∀ (d : Addr) (od : Obj) (s₁ : Shared), s₁.heap.get? d = some od → od.data = .dict #[] 0 → s₁ = { s with heap := s.heap.push { cls := .type "dict", data := .dict #[] } } → d = s.heap.objs.size → wpAny (model prog w) A k (fun v s₂ => ∃ a o ep, v = .ref a ∧ s₂.heap.get? a = some o ∧ s₂.TypeIs (.ref a) "dict" ∧ o.data = .dict #[] ep ∧ (a == sysModules) = false ∧ s₂.heap.get? d = some od ∧ Q d s₂) E s₁) :
    wpAny (model prog w) A (mergedKeywords f [(none, k)]) Q E s := by
  unfold mergedKeywords
  refine wpAny_bind (wpAny_alloc ?_)
  refine wpAny_bind (wpAny_holding ?_)
  have h := h s.heap.objs.size _ _ (Heap.get?_push_size _ rfl) rfl rfl rfl
  refine wpAny_bind (m := forIn [((none : Option Str), k)] ([] : List (Str × Sem Value)) _) ?_
  rw [List.forIn_cons]
  refine wpAny_bind (wpAny_bind (wpAny_pure ?_))
  refine wpAny_bind (wpAny_mono h (fun v s₂ h₂ => ?_) fun _ _ x => x)
  obtain ⟨a, o, ep, rfl, ha, hT, hod, lo, hd, hq⟩ := h₂
  refine wpAny_bind (wpAny_onRaise (wpAny_holding (wpAny_tryCatch (wpAny_onRaise (merge_empty ha hT hod lo hd rfl ?_)))))
  refine wpAny_pure ?_
  refine wpAny_pure (a := []) ?_
  exact wpAny_pure (a := ()) (wpAny_pure hq)
theorem evalArgs_kwEmpty {f : Value} {x k : Sem Value} {Q : Args → Shared → Prop}
    (h : wpAny (model prog w) A (spliced [(false, x)]) (fun vs s₁ => ∀ s₂ : Shared, s₂ = { s₁ with heap := s₁.heap.push { cls := .type "dict", data := .dict #[] } } → wpAny (model prog w) A k (fun v s₃ => s₃ = s₂ ∧ ∃ a o ep, v = .ref a ∧ s₂.heap.get? a = some o ∧ s₂.TypeIs (.ref a) "dict" ∧ o.data = .dict #[] ep ∧ (a == sysModules) = false ∧ Q ⟨vs, []⟩ s₂) E s₂) E s) :
    wpAny (model prog w) A (evalArgs f true [(false, x)] [(none, k)]) Q E s := by
  unfold evalArgs
  show wpAny _ A (spliced [(false, x)] >>= _) Q E s
  refine wpAny_bind (wpAny_mono h (fun vs s₁ h₁ => ?_) fun _ _ x => x)
  refine wpAny_holding ?_
  simp only [List.all_cons, Option.isSome_none, Bool.false_and, Bool.false_eq_true, if_false]
  refine wpAny_bind (merged_empty fun d od s₂ e1 e2 e3 e4 => ?_)
  refine wpAny_mono (h₁ s₂ e3) (fun v s₃ h₃ => ?_) fun _ _ x => x
  obtain ⟨rfl, a, o, ep, rfl, ha, hT, hod, lo, hq⟩ := h₃
  refine ⟨a, o, ep, rfl, ha, hT, hod, lo, e1, ?_⟩
  refine wpAny_bind (wpAny_pure ?_)
  refine wpAny_bind (wpAny_holding ?_)
  unfold keywordsIn
  refine wpAny_bind (wpAny_dictEntries e1 e2 ?_)
  exact wpAny_bind (wpAny_pure (wpAny_pure (wpAny_pure hq)))
end
/-- a def called with one name and ** of an empty dict -/
theorem call_starEmpty {prog : Program} {w : World} {A : Around} {E : Value → Shared → Prop} {s : Shared} {h₀ : Heap} {L a f d : Addr} {m : Str → Option Value} {cn : Str} {cs : Scope} {ccd : Value} {cl : List (Str × Addr)} {news : List (Addr × Obj)} {pos pn px kp : Pos} {n x : Str} {v : Value} {oF od : Obj} {fd : FuncData} {Q : Value → Shared → Prop}
    (F : Fr h₀ L s.heap m) (N : News h₀ L s.heap news) (hn : m n = some v) (hx : m x = some (.ref d)) (mD : (d, od) ∈ news) (hD : od.IsDictOf (PySem.strKind prog w) []) (lo : (d == sysModules) = false) (mF : (f, oF) ∈ news) (hF : oF.data = .func fd)
    (h : ∀ h', Fr h₀ L h' m → News h₀ L h' news → wpAny (model prog w) A (call (.ref f) [v]) Q E { s with heap := h' })
    (hk : cs.kind = .function := by rfl) (kn : (envX cn cs L a ccd cl).kindOf n = some .local := by rfl) (kx : (envX cn cs L a ccd cl).kindOf x = some .local := by rfl) (dn : (n == ("__debug__" : Str)) = false := by decide) (dx : (x == ("__debug__" : Str)) = false := by decide) :
    wpAny (model prog w) A (callWith pos (.ref f) [] (backTo pos (starEach [.Name n pn] (envX cn cs L a ccd cl))) (backToKw pos (keywordEach [⟨none, .Name x px, kp⟩] (envX cn cs L a ccd cl)))) Q E s := by
  refine callWith_function_kw (o := oF) (fd := fd) (evalArgs_kwEmpty (spliced_cons (nameX_L F hn ?_ hk kn dn)))
  refine spliced_nil ?_
  rintro s₂ rfl
  have up : ∀ b o, s.heap.get? b = some o → (s.heap.push { cls := .type "dict", data := .dict #[] }).get? b = some o := fun b o e => Heap.get?_push_of_some _ e
  have F2 : Fr h₀ L (s.heap.push { cls := .type "dict", data := .dict #[] }) m := F.keeps up
  refine wpAny_bind (nameX_L (s := { s with heap := s.heap.push { cls := .type "dict", data := .dict #[] } }) F2 hx (wpAny_bind (wpAny_standAt (wpAny_pure ?_))) hk kx dx)
  have e2 := up _ _ (N _ mD).1
  obtain ⟨es, ep, hc, hd, hks, hp, hnd⟩ := id hD
  have es0 : es.toList = [] := by
    cases e : es.toList with
    | nil => rfl
    | cons a l => rw [e] at hp; cases hp
  replace es0 : es = #[] := by simpa using es0
  subst es0
  exact ⟨rfl, d, od, ep, rfl, e2, (Heap.dictOf_iff.mpr ⟨od, e2, hD⟩ : Heap.DictOf _ _ _ _).typeIs, hd, lo, ⟨up _ _ (N _ mF).1, hF⟩, h _ F2 (N.grown up)⟩
end Mine
end SKw
section SNexts
open PySem.Calls
namespace Mine
section
variable {prog : Program} {w : World} {A : Around} {E : Value → Shared → Prop} {s : Shared}
theorem iter_list {l : Addr} {items : Array Value} {Q : Value → Shared → Prop} (hl : s.heap.IsList l items)
    (hQ : Q (.ref s.heap.objs.size) { s with heap := s.heap.push { cls := .type "list_iterator", data := .fields #[.ref l, .int 0 0] } }) : wpAny (model prog w) A (call (.builtin "iter") [.ref l]) Q E s := by
  refine call_function_entry (by decide +kernel) (by decide +kernel) kdk_entry_iter (kdk_args_iter _) ?_
  unfold Builtin.«iter»
  refine wpAny_bind (m := someArgs "iter" 1 2 _) (wpAny_of_eq (a := [Value.ref l]) (by first | rfl | kernel_rfl!) ?_)
  show wpAny _ _ (pyIter (.ref l) >>= _) _ _ _
  exact wpAny_bind (wpAny_pyIter_list hl (wpAny_pure ⟨_, rfl, hQ⟩))
theorem next_list {it l : Addr} {i : Nat} {items : Array Value} {x : Value} {Q : Value → Shared → Prop} (hit : s.heap.IsListIter it l i) (hl : s.heap.IsList l items) (hx : items[i]? = some x)
    (hQ : ∀ h', h'.IsListIter it l (i + 1) → Heap.SameBut it s.heap h' → Q x { s with heap := h' }) : wpAny (model prog w) A (call (.builtin "next") [.ref it]) Q E s := by
  obtain ⟨o, ho, hc, hd⟩ := id hit
  obtain ⟨ol, hol, _, nl, hdl⟩ := hl
  refine call_function_entry (by decide +kernel) (by decide +kernel) kdk_entry_next (kdk_args_next _) ?_
  unfold Builtin.«next»
  refine wpAny_bind (m := someArgs "next" 1 2 _) (wpAny_of_eq (a := [Value.ref it]) (by first | rfl | kernel_rfl!) ?_)
  dsimp only
  refine wpAny_bind (wpAny_specialOf (name := Str.ofString "__next__") hit.typeIs slot_listiter_next.lookup ?_)
  refine wpAny_ite_split (fun hab => absurd hab (by decide)) (fun _ => ?_)
  refine wpAny_bind (wpAny_callSpecial?_slot (name := Str.ofString "__next__") hit.typeIs slot_listiter_next (wpAny_call_entry slot_listiter_next hit.typeIs entry_listiter_next ?_ (args_listiter_next _)))
  show wpAny _ _ (field (.ref it) 0 >>= _) _ _ s
  refine wpAny_bind (wpAny_field ho hd (x := .ref l) rfl ?_)
  show wpAny _ _ (if (Value.ref l == Value.none) = true then _ else _) _ _ s
  rw [if_neg (show ¬ ((Value.ref l == Value.none) = true) from Bool.false_ne_true)]
  show wpAny _ _ (field (.ref it) 1 >>= _) _ _ s
  refine wpAny_bind (wpAny_field ho hd (x := .int i 0) rfl ?_)
  show wpAny _ _ (seqItems? (.ref l) >>= _) _ _ s
  refine wpAny_bind (wpAny_seqItems hol hdl ?_)
  simp only [Int.toNat_natCast, hx]
  refine wpAny_bind (wpAny_setField ho hd (by simp) (wpAny_pure ⟨x, rfl, wpAny_pure ⟨_, rfl, hQ _ ?_ (Heap.SameBut.update ..)⟩⟩))
  exact ⟨_, Heap.get?_update_self _ ho (Obj.isFreed_of_fields (Obj.data_mapFields hd _)), (Obj.cls_mapFields ..).trans hc, by
    rw [Obj.data_mapFields hd]; simp [rawInt]⟩
/-- an iterator of a list, in the ledger -/
def ItO (o : Obj) (l : Addr) (i : Nat) : Prop := o.cls = .type "list_iterator" ∧ o.data = .fields #[.ref l, .int i 0]
theorem next_led {h₀ : Heap} {L it l : Addr} {m : Str → Option Value} {i : Nat} {items : Array Value} {x : Value} {o : Obj} {news : List (Addr × Obj)} {Q : Value → Shared → Prop} (F : Fr h₀ L s.heap m) (N : News h₀ L s.heap ((it, o) :: news)) (off : ∀ p ∈ news, p.1 ≠ it) (hI : ItO o l i) (hl : s.heap.IsList l items) (hx : items[i]? = some x)
    (h : ∀ h' o', ItO o' l (i + 1) → Fr h₀ L h' m → News h₀ L h' ((it, o') :: news) → Q x { s with heap := h' }) : wpAny (model prog w) A (call (.builtin "next") [.ref it]) Q E s := by
  have hm := N _ List.mem_cons_self
  refine next_list ⟨o, hm.1, hI⟩ hl hx fun h' hit hs => ?_
  obtain ⟨o', ho', hI'⟩ := hit
  exact h h' o' hI' (F.change hs hm.2.1 hm.2.2) (N.setHead off hs ho')
theorem iter_led {h₀ : Heap} {L l : Addr} {m : Str → Option Value} {items : Array Value} {news : List (Addr × Obj)} {Q : Value → Shared → Prop} (F : Fr h₀ L s.heap m) (N : News h₀ L s.heap news) (hl : s.heap.IsList l items)
    (h : ∀ I h' oI, ItO oI l 0 → Fr h₀ L h' m → News h₀ L h' ((I, oI) :: news) → (∀ p ∈ news, p.1 < I) → Q (.ref I) { s with heap := h' }) : wpAny (model prog w) A (call (.builtin "iter") [.ref l]) Q E s :=
  iter_list hl (h _ _ _ ⟨rfl, rfl⟩ (F.push _) (News.push F N _ rfl) fun p hp => Heap.lt_size (N p hp).1)
end
end Mine
end SNexts
section SCellFor
open PySem.Calls
namespace Mine
def ForEndC (h₀ : Heap) (L I : Addr) (oI : Obj) (c : Addr) (S : List (Addr × Obj) → Prop) (Jn : Nat → (Str → Option Value) → List (Addr × Obj) → Prop) (s₁ : Shared) (Q : Flow → Shared → Prop) (f : Flow) (s₂ : Shared) : Prop :=
  match f with
  | .ret v => Q (.ret v) s₂
  | .brk => Q .next s₂
  | _ => ∃ h' tk m₂ oc v₀ news₂, s₂ = { s₁ with heap := h', toks := tk } ∧ Fr h₀ L h' m₂ ∧ News h₀ L h' ((I, oI) :: (c, oc) :: news₂) ∧ oc.data = .cell v₀ ∧ (∀ p ∈ news₂, p.1 ≠ I ∧ p.1 ≠ c) ∧ S news₂ ∧ Jn tk m₂ news₂
theorem ForEndC.next {h₀ : Heap} {L I : Addr} {oI : Obj} {c : Addr} {S : List (Addr × Obj) → Prop} {Jn : Nat → (Str → Option Value) → List (Addr × Obj) → Prop} {s₁ : Shared} {Q : Flow → Shared → Prop} {h' : Heap} {tk : Nat} {m₂ : Str → Option Value} {oc : Obj} {v₀ : Option Value} {news₂ : List (Addr × Obj)}
    (F : Fr h₀ L h' m₂) (N : News h₀ L h' ((I, oI) :: (c, oc) :: news₂)) (hd : oc.data = .cell v₀) (off : ∀ p ∈ news₂, p.1 ≠ I ∧ p.1 ≠ c) (hS : S news₂) (hJ : Jn tk m₂ news₂) : ForEndC h₀ L I oI c S Jn s₁ Q .next { s₁ with heap := h', toks := tk } :=
  ⟨h', tk, m₂, oc, v₀, news₂, rfl, F, N, hd, off, hS, hJ⟩

section
variable {prog : Program} {w : World} {A : Around} {s : Shared} {env : Env} {h₀ : Heap}
theorem forCoreC {R : Result → Shared → Prop} {x : Str} {px : Pos} {body : List Stmt} {I : Addr} {fp : List Addr} {n : Nat} {P : Nat → Value → Prop} {St : Nat → Heap → Prop} {m : Str → Option Value} {c : Addr} {oc : Obj} {v₀ : Option Value} {news : List (Addr × Obj)} {S : List (Addr × Obj) → Prop}
    (J : Nat → Nat → (Str → Option Value) → List (Addr × Obj) → Prop) (hmono : ∀ i k k' m nw, k ≤ k' → J i k m nw → J i k' m nw)
    (W : Walks prog w A I fp [I] n P St) (hIo : ∀ i h, St i h → ∃ o, h.get? I = some o)
    (hSt : ∀ i h h' o nw, St i h → h.get? I = some o → h'.get? I = some o → Grow h₀ h' → News h₀ env.locals h' nw → S nw → St i h')
    (hke : env.scope.kind = .function) (hx : env.kindOf x = some .cell) (hc : env.cells.lookup x = some c)
    (hLf : env.locals ∉ fp) (hcf : c ∉ fp) (hst : St 0 s.heap) (F : Fr h₀ env.locals s.heap m) (N : News h₀ env.locals s.heap ((c, oc) :: news)) (hd : oc.data = .cell v₀) (hI₀ : h₀.get? I = none) (off : ∀ p ∈ news, p.1 ≠ I ∧ p.1 ≠ c) (hS : S news) (h0 : J 0 s.toks m news)
    (turn : ∀ i v oI oc m₁ news₁ h tk E', i < n → P i v → J i tk m₁ news₁ → S news₁ → (∀ p ∈ news₁, p.1 ≠ I ∧ p.1 ≠ c) → I ≠ c → Fr h₀ env.locals h m₁ → News h₀ env.locals h ((I, oI) :: (c, oc) :: news₁) → oc.data = .cell (some v) →
      wpAny (model prog w) A (execs body env) (ForEndC h₀ env.locals I oI c S (J (i + 1)) { s with heap := h, toks := tk } (fun f s' => R (.ok f) s')) E' { s with heap := h, toks := tk })
    (hR : ∀ h' tk m' oc v₀ news', Fr h₀ env.locals h' m' → News h₀ env.locals h' ((c, oc) :: news') → oc.data = .cell v₀ → (∀ p ∈ news', p.1 ≠ c) → S news' → J n tk m' news' → R (.ok .next) { s with heap := h', toks := tk }) :
    codeAny (model prog w) A (.forLoop (.Name x px) (.ref I) body [] env) R s := by
  have hIf : I ∈ fp := W.sub I (List.mem_singleton.mpr rfl)
  have hLI : env.locals ≠ I := fun e => hLf (e ▸ hIf)
  have hcI : c ≠ I := fun e => hcf (e ▸ hIf)
  have hcL : c ≠ env.locals := (N _ List.mem_cons_self).2.1
  have hc₀ : h₀.get? c = none := (N _ List.mem_cons_self).2.2
  refine codeAny_forLoop
    (fun k s' => ∃ h' tk m' oc v₀ news' i, s' = { s with heap := h', toks := tk } ∧ St i h' ∧ Fr h₀ env.locals h' m' ∧ News h₀ env.locals h' ((c, oc) :: news') ∧ oc.data = .cell v₀ ∧ (∀ p ∈ news', p.1 ≠ I ∧ p.1 ≠ c) ∧ S news' ∧ J i tk m' news' ∧ i ≤ n ∧ k = n + 1 - i) ?_ (n + 1)
    ⟨s.heap, s.toks, m, oc, v₀, news, 0, rfl, hst, F, N, hd, off, hS, h0, Nat.zero_le _, rfl⟩
  rintro k s' ⟨h', tk, m', oc, v₀, news', i, rfl, hst', F', N', hd', off', hS', hJ, hi, rfl⟩
  have upd : ∀ h₁ : Heap, (∀ b o, b ∉ [I] → h'.get? b = some o → h₁.get? b = some o) → Fr h₀ env.locals h₁ m' ∧ News h₀ env.locals h₁ ((c, oc) :: news') := fun h₁ hk => by
    refine ⟨⟨F'.ns.at' fun o e => hk _ o (by simpa using hLI) e, fun b o e => hk b o (fun hm => ?_) (F'.keep b o e), F'.above⟩, fun p hp => ⟨hk _ _ ?_ (N' p hp).1, (N' p hp).2⟩⟩
    · rw [List.mem_singleton.mp hm, hI₀] at e; cases e
    · rcases List.mem_cons.mp hp with rfl | hp
      · simpa using hcI
      · simpa using (off' p hp).1
  by_cases hlt : i < n
  · refine toksUp (W.item i _ _ _ hlt hst' fun v h₁ tk₁ hP hst₁ hk₁ hu₁ => ?_)
    obtain ⟨F₁, N₁⟩ := upd h₁ hk₁
    obtain ⟨oI, hoI⟩ := hIo _ _ hst₁
    refine toksUp (wpAny_assign_Name (wpAny_storeName_cell hke hx hc ⟨oc, (N₁ _ List.mem_cons_self).1, hd'⟩ fun h₂ hv₂ hs₂ hu₂ => ?_))
    obtain ⟨oc₂, hoc₂, hdc₂⟩ := hv₂
    have hoI₂ : h₂.get? I = some oI := (hs₂.2 I (Ne.symm hcI)).trans hoI
    have hst₂ : St (i + 1) h₂ := W.frame _ _ _ hst₁ fun b hb o e => (hs₂.2 b fun q => hcf (q ▸ hb)).trans e
    have F₂ : Fr h₀ env.locals h₂ m' := ⟨F₁.ns.sameBut hs₂ (Ne.symm hcL), fun b ob e => (hs₂.2 b (fun q => by rw [q, hc₀] at e; cases e)).trans (F₁.keep b ob e), F₁.above⟩
    have N₂ := N₁.setHead (fun p hp => (off' p hp).2) hs₂ hoc₂
    refine wpAny_mono (turn i v oI oc₂ m' news' h₂ _ _ hlt hP (hmono _ _ _ _ _ (Nat.le_trans hu₁ hu₂) hJ) hS' off' (Ne.symm hcI) F₂ (fun p hp => ?_) hdc₂) (fun f s₃ h₃ => ?_) fun _ _ e => e
    · rcases List.mem_cons.mp hp with rfl | hp
      · exact ⟨hoI₂, Ne.symm hLI, hI₀⟩
      · exact N₂ p hp
    · have fin : (∃ h' tk m₂ oc v₀ news₂, s₃ = { s with heap := h', toks := tk } ∧ Fr h₀ env.locals h' m₂ ∧ News h₀ env.locals h' ((I, oI) :: (c, oc) :: news₂) ∧ oc.data = .cell v₀ ∧ (∀ p ∈ news₂, p.1 ≠ I ∧ p.1 ≠ c) ∧ S news₂ ∧ J (i + 1) tk m₂ news₂) →
          ∃ q, q < n + 1 - i ∧ ∃ h' tk m' oc v₀ news' i, s₃ = { s with heap := h', toks := tk } ∧ St i h' ∧ Fr h₀ env.locals h' m' ∧ News h₀ env.locals h' ((c, oc) :: news') ∧ oc.data = .cell v₀ ∧ (∀ p ∈ news', p.1 ≠ I ∧ p.1 ≠ c) ∧ S news' ∧ J i tk m' news' ∧ i ≤ n ∧ q = n + 1 - i := by
        rintro ⟨h₄, tk₄, m₂, oc₄, v₄, news₂, rfl, F₄, N₄, hd₄, off₄, hS₄, hJ₄⟩
        have N₅ : News h₀ env.locals h₄ ((c, oc₄) :: news₂) := fun p hp => N₄ p (List.mem_cons_of_mem _ hp)
        exact ⟨n + 1 - (i + 1), by omega, h₄, tk₄, m₂, oc₄, v₄, news₂, i + 1, rfl, hSt _ _ _ _ _ hst₂ hoI₂ (N₄ _ List.mem_cons_self).1 F₄.keep (fun p hp => N₅ p (List.mem_cons_of_mem _ hp)) hS₄, F₄, N₅, hd₄, off₄, hS₄, hJ₄, hlt, rfl⟩
      cases f with
      | ret v => exact h₃
      | brk => exact h₃
      | next => exact fin h₃
      | cont => exact fin h₃
  · have hin : i = n := by omega
    subst hin
    refine toksUp (W.done _ _ _ hst' fun h₁ tk₁ hk₁ hu₁ => wpAny_execs_nil ?_)
    obtain ⟨F₁, N₁⟩ := upd h₁ hk₁
    exact hR h₁ tk₁ m' oc v₀ news' F₁ N₁ hd' (fun p hp => (off' p hp).2) hS' (hmono _ _ _ _ _ hu₁ hJ)

/-- a source whose iterator does not touch the cell c -/
def SrcC (prog : Program) (w : World) (A : Around) (h₀ : Heap) (L c : Addr) (m : Str → Option Value) (news : List (Addr × Obj)) (S : List (Addr × Obj) → Prop) (n : Nat) (P : Nat → Value → Prop) (xv : Value) (s₁ : Shared) : Prop :=
  ∀ (Q : Value → Shared → Prop) (E : Value → Shared → Prop),
    (∀ I fp St h, Walks prog w A I fp [I] n P St → (∀ i h, St i h → ∃ o, h.get? I = some o) → (∀ i h h' o nw, St i h → h.get? I = some o → h'.get? I = some o → Grow h₀ h' → News h₀ L h' nw → S nw → St i h') →
      L ∉ fp → c ∉ fp → St 0 h → Fr h₀ L h m → News h₀ L h news → h₀.get? I = none → (∀ p ∈ news, p.1 ≠ I) → S news → Q (.ref I) { s₁ with heap := h }) →
    wpAny (model prog w) A (pyIter xv) Q E s₁
/-- what is to be shown at a for's source, its target a cell -/
def ForAtC (prog : Program) (w : World) (A : Around) (h₀ : Heap) (env : Env) (c : Addr) (body : List Stmt) (Q : Flow → Shared → Prop) (xv : Value) (s₁ : Shared) : Prop :=
  ∀ P₀ : Prop, (∀ (m : Str → Option Value) (oc : Obj) (v₀ : Option Value) (news : List (Addr × Obj)) (S : List (Addr × Obj) → Prop) (n : Nat) (P : Nat → Value → Prop) (J : Nat → Nat → (Str → Option Value) → List (Addr × Obj) → Prop), SrcC prog w A h₀ env.locals c m ((c, oc) :: news) S n P xv s₁ → S news → oc.data = .cell v₀ → (∀ p ∈ news, p.1 ≠ c) → J 0 s₁.toks m news → (∀ i k k' m nw, k ≤ k' → J i k m nw → J i k' m nw) →
      (∀ (I : Addr) (i : Nat) (v : Value) (oI oc : Obj) (m₁ : Str → Option Value) (news₁ : List (Addr × Obj)) (h : Heap) (tk : Nat) (E' : Value → Shared → Prop), i < n → P i v → J i tk m₁ news₁ → S news₁ → (∀ p ∈ news₁, p.1 ≠ I ∧ p.1 ≠ c) → I ≠ c → Fr h₀ env.locals h m₁ → News h₀ env.locals h ((I, oI) :: (c, oc) :: news₁) → oc.data = .cell (some v) →
        wpAny (model prog w) A (execs body env) (ForEndC h₀ env.locals I oI c S (J (i + 1)) { s₁ with heap := h, toks := tk } Q) E' { s₁ with heap := h, toks := tk }) →
      (∀ (h' : Heap) (tk : Nat) (m' : Str → Option Value) (oc : Obj) (v₀ : Option Value) (news' : List (Addr × Obj)), Fr h₀ env.locals h' m' → News h₀ env.locals h' ((c, oc) :: news') → oc.data = .cell v₀ → (∀ p ∈ news', p.1 ≠ c) → S news' → J n tk m' news' → Q .next { s₁ with heap := h', toks := tk }) → P₀) → P₀
theorem forUC {E : Value → Shared → Prop} {Q : Flow → Shared → Prop} {x : Str} {px pos : Pos} {iter : Expr} {body : List Stmt} {c : Addr} {m₀ : Str → Option Value} (_F : Fr h₀ env.locals s.heap m₀) (hke : env.scope.kind = .function) (hx : env.kindOf x = some .cell) (hc : env.cells.lookup x = some c)
    (h : wpAny (model prog w) A (eval iter env) (ForAtC prog w A h₀ env c body Q) E s)
    (hs : ∀ x, foldedSetIterable iter env x = pure x := by intro _; rfl) :
    wpAny (model prog w) A (exec (.For (.Name x px) iter body [] pos) env) Q E s := by
  refine wpAny_For (wpAny_mono h (fun xv s₁ h₁ => ?_) fun _ _ e => e) hs
  refine h₁ _ fun m oc v₀ news S n P J src hS hd off h0 hmono turn hQ => ?_
  refine src _ _ fun I fp St h W hIo hSt hLf hcf hst F N hI₀ offI _ => ?_
  exact forCoreC (R := fun r s' => match r with | .ok f => Q f s' | .error e => cameBackBy (model prog w) A env E e s') (s := { s₁ with heap := h }) J hmono W hIo hSt hke hx hc hLf hcf hst F N hd hI₀ (fun p hp => ⟨offI p (List.mem_cons_of_mem _ hp), off p hp⟩) hS h0
    (fun i v oI oc m₁ news₁ h' tk E' a b c d e f g k l => turn I i v oI oc m₁ news₁ h' tk E' a b c d e f g k l) hQ

theorem SrcC.list {L l c : Addr} {items : Array Value} {m : Str → Option Value} {news : List (Addr × Obj)} (hh : A.handled = none) (F : Fr h₀ L s.heap m) (N : News h₀ L s.heap news) (hl : LCg.SrcAt h₀ l items news) (hc : ∃ oc, (c, oc) ∈ news) (hcl : c ≠ l) :
    SrcC prog w A h₀ L c m news (LCg.SrcAt h₀ l items) items.size (fun i v => items[i]? = some v) (.ref l) s := by
  intro Q E k
  have hls := hl.list F.keep N
  obtain ⟨ol, hol, _⟩ := id hls
  have hlt : l < s.heap.objs.size := Heap.lt_size hol
  have hLlt : L < s.heap.objs.size := F.ns.lt
  have hclt : c < s.heap.objs.size := let ⟨_, hm⟩ := hc; Heap.lt_size (N _ hm).1
  have hlL : l ≠ L := by
    rcases hl with ⟨o, e, _⟩ | ⟨o, hm, _⟩
    · exact Nat.ne_of_lt (Nat.lt_of_lt_of_le (Heap.lt_size e) F.above)
    · exact (N _ hm).2.1
  refine wpAny_pyIter_list hls ?_
  have up : Grow s.heap (s.heap.push { cls := .type "list_iterator", data := .fields #[.ref l, .int 0 0] }) := fun b o e => Heap.get?_push_of_some _ e
  refine k s.heap.objs.size _ _ _ (Walks.list hh s.heap.objs.size l (Nat.ne_of_lt hlt) items) (fun i h st => by obtain ⟨o, e, _⟩ := st.1; exact ⟨o, e⟩)
    (fun i h h' o nw st e e' k N S => LCg.list_st (h₀ := h₀) (L := L) i h h' o nw st e e' k N S) ?_ ?_ ⟨⟨_, Heap.get?_push_size _ rfl, rfl, rfl⟩, hls.at fun o e => up _ _ e⟩ (F.keeps up) (N.grown up) (next_is_new F) (fun p hp => Nat.ne_of_lt (Heap.lt_size (N p hp).1)) hl
  · intro hm
    rcases List.mem_cons.mp hm with e | hm
    · exact absurd hLlt (e ▸ Nat.lt_irrefl _)
    · exact hlL (List.mem_singleton.mp hm).symm
  · intro hm
    rcases List.mem_cons.mp hm with e | hm
    · exact absurd hclt (e ▸ Nat.lt_irrefl _)
    · exact hcl (List.mem_singleton.mp hm)

theorem SrcC.range {L r c : Addr} {a b : Int} {t u v : Tok} {n : Nat} {m : Str → Option Value} {news : List (Addr × Obj)} (hh : A.handled = none) (F : Fr h₀ L s.heap m) (N : News h₀ L s.heap news) (hr : IsRange s.heap r a b 1 t u v)
    (hsm : Builtin.Range.small a b 1 = true) (hn : Builtin.Range.rangeSize a b 1 = ((n : Nat) : Int)) (hc : ∃ oc, (c, oc) ∈ news) :
    SrcC prog w A h₀ L c m news (fun _ => True) n (fun i v => ∃ t, v = .int (a + (i : Int)) t) (.ref r) s := by
  intro Q E k
  have hLlt : L < s.heap.objs.size := F.ns.lt
  have hclt : c < s.heap.objs.size := let ⟨_, hm⟩ := hc; Heap.lt_size (N _ hm).1
  refine wpAny_pyIter_range hr hsm ?_
  refine k s.heap.objs.size _ _ _ (LCg.range_walks hh a n) (fun i h st => ⟨_, st⟩) (fun i h h' o nw st e e' k N S => LCg.range_st (h₀ := h₀) (L := L) i h h' o nw st e e' k N S) ?_ ?_
    (by show IsRangeIter _ _ _ _ _; rw [hn]; simpa using Heap.get?_push_size _ rfl) (F.keeps fun _ _ e => Heap.get?_push_of_some _ e) (N.grown fun _ _ e => Heap.get?_push_of_some _ e) (next_is_new F) (fun p hp => Nat.ne_of_lt (Heap.lt_size (N p hp).1)) trivial
  · intro hm
    exact absurd hLlt ((List.mem_singleton.mp hm) ▸ Nat.lt_irrefl _)
  · intro hm
    exact absurd hclt ((List.mem_singleton.mp hm) ▸ Nat.lt_irrefl _)
def TupAt (l : Addr) (items : Array Value) (news : List (Addr × Obj)) : Prop := ∃ n, (l, ({ cls := .type "tuple", data := .seq items n } : Obj)) ∈ news
theorem Src.tuple {L l : Addr} {items : Array Value} {m : Str → Option Value} {news : List (Addr × Obj)} (hh : A.handled = none) (F : Fr h₀ L s.heap m) (N : News h₀ L s.heap news) (hl : TupAt l items news) :
    Src prog w A h₀ L m news (TupAt l items) items.size (fun i v => items[i]? = some v) (.ref l) s := by
  intro Q E k
  have get : ∀ {h : Heap} {nw : List (Addr × Obj)}, News h₀ L h nw → TupAt l items nw → h.IsTuple l items := fun N ⟨n, hm⟩ => ⟨_, (N _ hm).1, rfl, n, rfl⟩
  have hls := get N hl
  obtain ⟨ol, hol, _⟩ := id hls
  have hlt : l < s.heap.objs.size := Heap.lt_size hol
  have hLlt : L < s.heap.objs.size := F.ns.lt
  have hlL : l ≠ L := let ⟨_, hm⟩ := hl; (N _ hm).2.1
  refine wpAny_pyIter_tuple hls ?_
  have up : Grow s.heap (s.heap.push { cls := .type "tuple_iterator", data := .fields #[.ref l, .int 0 0] }) := fun b o e => Heap.get?_push_of_some _ e
  refine k s.heap.objs.size _ _ _ (Walks.tuple hh s.heap.objs.size l (Nat.ne_of_lt hlt) items) (fun i h st => by obtain ⟨o, e, _⟩ := st.1; exact ⟨o, e⟩)
    (fun i h h' o nw st e e' k N S => ⟨by obtain ⟨o', q, r⟩ := st.1; rw [e] at q; cases q; exact ⟨o, e', r⟩, get N S⟩) ?_ ?_ ⟨⟨_, Heap.get?_push_size _ rfl, rfl, rfl⟩, get (N.grown up) hl⟩ (F.keeps up) (N.grown up) (next_is_new F) (fun p hp => Nat.ne_of_lt (Heap.lt_size (N p hp).1)) hl
  · intro hm
    rcases List.mem_cons.mp hm with e | hm
    · exact absurd hLlt (e ▸ Nat.lt_irrefl _)
    · exact hlL (List.mem_singleton.mp hm).symm
  · intro b hb
    rw [Heap.size_push]
    rcases List.mem_cons.mp hb with rfl | hb
    · exact Nat.lt_succ_self _
    · rw [List.mem_singleton.mp hb]; exact Nat.lt_succ_of_lt hlt
end
end Mine
end SCellFor
section SCompCell
open PySem.Calls
namespace Mine
section
variable {prog : Program} {w : World} {A : Around} {E : Value → Shared → Prop} {s : Shared} {env : Env} {h₀ : Heap} {L : Addr} {m : Str → Option Value}
/-- the block of a comprehension whose target is a cell -/
theorem newEnvCell {M : Model} {scope : Scope} {globals : Addr} {cl : List (Str × Addr)} {x : Str} {qual : Str} {Q : Env → Shared → Prop} (hcf : ∀ n, cellsFrom n scope.names cl = (x, n) :: cl) (hpc : ∀ h, pushCells h scope.names = h.push { cls := .type "cell", data := .cell none })
    (hQ : Q { scope, locals := s.heap.objs.size, globals, cells := (x, s.heap.objs.size + 1) :: cl, qual, func := none, code := env.code, frame := env.frame, builtins := env.builtins } { s with heap := (s.heap.push { cls := .type "dict", data := .dict #[] }).push { cls := .type "cell", data := .cell none } }) :
    wpAny M A (newFunctionEnv scope globals cl [] qual none .none (some env)) Q E s := by
  simp only [newFunctionEnv, Option.isSome_some, if_true]
  refine wpAny_bind (wpAny_alloc ?_)
  refine wpAny_bind (wpAny_layCells _ (fun name kind cells => by cases hkc : kind == NameKind.cell <;> simp [hkc]) _ _ _ _ ?_)
  rw [hcf, hpc]
  rw [show ({ s with heap := s.heap.push { cls := .type "dict", data := .dict #[] } } : Shared).heap.objs.size = s.heap.objs.size + 1 from Heap.size_push ..]
  rw [List.forIn_nil]
  exact wpAny_bind (wpAny_pure (wpAny_pure hQ))

/-- what stands behind a turn: the cell, the rest -/
def KEnd (K : Addr) (S : List (Addr × Obj) → Prop) (Jn : Nat → List (Addr × Obj) → Prop) (k : Nat) (news' : List (Addr × Obj)) : Prop := ∃ oK v₀ nw, news' = (K, oK) :: nw ∧ oK.data = .cell v₀ ∧ (∀ p ∈ nw, p.1 ≠ K) ∧ S nw ∧ Jn k nw

theorem compCoreK {elt iter : Expr} {x : Str} {px : Pos} {scope : Scope} {cl : List (Str × Addr)} {pos : Pos} {s₂ : Shared} {I : Addr} {fp : List Addr} {n : Nat} {P : Nat → Value → Prop} {St : Nat → Heap → Prop} {S : List (Addr × Obj) → Prop} {news : List (Addr × Obj)}
    {RR : Value → Addr → Result → Shared → Prop} (J : Nat → Nat → List Value → List (Addr × Obj) → Prop) (hmono : ∀ i k k' ys nw, k ≤ k' → J i k ys nw → J i k' ys nw)
    (W : Walks prog w A I fp [I] n P St) (hsz : n ≤ sizeLine) (hIo : ∀ i h, St i h → ∃ o, h.get? I = some o)
    (hSt : ∀ i h h' o nw, St i h → h.get? I = some o → h'.get? I = some o → Grow h₀ h' → News h₀ L h' nw → S nw → St i h')
    (hcf : ∀ n, cellsFrom n scope.names cl = (x, n) :: cl) (hpc : ∀ h, pushCells h scope.names = h.push { cls := .type "cell", data := .cell none }) (hkind : scope.kind = .function) (hx : (relabel scope env).names.lookup x = some .cell) (hst : St 0 s₂.heap) (hfp : ∀ b ∈ fp, b < s₂.heap.objs.size)
    (F : Fr h₀ L s₂.heap m) (N : News h₀ L s₂.heap news) (hLI : L ≠ I) (hI₀ : h₀.get? I = none) (off : ∀ p ∈ news, p.1 ≠ I) (hS : S news) (h0 : J 0 s₂.toks [] news)
    (turn : ∀ i v oI C oC D K oK m₂ ys news₁ h tk E', i < n → P i v → J i tk ys news₁ → S news₁ → LCg.NsObj oC m₂ → oK.data = .cell (some v) → Fr h₀ L h m → News h₀ L h ((I, oI) :: (C, oC) :: (D, LCg.lst ys) :: (K, oK) :: news₁) → LCg.Off3 I C D ((K, oK) :: news₁) → (∀ p ∈ news₁, p.1 ≠ K) → ((@Ne Nat I C) ∧ (@Ne Nat I D) ∧ (@Ne Nat C D)) →
        wpAny (model prog w) A (eval elt (compEnvC scope ((x, K) :: cl) C env)) (fun y s₄ => CEnd h₀ L m I oI C oC D (LCg.lst ys) (fun _ => True) (KEnd K S fun k nw => J (i + 1) k (ys ++ [y]) nw) { s₂ with heap := h, toks := tk } s₄) E' { s₂ with heap := h, toks := tk })
    (hlen : ∀ i k ys nw, J i k ys nw → ys.length ≤ i)
    (hRR : ∀ D C h tk m' ys news', Fr h₀ L h m → News h₀ L h ((D, LCg.lst ys) :: news') → LCg.Off1 D news' → h.Ns C m' → h₀.get? C = none → C ≠ L → C ≠ D → (∀ p ∈ news', p.1 ≠ C) → S news' → J n tk ys news' → RR (.ref D) C (.ok .next) { s₂ with heap := h, toks := tk }) :
    wpAny (model prog w) A (newList []) (fun acc s₃ => wpAny (model prog w) A (newFunctionEnv scope env.globals cl [] env.qual none .none (some env)) (fun cenv s₄ =>
      codeAny (model prog w) A (.compStart (.ListComp elt [⟨.Name x px, iter, [], 0⟩] scope pos) 0 (.ref I) acc { cenv with scope := relabel scope env }) (RR acc cenv.locals) s₄) E s₃) E s₂ := by
  refine wpAny_newObj_type (newEnvCell hcf hpc ?_)
  dsimp only
  generalize hH2 : s₂.heap.push { cls := .type "list", dict := none, data := .seq ([] : List Value).toArray } = H2
  generalize hD : s₂.heap.objs.size = D
  have hC : H2.objs.size = D + 1 := by rw [← hH2, Heap.size_push, hD]
  generalize hH3 : (H2.push { cls := .type "dict", data := .dict #[] }).push { cls := .type "cell", data := .cell none } = h₁
  have hns₁ : h₁.Ns H2.objs.size (fun _ => none) := by
    rw [← hH3]
    exact (Heap.Ns.new H2 (.type "dict")).keeps fun b o e => Heap.get?_push_of_some _ e
  have hcK : h₁.get? (H2.objs.size + 1) = some { cls := .type "cell", data := .cell none } := by
    rw [← hH3, show H2.objs.size + 1 = (H2.push { cls := .type "dict", data := .dict #[] }).objs.size from (Heap.size_push ..).symm]
    exact Heap.get?_push_size _ rfl
  have grow : Grow H2 h₁ := fun b o e => hH3 ▸ Heap.get?_push_of_some _ (Heap.get?_push_of_some _ e)
  generalize H2.objs.size = C at hns₁ hC hcK ⊢
  generalize hK : C + 1 = K at hcK ⊢
  have hDC : D ≠ C := by rw [hC]; exact Nat.ne_of_lt (Nat.lt_succ_self _)
  have hCK : C ≠ K := by rw [← hK]; exact Nat.ne_of_lt (Nat.lt_succ_self _)
  have hDK : D ≠ K := by rw [← hK, hC]; exact Nat.ne_of_lt (Nat.lt_succ_of_lt (Nat.lt_succ_self _))
  have below : ∀ b, b < D → b ≠ C ∧ b ≠ D ∧ b ≠ K := fun b hb => ⟨by rw [hC]; exact Nat.ne_of_lt (Nat.lt_succ_of_lt hb), Nat.ne_of_lt hb, by rw [← hK, hC]; exact Nat.ne_of_lt (Nat.lt_succ_of_lt (Nat.lt_succ_of_lt hb))⟩
  have hfp' : ∀ b ∈ fp, b ≠ C ∧ b ≠ D ∧ b ≠ K := fun b hb => below b (hD ▸ hfp b hb)
  have hI := hfp' I (W.sub I (List.mem_singleton.mpr rfl))
  have lt : ∀ b o, s₂.heap.get? b = some o → b ≠ C ∧ b ≠ D ∧ b ≠ K := fun b o e => below b (hD ▸ Heap.lt_size e)
  have old : Grow s₂.heap h₁ := fun b o e => grow b o (hH2 ▸ Heap.get?_push_of_some _ e)
  have hacc : h₁.get? D = some (LCg.lst []) := grow _ _ (by rw [← hH2, ← hD]; exact Heap.get?_push_size _ rfl)
  have fresh : ∀ a, D ≤ a → h₀.get? a = none := fun a ha => by
    cases e : h₀.get? a with
    | none => rfl
    | some o' => exact absurd (hD ▸ Heap.lt_size (F.keep a o' e)) (Nat.not_lt.mpr ha)
  have hD₀ := fresh D (Nat.le_refl _)
  have hC₀ := fresh C (by rw [hC]; exact Nat.le_succ _)
  have hK₀ := fresh K (by rw [← hK, hC]; exact Nat.le_succ_of_le (Nat.le_succ _))
  have hL := below L (hD ▸ F.ns.lt)
  have off₀ : LCg.Off3 I C D news := LCg.Off3.of fun p hp => ⟨off p hp, (lt _ _ (N p hp).1).1, (lt _ _ (N p hp).1).2.1⟩
  have offK₀ : ∀ p ∈ news, p.1 ≠ K := fun p hp => (lt _ _ (N p hp).1).2.2
  have inI : ∀ {nw : List (Addr × Obj)} {h h' : Heap}, News h₀ L h nw → (∀ b o, b ∉ [I] → h.get? b = some o → h'.get? b = some o) → (∀ p ∈ nw, p.1 ≠ I) → News h₀ L h' nw := fun N hk o p hp => ⟨hk _ _ (by simpa using o p hp) (N p hp).1, (N p hp).2⟩
  have hkx : (compEnvC scope ((x, K) :: cl) C env).kindOf x = some .cell := hx
  have hcx : (compEnvC scope ((x, K) :: cl) C env).cells.lookup x = some K := by show List.lookup x ((x, K) :: cl) = _; rw [List.lookup_cons]; simp
  have loop : ∀ s₃ : Shared, s₃ = { s₂ with heap := h₁ } →
      codeAny (model prog w) A (.compLoop (.ListComp elt [⟨.Name x px, iter, [], 0⟩] scope pos) 0 (.ref I) (.ref D) (compEnvC scope ((x, K) :: cl) C env)) (RR (.ref D) C) s₃ := by
    rintro s₃ rfl
    refine codeAny_compLoop_tests
      (fun k s' => ∃ h' tk i ys m' oK v₀ nw, s' = { s₂ with heap := h', toks := tk } ∧ i ≤ n ∧ k = n + 1 - i ∧ St i h' ∧ Fr h₀ L h' m ∧ h'.Ns C m' ∧ News h₀ L h' ((D, LCg.lst ys) :: (K, oK) :: nw) ∧ oK.data = .cell v₀ ∧ LCg.Off3 I C D nw ∧ (∀ p ∈ nw, p.1 ≠ K) ∧ S nw ∧ J i tk ys nw) ?_ (n + 1)
      ⟨h₁, _, 0, [], _, { cls := .type "cell", data := .cell none }, none, news, rfl, Nat.zero_le _, rfl, W.frame _ _ _ hst fun b _ o e => old b o e, F.keeps old, hns₁, fun p hp => ?_, rfl, off₀, offK₀, hS, h0⟩
    · rintro k s' ⟨h', tk, i, ys, m', oK, v₀, nw, rfl, hi, rfl, hst', F', hn', N', hdK, off', offK, hS', hJ⟩
      have off3 := off'.mem
      have offI : ∀ p ∈ (D, LCg.lst ys) :: (K, oK) :: nw, p.1 ≠ I := fun p hp => by
        rcases List.mem_cons.mp hp with rfl | hp
        · exact Ne.symm hI.2.1
        rcases List.mem_cons.mp hp with rfl | hp
        · exact Ne.symm hI.2.2
        · exact (off3 p hp).1
      by_cases hlt : i < n
      · refine toksUp (W.item i _ _ _ hlt hst' fun v h₂ tk₂ hPv hst₂ hk₂ hu₂ => ?_)
        have N₂ := inI N' hk₂ offI
        have hn₂ : h₂.Ns C m' := hn'.at' fun o e => hk₂ _ o (by simpa using Ne.symm hI.1) e
        refine toksUp (wpAny_assign_Name (wpAny_storeName_cell (by simp [compEnvC, relabel, hkind]) hkx hcx ⟨oK, (N₂ _ (List.mem_cons_of_mem _ List.mem_cons_self)).1, hdK⟩ fun h₃ hv₃ hs₃ hu₃ => ?_))
        obtain ⟨oK₃, hoK₃, hdK₃⟩ := hv₃
        have hst₃ : St (i + 1) h₃ := W.frame _ _ _ hst₂ fun b hb o e => hs₃.extBut b o (fun q => (hfp' b hb).2.2 q) e
        obtain ⟨oI, heI⟩ := hIo _ _ hst₃
        have hn₃ : h₃.Ns C m' := hn₂.sameBut hs₃ hCK
        obtain ⟨oC, heC, hoC⟩ := LCg.ns_obj hn₃
        have F₃ : Fr h₀ L h₃ m := (LCg.fr_but F' hk₂ hLI hI₀).change hs₃ (Ne.symm hL.2.2) hK₀
        have N₃ : News h₀ L h₃ ((I, oI) :: (C, oC) :: (D, LCg.lst ys) :: (K, oK₃) :: nw) := fun p hp => by
          rcases List.mem_cons.mp hp with rfl | hp
          · exact ⟨heI, Ne.symm hLI, hI₀⟩
          rcases List.mem_cons.mp hp with rfl | hp
          · exact ⟨heC, Ne.symm hL.1, hC₀⟩
          rcases List.mem_cons.mp hp with rfl | hp
          · exact ⟨hs₃.extBut _ _ hDK (N₂ _ List.mem_cons_self).1, (N₂ _ List.mem_cons_self).2⟩
          rcases List.mem_cons.mp hp with rfl | hp
          · exact ⟨hoK₃, Ne.symm hL.2.2, hK₀⟩
          · have hp' : p ∈ (D, LCg.lst ys) :: (K, oK) :: nw := List.mem_cons_of_mem _ (List.mem_cons_of_mem _ hp)
            exact ⟨hs₃.extBut _ _ (offK p hp) (N₂ p hp').1, (N₂ p hp').2⟩
        refine wpAny_tests_nil ?_
        simp only [if_true]
        have offA : LCg.Off3 I C D ((K, oK₃) :: nw) := LCg.Off3.of fun p hp => by
          rcases List.mem_cons.mp hp with rfl | hp
          · exact ⟨Ne.symm hI.2.2, Ne.symm hCK, Ne.symm hDK⟩
          · exact off3 p hp
        refine wpAny_mono (turn i v oI C oC D K oK₃ _ ys nw h₃ _ _ hlt hPv (hmono _ _ _ _ _ (Nat.le_trans hu₂ hu₃) hJ) hS' hoC hdK₃ F₃ N₃ offA offK ⟨hI.1, hI.2.1, Ne.symm hDC⟩) (fun y s₅ h₅ => ?_) fun _ _ e => e
        obtain ⟨h₅, tk₅, news₅, rfl, F₅, N₅, off₅, _, oK₅, v₅, nw₅, rfl, hdK₅, offK₅, hS₅, hJ₅⟩ := h₅
        have zD := (N₅ (D, LCg.lst ys) (List.mem_cons_of_mem _ (List.mem_cons_of_mem _ List.mem_cons_self))).1
        refine append_at (hsz := by show ys.toArray.size ≤ sizeLine; rw [List.size_toArray]; exact Nat.le_trans (hlen _ _ _ _ hJ) (Nat.le_trans hi hsz)) zD fun h₆ hs₆ hD₆ => ?_
        have off5 := off₅.mem
        have N₆ : News h₀ L h₆ ((K, oK₅) :: nw₅) := fun p hp => by
          have hp' : p ∈ (I, oI) :: (C, oC) :: (D, LCg.lst ys) :: (K, oK₅) :: nw₅ := List.mem_cons_of_mem _ (List.mem_cons_of_mem _ (List.mem_cons_of_mem _ hp))
          exact ⟨hs₆.extBut _ _ (off5 p hp).2.2 (N₅ p hp').1, (N₅ p hp').2⟩
        have heI₆ : h₆.get? I = some oI := hs₆.extBut _ _ hI.2.1 (N₅ _ List.mem_cons_self).1
        have heC₆ : h₆.get? C = some oC := hs₆.extBut _ _ (Ne.symm hDC) (N₅ _ (List.mem_cons_of_mem _ List.mem_cons_self)).1
        have F₆ : Fr h₀ L h₆ m := F₅.change hs₆ (Ne.symm hL.2.1) hD₀
        refine ⟨n + 1 - (i + 1), by omega, h₆, tk₅, i + 1, ys ++ [y], _, oK₅, v₅, nw₅, rfl, hlt, rfl, hSt _ _ _ _ _ hst₃ heI heI₆ F₆.keep (fun p hp => N₆ p (List.mem_cons_of_mem _ hp)) hS₅, F₆, hoC.ns heC₆, fun p hp => ?_, hdK₅,
          LCg.Off3.of fun p hp => off5 p (List.mem_cons_of_mem _ hp), offK₅, hS₅, hJ₅⟩
        rcases List.mem_cons.mp hp with rfl | hp
        · exact ⟨hD₆.trans (congrArg some (LCg.lst_snoc ys y)), Ne.symm hL.2.1, hD₀⟩
        · exact N₆ p hp
      · obtain rfl : i = n := Nat.le_antisymm hi (Nat.not_lt.mp hlt)
        refine toksUp (W.done _ _ _ hst' fun h₂ tk₂ hk₂ hu₂ => ?_)
        have N₂ := inI N' hk₂ offI
        refine hRR _ _ h₂ tk₂ _ ys nw (LCg.fr_but F' hk₂ hLI hI₀) (fun p hp => N₂ p ?_) off'.one (hn'.at' fun o e => hk₂ _ o (by simpa using Ne.symm hI.1) e) hC₀ (Ne.symm hL.1) (Ne.symm hDC) (fun p hp => (off3 p hp).2.1) hS' (hmono _ _ _ _ _ hu₂ hJ)
        rcases List.mem_cons.mp hp with rfl | hp
        · exact List.mem_cons_self
        · exact List.mem_cons_of_mem _ (List.mem_cons_of_mem _ hp)
    · rcases List.mem_cons.mp hp with rfl | hp
      · exact ⟨hacc, Ne.symm hL.2.1, hD₀⟩
      rcases List.mem_cons.mp hp with rfl | hp
      · exact ⟨hcK, Ne.symm hL.2.2, hK₀⟩
      · exact ⟨old _ _ (N p hp).1, (N p hp).2⟩
  exact codeAny_compStart_list (loop _ rfl) (W.self 0 _ _ _ (W.frame _ _ _ hst fun b _ o e => old b o e) (loop _ rfl))
/-- what is to be shown at the source of a comprehension whose target is a cell -/
def CompAtK (prog : Program) (w : World) (A : Around) (h₀ : Heap) (L : Addr) (m : Str → Option Value) (env : Env) (elt : Expr) (x : Str) (scope : Scope) (cl : List (Str × Addr)) (Fin : Shared → Nat → List Value → List (Addr × Obj) → Prop) (xv : Value) (s₁ : Shared) : Prop :=
  ∀ P₀ : Prop, (∀ (news : List (Addr × Obj)) (S : List (Addr × Obj) → Prop) (n : Nat) (P : Nat → Value → Prop) (J : Nat → Nat → List Value → List (Addr × Obj) → Prop), Src prog w A h₀ L m news S n P xv s₁ → n ≤ sizeLine → J 0 s₁.toks [] news → (∀ i k k' ys nw, k ≤ k' → J i k ys nw → J i k' ys nw) → (∀ i k ys nw, J i k ys nw → ys.length ≤ i) →
    (∀ (I C D K : Addr) (i : Nat) (v : Value) (oI oC oK : Obj) (m₂ : Str → Option Value) (ys : List Value) (news₁ : List (Addr × Obj)) (h : Heap) (tk : Nat) (E' : Value → Shared → Prop), i < n → P i v → J i tk ys news₁ → S news₁ → LCg.NsObj oC m₂ → oK.data = .cell (some v) → Fr h₀ L h m → News h₀ L h ((I, oI) :: (C, oC) :: (D, LCg.lst ys) :: (K, oK) :: news₁) → LCg.Off3 I C D ((K, oK) :: news₁) → (∀ p ∈ news₁, p.1 ≠ K) → ((@Ne Nat I C) ∧ (@Ne Nat I D) ∧ (@Ne Nat C D)) →
      wpAny (model prog w) A (eval elt (compEnvC scope ((x, K) :: cl) C env)) (fun y s₄ => CEnd h₀ L m I oI C oC D (LCg.lst ys) (fun _ => True) (KEnd K S fun k nw => J (i + 1) k (ys ++ [y]) nw) { s₁ with heap := h, toks := tk } s₄) E' { s₁ with heap := h, toks := tk }) →
    (∀ k ys nw, S nw → J n k ys nw → Fin s₁ k ys nw) → P₀) → P₀
theorem compAK {elt iter : Expr} {x y : Str} {px py : Pos} {scope : Scope} {cl : List (Str × Addr)} {pos spos : Pos} {Q : Flow → Shared → Prop} (_F₀ : Fr h₀ L s.heap m) (hLe : env.locals = L)
    (hsw : swapsWith (.ListComp elt [⟨.Name x px, iter, [], 0⟩] scope pos) (some (.Name y py)) spos.line env = pure true)
    (hclos : closureFor scope env = pure cl) (hcf : ∀ n, cellsFrom n scope.names cl = (x, n) :: cl) (hpc : ∀ h, pushCells h scope.names = h.push { cls := .type "cell", data := .cell none }) (hkind : scope.kind = .function)
    (hnames : ∀ z ∈ scope.names, z.2 = .local → scope.names.lookup z.1 = some .local) (hx : (relabel scope env).names.lookup x = some .cell)
    (hy : env.kindOf y = some .local) (hp : (env.scope.kind == .class || (env.scope.kind == .module && env.locals != env.globals)) = false)
    (h : wpAny (model prog w) A (eval iter env) (CompAtK prog w A h₀ L m env elt x scope cl (fun s₂ => FinA h₀ L m s₂ y Q)) E s)
    (hs : ∀ x, foldedSetIterable iter env x = pure x := by intro _; rfl) :
    wpAny (model prog w) A (exec (.Assign [.Name y py] (.ListComp elt [⟨.Name x px, iter, [], 0⟩] scope pos) spos) env) Q E s := by
  subst hLe
  rw [exec_Assign_Name_used _ _ _ _ hsw]
  refine wpAny_bind (wpAny_standAt (wpAny_bind ?_))
  show wpAny _ A (do let _ ← comprehension (.ListComp elt [⟨.Name x px, iter, [], 0⟩] scope pos) scope env _ (newList []) false (eval iter env) (some (assign (.Name y py) env))) _ _ s
  refine wpAny_bind (wpAny_mono (wpAny_comprehension_free (use := some (assign (.Name y py) env)) (Q := fun _ s' => Q .next s') rfl hs hclos hkind hnames
    (wpAny_mono h (fun xv s₁ h₁ => ?_) fun _ _ e => e)) (fun _ s' hq => wpAny_pure (wpAny_pure hq)) fun _ _ e => e)
  refine h₁ _ fun news S n P J src hsz h0 hmono hlen turn fin => ?_
  refine src _ _ fun I fp St h W hIo hSt hLf hfp hst F N hI₀ off hS => ?_
  have hLI : env.locals ≠ I := fun e => hLf (e ▸ W.sub I (List.mem_singleton.mpr rfl))
  refine compCoreK (RR := fun acc C => compPost (model prog w) A E (some (assign (.Name y py) env)) (fun _ s' => Q .next s') acc C) (s₂ := { s₁ with heap := h }) J hmono W hsz hIo hSt hcf hpc hkind hx hst hfp F N hLI hI₀ off hS h0
    (fun i v oI C oC D K oK m₂ ys news₁ h' tk E' a1 a2 a3 a4 a5 a6 a7 a8 a9 a10 a11 => turn I C D K i v oI oC oK m₂ ys news₁ h' tk E' a1 a2 a3 a4 a5 a6 a7 a8 a9 a10 a11) hlen ?_
  intro D C h' tk m' ys nw F' N' o1 hn hC₀ hCL hCD offC hS' hJ
  show wpAny _ A (assign (.Name y py) env (.ref D)) _ _ _
  refine toksUp (wpAny_assign_Name (wpAny_storeName_local hy F'.ns (fun h₂ hn₂ hs₂ hu₂ => ?_) hp))
  have hL₀ : h₀.get? env.locals = none := Heap.get?_none_of_le F'.above
  have F₂ : Fr h₀ env.locals h₂ (fun z => if z = y then some (.ref D) else m z) := ⟨hn₂, fun b o e => hs₂.extBut b o (fun q => by rw [q, hL₀] at e; cases e) (F'.keep b o e), F'.above⟩
  refine ⟨m', hn.sameBut hs₂ hCL, fun h'' hs'' => fin _ ys nw hS' (hmono _ _ _ _ _ hu₂ hJ) D h'' (F₂.change hs'' hCL hC₀) (fun p hp => ?_) o1⟩
  have z : h₂.get? p.1 = some p.2 := hs₂.extBut _ _ (N' p hp).2.1 (N' p hp).1
  refine ⟨hs''.extBut _ _ ?_ z, (N' p hp).2⟩
  rcases List.mem_cons.mp hp with rfl | hp
  · exact Ne.symm hCD
  · exact offC p hp
end
end Mine
end SCompCell
section Walks
local macro_rules | `(tactic| walk_at $s) => if ("|eval ListComp|exec For Name Call cons nil|exec For Name Name cons nil|exec For Name BinOp cons nil|subscriptTail List|exec Assign cons Dict|exec Assign cons DictComp|exec Assign cons ListComp|getMethod ref|call builtin:dict.get|subscriptTail Name Name ref int|setItem ref int|call type:list|call type:zip|call type:enumerate|exec While Name|truthy ref|subscriptTail Name Constant ref int|call builtin:list.append|call builtin:list.pop|call builtin:next|call builtin:iter|exec While BinOp|exec While UnaryOp|call ref|".splitOn ("|" ++ s.getString ++ "|")).length == 2 then `(tactic| refine Mine.Stop.out ?_) else if s.getString == "eval Constant int" then `(tactic| (with_reducible refine wpAny_Constant_int ?_; try dsimp only)) else if s.getString == "exec If" then `(tactic| (k_here; with_reducible refine wpAny_If ?_)) else Lean.Macro.throwUnsupported
section SC1
namespace Mine
theorem add_c {w : World} {p : Program} {loose : List Str} {mean : ExcName → Option Value} {mg mb : Str → Option Value}
  {dp un : Nat} {gd : Option (List Code)} {cn : Str} {cs : Scope} {a : Addr} {ccd : Value} {cl : List (Str × Addr)} {outer : List Env} {A₀ : Around} {base h₀ : Heap} {L : Addr} {m : Str → Option Value} {s : Shared} {Q E : Value → Shared → Prop} (news : List (Addr × Obj)) (N : News h₀ L s.heap news) (x y : Int) (t u : Tok)
  (B : Below A₀ base outer h₀) (F : Fr h₀ L s.heap m) (X : (lay.heap_1 w.params).In h₀) (T : Top p loose mean mg mb h₀) (hk : cs.kind = .function)
  (hd1 : dp + 2 < recursionLimit) (hu : un + 20 < cLine)
  (hret : ∀ t h' tk', s.toks ≤ t → t < tk' → Fr h₀ L h' m → News h₀ L h' news → Q (.int (x + y) t) { s with heap := h', toks := tk' }) :
  wpAny (model PySem.Challenge.rw_kl0095_01.row.prog w) (ktrTop dp un gd cn cs L a ccd cl outer) (call (.ref 21) [.int x t, .int y u]) Q E s := by
  revert X; k_fill; intro X
  refine wpAny_call ?_
  k_dflt (refine' enter0 ?k1 ?k2 ?k3 ?k5 ?kA ?kF ?kK ?k6 ?k7 ?k8 ?k9 ?kB ?_ ?c2 ?c3 ?c4 ?c5; (case kA => exact rfl); (case kF => exact rfl); (case kK => assumption); (case k1 => k_asm); (case k2 => k_asm); (case k3 => k_asm); (case k5 => k_asm); (case k6 => k_is); (case k7 => k_is); (case k8 => ktr_room); (case k9 => exact BindsTo.of_eq rfl); (case c5 => decide); (case kB => exact locs rfl); (case c2 => exact rfl); (case c3 => exact rfl); (case c4 => exact rfl); k_whole; intro L1 h1 tk1 U1 F1 N1 B1 X1 T1; (try dsimp only))
  replace F1 := fr_binds F1 (l := [("b", .int y u), ("a", .int x t)]) rfl
  k_steps
  all_goals exact hret _ _ _ U1 (Nat.lt_succ_self _) (Fr.keeps F (Fr.keep (by assumption))) (News.grown N (Fr.keep (by assumption)))
theorem sub_c {w : World} {p : Program} {loose : List Str} {mean : ExcName → Option Value} {mg mb : Str → Option Value}
  {dp un : Nat} {gd : Option (List Code)} {cn : Str} {cs : Scope} {a : Addr} {ccd : Value} {cl : List (Str × Addr)} {outer : List Env} {A₀ : Around} {base h₀ : Heap} {L : Addr} {m : Str → Option Value} {s : Shared} {Q E : Value → Shared → Prop} (news : List (Addr × Obj)) (N : News h₀ L s.heap news) (x y : Int) (t u : Tok)
  (B : Below A₀ base outer h₀) (F : Fr h₀ L s.heap m) (X : (lay.heap_1 w.params).In h₀) (T : Top p loose mean mg mb h₀) (hk : cs.kind = .function)
  (hd1 : dp + 2 < recursionLimit) (hu : un + 20 < cLine)
  (hret : ∀ t h' tk', s.toks ≤ t → t < tk' → Fr h₀ L h' m → News h₀ L h' news → Q (.int (x - y) t) { s with heap := h', toks := tk' }) :
  wpAny (model PySem.Challenge.rw_kl0095_01.row.prog w) (ktrTop dp un gd cn cs L a ccd cl outer) (call (.ref 49) [.int x t, .int y u]) Q E s := by
  revert X; k_fill; intro X
  refine wpAny_call ?_
  k_dflt (refine' enter0 ?k1 ?k2 ?k3 ?k5 ?kA ?kF ?kK ?k6 ?k7 ?k8 ?k9 ?kB ?_ ?c2 ?c3 ?c4 ?c5; (case kA => exact rfl); (case kF => exact rfl); (case kK => assumption); (case k1 => k_asm); (case k2 => k_asm); (case k3 => k_asm); (case k5 => k_asm); (case k6 => k_is); (case k7 => k_is); (case k8 => ktr_room); (case k9 => exact BindsTo.of_eq rfl); (case c5 => decide); (case kB => exact locs rfl); (case c2 => exact rfl); (case c3 => exact rfl); (case c4 => exact rfl); k_whole; intro L1 h1 tk1 U1 F1 N1 B1 X1 T1; (try dsimp only))
  replace F1 := fr_binds F1 (l := [("b", .int y u), ("a", .int x t)]) rfl
  k_steps
  all_goals exact hret _ _ _ U1 (Nat.lt_succ_self _) (Fr.keeps F (Fr.keep (by assumption))) (News.grown N (Fr.keep (by assumption)))
theorem mul_c {w : World} {p : Program} {loose : List Str} {mean : ExcName → Option Value} {mg mb : Str → Option Value}
  {dp un : Nat} {gd : Option (List Code)} {cn : Str} {cs : Scope} {a : Addr} {ccd : Value} {cl : List (Str × Addr)} {outer : List Env} {A₀ : Around} {base h₀ : Heap} {L : Addr} {m : Str → Option Value} {s : Shared} {Q E : Value → Shared → Prop} (news : List (Addr × Obj)) (N : News h₀ L s.heap news) (x y : Int) (t u : Tok) (hm : IntMulOk x y)
  (B : Below A₀ base outer h₀) (F : Fr h₀ L s.heap m) (X : (lay.heap_1 w.params).In h₀) (T : Top p loose mean mg mb h₀) (hk : cs.kind = .function)
  (hd1 : dp + 2 < recursionLimit) (hu : un + 20 < cLine)
  (hret : ∀ t h' tk', s.toks ≤ t → t < tk' → Fr h₀ L h' m → News h₀ L h' news → Q (.int (x * y) t) { s with heap := h', toks := tk' }) :
  wpAny (model PySem.Challenge.rw_kl0095_01.row.prog w) (ktrTop dp un gd cn cs L a ccd cl outer) (call (.ref 42) [.int x t, .int y u]) Q E s := by
  revert X; k_fill; intro X
  refine wpAny_call ?_
  k_dflt (refine' enter0 ?k1 ?k2 ?k3 ?k5 ?kA ?kF ?kK ?k6 ?k7 ?k8 ?k9 ?kB ?_ ?c2 ?c3 ?c4 ?c5; (case kA => exact rfl); (case kF => exact rfl); (case kK => assumption); (case k1 => k_asm); (case k2 => k_asm); (case k3 => k_asm); (case k5 => k_asm); (case k6 => k_is); (case k7 => k_is); (case k8 => ktr_room); (case k9 => exact BindsTo.of_eq rfl); (case c5 => decide); (case kB => exact locs rfl); (case c2 => exact rfl); (case c3 => exact rfl); (case c4 => exact rfl); k_whole; intro L1 h1 tk1 U1 F1 N1 B1 X1 T1; (try dsimp only))
  replace F1 := fr_binds F1 (l := [("b", .int y u), ("a", .int x t)]) rfl
  k_steps
  all_goals exact hret _ _ _ U1 (Nat.lt_succ_self _) (Fr.keeps F (Fr.keep (by assumption))) (News.grown N (Fr.keep (by assumption)))
theorem fdv_c {w : World} {p : Program} {loose : List Str} {mean : ExcName → Option Value} {mg mb : Str → Option Value}
  {dp un : Nat} {gd : Option (List Code)} {cn : Str} {cs : Scope} {a : Addr} {ccd : Value} {cl : List (Str × Addr)} {outer : List Env} {A₀ : Around} {base h₀ : Heap} {L : Addr} {m : Str → Option Value} {s : Shared} {Q E : Value → Shared → Prop} (news : List (Addr × Obj)) (N : News h₀ L s.heap news) (x y : Int) (t u : Tok) (hy : y ≠ 0) (hs : y.natAbs < 1073741824)
  (B : Below A₀ base outer h₀) (F : Fr h₀ L s.heap m) (X : (lay.heap_1 w.params).In h₀) (T : Top p loose mean mg mb h₀) (hk : cs.kind = .function)
  (hd1 : dp + 2 < recursionLimit) (hu : un + 20 < cLine)
  (hret : ∀ t h' tk', s.toks ≤ t → t < tk' → Fr h₀ L h' m → News h₀ L h' news → Q (.int (x.fdiv y) t) { s with heap := h', toks := tk' }) :
  wpAny (model PySem.Challenge.rw_kl0095_01.row.prog w) (ktrTop dp un gd cn cs L a ccd cl outer) (call (.ref 28) [.int x t, .int y u]) Q E s := by
  revert X; k_fill; intro X
  refine wpAny_call ?_
  k_dflt (refine' enter0 ?k1 ?k2 ?k3 ?k5 ?kA ?kF ?kK ?k6 ?k7 ?k8 ?k9 ?kB ?_ ?c2 ?c3 ?c4 ?c5; (case kA => exact rfl); (case kF => exact rfl); (case kK => assumption); (case k1 => k_asm); (case k2 => k_asm); (case k3 => k_asm); (case k5 => k_asm); (case k6 => k_is); (case k7 => k_is); (case k8 => ktr_room); (case k9 => exact BindsTo.of_eq rfl); (case c5 => decide); (case kB => exact locs rfl); (case c2 => exact rfl); (case c3 => exact rfl); (case c4 => exact rfl); k_whole; intro L1 h1 tk1 U1 F1 N1 B1 X1 T1; (try dsimp only))
  replace F1 := fr_binds F1 (l := [("b", .int y u), ("a", .int x t)]) rfl
  k_steps
  all_goals exact hret _ _ _ U1 (Nat.lt_succ_self _) (Fr.keeps F (Fr.keep (by assumption))) (News.grown N (Fr.keep (by assumption)))
theorem inv_c {w : World} {p : Program} {loose : List Str} {mean : ExcName → Option Value} {mg mb : Str → Option Value}
  {dp un : Nat} {gd : Option (List Code)} {cn : Str} {cs : Scope} {a : Addr} {ccd : Value} {cl : List (Str × Addr)} {outer : List Env} {A₀ : Around} {base h₀ : Heap} {L : Addr} {m : Str → Option Value} {s : Shared} {Q E : Value → Shared → Prop} (news : List (Addr × Obj)) (N : News h₀ L s.heap news) (x : Int) (t : Tok)
  (B : Below A₀ base outer h₀) (F : Fr h₀ L s.heap m) (X : (lay.heap_1 w.params).In h₀) (T : Top p loose mean mg mb h₀) (hk : cs.kind = .function)
  (hd1 : dp + 2 < recursionLimit) (hu : un + 20 < cLine)
  (hret : ∀ t h' tk', s.toks ≤ t → t < tk' → Fr h₀ L h' m → News h₀ L h' news → Q (.int (-x - 1) t) { s with heap := h', toks := tk' }) :
  wpAny (model PySem.Challenge.rw_kl0095_01.row.prog w) (ktrTop dp un gd cn cs L a ccd cl outer) (call (.ref 35) [.int x t]) Q E s := by
  revert X; k_fill; intro X
  refine wpAny_call ?_
  k_dflt (refine' enter0 ?k1 ?k2 ?k3 ?k5 ?kA ?kF ?kK ?k6 ?k7 ?k8 ?k9 ?kB ?_ ?c2 ?c3 ?c4 ?c5; (case kA => exact rfl); (case kF => exact rfl); (case kK => assumption); (case k1 => k_asm); (case k2 => k_asm); (case k3 => k_asm); (case k5 => k_asm); (case k6 => k_is); (case k7 => k_is); (case k8 => ktr_room); (case k9 => exact BindsTo.of_eq rfl); (case c5 => decide); (case kB => exact locs rfl); (case c2 => exact rfl); (case c3 => exact rfl); (case c4 => exact rfl); k_whole; intro L1 h1 tk1 U1 F1 N1 B1 X1 T1; (try dsimp only))
  replace F1 := fr_binds F1 (l := [("a", .int x t)]) rfl
  k_steps
  all_goals exact hret _ _ _ U1 (Nat.lt_succ_self _) (Fr.keeps F (Fr.keep (by assumption))) (News.grown N (Fr.keep (by assumption)))
theorem isnt_c {w : World} {p : Program} {loose : List Str} {mean : ExcName → Option Value} {mg mb : Str → Option Value}
  {dp un : Nat} {gd : Option (List Code)} {cn : Str} {cs : Scope} {a : Addr} {ccd : Value} {cl : List (Str × Addr)} {outer : List Env} {A₀ : Around} {base h₀ : Heap} {L : Addr} {m : Str → Option Value} {s : Shared} {Q E : Value → Shared → Prop} (news : List (Addr × Obj)) (N : News h₀ L s.heap news) (x : Int) (t : Tok)
  (B : Below A₀ base outer h₀) (F : Fr h₀ L s.heap m) (X : (lay.heap_1 w.params).In h₀) (T : Top p loose mean mg mb h₀) (hk : cs.kind = .function)
  (hd1 : dp + 2 < recursionLimit) (hu : un + 20 < cLine)
  (hret : ∀ h' tk', Fr h₀ L h' m → News h₀ L h' news → Q (.bool (decide (256 ≤ x))) { s with heap := h', toks := tk' }) :
  wpAny (model PySem.Challenge.rw_kl0095_01.row.prog w) (ktrTop dp un gd cn cs L a ccd cl outer) (call (.ref 103) [.int x t]) Q E s := by
  revert X; k_fill; intro X
  refine wpAny_call ?_
  k_dflt (refine' enter0 ?k1 ?k2 ?k3 ?k5 ?kA ?kF ?kK ?k6 ?k7 ?k8 ?k9 ?kB ?_ ?c2 ?c3 ?c4 ?c5; (case kA => exact rfl); (case kF => exact rfl); (case kK => assumption); (case k1 => k_asm); (case k2 => k_asm); (case k3 => k_asm); (case k5 => k_asm); (case k6 => k_is); (case k7 => k_is); (case k8 => ktr_room); (case k9 => exact BindsTo.of_eq rfl); (case c5 => decide); (case kB => exact locs rfl); (case c2 => exact rfl); (case c3 => exact rfl); (case c4 => exact rfl); k_whole; intro L1 h1 tk1 U1 F1 N1 B1 X1 T1; (try dsimp only))
  replace F1 := fr_binds F1 (l := [("x", .int x t)]) rfl
  k_steps
  all_goals exact hret _ _ (Fr.keeps F (Fr.keep (by assumption))) (News.grown N (Fr.keep (by assumption)))
theorem iseof_c {w : World} {p : Program} {loose : List Str} {mean : ExcName → Option Value} {mg mb : Str → Option Value}
  {dp un : Nat} {gd : Option (List Code)} {cn : Str} {cs : Scope} {a : Addr} {ccd : Value} {cl : List (Str × Addr)} {outer : List Env} {A₀ : Around} {base h₀ : Heap} {L : Addr} {m : Str → Option Value} {s : Shared} {Q E : Value → Shared → Prop} (news : List (Addr × Obj)) (N : News h₀ L s.heap news) (x : Int) (t : Tok)
  (B : Below A₀ base outer h₀) (F : Fr h₀ L s.heap m) (X : (lay.heap_1 w.params).In h₀) (T : Top p loose mean mg mb h₀) (hk : cs.kind = .function)
  (hd1 : dp + 2 < recursionLimit) (hu : un + 20 < cLine)
  (hret : ∀ h' tk', Fr h₀ L h' m → News h₀ L h' news → Q (.bool (x == 0)) { s with heap := h', toks := tk' }) :
  wpAny (model PySem.Challenge.rw_kl0095_01.row.prog w) (ktrTop dp un gd cn cs L a ccd cl outer) (call (.ref 110) [.int x t]) Q E s := by
  revert X; k_fill; intro X
  refine wpAny_call ?_
  k_dflt (refine' enter0 ?k1 ?k2 ?k3 ?k5 ?kA ?kF ?kK ?k6 ?k7 ?k8 ?k9 ?kB ?_ ?c2 ?c3 ?c4 ?c5; (case kA => exact rfl); (case kF => exact rfl); (case kK => assumption); (case k1 => k_asm); (case k2 => k_asm); (case k3 => k_asm); (case k5 => k_asm); (case k6 => k_is); (case k7 => k_is); (case k8 => ktr_room); (case k9 => exact BindsTo.of_eq rfl); (case c5 => decide); (case kB => exact locs rfl); (case c2 => exact rfl); (case c3 => exact rfl); (case c4 => exact rfl); k_whole; intro L1 h1 tk1 U1 F1 N1 B1 X1 T1; (try dsimp only))
  replace F1 := fr_binds F1 (l := [("x", .int x t)]) rfl
  k_steps
  all_goals exact hret _ _ (Fr.keeps F (Fr.keep (by assumption))) (News.grown N (Fr.keep (by assumption)))
end Mine
end SC1
section SWays
namespace Mine
def waysN (x n : Int) : Nat → Int
  | 0 => 1
  | k + 1 => (waysN x n k * (x - (k : Int)) + (k : Int) * (1 - n.fmod 2)).fdiv ((k : Int) + 1)
theorem bits_mono {x : Int} {m n : Nat} (h : Builtin.Int.intBits x ≤ m) (k : m ≤ n) : Builtin.Int.intBits x ≤ n := Nat.le_trans h k
theorem bits_small {x : Int} (h : x.natAbs < 256) : Builtin.Int.intBits x ≤ 8 := intBits_le_iff.mpr (by simpa using h)
theorem par_small (n : Int) (k : Nat) (hk : k < 100) : Builtin.Int.intBits ((k : Int) * (1 - n.fmod 2)) ≤ 8 := by
  refine bits_small ?_
  have h1 : 0 ≤ n.fmod 2 := Int.fmod_nonneg_of_pos _ (by decide)
  have h2 : n.fmod 2 < 2 := Int.fmod_lt_of_pos _ (by decide)
  have : n.fmod 2 = 0 ∨ n.fmod 2 = 1 := by omega
  rcases this with e | e <;> rw [e] <;> omega
theorem ways_bits {x n : Int} {b : Nat} (hb : 8 ≤ b) (hx : Builtin.Int.intBits x ≤ b) : ∀ k : Nat, k < 100 → Builtin.Int.intBits (waysN x n k) ≤ k * (b + 10) + 8
  | 0, _ => by unfold waysN; exact bits_mono (bits_small (by decide)) (by omega)
  | k + 1, hk => by
    unfold waysN
    have i := ways_bits (n := n) hb hx k (by omega)
    have e : (k + 1) * (b + 10) = k * (b + 10) + (b + 10) := Nat.succ_mul _ _
    refine bits_fdiv (bits_mono (bits_add (bits_mul i (bits_sub hx (bits_small (x := (k : Int)) (by omega)))) (par_small n k (by omega))) ?_)
    generalize k * (b + 10) = q at *
    omega
theorem ways_step_ok {x n : Int} {b : Nat} (hb : 8 ≤ b) (hb2 : b ≤ 3000000) (hx : Builtin.Int.intBits x ≤ b) (k : Nat) (hk : k < 8) : IntMulOk (waysN x n k) (x - (k : Int)) := by
  refine mulOk_of_bits (ways_bits hb hx k (by omega)) (bits_sub hx (bits_small (x := (k : Int)) (by omega))) ?_
  have : k * (b + 10) ≤ 8 * (b + 10) := Nat.mul_le_mul_right _ (by omega)
  omega
theorem par_ok (k : Nat) (n : Int) (hk : k < 8) : IntMulOk (k : Int) (1 - n.fmod 2) := IntMulOk.of_left (Nat.le_trans (bits_small (by omega)) (by decide))
theorem lt8 {i : Nat} {n : Int} (h : i < n.toNat) (h2 : n ≤ 4) : i < 8 := by omega
theorem succ_ne (i : Nat) : (i : Int) + 1 ≠ 0 := by omega
theorem succ_lt {i : Nat} (h : i < 8) : ((i : Int) + 1).natAbs < 1073741824 := by omega
theorem ways_c {w : World} {p : Program} {loose : List Str} {mean : ExcName → Option Value} {mg mb : Str → Option Value}
  {dp un : Nat} {gd : Option (List Code)} {cn : Str} {cs : Scope} {a : Addr} {ccd : Value} {cl : List (Str × Addr)} {outer : List Env} {A₀ : Around} {base h₀ : Heap} {L : Addr} {m : Str → Option Value} {s : Shared} {Q E : Value → Shared → Prop} (v n : Int) (t u : Tok) (b : Nat) (hb8 : 8 ≤ b) (hb : b ≤ 3000000) (hv : Builtin.Int.intBits v ≤ b) (hn0 : 0 ≤ n) (hn : n ≤ 4)
  (B : Below A₀ base outer h₀) (F : Fr h₀ L s.heap m) (X : (lay.heap_1 w.params).In h₀) (T : Top p loose mean mg mb h₀) (hk : cs.kind = .function)
  (hd1 : dp + 4 < recursionLimit) (hu : un + 40 < cLine)
  (hret : ∀ t h' tk', Grow s.heap h' → Q (.int (waysN v n n.toNat) t) { s with heap := h', toks := tk' }) :
  wpAny (model PySem.Challenge.rw_kl0095_01.row.prog w) (ktrTop dp un gd cn cs L a ccd cl outer) (call (.ref 136) [.int v t, .int n u]) Q E s := by
  revert X; k_fill; intro X
  refine wpAny_call ?_
  k_dflt (refine' enter0 ?k1 ?k2 ?k3 ?k5 ?kA ?kF ?kK ?k6 ?k7 ?k8 ?k9 ?kB ?_ ?c2 ?c3 ?c4 ?c5; (case kA => exact rfl); (case kF => exact rfl); (case kK => assumption); (case k1 => k_asm); (case k2 => k_asm); (case k3 => k_asm); (case k5 => k_asm); (case k6 => k_is); (case k7 => k_is); (case k8 => ktr_room); (case k9 => exact BindsTo.of_eq rfl); (case c5 => decide); (case kB => exact locs rfl); (case c2 => exact rfl); (case c3 => exact rfl); (case c4 => exact rfl); k_whole; intro L1 h1 tk1 U1 F1 N1 B1 X1 T1; (try dsimp only))
  replace F1 := fr_binds F1 (l := [("many", .int n u), ("x", .int v t)]) rfl
  refine absQ fun K E2 hK => ?_
  k_steps
  k_dflt (refine' Stop.go (forU ?fF ?fx ?fp ?_); (case fF => k_asm); (case fx => exact rfl); (case fp => exact rfl); k_whole)
  k_steps
  refine fun P₀ k₀ => k₀ _ [] _ n.toNat _ (fun i _ m' news' => news' = [] ∧ ∃ tw, ∀ y : Str, y ≠ "k" → m' y = fm [("ways", .int (waysN v n i) tw), ("many", .int n u), ("x", .int v t)] y) (Src.range rfl (by assumption) (by assumption) (by assumption) (small_one (by decide) (by decide) (by omega) (by omega)) ?_) ⟨rfl, _, fun _ _ => rfl⟩ (fun _ _ _ _ _ _ h => h) ?_ ?_
  · rw [rangeSize_nat, Int.sub_zero]
  · rintro I i v' oI m₁ news₁ h tk E' hi ⟨t2, rfl⟩ ⟨rfl, tw, hm⟩ - - F2 N2
    replace F2 := fr_turn F2 hm
    have hk8 : i < 8 := lt8 hi hn
    have hS := ways_step_ok (n := n) hb8 hb hv i hk8
    have hP := par_ok i n hk8
    rw [Int.zero_add] at F2
    refine absQ fun K2 E3 hK2 => ?_
    k_steps
    k_dflt (refine' Stop.go (sub_c _ ?cN _ _ _ _  ?cB ?cF ?cX ?cT ?cK ?cD ?cU ?_); (case cN => k_asm); (case cB => k_asm); (case cF => k_asm); (case cX => k_asm); (case cT => k_asm); (case cK => first | assumption | exact rfl); (case cD => ktr_room); (case cU => ktr_units); skip; intro t' h' tk' q1 q2 F' N'; (try dsimp only); (try k_fold))
    k_steps
    k_dflt (refine' Stop.go (mul_c _ ?cN _ _ _ _ ?cM ?cB ?cF ?cX ?cT ?cK ?cD ?cU ?_); (case cN => k_asm); (case cB => k_asm); (case cF => k_asm); (case cX => k_asm); (case cT => k_asm); (case cK => first | assumption | exact rfl); (case cD => ktr_room); (case cU => ktr_units); (case cM => assumption); intro t' h' tk' q1 q2 F' N'; (try dsimp only); (try k_fold))
    k_steps
    k_dflt (refine' Stop.go (add_c _ ?cN _ _ _ _  ?cB ?cF ?cX ?cT ?cK ?cD ?cU ?_); (case cN => k_asm); (case cB => k_asm); (case cF => k_asm); (case cX => k_asm); (case cT => k_asm); (case cK => first | assumption | exact rfl); (case cD => ktr_room); (case cU => ktr_units); skip; intro t' h' tk' q1 q2 F' N'; (try dsimp only); (try k_fold))
    k_steps
    k_dflt (refine' Stop.go (fdv_c _ ?cN _ _ _ _ ?cY ?cS ?cB ?cF ?cX ?cT ?cK ?cD ?cU ?_); (case cN => k_asm); (case cB => k_asm); (case cF => k_asm); (case cX => k_asm); (case cT => k_asm); (case cK => first | assumption | exact rfl); (case cD => ktr_room); (case cU => ktr_units); (case cY => exact succ_ne i); (case cS => exact succ_lt hk8); intro t' h' tk' q1 q2 F' N'; (try dsimp only); (try k_fold))
    k_steps
    refine hK2 _ _ ?_
    exact ForEnd.next (news₂ := []) (by assumption) (by assumption) (fun _ h => nomatch h) trivial ⟨rfl, _, by intro y hy; simp only [fm, if_neg hy]; (repeat' split) <;> first | rfl | contradiction⟩
  · rintro h' tk m' news' F2 N2 - ⟨rfl, tw, hm⟩
    replace F2 := fr_done F2 hm
    k_steps
    refine hK _ _ ?_
    k_steps
    exact hret _ _ _ (Fr.keep (by assumption))
end Mine
end SWays
section SC2
namespace Mine
def leafC (v : Int) : Int := [256, 256, 257, 257, 4097 + (v.fdiv 10).fmod 7].getD (v.fmod 5).toNat 0
def leafRow (v : Int) : List Int := if (v.fdiv 5).fmod 2 ≠ 0 then [leafC v, 255] else [leafC v]
theorem leaf_c {w : World} {p : Program} {loose : List Str} {mean : ExcName → Option Value} {mg mb : Str → Option Value}
  {dp un : Nat} {gd : Option (List Code)} {cn : Str} {cs : Scope} {a : Addr} {ccd : Value} {cl : List (Str × Addr)} {outer : List Env} {A₀ : Around} {base h₀ : Heap} {L : Addr} {m : Str → Option Value} {s : Shared} {Q E : Value → Shared → Prop} (news : List (Addr × Obj)) (N : News h₀ L s.heap news) (v : Int) (t : Tok)
  (B : Below A₀ base outer h₀) (F : Fr h₀ L s.heap m) (X : (lay.heap_1 w.params).In h₀) (T : Top p loose mean mg mb h₀) (hk : cs.kind = .function)
  (hd1 : dp + 4 < recursionLimit) (hu : un + 40 < cLine)
  (hret : ∀ a vs h' tk', IntsAre vs (leafRow v) → Fr h₀ L h' m → News h₀ L h' ((a, listOf vs.toArray 0) :: news) → (∀ p ∈ news, p.1 ≠ a) → Q (.ref a) { s with heap := h', toks := tk' }) :
  wpAny (model PySem.Challenge.rw_kl0095_01.row.prog w) (ktrTop dp un gd cn cs L a ccd cl outer) (call (.ref 143) [.int v t]) Q E s := by
  revert X; k_fill; intro X
  refine wpAny_call ?_
  k_dflt (refine' enter0 ?k1 ?k2 ?k3 ?k5 ?kA ?kF ?kK ?k6 ?k7 ?k8 ?k9 ?kB ?_ ?c2 ?c3 ?c4 ?c5; (case kA => exact rfl); (case kF => exact rfl); (case kK => assumption); (case k1 => k_asm); (case k2 => k_asm); (case k3 => k_asm); (case k5 => k_asm); (case k6 => k_is); (case k7 => k_is); (case k8 => ktr_room); (case k9 => exact BindsTo.of_eq rfl); (case c5 => decide); (case kB => exact locs rfl); (case c2 => exact rfl); (case c3 => exact rfl); (case c4 => exact rfl); k_whole; intro L1 h1 tk1 U1 F1 N1 B1 X1 T1; (try dsimp only))
  replace F1 := fr_binds F1 (l := [("v", .int v t)]) rfl
  k_steps
  refine Stop.go (item_ints (News.isList (by assumption) (by k_mem)) (.cons _ _ (.cons _ _ (.cons _ _ (.cons _ _ (.cons _ _ .nil))))) ?_ ?_ (by simp) ?_)
  · exact Int.fmod_nonneg_of_pos _ (by decide)
  · exact Int.fmod_lt_of_pos _ (by decide)
  intro tq
  k_steps
  · obtain ⟨a1, a2, a3⟩ := ret_new F N (by assumption) (by assumption) List.mem_cons_self
    exact hret _ [_, _] _ _ (by rw [leafRow, if_pos (by assumption)]; exact .cons _ _ (.cons _ _ .nil)) a1 a2 a3
  · obtain ⟨a1, a2, a3⟩ := ret_new F N (by assumption) (by assumption) List.mem_cons_self
    exact hret _ [_] _ _ (by rw [leafRow, if_neg (not_not_intro (by assumption))]; exact .cons _ _ .nil) a1 a2 a3
end Mine
end SC2
section SC3
open PySem.Calls
namespace Mine
def partK (v : Int) : Int := [8, 8, 1, 1, 0].getD (v.fmod 5).toNat 0
def partV (v : Int) : Int := if v.fmod 5 = 4 then (v.fdiv 10).fmod 7 - 3 else 1
def partL (v : Int) : List (Int × Int) := if (v.fdiv 5).fmod 2 ≠ 0 then kdfPut [(partK v, -(partV v))] 0 (kdfLook [(partK v, -(partV v))] 0 0 - 1) else [(partK v, partV v)]
theorem part_c {w : World} {p : Program} {loose : List Str} {mean : ExcName → Option Value} {mg mb : Str → Option Value}
  {dp un : Nat} {gd : Option (List Code)} {cn : Str} {cs : Scope} {a : Addr} {ccd : Value} {cl : List (Str × Addr)} {outer : List Env} {A₀ : Around} {base h₀ : Heap} {L : Addr} {m : Str → Option Value} {s : Shared} {Q E : Value → Shared → Prop} (news : List (Addr × Obj)) (N : News h₀ L s.heap news) (v : Int) (t : Tok)
  (B : Below A₀ base outer h₀) (F : Fr h₀ L s.heap m) (X : (lay.heap_1 w.params).In h₀) (T : Top p loose mean mg mb h₀) (hk : cs.kind = .function)
  (hd1 : dp + 4 < recursionLimit) (hu : un + 40 < cLine)
  (hret : ∀ a o h' tk', DI PySem.Challenge.rw_kl0095_01.row.prog w o (partL v) → Fr h₀ L h' m → News h₀ L h' ((a, o) :: news) → (∀ p ∈ news, p.1 ≠ a) → (a == sysModules) = false → Q (.ref a) { s with heap := h', toks := tk' }) :
  wpAny (model PySem.Challenge.rw_kl0095_01.row.prog w) (ktrTop dp un gd cn cs L a ccd cl outer) (call (.ref 148) [.int v t]) Q E s := by
  revert X; k_fill; intro X
  refine wpAny_call ?_
  k_dflt (refine' enterC (mu := []) ?k1 ?k2 ?k3 ?kN ?k5 ?kA ?kF ?kK ?k6 ?k7 ?k8 ?k9 ?kB ?kD ?_ ?c2 ?c3 ?c4; (case kA => exact rfl); (case kF => exact rfl); (case kK => assumption); (case k1 => k_asm); (case k2 => k_asm); (case k3 => k_asm); (case kN => exact News.nil); (case k5 => k_asm); (case k6 => k_is); (case k7 => k_is); (case k8 => ktr_room); (case k9 => exact BindsTo.of_eq rfl); (case kB => exact rfl); (case kD => decide); (case c2 => exact rfl); (case c3 => exact rfl); (case c4 => exact rfl); k_whole; intro L1 h1 tk1 cells1 U1 F1 N1 Y1 B1 X1 T1 M1; (try dsimp only))
  obtain ⟨oc1, rfl, hc1⟩ := CellsAre.one Y1
  replace F1 : Fr s.heap L1 h1 (fm [("v", .int v t)]) := by with_unfolding_all exact F1
  replace hc1 : oc1.data = .cell none := by with_unfolding_all exact hc1
  replace N1 : News s.heap L1 h1 ((L1 + 1, oc1) :: []) := by with_unfolding_all exact N1
  clear Y1
  replace B1 : Below _ _ _ s.heap := B1
  replace X1 : Frag.In _ s.heap := X1
  replace T1 : Top _ _ _ _ _ s.heap := T1
  k_steps
  with_reducible refine Stop.go (wpAny_Assign_Name ?_ ?_)
  rotate_left
  · with_unfolding_all rfl
  k_dflt (refine' kdn_eval (knd := PySem.intKind _ w) ?F ?N ?b ?a ?l ?e ?n ?_; (case F => k_asm); (case N => k_asm); (case b => exact Top.nolimit (by k_asm)); (case a => rfl); (case l => rfl); (case e => exact List.cons_ne_nil _ _); (case n => exact Nat.le_of_ble_eq_true rfl))
  intro d2 h2 o2 F2 N2 l2 lo2 hd2
  k_lt l2
  refine cut (fun vs s' => ∃ t1 t2 h' tk' nw, vs = [(.int (partK v) t1, .int (partV v) t2)] ∧ s' = { s with heap := h', toks := tk' } ∧ Fr s.heap L1 h' (fm [("v", .int v t)]) ∧ News s.heap L1 h' (nw ++ [(d2, o2), (L1 + 1, oc1)])) ?_ ?_
  · intro Q' hQ'
    k_steps
    refine Stop.go (item_ints (News.isList (by assumption) (by k_mem)) (.cons _ _ (.cons _ _ (.cons _ _ (.cons _ _ (.cons _ _ .nil))))) ?_ ?_ (by simp) ?_)
    · exact Int.fmod_nonneg_of_pos _ (by decide)
    · exact Int.fmod_lt_of_pos _ (by decide)
    intro tq
    k_steps
    · exact hQ' _ _ ⟨_, _, _, _, [_], by rw [partV, if_pos (by first | assumption | (simp_all; done))]; rfl, rfl, by assumption, by assumption⟩
    · exact hQ' _ _ ⟨_, _, _, _, [_], by rw [partV, if_neg (by first | assumption | (simp_all; done))]; rfl, rfl, by assumption, by assumption⟩
  · rintro _ _ ⟨t1, t2, h', tk', nw, rfl, rfl, F3, N3⟩
    replace N3 : News s.heap L1 h' [(d2, o2), (L1 + 1, oc1)] := fun p hp => N3 p (List.mem_append_right _ hp)
    refine kdn_made_int F3 N3 (by k_updF) hd2 rfl (by simp [intKeyPairs]) ?_
    intro h4 o4 F4 N4 hd4
    replace hd4 := di_made hd4
    dsimp only
    k_steps
    · with_reducible refine Stop.go (wpAny_Assign_Name ?_ ?_)
      rotate_left
      · with_unfolding_all rfl
      rename_i oc2 F5 N5 hoc2 tk2 hcond
      have hcl : (L1 + 1, oc2) ∈ [(d2, o4), (L1 + 1, oc2)] := List.mem_cons_of_mem _ List.mem_cons_self
      k_dflt (refine' dcomp1 (y1 := -(partV v)) (modules_low T1.nolimit) ?c1 ?c2 ?c3 ?c4 ?c5 ?c6 ?_ F5 N5 (.inr List.mem_cons_self) hd4 lo2 ?_ ?_ ?_; (case c1 => with_unfolding_all rfl); (case c2 => decide); (case c3 => rfl); (case c4 => decide); (case c5 => rfl); (case c6 => rfl))
      · walk1
        exact ⟨rfl, rfl⟩
      · intro C t s₃ m₃ E' hn hm
        exact wpAny_Name (wpAny_loadName_local rfl rfl hn hm ⟨⟨_, rfl⟩, _, _, rfl, fun _ _ e => e⟩) (by decide)
      · intro C t s₃ m₃ E' hn hm _ N6
        refine UnaryOp_ (Subscript_ (wpAny_Name (wpAny_loadName_cell rfl rfl rfl ⟨oc2, (N6 _ hcl).1, hoc2⟩ (wpAny_Name (wpAny_loadName_local rfl rfl hn hm ?_) (by decide))) (by decide)))
        refine kdf_item (hd4.tab (N6 _ List.mem_cons_self).1 lo2) (by simp [kdfHas]) fun t3 => ?_
        have e : kdfLook [(partK v, partV v)] (partK v) 0 = partV v := by simp [kdfLook]
        rw [e]
        exact neg_int ⟨⟨_, rfl⟩, _, _, rfl, fun _ _ e => e⟩
      · intro D oD h5 tk5 hD F6 N6 lD loD
        k_lt lD
        dsimp only
        k_steps
        rename_i h6 o6 F8 N8 d8
        refine Stop.go (getMethod_intTab_get (hD.tab (N8 _ List.mem_cons_self).1 loD) ?_)
        k_steps
        refine Stop.go (kdf_get2 (hD.tab (N8 _ List.mem_cons_self).1 loD) fun tg => ?_)
        dsimp only
        k_steps
        obtain ⟨kvs5, hd5, hf5⟩ := hD
        refine Stop.go (kdf_setItem (by k_asm) (by k_asm) (by k_updF) hd5 hf5 (by simp) ?_)
        intro h7 o7 kv7 F7 N7 hd7 hf7
        dsimp only
        k_steps
        obtain ⟨a1, a2, a3⟩ := ret_new F N (by assumption) (by assumption) List.mem_cons_self
        exact hret D _ _ _ (by rw [partL, if_pos hcond]; exact ⟨_, hd7, hf7⟩) a1 a2 a3 loD
    · obtain ⟨a1, a2, a3⟩ := ret_new F N (by assumption) (by assumption) List.mem_cons_self
      exact hret d2 _ _ _ (by rw [partL, if_neg (not_not_intro (by assumption))]; exact hd4) a1 a2 a3 lo2
end Mine
end SC3
section SC4
open PySem.Calls
namespace Mine
/-- one row of a product, the product, the sum -/
def prodRow (c1 c2 : List (Int × Int)) (l : Int) (acc : List (Int × Int)) (rs : List Int) : List (Int × Int) := rs.foldl (fun acc r => kdfPut acc (l + r) (kdfLook acc (l + r) 0 + kdfLook c1 l 0 * kdfLook c2 r 0)) acc
def prodAll (c1 c2 : List (Int × Int)) (ls : List Int) : List (Int × Int) := ls.foldl (fun acc l => prodRow c1 c2 l acc (c2.map (·.1))) []
def sumAll (c1 c2 : List (Int × Int)) (k : Int) (ps : List Int) : List (Int × Int) := ps.foldl (fun acc p => kdfPut acc p (kdfLook c1 p 0 + (1 - 2 * k) * kdfLook c2 p 0)) []
def joinedL (c1 c2 : List (Int × Int)) (k : Int) : List (Int × Int) := if k = 2 then prodAll c1 c2 (c1.map (·.1)) else sumAll c1 c2 k (c1.map (·.1) ++ c2.map (·.1))
theorem joined_c {w : World} {p : Program} {loose : List Str} {mean : ExcName → Option Value} {mg mb : Str → Option Value}
  {dp un : Nat} {gd : Option (List Code)} {cn : Str} {cs : Scope} {a : Addr} {ccd : Value} {cl : List (Str × Addr)} {outer : List Env} {A₀ : Around} {base h₀ : Heap} {L : Addr} {m : Str → Option Value} {s : Shared} {Q E : Value → Shared → Prop} (news : List (Addr × Obj)) (N : News h₀ L s.heap news) (d1 d2 : Addr) (o1 o2 : Obj) (c1 c2 : List (Int × Int)) (k : Int) (t : Tok) (e1 : s.heap.get? d1 = some o1) (e2 : s.heap.get? d2 = some o2) (D1 : DI PySem.Challenge.rw_kl0095_01.row.prog w o1 c1) (D2 : DI PySem.Challenge.rw_kl0095_01.row.prog w o2 c2) (lo1 : (d1 == sysModules) = false) (lo2 : (d2 == sysModules) = false) (hl1 : c1.length ≤ 64) (hl2 : c2.length ≤ 64) (hs1 : ∀ k, Builtin.Int.intBits (kdfLook c1 k 0) ≤ 64) (hk0 : 0 ≤ k) (hk2 : k ≤ 2)
  (B : Below A₀ base outer h₀) (F : Fr h₀ L s.heap m) (X : (lay.heap_1 w.params).In h₀) (T : Top p loose mean mg mb h₀) (hk : cs.kind = .function)
  (hd1 : dp + 4 < recursionLimit) (hu : un + 40 < cLine)
  (hret : ∀ a o h' tk', DI PySem.Challenge.rw_kl0095_01.row.prog w o (joinedL c1 c2 k) → Fr h₀ L h' m → News h₀ L h' ((a, o) :: news) → (∀ p ∈ news, p.1 ≠ a) → (a == sysModules) = false → Q (.ref a) { s with heap := h', toks := tk' }) :
  wpAny (model PySem.Challenge.rw_kl0095_01.row.prog w) (ktrTop dp un gd cn cs L a ccd cl outer) (call (.ref 155) [.ref d1, .ref d2, .int k t]) Q E s := by
  revert X; k_fill; intro X
  refine wpAny_call ?_
  k_dflt (refine' enter0 ?k1 ?k2 ?k3 ?k5 ?kA ?kF ?kK ?k6 ?k7 ?k8 ?k9 ?kB ?_ ?c2 ?c3 ?c4 ?c5; (case kA => exact rfl); (case kF => exact rfl); (case kK => assumption); (case k1 => k_asm); (case k2 => k_asm); (case k3 => k_asm); (case k5 => k_asm); (case k6 => k_is); (case k7 => k_is); (case k8 => ktr_room); (case k9 => exact BindsTo.of_eq rfl); (case c5 => decide); (case kB => exact locs rfl); (case c2 => exact rfl); (case c3 => exact rfl); (case c4 => exact rfl); k_whole; intro L1 h1 tk1 U1 F1 N1 B1 X1 T1; (try dsimp only))
  replace F1 := fr_binds F1 (l := [("kind", .int k t), ("two", .ref d2), ("one", .ref d1)]) rfl
  refine absQ fun K E2 hK => ?_
  k_steps
  with_reducible refine Stop.go (wpAny_Assign_Name ?_ ?_)
  rotate_left
  · with_unfolding_all rfl
  k_steps
  · rename_i dM _ oM loM _ _ hiM fiM _ hM FM NM hk2'
    subst hk2'
    replace FM : Fr s.heap L1 hM (fm [("made", .ref dM), ("kind", .int 2 t), ("two", .ref d2), ("one", .ref d1)]) := FM
    k_dflt (refine' Stop.go (forU ?fF ?fx ?fp ?_); (case fF => k_asm); (case fx => exact rfl); (case fp => exact rfl); k_whole)
    walk1
    refine fun P₀ k₀ => k₀ _ _ _ c1.length _ (fun i _ m' nw => ∃ o c, nw = [(dM, o)] ∧ DI PySem.Challenge.rw_kl0095_01.row.prog w o c ∧ c = prodAll c1 c2 ((c1.map (·.1)).take i) ∧ c.length ≤ 64 * i ∧ ∀ y : Str, y ≠ "left" → y ≠ "right" → m' y = fm [("made", .ref dM), ("kind", .int 2 t), ("two", .ref d2), ("one", .ref d1)] y) (Src.dict rfl FM NM (.inl e1) D1 lo1) ⟨oM, [], rfl, ⟨_, hiM, fiM⟩, rfl, Nat.zero_le _, fun _ _ _ => rfl⟩ (fun _ _ _ _ _ _ h => h) ?_ ?_
    · rintro I i v oI m₁ news₁ h tk E' hi ⟨kl, yl, tl, hcl, rfl⟩ ⟨o, c, rfl, hD, hc, hlen, hm⟩ - off F2 N2
      replace F2 := fr_turn2 F2 (fun y _ hz => hm y ‹_› hz)
      have n1 : @Ne Nat dM I := off (dM, o) List.mem_cons_self
      k_steps
      k_dflt (refine' Stop.go (forU ?fF ?fx ?fp ?_); (case fF => k_asm); (case fx => exact rfl); (case fp => exact rfl); k_whole)
      walk1
      refine fun P₀ k₀ => k₀ _ _ _ c2.length _ (fun j _ m' nw => ∃ o c', nw = [(I, oI), (dM, o)] ∧ DI PySem.Challenge.rw_kl0095_01.row.prog w o c' ∧ c' = prodRow c1 c2 kl c ((c2.map (·.1)).take j) ∧ c'.length ≤ 64 * i + j ∧ ∀ y : Str, y ≠ "right" → m' y = fm [("left", .int kl tl), ("made", .ref dM), ("kind", .int 2 t), ("two", .ref d2), ("one", .ref d1)] y) (Src.dict rfl F2 N2 (.inl e2) D2 lo2) ⟨o, c, rfl, hD, rfl, hlen, ?_⟩ (fun _ _ _ _ _ _ h => h) ?_ ?_
      · intro y hy; simp only [fm, if_neg hy]
      · rintro I2 j v2 oI2 m₂ news₂ h2 tk2 E2 hj ⟨kr, yr, tr, hcr, rfl⟩ ⟨o', c', rfl, hD', hc', hlen', hm'⟩ - off2 F3 N3
        replace F3 := fr_turn F3 hm'
        have n2 : @Ne Nat dM I2 := off2 (dM, o') (List.mem_cons_of_mem _ List.mem_cons_self)
        have n3 : @Ne Nat I I2 := off2 (I, oI) List.mem_cons_self
        have eo := (N3 (dM, o') (List.mem_cons_of_mem _ (List.mem_cons_of_mem _ List.mem_cons_self))).1
        have hb := hs1 kl
        obtain ⟨kvm, hdm, hfm⟩ := id hD'
        refine absQ fun K2 E3 hK2 => ?_
        k_steps
        refine Stop.go (getMethod_intTab_get (hD'.tab eo loM) ?_)
        k_steps
        refine Stop.go (kdf_get2 (hD'.tab eo loM) fun tg => ?_)
        dsimp only
        k_steps
        refine Stop.go (kdf_item (D1.tab (F3.keep _ _ e1) lo1) (has_of_get hcl) fun ta => ?_)
        dsimp only
        k_steps
        refine Stop.go (kdf_item (D2.tab (F3.keep _ _ e2) lo2) (has_of_get hcr) fun tb => ?_)
        dsimp only
        k_steps
        refine Stop.go (kdf_setItem (by k_asm) (by k_asm) (by k_updF) hdm hfm (by omega) ?_)
        intro h4 o4 kv4 F4 N4 hd4 hf4
        dsimp only
        k_steps
        refine hK2 _ _ ?_
        refine ForEnd.next (news₂ := [(I, oI), (dM, o4)]) F4 N4 (List.forall_mem_cons.mpr ⟨n3, List.forall_mem_cons.mpr ⟨n2, List.forall_mem_nil _⟩⟩) (.inl e2) ⟨o4, _, rfl, ⟨_, hd4, hf4⟩, ?_, Nat.le_trans (kdfPut_len _ _ _) (Nat.succ_le_succ hlen'), ?_⟩
        · rw [hc', take_map hcr]; simp only [prodRow, List.foldl_append, List.foldl_cons, List.foldl_nil]
        · intro y hy; simp only [fm, if_neg hy]
      · rintro h3 tk3 m3 nw3 F3 N3 - ⟨o', c', rfl, hD', hc', hlen', hm'⟩
        k_steps
        refine ForEnd.next (news₂ := [(dM, o')]) F3 N3 (List.forall_mem_cons.mpr ⟨n1, List.forall_mem_nil _⟩) (.inl e1) ⟨o', c', rfl, hD', ?_, Nat.le_trans hlen' (Nat.add_le_add_left hl2 _), ?_⟩
        · rw [hc', hc, take_map hcl]; simp only [prodAll, List.foldl_append, List.foldl_cons, List.foldl_nil]; rw [List.take_of_length_le (l := c2.map (·.1)) (i := c2.length) (by simp)]
        · intro y hy hz; rw [hm' y hz]; simp only [fm, if_neg hy]
    · rintro h3 tk3 m3 nw3 F3 N3 - ⟨o', c', rfl, hD', hc', hlen', hm'⟩
      replace F3 := fr_done2 F3 hm'
      k_steps
      refine hK _ _ ?_
      k_steps
      obtain ⟨a1, a2, a3⟩ := ret_new F N (by assumption) (by assumption) List.mem_cons_self
      exact hret dM o' _ _ (by rw [joinedL, if_pos rfl]; rw [hc', List.take_of_length_le (by simp)] at hD'; exact hD') a1 a2 a3 loM
  · rename_i dM _ oM loM _ _ hiM fiM _ hM FM NM hk2'
    replace FM : Fr s.heap L1 hM (fm [("made", .ref dM), ("kind", .int k t), ("two", .ref d2), ("one", .ref d1)]) := FM
    k_dflt (refine' Stop.go (forU ?fF ?fx ?fp ?_); (case fF => k_asm); (case fx => exact rfl); (case fp => exact rfl); k_whole)
    k_steps
    refine Stop.go (kdy_list rfl FM NM (D1.tab (FM.keep _ _ e1) lo1) (by omega) ?_)
    intro b5 n5 h5 tk5 vs5 F5 N5 l5 hi5
    dsimp only
    k_lt l5
    k_steps
    refine Stop.go (kdy_list rfl F5 N5 (D2.tab (F5.keep _ _ e2) lo2) (by omega) ?_)
    intro b6 n6 h6 tk6 vs6 F6 N6 l6 hi6
    dsimp only
    k_lt l6
    k_steps
    rename_i b7 ws7 h7 F7 N7 hi7 l7
    have N8 : News s.heap L1 h7 [(b7, listOf ws7.toArray 0), (dM, oM)] := fun p hp => N7 p (by rcases List.mem_cons.mp hp with rfl | hp; exact List.mem_cons_self; exact List.mem_cons_of_mem _ (List.mem_cons_of_mem _ (List.mem_cons_of_mem _ hp)))
    refine fun P₀ k₀ => k₀ _ _ _ ws7.toArray.size _ (fun i _ m' nw => ∃ o c, nw = [(b7, listOf ws7.toArray 0), (dM, o)] ∧ DI PySem.Challenge.rw_kl0095_01.row.prog w o c ∧ c = sumAll c1 c2 k ((c1.map (·.1) ++ c2.map (·.1)).take i) ∧ c.length ≤ i ∧ ∀ y : Str, y ≠ "power" → m' y = fm [("made", .ref dM), ("kind", .int k t), ("two", .ref d2), ("one", .ref d1)] y) (Src.list rfl F7 N8 (.inr ⟨_, List.mem_cons_self, rfl, _, rfl⟩)) ⟨oM, [], rfl, ⟨_, hiM, fiM⟩, rfl, Nat.zero_le _, fun _ _ => rfl⟩ (fun _ _ _ _ _ _ h => h) ?_ ?_
    · rintro I i v oI m₁ news₁ h tk E' hi hv ⟨o, c, rfl, hD, hc, hlen, hm⟩ - off F2 N2
      obtain ⟨kp, tp, rfl, hkp⟩ := IntsAre.at hi7 i v (by simpa using hv)
      replace F2 := fr_turn F2 hm
      have n1 : @Ne Nat dM I := off (dM, o) (List.mem_cons_of_mem _ List.mem_cons_self)
      have n2 : @Ne Nat b7 I := off _ List.mem_cons_self
      have n3 : @Ne Nat b7 dM := Nat.ne_of_gt l7.2.2
      have hsz : i < 128 := by have := hi7.length; simp at hi this; omega
      obtain ⟨kvm, hdm, hfm⟩ := id hD
      refine absQ fun K2 E3 hK2 => ?_
      k_steps
      refine Stop.go (getMethod_intTab_get (D1.tab (F2.keep _ _ e1) lo1) ?_)
      k_steps
      refine Stop.go (kdf_get2 (D1.tab (F2.keep _ _ e1) lo1) fun tg => ?_)
      dsimp only
      k_steps
      refine Stop.go (getMethod_intTab_get (D2.tab (F2.keep _ _ e2) lo2) ?_)
      k_steps
      refine Stop.go (kdf_get2 (D2.tab (F2.keep _ _ e2) lo2) fun tg2 => ?_)
      dsimp only
      have h3 : (1 - 2 * k).natAbs ≤ 3 := by omega
      have hm1 : Builtin.Int.intBits (1 - 2 * k) ≤ 64 := intBits_le_iff.mpr (Nat.lt_of_le_of_lt h3 (by decide))
      k_steps
      refine Stop.go (kdf_setItem (by k_asm) (by k_asm) (by k_updF) hdm hfm (by omega) ?_)
      intro h4 o4 kv4 F4 N4 hd4 hf4
      dsimp only
      k_steps
      refine hK2 _ _ ?_
      refine ForEnd.next (news₂ := [(b7, listOf ws7.toArray 0), (dM, o4)]) F4 N4 (List.forall_mem_cons.mpr ⟨n2, List.forall_mem_cons.mpr ⟨n1, List.forall_mem_nil _⟩⟩) (.inr ⟨_, List.mem_cons_self, rfl, _, rfl⟩) ⟨o4, _, rfl, ⟨_, hd4, hf4⟩, ?_, Nat.le_trans (kdfPut_len _ _ _) (Nat.succ_le_succ hlen), ?_⟩
      · rw [hc, List.take_add_one, hkp]; simp only [sumAll, List.foldl_append, List.foldl_cons, List.foldl_nil, Option.toList]
      · intro y hy; simp only [fm, if_neg hy]
    · rintro h3 tk3 m3 nw3 F3 N3 - ⟨o', c', rfl, hD', hc', hlen', hm'⟩
      replace F3 := fr_done F3 hm'
      k_steps
      refine hK _ _ ?_
      k_steps
      obtain ⟨a1, a2, a3⟩ := ret_new F N (by assumption) (by assumption) (List.mem_cons_of_mem _ List.mem_cons_self)
      exact hret dM o' _ _ (by rw [joinedL, if_neg hk2']; rw [hc', List.take_of_length_le (by have := hi7.length; simp at this ⊢; omega)] at hD'; exact hD') a1 a2 a3 loM
end Mine
end SC4
section SC5
open PySem.Calls
namespace Mine
theorem whileU {prog : Program} {w : World} {A : Around} {E : Value → Shared → Prop} {s : Shared} {env : Env} {test : Expr} {body : List Stmt} {pos : Pos} {Q : Flow → Shared → Prop} (I : Nat → Shared → Prop)
    (turn : ∀ n s E', I n s → wpAny (model prog w) A (isTrue test env (eval test env)) (fun b s₂ => if b = true then wpAny (model prog w) A (execs body env) (fun f s₃ => match f with
        | .next | .cont => ∃ m, m < n ∧ I m s₃
        | .brk => Q .next s₃
        | .ret v => Q (.ret v) s₃) E' s₂ else Q .next s₂) E' s) (n : Nat) (h : I n s) :
    wpAny (model prog w) A (exec (.While test body [] pos) env) Q E s :=
  wpAny_While (codeAny_whileLoop I (fun n s hI => wpAny_mono (turn n s _ hI) (fun b s₂ h₂ => by
    cases b with
    | true => exact wpAny_mono h₂ (fun f s₃ h₃ => by cases f <;> exact h₃) fun _ _ e => e
    | false => exact wpAny_execs_nil h₂) fun _ _ e => e) n h)
def dif : List Int → List Int
  | a :: b :: r => (b - a) :: dif (b :: r)
  | _ => []
theorem dif_len : ∀ l : List Int, (dif l).length = l.length - 1
  | [] => rfl
  | [_] => rfl
  | _ :: b :: r => by rw [dif, List.length_cons, dif_len (b :: r)]; rfl
theorem dif_at : ∀ {l : List Int} {i : Nat} {a b : Int}, l[i]? = some a → (l.drop 1)[i]? = some b → (dif l)[i]? = some (b - a)
  | [], i, a, b, h, _ => by simp at h
  | [x], i, a, b, _, h => by simp at h
  | x :: y :: r, 0, a, b, h, h' => by cases h; cases h'; rfl
  | x :: y :: r, i + 1, a, b, h, h' => dif_at (l := y :: r) (i := i) h h'
theorem ints_of_at : ∀ {zs : List Value} {ns : List Int}, zs.length = ns.length → (∀ (j : Nat) (v : Value), zs[j]? = some v → ∃ n t, v = Value.int n t ∧ ns[j]? = some n) → IntsAre zs ns
  | [], [], _, _ => .nil
  | z :: zs, n :: ns, h, k => by
    obtain ⟨n', t, rfl, e⟩ := k 0 z rfl
    cases e
    exact .cons _ _ (ints_of_at (Nat.succ.inj h) fun j v e => k (j + 1) v e)
def stairsF : Nat → List Int → List Int
  | k + 1, a :: r => a :: stairsF k (dif (a :: r))
  | _, _ => []
theorem stairs_len : ∀ (n : Nat) (l : List Int), n ≤ 64 → (stairsF n l).length ≤ 64 := fun n l h => Nat.le_trans (go n l) h where
  go : ∀ (n : Nat) (l : List Int), (stairsF n l).length ≤ n
    | 0, l => by cases l <;> exact Nat.zero_le _
    | n + 1, [] => Nat.zero_le _
    | n + 1, a :: r => Nat.succ_le_succ (go n _)
theorem stairs_c {w : World} {p : Program} {loose : List Str} {mean : ExcName → Option Value} {mg mb : Str → Option Value}
  {dp un : Nat} {gd : Option (List Code)} {cn : Str} {cs : Scope} {a : Addr} {ccd : Value} {cl : List (Str × Addr)} {outer : List Env} {A₀ : Around} {base h₀ : Heap} {L : Addr} {m : Str → Option Value} {s : Shared} {Q E : Value → Shared → Prop} (news : List (Addr × Obj)) (N : News h₀ L s.heap news) (l : Addr) (vs : List Value) (ns : List Int) (hl : LCg.SrcAt h₀ l vs.toArray news) (hi : IntsAre vs ns) (hn : ns.length ≤ 64)
  (B : Below A₀ base outer h₀) (F : Fr h₀ L s.heap m) (X : (lay.heap_1 w.params).In h₀) (T : Top p loose mean mg mb h₀) (hk : cs.kind = .function)
  (hd1 : dp + 4 < recursionLimit) (hu : un + 40 < cLine)
  (hret : ∀ a ws h' tk', IntsAre ws (stairsF ns.length ns) → Fr h₀ L h' m → News h₀ L h' ((a, LCg.lst ws) :: news) → (∀ p ∈ news, p.1 ≠ a) → Q (.ref a) { s with heap := h', toks := tk' }) :
  wpAny (model PySem.Challenge.rw_kl0095_01.row.prog w) (ktrTop dp un gd cn cs L a ccd cl outer) (call (.ref 129) [.ref l]) Q E s := by
  revert X; k_fill; intro X
  refine wpAny_call ?_
  k_dflt (refine' enter0 ?k1 ?k2 ?k3 ?k5 ?kA ?kF ?kK ?k6 ?k7 ?k8 ?k9 ?kB ?_ ?c2 ?c3 ?c4 ?c5; (case kA => exact rfl); (case kF => exact rfl); (case kK => assumption); (case k1 => k_asm); (case k2 => k_asm); (case k3 => k_asm); (case k5 => k_asm); (case k6 => k_is); (case k7 => k_is); (case k8 => ktr_room); (case k9 => exact BindsTo.of_eq rfl); (case c5 => decide); (case kB => exact locs rfl); (case c2 => exact rfl); (case c3 => exact rfl); (case c4 => exact rfl); k_whole; intro L1 h1 tk1 U1 F1 N1 B1 X1 T1; (try dsimp only))
  replace F1 := fr_binds F1 (l := [("line", .ref l)]) rfl
  have hl0 := hl.list F.keep N
  refine absQ fun K E2 hK => ?_
  k_steps
  rename_i dT _ _ hT FT NT
  refine Stop.go (whileU (fun n s' => ∀ P : Prop, (∀ h' tk l' ts ps ws ms rest, s' = { s with heap := h', toks := tk } → Fr s.heap L1 h' (fm [("told", .ref dT), ("line", .ref l')]) → News s.heap L1 h' ((dT, LCg.lst ts) :: rest) → (∀ p ∈ rest, p.1 ≠ dT) → LCg.SrcAt s.heap l' ws.toArray rest → IntsAre ws ms → IntsAre ts ps → ms.length = n → n ≤ ns.length → ps ++ stairsF n ms = stairsF ns.length ns → P) → P) ?_ ns.length ?_)
  · intro n s' E' hI
    refine hI _ fun h' tk l' ts ps ws ms rest e F2 N2 off src iw it en hle eq => ?_
    subst e
    have hl2 := src.list F2.keep (fun p hp => N2 p (List.mem_cons_of_mem _ hp))
    have hpl : ps.length ≤ 64 := Nat.le_trans (by have := congrArg List.length eq; rw [List.length_append] at this; exact this ▸ Nat.le_add_right _ _) (stairs_len _ _ hn)
    have hwl : ws.length = ms.length := iw.length
    refine absQ fun K3 E3 hK3 => ?_
    k_steps
    refine Stop.go (wpAny_truthy_list hl2 ?_ ?_)
    · rw [List.size_toArray, hwl, en]; exact Int.ofNat_lt.mpr (Nat.lt_of_le_of_lt (Nat.le_trans hle hn) (by decide))
    refine hK3 _ _ ?_
    cases iw with
    | nil =>
      rw [if_neg (by simp)]
      k_steps
      refine hK _ _ ?_
      k_steps
      obtain ⟨a1, a2, a3⟩ := ret_new F N F2 N2 List.mem_cons_self
      exact hret dT ts _ _ (by rw [← eq, show stairsF n [] = [] by cases n <;> rfl, List.append_nil]; exact it) a1 a2 a3
    | cons k t iw' =>
      rename_i ws' ms'
      rw [if_pos (by simp)]
      refine absQ fun K4 E4 hK4 => ?_
      k_steps
      refine Stop.go (getMethod_append_N N2 List.mem_cons_self ?_)
      k_steps
      refine Stop.go (item_ints hl2 (.cons k t iw') (Int.le_refl 0) (by simp only [List.length_cons]; omega) (by omega) fun t0 => ?_)
      k_steps
      refine Stop.go (append_head F2 N2 off ?_ ?_)
      rotate_left
      · show ts.toArray.size ≤ sizeLine; rw [List.size_toArray, it.length]; exact Nat.le_trans hpl (by decide)
      intro h3 F3 N3
      rw [LCg.lst_snoc] at N3
      have hl3 := src.list F3.keep fun p hp => N3 p (List.mem_cons_of_mem _ hp)
      have iw3 := IntsAre.cons k t iw'
      have hms : (k :: ms').length ≤ 64 := by simp only [List.length_cons] at en ⊢; omega
      dsimp only
      k_steps
      k_dflt (refine' Stop.go (pairA F3 rfl ?c1 ?c2 ?c3 ?c4 ?c5 ?c6 ?c7 ?c8 ?c9 ?c10 ?_); (case c1 => with_unfolding_all rfl); (case c2 => rfl); (case c3 => decide); (case c4 => rfl); (case c5 => decide); (case c6 => rfl); (case c7 => rfl); (case c8 => decide); (case c9 => rfl); (case c10 => rfl))
      k_steps
      rename_i sD sW sh sF sN sI sc sle sl
      have up : ∀ p ∈ rest, p ∈ (sD, listOf sW.toArray 0) :: (dT, LCg.lst (ts ++ [.int ((k :: ms').getD (Int.toNat 0) 0) t0])) :: rest := fun p hp => List.mem_cons_of_mem _ (List.mem_cons_of_mem _ hp)
      refine Stop.go (pairZip (V := fun i v => ∃ n t, v = .int n t ∧ (dif (k :: ms'))[i]? = some n) rfl sF sN (srcUp src up) (.inr ⟨_, List.mem_cons_self, rfl, _, rfl⟩) ?_ ?_ ?_)
      · exact Nat.le_trans (by rw [List.size_toArray, iw3.length]; exact hms) (by decide)
      · rintro h' i a b C oC m₂ nw h tk Q' E' ⟨ha, hb⟩ hC h1 h2 hm hsub F4 N4 kk
        obtain ⟨n1, t1, rfl, e1⟩ := IntsAre.at iw3 i a (by simpa using ha)
        obtain ⟨n2, t2, rfl, e2⟩ := IntsAre.at sI i b (by simpa using hb)
        k_steps
        k_dflt (refine' Stop.go (sub_c _ ?cN _ _ _ _  ?cB ?cF ?cX ?cT ?cK ?cD ?cU ?_); (case cN => k_asm); (case cB => k_asm); (case cF => k_asm); (case cX => k_asm); (case cT => k_asm); (case cK => first | assumption | exact rfl); (case cD => ktr_room); (case cU => ktr_units); skip; intro t' h' tk' q1 q2 F' N'; (try dsimp only); (try k_fold))
        k_steps
        exact kk _ _ _ ⟨_, _, rfl, dif_at e1 e2⟩ (by assumption) (by assumption)
      · intro h' zs hlen hV D h tk F5 N5 o5
        have hdl : (dif (k :: ms')).length = ms'.length := dif_len _
        k_steps
        refine hK4 _ _ ⟨ms'.length, en ▸ Nat.lt_succ_self _, fun P kk => kk h _ D (ts ++ [.int k t0]) (ps ++ [k]) zs (dif (k :: ms')) [(D, LCg.lst zs)] rfl (fr_re F5 fun y => ?_) (fun p hp => N5 p ?_) (List.forall_mem_cons.mpr ⟨Ne.symm o5.2.1, List.forall_mem_nil _⟩) (.inr ⟨_, List.mem_cons_self, rfl, _, rfl⟩) (ints_of_at ?_ hV) (ints_snoc it _ _) hdl (Nat.le_trans (Nat.le_succ _) (Nat.le_trans (Nat.le_of_eq en) hle)) ?_⟩
        · by_cases e : y = "line"
          · subst e; rfl
          · simp only [fm, if_neg e]
        · rcases List.mem_cons.mp hp with rfl | hp
          · exact List.mem_cons_of_mem _ (List.mem_cons_of_mem _ List.mem_cons_self)
          · rw [List.mem_singleton.mp hp]; exact List.mem_cons_self
        · rw [hlen, hdl]; simp only [List.size_toArray, List.length_cons, iw'.length, sI.length, List.length_drop]; exact Nat.min_eq_right (Nat.le_succ _)
        · rw [← eq, ← en, List.append_assoc]; rfl
  · exact fun P kk => kk hT _ l [] [] vs ns [] rfl (fr_re FT fun y => by simp only [fm]) NT (List.forall_mem_nil _) (.inl hl0) hi .nil rfl (Nat.le_refl _) rfl
end Mine
end SC5
section SC6
open PySem.Calls
namespace Mine
theorem count_take {ns : List Int} {b n : Int} {i : Nat} (h : ns[i]? = some n) : (((ns.take (i + 1)).count b : Nat) : Int) = if n = b then (((ns.take i).count b : Nat) : Int) + 1 else (((ns.take i).count b : Nat) : Int) := by
  rw [List.take_add_one, h, List.count_append]
  by_cases e : n = b
  · rw [if_pos e, e]; simp [Option.toList, List.count_singleton]
  · rw [if_neg e]; simp [Option.toList, List.count_singleton, e]
theorem is_zero {M : Model} {A : Around} {E : Value → Shared → Prop} {s : Shared} {Q : Value → Shared → Prop} {p : Int} {t u : Tok} (h0 : t ≠ 0) (h1 : u ≠ 0) (h2 : t ≠ u) (h : Q (.bool (p == 0)) s) : wpAny M A (compareOp .Is (.int p t) (.int 0 u)) Q E s := by
  show wpAny M A (do return .bool (← isSame (.int p t) (.int 0 u))) Q E s
  refine wpAny_bind ?_
  by_cases e : p = 0
  · subst e
    show wpAny M A (isSame.cachedInt t u) _ _ _
    unfold isSame.cachedInt
    rw [if_neg (by simp [h0, h1])]
    exact wpAny_bind (wpAny_rule (wpAny_pure (wpAny_pure h)))
  · have e2 : (p == 0) = false := beq_eq_false_iff_ne.mpr e
    rw [e2] at h
    show wpAny M A (if (p == 0 && smallInt p) = true then isSame.cachedInt t u else isSame.created (p == 0) t u) _ _ _
    rw [e2, if_neg (by simp)]
    unfold isSame.created
    rw [if_neg (by simp [h0, h1]), if_neg (by simp [h2])]
    show wpAny M A (pure false) _ _ _
    exact wpAny_pure (wpAny_pure h)
theorem countOf_c {w : World} {p : Program} {loose : List Str} {mean : ExcName → Option Value} {mg mb : Str → Option Value}
  {dp un : Nat} {gd : Option (List Code)} {cn : Str} {cs : Scope} {a : Addr} {ccd : Value} {cl : List (Str × Addr)} {outer : List Env} {A₀ : Around} {base h₀ : Heap} {L : Addr} {m : Str → Option Value} {s : Shared} {Q E : Value → Shared → Prop} (news : List (Addr × Obj)) (N : News h₀ L s.heap news) (l : Addr) (vs : List Value) (ns : List Int) (t : Tok) (hl : LCg.SrcAt h₀ l vs.toArray news) (hi : IntsAre vs ns) (ht : t ≠ 0) (hts : ∀ n u, Value.int n u ∈ vs → u ≠ 0 ∧ u ≠ t)
  (B : Below A₀ base outer h₀) (F : Fr h₀ L s.heap m) (X : (lay.heap_1 w.params).In h₀) (T : Top p loose mean mg mb h₀) (hk : cs.kind = .function)
  (hd1 : dp + 4 < recursionLimit) (hu : un + 40 < cLine)
  (hret : ∀ t h' tk', Fr h₀ L h' m → News h₀ L h' news → Q (.int ((ns.count 0 : Nat) : Int) t) { s with heap := h', toks := tk' }) :
  wpAny (model PySem.Challenge.rw_kl0095_01.row.prog w) (ktrTop dp un gd cn cs L a ccd cl outer) (call (.ref 56) [.ref l, .int 0 t]) Q E s := by
  revert X; k_fill; intro X
  refine wpAny_call ?_
  k_dflt (refine' enter0 ?k1 ?k2 ?k3 ?k5 ?kA ?kF ?kK ?k6 ?k7 ?k8 ?k9 ?kB ?_ ?c2 ?c3 ?c4 ?c5; (case kA => exact rfl); (case kF => exact rfl); (case kK => assumption); (case k1 => k_asm); (case k2 => k_asm); (case k3 => k_asm); (case k5 => k_asm); (case k6 => k_is); (case k7 => k_is); (case k8 => ktr_room); (case k9 => exact BindsTo.of_eq rfl); (case c5 => decide); (case kB => exact locs rfl); (case c2 => exact rfl); (case c3 => exact rfl); (case c4 => exact rfl); k_whole; intro L1 h1 tk1 U1 F1 N1 B1 X1 T1; (try dsimp only))
  replace F1 := fr_binds F1 (l := [("b", .int 0 t), ("a", .ref l)]) rfl
  have hl0 := hl.list F.keep N
  refine absQ fun K E2 hK => ?_
  k_steps
  k_dflt (refine' Stop.go (forU ?fF ?fx ?fp ?_); (case fF => k_asm); (case fx => exact rfl); (case fp => exact rfl); k_whole)
  k_steps
  refine fun P₀ k₀ => k₀ _ [] _ vs.toArray.size _ (fun i _ m' nw => nw = [] ∧ ∃ tw, ∀ y : Str, y ≠ "i" → m' y = fm [("count", .int (((ns.take i).count 0 : Nat) : Int) tw), ("b", .int 0 t), ("a", .ref l)] y) (Src.list rfl (by assumption) (by assumption) (.inl hl0)) ⟨rfl, _, fun _ _ => rfl⟩ (fun _ _ _ _ _ _ h => h) ?_ ?_
  · rintro I i v oI m₁ news₁ h tk E' hlt hv ⟨rfl, tw, hm⟩ - - F2 N2
    have hv' : vs[i]? = some v := by simpa using hv
    obtain ⟨n1, t1, rfl, e1⟩ := IntsAre.at hi i v hv'
    obtain ⟨z1, z2⟩ := hts n1 t1 (List.mem_of_getElem? hv')
    have ct := count_take (b := 0) e1
    replace F2 := fr_turn F2 hm
    refine absQ fun K2 E3 hK2 => ?_
    k_steps
    refine is_zero z1 ht z2 ?_
    by_cases e : n1 = 0
    · subst e
      rw [if_pos rfl] at ct
      k_steps
      refine' hK2 _ _ (ForEnd.next (news₂ := []) (by assumption) (by assumption) (fun _ h => nomatch h) (.inl hl0) ⟨rfl, _, ?fr⟩)
      case fr => intro y hy; rw [ct]; simp only [fm, if_neg hy] <;> (repeat' split) <;> first | rfl | contradiction
    · have e2 : (n1 == 0) = false := beq_eq_false_iff_ne.mpr e
      rw [if_neg e] at ct
      rw [e2]
      k_steps
      refine hK2 _ _ (ForEnd.next (news₂ := []) (by assumption) (by assumption) (fun _ h => nomatch h) (.inl hl0) ⟨rfl, tw, ?_⟩)
      intro y hy; rw [ct]; simp only [fm, if_neg hy] <;> (repeat' split) <;> first | rfl | contradiction
  · rintro h' tk m' news' F2 N2 - ⟨rfl, tw, hm⟩
    replace F2 := fr_done F2 hm
    k_steps
    refine hK _ _ ?_
    k_steps
    rw [List.take_of_length_le (by rw [List.size_toArray, hi.length]; exact Nat.le_refl _)]
    exact hret _ _ _ (Fr.keeps F (Fr.keep (by assumption))) (News.grown N (Fr.keep (by assumption)))
end Mine
end SC6
section SC8
open PySem.Calls
namespace Mine
theorem gni_c {w : World} {p : Program} {loose : List Str} {mean : ExcName → Option Value} {mg mb : Str → Option Value}
  {dp un : Nat} {gd : Option (List Code)} {cn : Str} {cs : Scope} {a : Addr} {ccd : Value} {cl : List (Str × Addr)} {outer : List Env} {A₀ : Around} {base h₀ : Heap} {L : Addr} {m : Str → Option Value} {s : Shared} {Q E : Value → Shared → Prop} (news : List (Addr × Obj)) (N : News h₀ L s.heap news) (i : Int) (t : Tok) (hi0 : 0 ≤ i) (hi2 : i < 2) (f c1 cA l2 : Addr) (qual : Str) (pm ctv : Value) (p0 p1 p2 p3 : Pos) (oc ocA : Obj) (cvs : Array Value) (ct : Tok) (mF : (f, (kla_obj "<lambda>" qual { posonlyargs := [], args := [{ arg := "k", annotation := none, pos := p0 }], vararg := none, kwonlyargs := [], kw_defaults := [], kwarg := none, defaults := [] } (.Subscript (.Name "letters" p1) (.Name "k" p2) p3) { kind := .function, names := [("k", .local), ("letters", .free)], isGenerator := false, isCoroutine := false } [("letters", cA)] pm c1 ctv)) ∈ news) (mC : (c1, oc) ∈ news) (hC1 : oc.data = .fields cvs) (hC2 : cvs[1]? = some (.str qual ct)) (mA : (cA, ocA) ∈ news) (hA : ocA.data = .cell (some (.ref l2))) (x y : Int) (tx ty : Tok) (hl2 : LCg.SrcAt h₀ l2 #[.int x tx, .int y ty] news)
  (B : Below A₀ base outer h₀) (F : Fr h₀ L s.heap m) (X : (lay.heap_1 w.params).In h₀) (T : Top p loose mean mg mb h₀) (hk : cs.kind = .function)
  (hd1 : dp + 4 < recursionLimit) (hu : un + 40 < cLine)
  (hret : ∀ T u h' tk', Fr h₀ L h' m → News h₀ L h' ((T, { cls := .type "tuple", data := .seq #[.int ([x, y].getD i.toNat 0) u, .int ([x, y].getD i.toNat 0) u] }) :: news) → Q (.ref T) { s with heap := h', toks := tk' }) :
  wpAny (model PySem.Challenge.rw_kl0095_01.row.prog w) (ktrTop dp un gd cn cs L a ccd cl outer) (call (.ref 86) [.int i t, .ref f]) Q E s := by
  revert X; k_fill; intro X
  refine wpAny_call ?_
  k_dflt (refine' kp_more ?k1 ?k2 ?k3 ?k4 ?k5 ?kA ?kF ?kK ?k6 ?k7 ?k8 ?kX ?kM ?kN ?kD ?kR ?kP ?kT ?kB ?_ ?c2 ?c3 ?c4 ?c5; (case kA => exact rfl); (case kF => exact rfl); (case kK => assumption); (case k1 => k_asm); (case k2 => k_asm); (case k3 => k_asm); (case k4 => k_asm); (case k5 => k_asm); (case k6 => k_is); (case k7 => k_is); (case k8 => ktr_room); (case kX => kp_lit); (case kM => exact rfl); (case kN => exact rfl); (case kD => kp_flats); (case kR => exact rfl); (case kP => exact rfl); (case kT => exact fun _ => rfl); (case kB => exact fun _ => locs rfl); (case c5 => decide); (case c2 => exact rfl); (case c3 => exact rfl); (case c4 => exact rfl); k_whole; intro D1 o1 g1 L1 h1 tk1 l1 lo1 hs1 fs1 FG1 F1 N1 B1 X1 T1; (try dsimp only))
  replace F1 := fr_binds F1 (l := [("extrainfo", .ref D1), ("get_name", .ref f), ("name_index", .int i t)]) rfl
  k_steps
  refine call_starEmpty F1 N1 rfl rfl List.mem_cons_self hs1 lo1 (List.mem_cons_of_mem _ mF) rfl fun h2 F2 N2 => ?_
  refine wpAny_call ?_
  have mC2 := List.mem_cons_of_mem (D1, o1) mC
  refine' kla_code B1 F2 X1 N2 T1 ?kA ?kF ?kK (List.mem_cons_of_mem _ mF) ?k7 ?k8 ?k9 ?kB ?_ ?c2 ?c3 ?c4 ?c5; (case kA => exact rfl); (case kF => exact rfl); (case kK => exact rfl); (case k7 => exact codeRec_news N2 mC2 hC1 hC2); (case k8 => ktr_room); (case k9 => exact rfl); (case c5 => decide); (case kB => exact locs rfl); (case c2 => exact rfl); (case c3 => exact rfl); (case c4 => exact rfl); k_whole; intro g2 L2 h3 FG2 F3 N3 B3 X3 T3; (try dsimp only)
  have hl3 := (srcRe FG2.keep (srcUp (srcRe FG1.keep hl2) fun p hp => List.mem_cons_of_mem (D1, o1) hp)).list F3.keep N3
  refine Subscript_ (nameX_F N3 rfl (List.mem_cons_of_mem _ mA) hA (nameX_L F3 rfl ?_))
  refine item_ints (vs := [.int x tx, .int y ty]) (ns := [x, y]) hl3 (.cons _ _ (.cons _ _ .nil)) hi0 (by simpa using hi2) (by simp) fun t3 => ?_
  k_steps
  obtain ⟨a1, a2, a3⟩ := ret_led FG1 (by assumption) N (by assumption) (fun p hp => List.mem_cons_of_mem _ (List.mem_cons_of_mem _ hp))
  exact hret _ _ _ _ a1 (a3 _ List.mem_cons_self)
end Mine
end SC8
section SC7
open PySem.Calls
namespace Mine
theorem ints_last {l : List Int} {a : Int} : ∀ {vs : List Value}, IntsAre vs (l ++ [a]) → ∃ vs0 t, vs = vs0 ++ [.int a t] ∧ IntsAre vs0 l := by
  induction l with
  | nil => intro vs h; cases h with | cons k t h => cases h; exact ⟨[], t, rfl, .nil⟩
  | cons b l ih => intro vs h; cases h with | cons k t h => obtain ⟨v0, t', rfl, h'⟩ := ih h; exact ⟨.int b t :: v0, t', rfl, .cons _ _ h'⟩
theorem item_at {prog : Program} {w : World} {A : Around} {E : Value → Shared → Prop} {s : Shared} {value slice : Expr} {l : Addr} {v : Value} {u : Tok} {Q : Value → Shared → Prop} (hl : s.heap.IsList l #[v]) (h : Q v s) (hs : subscripted slice false (.ref l) (.int 0 u) = operate [.ref l, .int 0 u] (getItem (.ref l) (.int 0 u)) := by with_unfolding_all rfl) :
    wpAny (model prog w) A (subscriptTail value slice (.ref l) (.int 0 u)) Q E s :=
  tail_any hl.typeIs slot_list_getitem.lookup (wpAny_getItem_list hl (Int.le_refl 0) (by decide) rfl h) hs
theorem withToks {P : Nat → Prop} {n a b : Nat} (u : a ≤ b) (U : n ≤ a) (h : ∀ k, n ≤ k → P k) : P b := h b (Nat.le_trans U u)
def opM (n b a : Int) : Int := if n = 238 then b + a else if n = 239 then b - a else b * a
def stepM (x y : Int) (st : List Int) (n : Int) : List Int :=
  if 256 ≤ n then (if n < 258 then [x, y].getD (n - 256).toNat 0 else n - 4100) :: st
  else match st with
    | [] => []
    | a :: r => if n = 255 then (-a - 1) :: r else match r with
      | [] => []
      | b :: r' => opM n b a :: r'
theorem step_hi {x y n : Int} {st : List Int} (h : 256 ≤ n) : stepM x y st n = (if n < 258 then [x, y].getD (n - 256).toNat 0 else n - 4100) :: st := by unfold stepM; rw [if_pos h]
def runM (x y : Int) (ns : List Int) : List Int := ns.foldl (stepM x y) []
theorem run_len (x y : Int) (ns : List Int) : (runM x y ns).length ≤ ns.length := by
  suffices h : ∀ (l st : List Int), (l.foldl (stepM x y) st).length ≤ st.length + l.length by simpa [runM] using h ns []
  intro l
  induction l with
  | nil => intro st; exact Nat.le_refl _
  | cons n l ih =>
    intro st
    refine Nat.le_trans (ih _) ?_
    have h : (stepM x y st n).length ≤ st.length + 1 := by
      unfold stepM; (repeat' split) <;> simp <;> omega
    simp only [List.length_cons]; omega
def okM (st : List Int) (n : Int) : Prop := 256 ≤ n ∨ (n = 255 ∧ ∃ a r, st = a :: r) ∨ ((n = 238 ∨ n = 239 ∨ n = 240) ∧ ∃ a b r, st = a :: b :: r ∧ (n = 240 → IntMulOk b a))
def TabL (tl : List (Addr × Obj)) : Prop := tl = [(119, tabObj #[])] ∨ ∃ c1 oc cvs ct, tl = [(119, tabObj #[rawInt 108, rawInt 53, .ref c1]), (c1, oc)] ∧ oc.data = .fields cvs ∧ cvs[1]? = some (.str "_law_value.<locals>.<lambda>" ct)
theorem value_c {w : World} {p : Program} {loose : List Str} {mean : ExcName → Option Value} {mg mb : Str → Option Value}
  {dp un : Nat} {gd : Option (List Code)} {cn : Str} {cs : Scope} {a : Addr} {ccd : Value} {cl : List (Str × Addr)} {outer : List Env} {A₀ : Around} {base h₀ : Heap} {L : Addr} {m : Str → Option Value} {s : Shared} {Q E : Value → Shared → Prop} (tl : List (Addr × Obj)) (hT : TabL tl) (news : List (Addr × Obj)) (N : News h₀ L s.heap (tl ++ news)) (off : ∀ p ∈ tl, ∀ q ∈ news, q.1 ≠ p.1) (hC : CodeHd (hideAll s.heap (tl.map (·.1))) 123 119) (l l2 : Addr) (vs : List Value) (ns : List Int) (hl : LCg.SrcAt h₀ l vs.toArray news) (hi : IntsAre vs ns) (hn : ns.length ≤ 64) (x y : Int) (tx ty : Tok) (hl2 : LCg.SrcAt h₀ l2 #[.int x tx, .int y ty] news) (hok : ∀ i n, ns[i]? = some n → okM (runM x y (ns.take i)) n) (v : Int) (hv : runM x y ns = [v]) (hlast : ∃ n, ns[ns.length - 1]? = some n ∧ n < 256)
  (B : Below A₀ base outer h₀) (F : Fr h₀ L s.heap m) (X : (lay.heap_1 w.params).In h₀) (T : Top p loose mean mg mb h₀) (hk : cs.kind = .function)
  (hd1 : dp + 8 < recursionLimit) (hu : un + 80 < cLine)
  (hret : ∀ u tl' h' tk', TabL tl' → Fr h₀ L h' m → News h₀ L h' (tl' ++ news) → (∀ p ∈ tl', ∀ q ∈ news, q.1 ≠ p.1) → s.toks ≤ u → u < tk' → Q (.int v u) { s with heap := h', toks := tk' }) :
  wpAny (model PySem.Challenge.rw_kl0095_01.row.prog w) (ktrTop dp un gd cn cs L a ccd cl outer) (call (.ref 124) [.ref l, .ref l2]) Q E s := by
  revert X; k_fill; intro X
  refine wpAny_call ?_
  k_dflt (refine' enterC (mu := tl) ?k1 ?k2 ?k3 ?kN ?k5 ?kA ?kF ?kK ?k6 ?k7 ?k8 ?k9 ?kB ?kD ?_ ?c2 ?c3 ?c4; (case kA => exact rfl); (case kF => exact rfl); (case kK => assumption); (case k1 => k_asm); (case k2 => k_asm); (case k3 => k_asm); (case kN => exact fun p hp => N p (List.mem_append_left _ hp)); (case k5 => k_asm); (case k6 => k_is); (case k7 => k_is); (case k8 => ktr_room); (case k9 => exact BindsTo.of_eq rfl); (case kB => exact rfl); (case kD => decide); (case c2 => exact rfl); (case c3 => exact rfl); (case c4 => exact rfl); k_whole; intro L1 h1 tk1 cells1 U1 F1 N1 Y1 B1 X1 T1 M1; (try dsimp only))
  obtain ⟨oc1, rfl, hc1⟩ := CellsAre.one Y1
  replace F1 : Fr (hideAll s.heap (tl.map (·.1))) L1 h1 (fm [("row", .ref l)]) := by with_unfolding_all exact F1
  replace hc1 : oc1.data = .cell (some (.ref l2)) := by with_unfolding_all exact hc1
  replace N1 : News (hideAll s.heap (tl.map (·.1))) L1 h1 ((L1 + 1, oc1) :: tl) := by with_unfolding_all exact N1
  clear Y1
  replace B1 : Below _ _ _ (hideAll s.heap (tl.map (·.1))) := B1
  replace X1 : Frag.In _ (hideAll s.heap (tl.map (·.1))) := X1
  replace T1 : Top _ _ _ _ _ (hideAll s.heap (tl.map (·.1))) := T1
  have hl20 : (hideAll s.heap (tl.map (·.1))).IsList l2 #[Value.int x tx, Value.int y ty] := srcHide hl2 F N off
  have hl0 : (hideAll s.heap (tl.map (·.1))).IsList l vs.toArray := srcHide hl F N off
  refine absQ fun K E2 hK => ?_
  walk1
  refine toksUp (absQ fun K1 E1 hK1 => ?_)
  k_steps
  with_reducible refine Stop.go (wpAny_Assign_Name ?_ ?_)
  rotate_left
  · with_unfolding_all rfl
  k_dflt (refine' kdn_eval (knd := PySem.intKind _ w) ?F ?N ?b ?a ?l ?e ?n ?_; (case F => k_asm); (case N => k_asm); (case b => exact Top.nolimit (by k_asm)); (case a => rfl); (case l => rfl); (case e => exact List.cons_ne_nil _ _); (case n => exact Nat.le_of_ble_eq_true rfl))
  intro d2 h2 o2 F2 N2 l2_ lo2 hd2
  refine absQ fun K3 E3 hK3 => ?_
  k_steps
  refine hK3 _ _ (kdn_made_int F2 N2 (UpdF.head fun p hp => Nat.ne_of_lt (l2_ p hp)) hd2 rfl (show ([238, 239, 240] : List Int).Nodup by decide) ?_)
  intro h4 o4 F4 N4 hd4
  replace hd4 : o4.IsDictOf _ [((238 : Int), Value.ref 21), (239, Value.ref 49), (240, Value.ref 42)] := hd4
  have g2 : L1 + 1 < d2 := l2_ _ List.mem_cons_self
  dsimp only
  k_steps
  rename_i h5 F5 N5
  refine hK1 _ _ fun u1 => ?_
  dsimp only
  refine withToks (P := fun k => wpAny _ _ _ _ _ { s with heap := h5, toks := k }) u1 U1 fun tkA UA => ?_
  walk1
  refine toksUp (absQ fun K4 E4 hK4 => ?_)
  k_steps
  rename_i dP _ gP h6 F6 N6
  refine hK4 _ _ fun u2 => ?_
  dsimp only
  refine withToks (P := fun k => wpAny _ _ _ _ _ { s with heap := h6, toks := k }) u2 UA fun tkB UB => ?_
  obtain ⟨gP2, gP1, gPt⟩ := gP
  replace F6 : Fr (hideAll s.heap (tl.map (·.1))) L1 h6 (fm [("pile", .ref dP), ("deeds", .ref d2), ("row", .ref l)]) := F6
  replace N6 : News (hideAll s.heap (tl.map (·.1))) L1 h6 ((dP, listOf ([] : List Value).toArray 0) :: (d2, o4) :: (L1 + 1, oc1) :: tl) := N6
  k_steps
  k_dflt (refine' Stop.go (forU ?fF ?fx ?fp ?_); (case fF => k_asm); (case fx => exact rfl); (case fp => exact rfl); k_whole)
  k_steps
  refine fun P₀ k₀ => k₀ _ _ _ vs.toArray.size _ (fun i k m' nw => ∃ vs' ep tl', nw = (dP, listOf vs'.toArray ep) :: (d2, o4) :: (L1 + 1, oc1) :: tl' ∧ TabL tl' ∧ (∀ p ∈ tl', p.1 ≠ dP ∧ p.1 ≠ d2 ∧ p.1 ≠ L1 + 1) ∧ IntsAre vs' (runM x y (ns.take i)).reverse ∧ s.toks ≤ k ∧ (∀ n, 0 < i → ns[i - 1]? = some n → n < 256 → ∀ z u, vs'.getLast? = some (.int z u) → s.toks ≤ u ∧ u < k) ∧ ∀ y : Str, y ≠ "number" → y ≠ "upper" → m' y = fm [("pile", .ref dP), ("deeds", .ref d2), ("row", .ref l)] y) (Src.list rfl F6 N6 (.inl hl0)) ⟨[], 0, tl, rfl, hT, ?_, .nil, UB, fun n h => absurd h (Nat.lt_irrefl 0), fun _ _ _ => rfl⟩ ?_ ?_ ?_
  · exact fun p hp => ⟨Nat.ne_of_lt (Nat.lt_trans (l2_ p (List.mem_cons_of_mem _ hp)) gP2), Nat.ne_of_lt (l2_ p (List.mem_cons_of_mem _ hp)), Nat.ne_of_lt (Nat.lt_succ_of_lt (M1 p hp))⟩
  · rintro i k k' m nw hk' ⟨a, b, c, d, e, f, g, h1, h2, h3⟩
    exact ⟨a, b, c, d, e, f, g, Nat.le_trans h1 hk', fun n h0 hn hl z u hz => ⟨(h2 n h0 hn hl z u hz).1, Nat.lt_of_lt_of_le (h2 n h0 hn hl z u hz).2 hk'⟩, h3⟩
  · rintro I i v oI m₁ news₁ h tk E' hlt hv ⟨vs', ep, tl', rfl, hT', hoff, hst, hk1, hk2, hm⟩ - off2 F7 N7
    have hv' : vs[i]? = some v := by simpa using hv
    obtain ⟨n1, t1, rfl, e1⟩ := IntsAre.at hi i v hv'
    replace F7 := fr_turn2 F7 (fun y _ hz => hm y ‹_› hz)
    have hokn := hok i n1 e1
    have hvl : vs'.length ≤ 64 := by rw [hst.length, List.length_reverse]; exact Nat.le_trans (run_len x y _) (Nat.le_trans (List.length_take_le _ _) (Nat.le_trans (Nat.le_of_lt (by simpa [hi.length] using hlt)) hn))
    have hID : @Ne Nat I dP := Ne.symm (off2 _ List.mem_cons_self)
    have hrest : ∀ p ∈ (d2, o4) :: (L1 + 1, oc1) :: tl', p.1 ≠ dP := List.forall_mem_cons.mpr ⟨Nat.ne_of_lt gP2, List.forall_mem_cons.mpr ⟨Nat.ne_of_lt gP1, fun p hp => (hoff p hp).1⟩⟩
    refine toksUp (absQ fun K5 E5 hK5 => ?_)
    have fin : ∀ (h9 : Heap) (k9 : Nat) (m9 : Str → Option Value) (vs2 : List Value) (ep2 : Nat) (z : Int) (u : Tok) (tl2 : List (Addr × Obj)) (l2' : List Int), TabL tl2 → (∀ p ∈ tl2, p.1 ≠ dP ∧ p.1 ≠ d2 ∧ p.1 ≠ L1 + 1) → (∀ p ∈ tl2, p.1 ≠ I) → Fr (hideAll s.heap (tl.map (·.1))) L1 h9 m9 → (∀ y : Str, y ≠ "number" → y ≠ "upper" → m9 y = fm [("pile", .ref dP), ("deeds", .ref d2), ("row", .ref l)] y) →
        News (hideAll s.heap (tl.map (·.1))) L1 h9 ((I, oI) :: (dP, listOf (vs2 ++ [Value.int z u]).toArray ep2) :: (d2, o4) :: (L1 + 1, oc1) :: tl2) → IntsAre vs2 l2' → stepM x y (runM x y (ns.take i)) n1 = z :: l2'.reverse → (n1 < 256 → s.toks ≤ u ∧ u < k9) → K5 .next { s with heap := h9, toks := k9 } := by
      intro h9 k9 m9 vs2 ep2 z u tl2 l2' t1 t2 t3 F9 e9 N9 i9 r9 u9
      refine hK5 _ _ fun k9' => ForEnd.next (news₂ := (dP, listOf (vs2 ++ [Value.int z u]).toArray ep2) :: (d2, o4) :: (L1 + 1, oc1) :: tl2) F9 N9 (List.forall_mem_cons.mpr ⟨Ne.symm hID, List.forall_mem_cons.mpr ⟨off2 _ (List.mem_cons_of_mem _ List.mem_cons_self), List.forall_mem_cons.mpr ⟨off2 _ (List.mem_cons_of_mem _ (List.mem_cons_of_mem _ List.mem_cons_self)), t3⟩⟩⟩) (.inl hl0) ⟨_, _, _, rfl, t1, t2, ?_, Nat.le_trans hk1 k9', ?_, e9⟩
      · rw [List.take_add_one, e1, runM, List.foldl_append]
        show IntsAre _ (stepM x y (runM x y (ns.take i)) n1).reverse
        rw [r9, List.reverse_cons, List.reverse_reverse]
        exact ints_snoc i9 _ _
      · intro n _ hn' hlt z' u' hz
        rw [Nat.add_sub_cancel, e1] at hn'
        cases hn'
        rw [List.getLast?_append] at hz
        cases hz
        exact u9 hlt
    k_steps
    k_dflt (refine' Stop.go (toksUp (isnt_c _ ?cN _ _  ?cB ?cF ?cX ?cT ?cK ?cD ?cU ?_)); (case cN => k_asm); (case cB => k_asm); (case cF => k_asm); (case cX => k_asm); (case cT => k_asm); (case cK => first | assumption | exact rfl); (case cD => ktr_room); (case cU => ktr_units); skip; intro h' tk' F' N' u3; (try dsimp only); (try k_fold))
    walk1
    walk1
    · rename_i hge
      have hnlt : ¬ n1 < 256 := Int.not_lt.mpr hge
      k_steps
      refine Stop.go (getMethod_append_N N' (List.mem_cons_of_mem _ List.mem_cons_self) ?_)
      rcases hT' with rfl | ⟨cA, oc, cvs, ct, rfl, hB1, hB2⟩
      · have n3 : @Ne Nat dP 119 := Ne.symm (hoff _ List.mem_cons_self).1
        have n4 : @Ne Nat d2 119 := Ne.symm (hoff _ List.mem_cons_self).2.1
        have n5 : @Ne Nat (L1 + 1) 119 := Ne.symm (hoff _ List.mem_cons_self).2.2
        have n6 : @Ne Nat I 119 := Ne.symm (off2 _ (List.mem_cons_of_mem _ (List.mem_cons_of_mem _ (List.mem_cons_of_mem _ List.mem_cons_self))))
        k_steps
        · rename_i h258 fA cA ocA cvsA tA ctA hA kA FA NA dA1 dA2 lA1 lA2
          replace dA2 : cvsA[1]? = some (.str "_law_value.<locals>.<lambda>" tA) := by with_unfolding_all exact dA2
          k_dflt (refine' Stop.go (gni_c _ NA (n1 - 256) _ ?i0 ?i2 fA cA (L1 + 1) l2 _ _ _ _ _ _ _ _ _ _ _ List.mem_cons_self ?mC dA1 dA2 ?mA hc1 x y tx ty (.inl hl20) ?cB ?cF ?cX ?cT ?cK ?cD ?cU ?_); (case i0 => exact Int.sub_nonneg.mpr hge); (case i2 => exact Int.sub_right_lt_of_lt_add (show n1 < 2 + 256 from h258)); (case mC => k_mem); (case mA => k_mem); (case cB => k_asm); (case cF => k_asm); (case cX => k_asm); (case cT => k_asm); (case cK => first | assumption | exact rfl); (case cD => ktr_room); (case cU => ktr_units); intro T u h11 k11 F11 N11; (try dsimp only); (try k_fold))
          k_steps
          replace N11 : News (hideAll s.heap (tl.map (·.1))) L1 h11 ((I, oI) :: (dP, listOf vs'.toArray ep) :: (d2, o4) :: (L1 + 1, oc1) :: [(119, tabObj #[rawInt 108, rawInt 53, .ref cA]), (cA, ocA)]) := List.forall_mem_cons.mpr ⟨N11 _ (List.mem_cons_of_mem _ (List.mem_cons_of_mem _ (List.mem_cons_of_mem _ (List.mem_cons_self)))), List.forall_mem_cons.mpr ⟨N11 _ (List.mem_cons_of_mem _ (List.mem_cons_of_mem _ (List.mem_cons_of_mem _ (List.mem_cons_of_mem _ (List.mem_cons_self))))), List.forall_mem_cons.mpr ⟨N11 _ (List.mem_cons_of_mem _ (List.mem_cons_of_mem _ (List.mem_cons_of_mem _ (List.mem_cons_of_mem _ (List.mem_cons_of_mem _ (List.mem_cons_self)))))), List.forall_mem_cons.mpr ⟨N11 _ (List.mem_cons_of_mem _ (List.mem_cons_of_mem _ (List.mem_cons_of_mem _ (List.mem_cons_of_mem _ (List.mem_cons_of_mem _ (List.mem_cons_of_mem _ (List.mem_cons_self))))))), List.forall_mem_cons.mpr ⟨N11 _ (List.mem_cons_of_mem _ (List.mem_cons_of_mem _ (List.mem_cons_of_mem _ (List.mem_cons_of_mem _ (List.mem_cons_of_mem _ (List.mem_cons_of_mem _ (List.mem_cons_of_mem _ (List.mem_cons_self)))))))), List.forall_mem_cons.mpr ⟨N11 _ (List.mem_cons_of_mem _ (List.mem_cons_of_mem _ (List.mem_cons_self))), List.forall_mem_nil _⟩⟩⟩⟩⟩⟩
          have offs : ∀ p ∈ [(119, tabObj #[rawInt 108, rawInt 53, .ref cA]), (cA, ocA)], p.1 ≠ dP ∧ p.1 ≠ d2 ∧ p.1 ≠ L1 + 1 := List.forall_mem_cons.mpr ⟨⟨Ne.symm n3, Ne.symm n4, Ne.symm n5⟩, List.forall_mem_cons.mpr ⟨⟨Nat.ne_of_gt lA1.2.1, Nat.ne_of_gt lA1.2.2.1, Nat.ne_of_gt lA1.2.2.2.1⟩, List.forall_mem_nil _⟩⟩
          have offI : ∀ p ∈ [(119, tabObj #[rawInt 108, rawInt 53, .ref cA]), (cA, ocA)], p.1 ≠ I := List.forall_mem_cons.mpr ⟨Ne.symm n6, List.forall_mem_cons.mpr ⟨Nat.ne_of_gt lA1.1, List.forall_mem_nil _⟩⟩
          refine Stop.go (append_second F11 N11 hID (List.forall_mem_cons.mpr ⟨Nat.ne_of_lt gP2, List.forall_mem_cons.mpr ⟨Nat.ne_of_lt gP1, fun p hp => (offs p hp).1⟩⟩) (fun h9 F9 N9 => ?_) (Nat.le_trans (by rw [List.size_toArray]; exact hvl) (by decide : 64 ≤ sizeLine)))
          rw [List.push_toArray] at N9
          dsimp only
          k_steps
          exact fin h9 _ _ vs' _ _ _ _ _ (.inr ⟨cA, ocA, cvsA, tA, rfl, dA1, dA2⟩) offs offI F9 (fun y hy hz => by simp only [if_neg hy, if_neg hz]) N9 hst (by rw [List.reverse_reverse, step_hi hge, if_pos h258]) (fun h => absurd h hnlt)
        · rename_i h258
          refine Stop.go (append_second F' N' hID hrest (fun h9 F9 N9 => ?_) (Nat.le_trans (by rw [List.size_toArray]; exact hvl) (by decide : 64 ≤ sizeLine)))
          rw [List.push_toArray] at N9
          dsimp only
          k_steps
          exact fin h9 _ _ vs' _ _ _ _ _ (.inl rfl) hoff (fun p hp => off2 p (List.mem_cons_of_mem _ (List.mem_cons_of_mem _ (List.mem_cons_of_mem _ hp)))) F9 (fun y hy hz => by simp only [if_neg hy, if_neg hz]) N9 hst (by rw [List.reverse_reverse, step_hi hge, if_neg h258]) (fun h => absurd h hnlt)
      · k_steps
        · rename_i h258 fA ctA hA kA FA NA lA1
          k_dflt (refine' Stop.go (gni_c _ NA (n1 - 256) _ ?i0 ?i2 fA cA (L1 + 1) l2 _ _ _ _ _ _ _ _ _ _ _ List.mem_cons_self ?mC hB1 hB2 ?mA hc1 x y tx ty (.inl hl20) ?cB ?cF ?cX ?cT ?cK ?cD ?cU ?_); (case i0 => exact Int.sub_nonneg.mpr hge); (case i2 => exact Int.sub_right_lt_of_lt_add (show n1 < 2 + 256 from h258)); (case mC => k_mem); (case mA => k_mem); (case cB => k_asm); (case cF => k_asm); (case cX => k_asm); (case cT => k_asm); (case cK => first | assumption | exact rfl); (case cD => ktr_room); (case cU => ktr_units); intro T u h11 k11 F11 N11; (try dsimp only); (try k_fold))
          k_steps
          replace N11 : News (hideAll s.heap (tl.map (·.1))) L1 h11 ((I, oI) :: (dP, listOf vs'.toArray ep) :: (d2, o4) :: (L1 + 1, oc1) :: [(119, tabObj #[rawInt 108, rawInt 53, .ref cA]), (cA, oc)]) := fun p hp => N11 p (List.mem_cons_of_mem _ (List.mem_cons_of_mem _ hp))
          have offs : ∀ p ∈ [(119, tabObj #[rawInt 108, rawInt 53, .ref cA]), (cA, oc)], p.1 ≠ dP ∧ p.1 ≠ d2 ∧ p.1 ≠ L1 + 1 := hoff
          have offI : ∀ p ∈ [(119, tabObj #[rawInt 108, rawInt 53, .ref cA]), (cA, oc)], p.1 ≠ I := fun p hp => off2 p (List.mem_cons_of_mem _ (List.mem_cons_of_mem _ (List.mem_cons_of_mem _ hp)))
          refine Stop.go (append_second F11 N11 hID (List.forall_mem_cons.mpr ⟨Nat.ne_of_lt gP2, List.forall_mem_cons.mpr ⟨Nat.ne_of_lt gP1, fun p hp => (offs p hp).1⟩⟩) (fun h9 F9 N9 => ?_) (Nat.le_trans (by rw [List.size_toArray]; exact hvl) (by decide : 64 ≤ sizeLine)))
          rw [List.push_toArray] at N9
          dsimp only
          k_steps
          exact fin h9 _ _ vs' _ _ _ _ _ (.inr ⟨cA, oc, cvs, ct, rfl, hB1, hB2⟩) offs offI F9 (fun y hy hz => by simp only [if_neg hy, if_neg hz]) N9 hst (by rw [List.reverse_reverse, step_hi hge, if_pos h258]) (fun h => absurd h hnlt)
        · rename_i h258
          refine Stop.go (append_second F' N' hID hrest (fun h9 F9 N9 => ?_) (Nat.le_trans (by rw [List.size_toArray]; exact hvl) (by decide : 64 ≤ sizeLine)))
          rw [List.push_toArray] at N9
          dsimp only
          k_steps
          exact fin h9 _ _ vs' _ _ _ _ _ (.inr ⟨cA, oc, cvs, ct, rfl, hB1, hB2⟩) hoff (fun p hp => off2 p (List.mem_cons_of_mem _ (List.mem_cons_of_mem _ (List.mem_cons_of_mem _ hp)))) F9 (fun y hy hz => by simp only [if_neg hy, if_neg hz]) N9 hst (by rw [List.reverse_reverse, step_hi hge, if_neg h258]) (fun h => absurd h hnlt)
    · rename_i hlt1
      walk1
      refine wpAny_If (toksUp (absQ fun K6 E6 hK6 => ?_))
      k_steps
      refine hK6 _ _ fun u4 => ?_
      dsimp only
      refine withToks (P := fun k => ite _ (wpAny _ _ _ _ _ { s with heap := h', toks := k }) (wpAny _ _ _ _ _ { s with heap := h', toks := k })) u4 u3 fun tkC UC => ?_
      walk1
      · rename_i h255
        obtain ⟨a, r, hr⟩ : ∃ a r, runM x y (ns.take i) = a :: r := by
          rcases hokn with h | ⟨_, a, r, h⟩ | ⟨_, a, b, r, h, _⟩
          · exact absurd h hlt1
          · exact ⟨a, r, h⟩
          · exact ⟨a, b :: r, h⟩
        rw [hr, List.reverse_cons] at hst
        obtain ⟨vs0, ta, rfl, hst0⟩ := ints_last hst
        k_steps
        refine Stop.go (getMethod_append_N N' (List.mem_cons_of_mem _ List.mem_cons_self) ?_)
        k_steps
        refine Stop.go (kl_method N' (List.mem_cons_of_mem _ List.mem_cons_self) PySem.F.slot_list_pop PySem.F.type_list_pop ?_)
        k_steps
        refine Stop.go (kl_pop F' N' (kpa_last _ _) (Upd.tail hID (Upd.head hrest)) (Nat.le_trans (show _ ≤ 64 from by simpa using hvl) (by decide)) fun h8 F8 N8 => ?_)
        dsimp only
        k_steps
        k_dflt (refine' Stop.go (inv_c _ ?cN _ _  ?cB ?cF ?cX ?cT ?cK ?cD ?cU ?_); (case cN => k_asm); (case cB => k_asm); (case cF => k_asm); (case cX => k_asm); (case cT => k_asm); (case cK => first | assumption | exact rfl); (case cD => ktr_room); (case cU => ktr_units); skip; intro t' h' tk' q1 q2 F' N'; (try dsimp only); (try k_fold))
        k_steps
        refine Stop.go (append_second F' N' hID hrest (fun h9 F9 N9 => ?_) (show vs0.toArray.size ≤ sizeLine from Nat.le_trans (by simp at hvl; simp; omega) (by decide : 64 ≤ sizeLine)))
        rw [List.push_toArray] at N9
        dsimp only
        k_steps
        exact fin h9 _ _ vs0 _ _ _ tl' r.reverse hT' hoff (fun p hp => off2 p (List.mem_cons_of_mem _ (List.mem_cons_of_mem _ (List.mem_cons_of_mem _ hp)))) F9 (fun y hy hz => by simp only [if_neg hy, if_neg hz]) N9 hst0 (by rw [hr, h255, List.reverse_reverse]; rfl) (fun _ => ⟨Nat.le_trans (Nat.le_trans hk1 UC) q1, q2⟩)
      · rename_i hop
        obtain ⟨hn3, a, b, r, hr, hmul⟩ : (n1 = 238 ∨ n1 = 239 ∨ n1 = 240) ∧ ∃ a b r, runM x y (ns.take i) = a :: b :: r ∧ (n1 = 240 → IntMulOk b a) := by
          rcases hokn with h | ⟨h, _⟩ | h
          · exact absurd h hlt1
          · exact absurd h hop
          · exact h
        rw [hr, List.reverse_cons, List.reverse_cons] at hst
        obtain ⟨vs1, ta, rfl, hst1⟩ := ints_last hst
        obtain ⟨vs0, tb, rfl, hst0⟩ := ints_last hst1
        have hv2 : (vs0 ++ [Value.int b tb]).length + 1 ≤ 64 := by simpa using hvl
        have hv4 : vs0.toArray.size ≤ 64 := by simp at hv2; simp; omega
        walk1
        refine toksUp (absQ fun K7 E7 hK7 => ?_)
        k_steps
        refine Stop.go (kl_method N' (List.mem_cons_of_mem _ List.mem_cons_self) PySem.F.slot_list_pop PySem.F.type_list_pop ?_)
        k_steps
        refine Stop.go (kl_pop F' N' (kpa_last _ _) (Upd.tail hID (Upd.head hrest)) (Nat.le_trans (show _ ≤ 64 from by simpa using hvl) (by decide)) fun h8 F8 N8 => ?_)
        dsimp only
        k_steps
        rename_i h9 F9 N9
        refine hK7 _ _ fun u5 => ?_
        dsimp only
        refine withToks (P := fun k => wpAny _ _ _ _ _ { s with heap := h9, toks := k }) u5 UC fun tkD UD => ?_
        k_steps
        refine Stop.go (getMethod_append_N N9 (List.mem_cons_of_mem _ List.mem_cons_self) ?_)
        k_steps
        have mD : (d2, o4) ∈ (I, oI) :: (dP, listOf (vs0 ++ [Value.int b tb]).toArray (ep + 1)) :: (d2, o4) :: (L1 + 1, oc1) :: tl' := List.mem_cons_of_mem _ (List.mem_cons_of_mem _ List.mem_cons_self)
        rcases hn3 with rfl | rfl | rfl
        · refine Stop.go (kda_item N9 mD hd4 (intKind_is _ w _ _) rfl ?_)
          k_steps
          refine Stop.go (kl_method N9 (List.mem_cons_of_mem _ List.mem_cons_self) PySem.F.slot_list_pop PySem.F.type_list_pop ?_)
          k_steps
          refine Stop.go (kl_pop F9 N9 (kpa_last _ _) (Upd.tail hID (Upd.head hrest)) (Nat.le_trans (by simp only [List.toList_toArray]; exact Nat.le_of_succ_le hv2) (by decide)) fun hA FA NA => ?_)
          dsimp only
          k_steps
          k_dflt (refine' Stop.go (add_c _ ?cN _ _ _ _  ?cB ?cF ?cX ?cT ?cK ?cD ?cU ?_); (case cN => k_asm); (case cB => k_asm); (case cF => k_asm); (case cX => k_asm); (case cT => k_asm); (case cK => first | assumption | exact rfl); (case cD => ktr_room); (case cU => ktr_units); skip; intro t' h' tk' q1 q2 F' N'; (try dsimp only); (try k_fold))
          k_steps
          refine Stop.go (append_second F' N' hID hrest (fun hB FB NB => ?_) (show vs0.toArray.size ≤ sizeLine from Nat.le_trans hv4 (by decide)))
          rw [List.push_toArray] at NB
          dsimp only
          k_steps
          exact fin hB _ _ vs0 _ _ _ tl' r.reverse hT' hoff (fun p hp => off2 p (List.mem_cons_of_mem _ (List.mem_cons_of_mem _ (List.mem_cons_of_mem _ hp)))) FB (fun y hy hz => by simp only [if_neg hy, if_neg hz]) NB hst0 (by rw [hr, List.reverse_reverse]; rfl) (fun _ => ⟨Nat.le_trans (Nat.le_trans hk1 (Nat.le_trans UD (Nat.le_succ _))) q1, q2⟩)
        · refine Stop.go (kda_item N9 mD hd4 (intKind_is _ w _ _) rfl ?_)
          k_steps
          refine Stop.go (kl_method N9 (List.mem_cons_of_mem _ List.mem_cons_self) PySem.F.slot_list_pop PySem.F.type_list_pop ?_)
          k_steps
          refine Stop.go (kl_pop F9 N9 (kpa_last _ _) (Upd.tail hID (Upd.head hrest)) (Nat.le_trans (by simp only [List.toList_toArray]; exact Nat.le_of_succ_le hv2) (by decide)) fun hA FA NA => ?_)
          dsimp only
          k_steps
          k_dflt (refine' Stop.go (sub_c _ ?cN _ _ _ _  ?cB ?cF ?cX ?cT ?cK ?cD ?cU ?_); (case cN => k_asm); (case cB => k_asm); (case cF => k_asm); (case cX => k_asm); (case cT => k_asm); (case cK => first | assumption | exact rfl); (case cD => ktr_room); (case cU => ktr_units); skip; intro t' h' tk' q1 q2 F' N'; (try dsimp only); (try k_fold))
          k_steps
          refine Stop.go (append_second F' N' hID hrest (fun hB FB NB => ?_) (show vs0.toArray.size ≤ sizeLine from Nat.le_trans hv4 (by decide)))
          rw [List.push_toArray] at NB
          dsimp only
          k_steps
          exact fin hB _ _ vs0 _ _ _ tl' r.reverse hT' hoff (fun p hp => off2 p (List.mem_cons_of_mem _ (List.mem_cons_of_mem _ (List.mem_cons_of_mem _ hp)))) FB (fun y hy hz => by simp only [if_neg hy, if_neg hz]) NB hst0 (by rw [hr, List.reverse_reverse]; rfl) (fun _ => ⟨Nat.le_trans (Nat.le_trans hk1 (Nat.le_trans UD (Nat.le_succ _))) q1, q2⟩)
        · refine Stop.go (kda_item N9 mD hd4 (intKind_is _ w _ _) rfl ?_)
          k_steps
          refine Stop.go (kl_method N9 (List.mem_cons_of_mem _ List.mem_cons_self) PySem.F.slot_list_pop PySem.F.type_list_pop ?_)
          k_steps
          refine Stop.go (kl_pop F9 N9 (kpa_last _ _) (Upd.tail hID (Upd.head hrest)) (Nat.le_trans (by simp only [List.toList_toArray]; exact Nat.le_of_succ_le hv2) (by decide)) fun hA FA NA => ?_)
          dsimp only
          k_steps
          k_dflt (refine' Stop.go (mul_c _ ?cN _ _ _ _ ?cM ?cB ?cF ?cX ?cT ?cK ?cD ?cU ?_); (case cN => k_asm); (case cB => k_asm); (case cF => k_asm); (case cX => k_asm); (case cT => k_asm); (case cK => first | assumption | exact rfl); (case cD => ktr_room); (case cU => ktr_units); (case cM => exact hmul rfl); intro t' h' tk' q1 q2 F' N'; (try dsimp only); (try k_fold))
          k_steps
          refine Stop.go (append_second F' N' hID hrest (fun hB FB NB => ?_) (show vs0.toArray.size ≤ sizeLine from Nat.le_trans hv4 (by decide)))
          rw [List.push_toArray] at NB
          dsimp only
          k_steps
          exact fin hB _ _ vs0 _ _ _ tl' r.reverse hT' hoff (fun p hp => off2 p (List.mem_cons_of_mem _ (List.mem_cons_of_mem _ (List.mem_cons_of_mem _ hp)))) FB (fun y hy hz => by simp only [if_neg hy, if_neg hz]) NB hst0 (by rw [hr, List.reverse_reverse]; rfl) (fun _ => ⟨Nat.le_trans (Nat.le_trans hk1 (Nat.le_trans UD (Nat.le_succ _))) q1, q2⟩)
  · rintro h9 tk9 m9 nw9 F9 N9 - ⟨vs', ep, tl', rfl, hT', hoff, hst, hk1, hk2, hm⟩
    replace F9 := fr_done2 F9 hm
    rw [List.size_toArray, List.take_of_length_le (Nat.le_of_eq hi.length.symm), hv] at hst
    obtain ⟨v0, u0, rfl, h0⟩ := ints_last (l := []) (a := v) hst
    cases h0
    have hl9 : h9.IsList dP #[Value.int v u0] := ⟨_, (N9 _ List.mem_cons_self).1, rfl, _, rfl⟩
    k_steps
    refine Stop.go (item_at hl9 ?_)
    k_steps
    refine hK _ _ ?_
    k_steps
    obtain ⟨n0, hn0, hn1⟩ := hlast
    have hpos : 0 < vs.toArray.size := by
      rw [List.size_toArray, hi.length]
      cases ns with
      | nil => simp at hn0
      | cons => exact Nat.succ_pos _
    obtain ⟨p1, p2⟩ := hk2 n0 hpos (by rw [List.size_toArray, hi.length]; exact hn0) hn1 v u0 rfl
    obtain ⟨a1, a2⟩ := ret_hide F N off F9 N9 (tl' := tl') fun p hp => List.mem_cons_of_mem _ (List.mem_cons_of_mem _ (List.mem_cons_of_mem _ hp))
    have offN : ∀ p ∈ tl', ∀ q ∈ news, q.1 ≠ p.1 := fun p hp q hq e => by
      have z := (N9 p (List.mem_cons_of_mem _ (List.mem_cons_of_mem _ (List.mem_cons_of_mem _ hp)))).2.2
      have y : (hideAll s.heap (tl.map (·.1))).get? q.1 = some q.2 := hideAll_get _ (N q (List.mem_append_right _ hq)).1 fun hm => by
        obtain ⟨r, hr, e2⟩ := List.mem_map.mp hm
        exact off r hr q hq e2.symm
      rw [e, z] at y; cases y
    exact hret u0 tl' _ _ hT' a1 a2 offN p1 (Nat.lt_succ_of_lt p2)
end Mine
end SC7
section SC9
open PySem.Calls
namespace Mine
def vloop (val b : Int) : List Int → Option (Int × List Int)
  | [] => if Builtin.bitAnd b 64 = 0 then some (val, []) else none
  | c :: r => if Builtin.bitAnd b 64 = 0 then some (val, c :: r) else if val.natAbs < 1048576 then vloop (Builtin.bitOr (val * 2 ^ Int.toNat 6) (Builtin.bitAnd c 63)) c r else none
def varint : List Int → Option (Int × List Int)
  | [] => none
  | b :: r => vloop (Builtin.bitAnd b 63) b r
theorem drop_at {vs : List Value} {ns : List Int} (hi : IntsAre vs ns) {i : Nat} {b : Int} {r : List Int} (h : ns.drop i = b :: r) : ∃ t, vs.toArray[i]? = some (.int b t) ∧ ns.drop (i + 1) = r := by
  have e : ns[i]? = some b := by rw [← List.head?_drop, h]; rfl
  obtain ⟨t, ht⟩ := hi.get i b e
  exact ⟨t, by simpa using ht, by rw [← List.tail_drop, h]; rfl⟩
theorem cells_nil {cm : Str → Option Value} {cells : List (Addr × Obj)} (x : CellsAre cm [] cells) : cells = [] := by cases x; rfl
theorem parse_c {w : World} {p : Program} {loose : List Str} {mean : ExcName → Option Value} {mg mb : Str → Option Value}
  {dp un : Nat} {gd : Option (List Code)} {cn : Str} {cs : Scope} {a : Addr} {ccd : Value} {cl : List (Str × Addr)} {outer : List Env} {A₀ : Around} {base h₀ : Heap} {L : Addr} {m : Str → Option Value} {s : Shared} {Q E : Value → Shared → Prop} (it l : Addr) (i : Nat) (oI : Obj) (hI : ItO oI l i) (vs : List Value) (ns : List Int) (news : List (Addr × Obj)) (N : News h₀ L s.heap ((it, oI) :: news)) (hl : LCg.SrcAt h₀ l vs.toArray news) (hoff : ∀ p ∈ [(it, oI)], ∀ q ∈ news, q.1 ≠ p.1) (hi : IntsAre vs ns) (v : Int) (j : Nat) (hv : varint (ns.drop i) = some (v, ns.drop j))
  (B : Below A₀ base outer h₀) (F : Fr h₀ L s.heap m) (X : (lay.heap_1 w.params).In h₀) (T : Top p loose mean mg mb h₀) (hk : cs.kind = .function)
  (hd1 : dp + 4 < recursionLimit) (hu : un + 40 < cLine)
  (hret : ∀ t k oI' h' tk', ns.drop k = ns.drop j → ItO oI' l k → Fr h₀ L h' m → News h₀ L h' ((it, oI') :: news) → Q (.int v t) { s with heap := h', toks := tk' }) :
  wpAny (model PySem.Challenge.rw_kl0095_01.row.prog w) (ktrTop dp un gd cn cs L a ccd cl outer) (call (.ref 93) [.ref it]) Q E s := by
  revert X; k_fill; intro X
  refine wpAny_call ?_
  k_dflt (refine' enterC (mu := [(it, oI)]) ?k1 ?k2 ?k3 ?kN ?k5 ?kA ?kF ?kK ?k6 ?k7 ?k8 ?k9 ?kB ?kD ?_ ?c2 ?c3 ?c4; (case kA => exact rfl); (case kF => exact rfl); (case kK => assumption); (case k1 => k_asm); (case k2 => k_asm); (case k3 => k_asm); (case kN => exact fun p hp => N p (List.mem_cons.mpr (.inl (List.mem_singleton.mp hp)))); (case k5 => k_asm); (case k6 => k_is); (case k7 => k_is); (case k8 => ktr_room); (case k9 => exact BindsTo.of_eq rfl); (case kB => exact rfl); (case kD => decide); (case c2 => exact rfl); (case c3 => exact rfl); (case c4 => exact rfl); k_whole; intro L1 h1 tk1 cells1 U1 F1 N1 Y1 B1 X1 T1 M1; (try dsimp only))
  obtain rfl := cells_nil Y1
  replace F1 : Fr (hideAll s.heap [it]) L1 h1 (fm [("iterator", .ref it)]) := by with_unfolding_all exact F1
  replace N1 : News (hideAll s.heap [it]) L1 h1 [(it, oI)] := by with_unfolding_all exact N1
  clear Y1
  replace B1 : Below _ _ _ (hideAll s.heap [it]) := B1
  replace X1 : Frag.In _ (hideAll s.heap [it]) := X1
  replace T1 : Top _ _ _ _ _ (hideAll s.heap [it]) := T1
  have hl0 : (hideAll s.heap [it]).IsList l vs.toArray := srcHide (tl := [(it, oI)]) hl F N hoff
  refine absQ fun K E2 hK => ?_
  k_steps
  cases hd0 : ns.drop i with
  | nil => rw [hd0] at hv; cases hv
  | cons b0 r0 =>
  rw [hd0] at hv
  obtain ⟨t0, hb0, hr0⟩ := drop_at hi hd0
  refine Stop.go (next_led F1 N1 (List.forall_mem_nil _) hI (hl0.at fun o e => F1.keep _ _ e) (x := .int b0 t0) hb0 fun h2 oI2 hI2 F2 N2 => ?_)
  dsimp only
  k_steps
  rename_i h3 F3 N3
  refine Stop.go (whileU (fun n s' => ∀ P : Prop, (∀ h' tk k val b tv tb oI', s' = { s with heap := h', toks := tk } → Fr (hideAll s.heap [it]) L1 h' (fm [("val", .int val tv), ("b", .int b tb), ("iterator", .ref it)]) → News (hideAll s.heap [it]) L1 h' [(it, oI')] → ItO oI' l k → n = ns.length - k → vloop val b (ns.drop k) = some (v, ns.drop j) → P) → P) ?_ (ns.length - (i + 1)) (fun P kk => kk h3 _ (i + 1) _ _ _ _ oI2 rfl F3 N3 hI2 rfl (by rw [hr0]; exact hv)))
  intro n s' E' hJ
  refine hJ _ fun h4 tk4 k val b tv tb oI4 e F4 N4 hI4 hn hv4 => ?_
  subst e
  refine absQ fun K3 E3 hK3 => ?_
  k_steps
  refine hK3 _ _ ?_
  by_cases hz : Builtin.bitAnd b 64 = 0
  · rw [hz, if_neg (by decide)]
    have hv5 : v = val ∧ ns.drop k = ns.drop j := by
      cases hd : ns.drop k with
      | nil => rw [hd, vloop, if_pos hz] at hv4; exact ⟨(Prod.mk.inj (Option.some.inj hv4)).1.symm, (Prod.mk.inj (Option.some.inj hv4)).2⟩
      | cons c r => rw [hd, vloop, if_pos hz] at hv4; exact ⟨(Prod.mk.inj (Option.some.inj hv4)).1.symm, (Prod.mk.inj (Option.some.inj hv4)).2⟩
    obtain ⟨rfl, hkj⟩ := hv5
    k_steps
    refine hK _ _ ?_
    k_steps
    obtain ⟨a1, a2⟩ := ret_hide (tl := [(it, oI)]) (tl' := [(it, oI4)]) F N hoff F4 N4 fun p hp => hp
    exact hret _ k oI4 _ _ hkj hI4 a1 a2
  · rw [if_pos (by simpa using hz)]
    cases hd : ns.drop k with
    | nil => rw [hd, vloop, if_neg hz] at hv4; cases hv4
    | cons c r =>
    by_cases hsm : val.natAbs < 1048576
    · rw [hd, vloop, if_neg hz, if_pos hsm] at hv4
      obtain ⟨tc, hbc, hrc⟩ := drop_at hi hd
      have hbb : Builtin.Int.intBits val ≤ 20 := intBits_le_iff.mpr hsm
      refine absQ fun K5 E5 hK5 => ?_
      k_steps
      rename_i h6 F6 N6
      refine Stop.go (next_led F6 N6 (List.forall_mem_nil _) hI4 (hl0.at fun o e => F6.keep _ _ e) (x := .int c tc) hbc fun h7 oI7 hI7 F7 N7 => ?_)
      dsimp only
      k_steps
      rename_i h8 F8 N8
      have hlen : ns.length - k = r.length + 1 := by rw [← List.length_drop, hd]; rfl
      refine hK5 _ _ ⟨ns.length - (k + 1), by rw [hn, Nat.sub_add_eq, hlen]; exact Nat.lt_succ_self _, fun P kk => kk _ _ (k + 1) _ _ _ tc oI7 rfl (fr_turn F8 fun y hy => ?_) N8 hI7 rfl (by rw [hrc]; exact hv4)⟩
      simp only [fm, if_neg hy]
      split <;> rfl
    · rw [hd, vloop, if_neg hz, if_neg hsm] at hv4; cases hv4
end Mine
end SC9
section SC10
open PySem.Calls
namespace Mine
def reads (ns : List Int) : List Int → Nat → Prop
  | [], i => ∃ j, varint (ns.drop i) = some (0, ns.drop j)
  | n :: r, i => n ≠ 0 ∧ ∃ j, varint (ns.drop i) = some (n, ns.drop j) ∧ reads ns r j
theorem reads_open {ns rows : List Int} {i : Nat} (h : reads ns rows i) : ∃ v j, varint (ns.drop i) = some (v, ns.drop j) ∧ ((rows = [] ∧ v = 0) ∨ ∃ r, rows = v :: r ∧ v ≠ 0 ∧ reads ns r j) := by
  cases rows with
  | nil => obtain ⟨j, h⟩ := h; exact ⟨0, j, h, .inl ⟨rfl, rfl⟩⟩
  | cons n r => obtain ⟨h0, j, h1, h2⟩ := h; exact ⟨n, j, h1, .inr ⟨r, rfl, h0, h2⟩⟩
theorem reads_eq {ns rows : List Int} {j k : Nat} (e : ns.drop k = ns.drop j) (h : reads ns rows j) : reads ns rows k := by
  cases rows with
  | nil => obtain ⟨i, h⟩ := h; exact ⟨i, by rw [e]; exact h⟩
  | cons n r => obtain ⟨h0, i, h1, h2⟩ := h; exact ⟨h0, i, by rw [e]; exact h1, h2⟩
theorem read_c {w : World} {p : Program} {loose : List Str} {mean : ExcName → Option Value} {mg mb : Str → Option Value}
  {dp un : Nat} {gd : Option (List Code)} {cn : Str} {cs : Scope} {a : Addr} {ccd : Value} {cl : List (Str × Addr)} {outer : List Env} {A₀ : Around} {base h₀ : Heap} {L : Addr} {m : Str → Option Value} {s : Shared} {Q E : Value → Shared → Prop} (l : Addr) (vs : List Value) (ns : List Int) (news : List (Addr × Obj)) (N : News h₀ L s.heap news) (hl : LCg.SrcAt h₀ l vs.toArray news) (hi : IntsAre vs ns) (rows : List Int) (hr : reads ns rows 0) (hrl : rows.length ≤ 64)
  (B : Below A₀ base outer h₀) (F : Fr h₀ L s.heap m) (X : (lay.heap_1 w.params).In h₀) (T : Top p loose mean mg mb h₀) (hk : cs.kind = .function)
  (hd1 : dp + 6 < recursionLimit) (hu : un + 60 < cLine)
  (hret : ∀ a ws h' tk', IntsAre ws rows → Fr h₀ L h' m → News h₀ L h' ((a, LCg.lst ws) :: news) → (∀ p ∈ news, p.1 ≠ a) → Q (.ref a) { s with heap := h', toks := tk' }) :
  wpAny (model PySem.Challenge.rw_kl0095_01.row.prog w) (ktrTop dp un gd cn cs L a ccd cl outer) (call (.ref 117) [.ref l]) Q E s := by
  revert X; k_fill; intro X
  refine wpAny_call ?_
  k_dflt (refine' enter0 ?k1 ?k2 ?k3 ?k5 ?kA ?kF ?kK ?k6 ?k7 ?k8 ?k9 ?kB ?_ ?c2 ?c3 ?c4 ?c5; (case kA => exact rfl); (case kF => exact rfl); (case kK => assumption); (case k1 => k_asm); (case k2 => k_asm); (case k3 => k_asm); (case k5 => k_asm); (case k6 => k_is); (case k7 => k_is); (case k8 => ktr_room); (case k9 => exact BindsTo.of_eq rfl); (case c5 => decide); (case kB => exact locs rfl); (case c2 => exact rfl); (case c3 => exact rfl); (case c4 => exact rfl); k_whole; intro L1 h1 tk1 U1 F1 N1 B1 X1 T1; (try dsimp only))
  replace F1 := fr_binds F1 (l := [("octets", .ref l)]) rfl
  have hl0 := hl.list F.keep N
  refine absQ fun K E2 hK => ?_
  k_steps
  refine Stop.go (iter_led F1 N1 (hl0.at fun o e => F1.keep _ _ e) fun I h2 oI hI F2 N2 lt2 => ?_)
  dsimp only
  k_steps
  rename_i dR _ l3 h3 F3 N3
  obtain ⟨v0, j0, hv0, hd0⟩ := reads_open hr
  replace N3 : News s.heap L1 h3 [(dR, LCg.lst []), (I, oI)] := N3
  k_dflt (refine' Stop.go (parse_c I l _ _ hI vs ns [(dR, LCg.lst [])] ?cN ?hl ?ho hi _ _ hv0 ?cB ?cF ?cX ?cT ?cK ?cD ?cU ?_); (case cN => exact fun p hp => N3 p (by simp only [List.mem_cons, List.not_mem_nil, or_false] at hp ⊢; exact hp.symm)); (case hl => exact .inl hl0); (case ho => exact fun p hp q hq => by rw [List.mem_singleton.mp hp, List.mem_singleton.mp hq]; exact Nat.ne_of_gt l3); (case cB => k_asm); (case cF => k_asm); (case cX => k_asm); (case cT => k_asm); (case cK => first | assumption | exact rfl); (case cD => ktr_room); (case cU => ktr_units); intro t4 k4 oI4 h4 tk4 e4 hI4 F4 N4; (try dsimp only); (try k_fold))
  k_steps
  rename_i h5 F5 N5
  refine Stop.go (whileU (fun n s' => ∀ P : Prop, (∀ h' tk ts ps v tv k oI', s' = { s with heap := h', toks := tk } → Fr s.heap L1 h' (fm [("number", .int v tv), ("row", .ref dR), ("tape", .ref I), ("octets", .ref l)]) → News s.heap L1 h' [(I, oI'), (dR, LCg.lst ts)] → ItO oI' l k → IntsAre ts ps → n = rows.length - ps.length → ((ps = rows ∧ v = 0) ∨ ∃ r, rows = ps ++ v :: r ∧ v ≠ 0 ∧ reads ns r k) → P) → P) ?_ rows.length (fun P kk => kk h5 _ [] [] v0 t4 k4 oI4 rfl F5 N5 hI4 .nil rfl (hd0.imp (fun ⟨a, b⟩ => ⟨a.symm, b⟩) fun ⟨r, a, b, c⟩ => ⟨r, a, b, reads_eq e4 c⟩)))
  intro n s' E' hJ
  refine hJ _ fun h6 tk6 ts ps v tv k oI6 e F6 N6 hI6 it hn hs => ?_
  subst e
  refine absQ fun K3 E3 hK3 => ?_
  k_steps
  k_dflt (refine' Stop.go (iseof_c _ ?cN _ _  ?cB ?cF ?cX ?cT ?cK ?cD ?cU ?_); (case cN => k_asm); (case cB => k_asm); (case cF => k_asm); (case cX => k_asm); (case cT => k_asm); (case cK => first | assumption | exact rfl); (case cD => ktr_room); (case cU => ktr_units); skip; intro h' tk' F' N'; (try dsimp only); (try k_fold))
  k_steps
  refine hK3 _ _ ?_
  rcases hs with ⟨rfl, rfl⟩ | ⟨r, hrow, hv, hrd⟩
  · rw [if_neg (by decide)]
    k_steps
    refine hK _ _ ?_
    k_steps
    obtain ⟨a1, a2, a3⟩ := ret_new F N F' N' (List.mem_cons_of_mem _ List.mem_cons_self)
    exact hret dR ts _ _ it a1 a2 a3
  · rw [if_pos (by simp [hv])]
    obtain ⟨v1, j1, hv1, hd1⟩ := reads_open hrd
    have hIR : @Ne Nat I dR := Nat.ne_of_lt l3
    have hps : ps.length ≤ 64 := Nat.le_trans (by rw [hrow, List.length_append]; exact Nat.le_add_right _ _) hrl
    refine absQ fun K5 E5 hK5 => ?_
    k_steps
    refine Stop.go (getMethod_append_N N' (List.mem_cons_of_mem _ List.mem_cons_self) ?_)
    k_steps
    refine Stop.go (append_second F' N' hIR (List.forall_mem_nil _) (fun h8 F8 N8 => ?_) (show ts.toArray.size ≤ sizeLine from Nat.le_trans (by rw [List.size_toArray, it.length]; exact hps) (by decide : 64 ≤ sizeLine)))
    rw [LCg.lst_snoc] at N8
    dsimp only
    k_steps
    k_dflt (refine' Stop.go (parse_c I l _ _ hI6 vs ns [(dR, LCg.lst (ts ++ [.int v tv]))] ?cN ?hl ?ho hi _ _ hv1 ?cB ?cF ?cX ?cT ?cK ?cD ?cU ?_); (case cN => exact N8); (case hl => exact .inl hl0); (case ho => exact fun p hp q hq => by rw [List.mem_singleton.mp hp, List.mem_singleton.mp hq]; exact Nat.ne_of_gt l3); (case cB => k_asm); (case cF => k_asm); (case cX => k_asm); (case cT => k_asm); (case cK => first | assumption | exact rfl); (case cD => ktr_room); (case cU => ktr_units); intro t9 k9 oI9 h9 tk9 e9 hI9 F9 N9; (try dsimp only); (try k_fold))
    k_steps
    rename_i h10 F10 N10
    refine hK5 _ _ ⟨rows.length - (ps ++ [v]).length, ?_, fun P kk => kk _ _ (ts ++ [.int v tv]) (ps ++ [v]) v1 t9 k9 oI9 rfl (fr_turn F10 fun y hy => by simp only [fm, if_neg hy]) N10 hI9 (ints_snoc it _ _) rfl (hd1.imp (fun ⟨a, b⟩ => ⟨by rw [hrow, a], b⟩) fun ⟨r2, a, b, c⟩ => ⟨r2, by rw [hrow, a, List.append_assoc]; rfl, b, reads_eq e9 c⟩)⟩
    rw [hn, hrow]; simp only [List.length_append, List.length_cons, List.length_nil]; omega
end Mine
end SC10
section SLawB
open PySem.Calls
namespace Mine
noncomputable def lawB (P : Params) (n : Nat) : List Stmt := match (lay.heap_1 P).lookup 160 with
  | some ⟨_, _, .func f, _⟩ => (match f.body with | .stmts b => b.drop n | _ => [])
  | _ => []
noncomputable def lawS (P : Params) : Scope := match (lay.heap_1 P).lookup 160 with
  | some ⟨_, _, .func f, _⟩ => f.scope
  | _ => default
def numsF (ns : List Int) : List Int := ns.take 7 ++ [0, 2, 10, 54, 22, 10, -1].drop ns.length
theorem allLt_mem {d : Addr} : ∀ {l : List (Addr × Obj)}, AllLt d l → ∀ p ∈ l, p.1 < d
  | [], _, p, hp => nomatch hp
  | _ :: _, h, p, hp => by
    rcases List.mem_cons.mp hp with rfl | hp
    · exact h.1
    · exact allLt_mem h.2 p hp
/-- the ledger's addresses differ -/
abbrev ND (l : List (Addr × Obj)) : Prop := l.Pairwise fun p q => q.1 ≠ p.1
theorem nd_cons {d : Addr} {o : Obj} {l : List (Addr × Obj)} (h : ∀ q ∈ l, q.1 ≠ d) (D : ND l) : ND ((d, o) :: l) := List.pairwise_cons.mpr ⟨h, D⟩
theorem nd_lt {d : Addr} {o : Obj} {l : List (Addr × Obj)} (h : AllLt d l) (D : ND l) : ND ((d, o) :: l) := nd_cons (fun q hq => Nat.ne_of_lt (allLt_mem h q hq)) D
theorem nd_off {d : Addr} {o : Obj} {l : List (Addr × Obj)} (D : ND ((d, o) :: l)) : ∀ q ∈ l, q.1 ≠ d := (List.pairwise_cons.mp D).1
theorem nd_tail {p : Addr × Obj} {l : List (Addr × Obj)} (D : ND (p :: l)) : ND l := (List.pairwise_cons.mp D).2
theorem nd_sub {l l' : List (Addr × Obj)} (D : ND l) (h : l'.Sublist l) : ND l' := List.Pairwise.sublist h D
theorem news_sub {h₀ g : Heap} {L : Addr} {l l2 : List (Addr × Obj)} (N : News h₀ L g l) (h : l2.Sublist l) : News h₀ L g l2 := fun p hp => N p (h.subset hp)
/-- objects made one for each item -/
inductive Made {α : Type} (R : α → Addr → Obj → Prop) (base : List (Addr × Obj)) : List α → List Value → List (Addr × Obj) → Prop
  | nil : ND base → Made R base [] [] base
  | snoc {xs : List α} {ys : List Value} {nw : List (Addr × Obj)} {x : α} {a : Addr} {o : Obj} : Made R base xs ys nw → R x a o → (∀ p ∈ nw, p.1 ≠ a) → Made R base (xs ++ [x]) (ys ++ [.ref a]) ((a, o) :: nw)
theorem Made.len {α : Type} {R : α → Addr → Obj → Prop} {base nw : List (Addr × Obj)} {xs : List α} {ys : List Value} (h : Made R base xs ys nw) : ys.length = xs.length := by
  induction h with
  | nil => rfl
  | snoc _ _ _ ih => rw [List.length_append, List.length_append, ih]; rfl
theorem Made.nd {α : Type} {R : α → Addr → Obj → Prop} {base nw : List (Addr × Obj)} {xs : List α} {ys : List Value} (h : Made R base xs ys nw) : ND nw := by
  induction h with
  | nil d => exact d
  | snoc _ _ o ih => exact nd_cons o ih
theorem Made.sub {α : Type} {R : α → Addr → Obj → Prop} {base nw : List (Addr × Obj)} {xs : List α} {ys : List Value} (h : Made R base xs ys nw) : ∀ p ∈ base, p ∈ nw := by
  induction h with
  | nil d => exact fun _ h => h
  | snoc _ _ o ih => exact fun p hp => List.mem_cons_of_mem _ (ih p hp)
theorem Made.zero {α : Type} {R : α → Addr → Obj → Prop} {base nw : List (Addr × Obj)} {ys : List Value} (h : Made R base [] ys nw) : ys = [] ∧ nw = base := by
  generalize e : ([] : List α) = xs at h
  cases h with
  | nil => exact ⟨rfl, rfl⟩
  | snoc _ _ _ => simp at e
theorem Made.last {α : Type} {R : α → Addr → Obj → Prop} {base nw : List (Addr × Obj)} {xs : List α} {x : α} {ys : List Value} (h : Made R base (xs ++ [x]) ys nw) : ∃ a o ys' nw', ys = ys' ++ [.ref a] ∧ nw = (a, o) :: nw' ∧ Made R base xs ys' nw' ∧ R x a o ∧ ∀ p ∈ nw', p.1 ≠ a := by
  generalize e : xs ++ [x] = zs at h
  cases h with
  | nil => simp at e
  | snoc h1 h2 h3 =>
    obtain ⟨rfl, e2⟩ := List.append_inj' e rfl
    cases e2
    exact ⟨_, _, _, _, rfl, rfl, h1, h2, h3⟩
theorem Made.four {α : Type} {R : α → Addr → Obj → Prop} {base nw : List (Addr × Obj)} {x0 x1 x2 x3 : α} {ys : List Value} (h : Made R base [x0, x1, x2, x3] ys nw) : ∃ a0 o0 a1 o1 a2 o2 a3 o3, ys = [.ref a0, .ref a1, .ref a2, .ref a3] ∧ nw = (a3, o3) :: (a2, o2) :: (a1, o1) :: (a0, o0) :: base ∧ R x0 a0 o0 ∧ R x1 a1 o1 ∧ R x2 a2 o2 ∧ R x3 a3 o3 := by
  obtain ⟨a3, o3, _, _, rfl, rfl, h, r3, _⟩ := Made.last (xs := [x0, x1, x2]) h
  obtain ⟨a2, o2, _, _, rfl, rfl, h, r2, _⟩ := Made.last (xs := [x0, x1]) h
  obtain ⟨a1, o1, _, _, rfl, rfl, h, r1, _⟩ := Made.last (xs := [x0]) h
  obtain ⟨a0, o0, _, _, rfl, rfl, h, r0, _⟩ := Made.last (xs := []) h
  obtain ⟨rfl, rfl⟩ := h.zero
  exact ⟨a0, o0, a1, o1, a2, o2, a3, o3, rfl, rfl, r0, r1, r2, r3⟩
theorem Made.five {α : Type} {R : α → Addr → Obj → Prop} {base nw : List (Addr × Obj)} {x0 x1 x2 x3 x4 : α} {ys : List Value} (h : Made R base [x0, x1, x2, x3, x4] ys nw) : ∃ a0 o0 a1 o1 a2 o2 a3 o3 a4 o4, ys = [.ref a0, .ref a1, .ref a2, .ref a3, .ref a4] ∧ nw = (a4, o4) :: (a3, o3) :: (a2, o2) :: (a1, o1) :: (a0, o0) :: base ∧ R x0 a0 o0 ∧ R x1 a1 o1 ∧ R x2 a2 o2 ∧ R x3 a3 o3 ∧ R x4 a4 o4 := by
  obtain ⟨a4, o4, _, _, rfl, rfl, h, r4, _⟩ := Made.last (xs := [x0, x1, x2, x3]) h
  obtain ⟨a0, o0, a1, o1, a2, o2, a3, o3, rfl, rfl, r0, r1, r2, r3⟩ := Made.four h
  exact ⟨a0, o0, a1, o1, a2, o2, a3, o3, a4, o4, rfl, rfl, r0, r1, r2, r3, r4⟩
theorem take_snoc {α : Type} {l : List α} {i : Nat} {x : α} (h : l[i]? = some x) : l.take (i + 1) = l.take i ++ [x] := by
  rw [List.take_add_one, h]; rfl
theorem CEnd.push {h₀ : Heap} {L : Addr} {m : Str → Option Value} {I : Addr} {oI : Obj} {C : Addr} {oC : Obj} {D : Addr} {oD : Obj} {S : List (Addr × Obj) → Prop} {Jn : Nat → List (Addr × Obj) → Prop} {s₁ : Shared} {h' : Heap} {tk : Nat} {a : Addr} {o : Obj} {nw : List (Addr × Obj)}
    (F : Fr h₀ L h' m) (N : News h₀ L h' ((a, o) :: (I, oI) :: (C, oC) :: (D, oD) :: nw)) (oa : ∀ p ∈ (I, oI) :: (C, oC) :: (D, oD) :: nw, p.1 ≠ a) (off : LCg.Off3 I C D nw) (hS : S ((a, o) :: nw)) (hJ : Jn tk ((a, o) :: nw)) : CEnd h₀ L m I oI C oC D oD S Jn s₁ { s₁ with heap := h', toks := tk } := by
  refine CEnd.intro (news' := (a, o) :: nw) F (fun p hp => N p ?_) (LCg.Off3.of fun p hp => ?_) hS hJ
  · simp only [List.mem_cons] at hp ⊢
    rcases hp with h | h | h | h | h
    · exact .inr (.inl h)
    · exact .inr (.inr (.inl h))
    · exact .inr (.inr (.inr (.inl h)))
    · exact .inl h
    · exact .inr (.inr (.inr (.inr h)))
  · rcases List.mem_cons.mp hp with rfl | hp
    · exact ⟨Ne.symm (oa _ List.mem_cons_self), Ne.symm (oa _ (List.mem_cons_of_mem _ List.mem_cons_self)), Ne.symm (oa _ (List.mem_cons_of_mem _ (List.mem_cons_of_mem _ List.mem_cons_self)))⟩
    · exact off.mem p hp
theorem off1_mem {D : Addr} : ∀ {l : List (Addr × Obj)}, LCg.Off1 D l → ∀ p ∈ l, p.1 ≠ D
  | [], _, _, h => nomatch h
  | _ :: _, h, p, hp => by
    rcases List.mem_cons.mp hp with rfl | hp
    · exact h.1
    · exact off1_mem h.2 p hp
theorem leaf_len (v : Int) : (leafRow v).length ≤ 2 := by unfold leafRow; split <;> simp
theorem nd_front (pre : List (Addr × Obj)) {x : Addr × Obj} {post : List (Addr × Obj)} (D : ND (pre ++ x :: post)) : ND (x :: (pre ++ post)) := List.Pairwise.perm D List.perm_middle fun h => Ne.symm h
theorem nd_back (pre : List (Addr × Obj)) {x : Addr × Obj} {post : List (Addr × Obj)} (D : ND (x :: (pre ++ post))) : ND (pre ++ x :: post) := List.Pairwise.perm D List.perm_middle.symm fun h => Ne.symm h
theorem news_front {h₀ g : Heap} {L : Addr} (pre : List (Addr × Obj)) {x : Addr × Obj} {post : List (Addr × Obj)} (N : News h₀ L g (pre ++ x :: post)) : News h₀ L g (x :: (pre ++ post)) := fun p hp => N p (List.perm_middle.symm.subset hp)
theorem news_back {h₀ g : Heap} {L : Addr} (pre : List (Addr × Obj)) {x : Addr × Obj} {post : List (Addr × Obj)} (N : News h₀ L g (x :: (pre ++ post))) : News h₀ L g (pre ++ x :: post) := fun p hp => N p (List.perm_middle.subset hp)
/-- an address keeps its place under another object -/
theorem nd_set {d : Addr} {o o' : Obj} {l : List (Addr × Obj)} (D : ND ((d, o) :: l)) : ND ((d, o') :: l) := nd_cons (nd_off D) (nd_tail D)
theorem nd_put (pre : List (Addr × Obj)) {d : Addr} {o o' : Obj} {post : List (Addr × Obj)} (D : ND (pre ++ (d, o) :: post)) : ND (pre ++ (d, o') :: post) := nd_back pre (nd_set (nd_front pre D))
theorem news_comm {h₀ g : Heap} {L : Addr} (pre tl : List (Addr × Obj)) {post : List (Addr × Obj)} (N : News h₀ L g (pre ++ (tl ++ post))) : News h₀ L g (tl ++ (pre ++ post)) := fun p hp => N p (by
  rcases List.mem_append.mp hp with h | h
  · exact List.mem_append_right _ (List.mem_append_left _ h)
  rcases List.mem_append.mp h with h | h
  · exact List.mem_append_left _ h
  · exact List.mem_append_right _ (List.mem_append_right _ h))
theorem news_uncomm {h₀ g : Heap} {L : Addr} (pre tl : List (Addr × Obj)) {post : List (Addr × Obj)} (N : News h₀ L g (tl ++ (pre ++ post))) : News h₀ L g (pre ++ (tl ++ post)) := news_comm tl pre N
theorem codeHd_hide {h₀ g : Heap} {L c P : Addr} {m : Str → Option Value} {tl nl : List (Addr × Obj)} (hC : CodeHd h₀ c P) (F : Fr h₀ L g m) (N : News h₀ L g (tl ++ nl)) : CodeHd (hideAll g (tl.map (·.1))) c P :=
  hC.keeps fun b o e => hideAll_get _ (F.keep b o e) fun hm => by
    obtain ⟨p, hp, rfl⟩ := List.mem_map.mp hm
    have z := (N p (List.mem_append_left _ hp)).2.2
    rw [e] at z; cases z
/-- two ledgers without a common address -/
abbrev Apart (tl nl : List (Addr × Obj)) : Prop := ∀ p ∈ tl, ∀ q ∈ nl, q.1 ≠ p.1
theorem apart_cons {tl nl : List (Addr × Obj)} {a : Addr} {o : Obj} (h : Apart tl nl) (k : ∀ p ∈ tl, p.1 ≠ a) : Apart tl ((a, o) :: nl) := fun p hp q hq => by
  rcases List.mem_cons.mp hq with rfl | hq
  · exact Ne.symm (k p hp)
  · exact h p hp q hq
theorem apart_sub {tl nl nl2 : List (Addr × Obj)} (h : Apart tl nl) (k : nl2.Sublist nl) : Apart tl nl2 := fun p hp q hq => h p hp q (k.subset hq)
theorem Made.split {α : Type} {R : α → Addr → Obj → Prop} {base nw : List (Addr × Obj)} {xs : List α} {ys : List Value} (h : Made R base xs ys nw) : ∃ mk, nw = mk ++ base ∧ ∀ (i : Nat) (x : α), xs[i]? = some x → ∃ a o, ys[i]? = some (.ref a) ∧ (a, o) ∈ mk ∧ R x a o := by
  induction h with
  | nil => exact ⟨[], rfl, fun i x e => by simp at e⟩
  | @snoc xs ys nw x a o h1 h2 h3 ih =>
    obtain ⟨mk, rfl, k⟩ := ih
    refine ⟨(a, o) :: mk, rfl, fun i z e => ?_⟩
    have hl := h1.len
    rw [List.getElem?_append] at e ⊢
    rw [hl]
    split at e
    · rename_i hlt
      rw [if_pos hlt]
      obtain ⟨a', o', e1, e2, e3⟩ := k i z e
      exact ⟨a', o', e1, List.mem_cons_of_mem _ e2, e3⟩
    · rename_i hlt
      rw [if_neg hlt]
      have hi : i - xs.length = 0 := by
        have := (List.getElem?_eq_some_iff.mp e).1
        simp only [List.length_singleton] at this; omega
      rw [hi] at e ⊢
      cases e
      exact ⟨a, o, rfl, List.mem_cons_self, h2⟩
theorem nums_len (ns : List Int) : (numsF ns).length = 7 := by
  unfold numsF
  rw [List.length_append, List.length_take, List.length_drop]
  show min 7 ns.length + (7 - ns.length) = 7
  omega
section
variable {prog : Program} {w : World} {A : Around} {E : Value → Shared → Prop} {s : Shared} {h₀ : Heap} {L : Addr} {m : Str → Option Value} {news : List (Addr × Obj)}
/-- an item at a written place -/
theorem item_val {value slice : Expr} {l : Addr} {items : Array Value} {k : Int} {u : Tok} {v : Value} {Q : Value → Shared → Prop} (hl : s.heap.IsList l items) (h0 : 0 ≤ k) (hk : k < 1000) (hx : items[k.toNat]? = some v) (h : Q v s)
    (hs : subscripted slice false (.ref l) (.int k u) = operate [.ref l, .int k u] (getItem (.ref l) (.int k u)) := by with_unfolding_all rfl) :
    wpAny (model prog w) A (subscriptTail value slice (.ref l) (.int k u)) Q E s :=
  tail_any hl.typeIs slot_list_getitem.lookup (wpAny_getItem_list hl h0 (by omega) hx h) hs
/-- a slice of ints, of a name or of a temporary -/
theorem sliceT {value slice : Expr} {l : Addr} {vs : List Value} {vl vu : Value} {lo hi : Option Int} {ms : List Int} {Q : Value → Shared → Prop}
    (F : Fr h₀ L s.heap m) (N : News h₀ L s.heap news) (hl : s.heap.IsList l vs.toArray) (pl : IsPart vl lo) (pu : IsPart vu hi) (hm : IntsAre (slicePick vs.toArray lo hi none).toList ms) (hz : vs.length ≤ 64)
    (h : ∀ D ws h', IntsAre ws ms → Fr h₀ L h' m → News h₀ L h' ((D, listOf ws.toArray 0) :: news) → (∀ p ∈ news, p.1 < D) → Q (.ref D) { s with heap := h' })
    (hs : subscripted slice false (.ref l) (.ref s.heap.objs.size) = operate [.ref s.heap.objs.size, .ref l] (getItem (.ref l) (.ref s.heap.objs.size)) := by with_unfolding_all rfl) :
    wpAny (model prog w) A (subscriptTail value slice (.ref l) (.ref s.heap.objs.size)) Q E { s with heap := s.heap.push { cls := .type "slice", data := .fields #[vl, vu, .none] } } := by
  refine tail_any (Heap.IsList.typeIs (s := { s with heap := s.heap.push { cls := .type "slice", data := .fields #[vl, vu, .none] } }) (hl.push _)) list_getitem_lookup
    (wpAny_getItem_list_slice (hl.push _) (Heap.IsSliceOf.new ..) pl pu .none (by simp) ?_ (Nat.le_trans (by rw [List.size_toArray]; exact hz) (by decide : 64 ≤ sizeLine))) hs
  have N1 := News.push (F.push { cls := .type "slice", data := .fields #[vl, vu, .none] }) (N.grown fun _ _ e => Heap.get?_push_of_some _ e) { cls := .type "list", data := .seq (slicePick vs.toArray lo hi none) } rfl
  rw [Heap.size_push] at N1
  show Q (.ref (s.heap.push _).objs.size) _
  rw [Heap.size_push]
  refine h _ (slicePick vs.toArray lo hi none).toList _ hm ((F.push _).push _) ?_ fun p hp => Nat.lt_succ_of_lt (Heap.lt_size (N p hp).1)
  rw [Array.toArray_toList]
  exact N1
end
end Mine
end SLawB
section SL0
open PySem.Calls
namespace Mine
theorem law_0 {w : World} {p : Program} {loose : List Str} {mean : ExcName → Option Value} {mg mb : Str → Option Value}
  {dp un : Nat} {gd : Option (List Code)} {cs : Scope} {a : Addr} {ccd : Value} {outer : List Env} {A₀ : Around} {base h₀ : Heap} {L : Addr} {m : Str → Option Value} {s : Shared} {Q : Flow → Shared → Prop} {E : Value → Shared → Prop} (b : List Stmt) (hb : b = lawB w.params 0) (hcs : cs = lawS w.params) (l : Addr) (vs : List Value) (ns : List Int) (news : List (Addr × Obj)) (N : News h₀ L s.heap news) (D : ND news) (hl : h₀.IsList l vs.toArray) (hi : IntsAre vs ns) (hn : ns.length ≤ 63) (hm : m = fm [("script", .ref l)])
  (hnext : ∀ d us h' tk', IntsAre us (numsF ns) → Fr h₀ L h' (fm [("numbers", .ref d), ("script", .ref l)]) → News h₀ L h' ((d, listOf us.toArray 0) :: news) → ND ((d, listOf us.toArray 0) :: news) → wpAny (model PySem.Challenge.rw_kl0095_01.row.prog w) (ktrTop dp un gd "law" cs L a ccd (cellsFrom (L + 1) cs.names []) outer) (execs (lawB w.params 1) (envX "law" cs L a ccd (cellsFrom (L + 1) cs.names []))) Q E { s with heap := h', toks := tk' })
  (B : Below A₀ base outer h₀) (F : Fr h₀ L s.heap m) (X : (lay.heap_1 w.params).In h₀) (T : Top p loose mean mg mb h₀) (hk : cs.kind = .function)
  (hd1 : dp + 12 < recursionLimit) (hu : un + 120 < cLine) :
  wpAny (model PySem.Challenge.rw_kl0095_01.row.prog w) (ktrTop dp un gd "law" cs L a ccd (cellsFrom (L + 1) cs.names []) outer) (execs b (envX "law" cs L a ccd (cellsFrom (L + 1) cs.names []))) Q E s := by
  revert X; k_fill; intro X
  conv at hb => rhs; whnf
  conv at hcs => rhs; whnf
  subst hb hcs
  subst hm
  walk1
  refine absQ fun K E2 hK => ?_
  k_steps
  rename_i dA wsA hA lA iA cA leA dB hB FB NB lB
  refine Stop.go (sliceT (vs := [_, _, _, _, _, _, _]) FB NB (News.isList NB List.mem_cons_self) (.int _ _) .none (kmk_from (.cons _ _ (.cons _ _ (.cons _ _ (.cons _ _ (.cons _ _ (.cons _ _ (.cons _ _ .nil))))))) (Int.natCast_nonneg _)) (by simp) fun dC wsC hC iC FC NC lC => ?_)
  k_steps
  rename_i dD wsD hD iD lD hE FE NE
  refine hK _ _ ?_
  exact hnext dD wsD _ _ iD FE (news_sub NE (.cons_cons _ (.cons _ (.cons _ (.cons _ (List.Sublist.refl _)))))) (nd_lt lD.2.2.2 D)
end Mine
end SL0
section SL1
open PySem.Calls
namespace Mine
def joinsF (nums : List Int) : List Int := [(nums.getD 4 0).fmod 3, ((nums.getD 4 0).fdiv 3).fmod 3, ((nums.getD 4 0).fdiv 9).fmod 3]
theorem law_1 {w : World} {p : Program} {loose : List Str} {mean : ExcName → Option Value} {mg mb : Str → Option Value}
  {dp un : Nat} {gd : Option (List Code)} {cs : Scope} {a : Addr} {ccd : Value} {outer : List Env} {A₀ : Around} {base h₀ : Heap} {L : Addr} {m : Str → Option Value} {s : Shared} {Q : Flow → Shared → Prop} {E : Value → Shared → Prop} (b : List Stmt) (hb : b = lawB w.params 1) (hcs : cs = lawS w.params) (l d : Addr) (us : List Value) (nums : List Int) (news : List (Addr × Obj)) (N : News h₀ L s.heap ((d, listOf us.toArray 0) :: news)) (D : ND ((d, listOf us.toArray 0) :: news)) (hi : IntsAre us nums) (hn : nums.length = 7) (hm : m = fm [("numbers", .ref d), ("script", .ref l)])
  (hnext : ∀ e us2 h' tk', IntsAre us2 (joinsF nums) → Fr h₀ L h' (fm [("joins", .ref e), ("numbers", .ref d), ("script", .ref l)]) → News h₀ L h' ((e, listOf us2.toArray 0) :: (d, listOf us.toArray 0) :: news) → ND ((e, listOf us2.toArray 0) :: (d, listOf us.toArray 0) :: news) → wpAny (model PySem.Challenge.rw_kl0095_01.row.prog w) (ktrTop dp un gd "law" cs L a ccd (cellsFrom (L + 1) cs.names []) outer) (execs (lawB w.params 2) (envX "law" cs L a ccd (cellsFrom (L + 1) cs.names []))) Q E { s with heap := h', toks := tk' })
  (B : Below A₀ base outer h₀) (F : Fr h₀ L s.heap m) (X : (lay.heap_1 w.params).In h₀) (T : Top p loose mean mg mb h₀) (hk : cs.kind = .function)
  (hd1 : dp + 12 < recursionLimit) (hu : un + 120 < cLine) :
  wpAny (model PySem.Challenge.rw_kl0095_01.row.prog w) (ktrTop dp un gd "law" cs L a ccd (cellsFrom (L + 1) cs.names []) outer) (execs b (envX "law" cs L a ccd (cellsFrom (L + 1) cs.names []))) Q E s := by
  revert X; k_fill; intro X
  conv at hb => rhs; whnf
  conv at hcs => rhs; whnf
  subst hb hcs
  subst hm
  walk1
  refine absQ fun K E2 hK => ?_
  k_steps
  refine Stop.go (item_ints (News.isList N List.mem_cons_self) hi (by decide) (by rw [hn]; decide) (by rw [hn]; decide) fun t1 => ?_)
  k_steps
  refine Stop.go (item_ints (News.isList N List.mem_cons_self) hi (by decide) (by rw [hn]; decide) (by rw [hn]; decide) fun t2 => ?_)
  k_steps
  refine Stop.go (item_ints (News.isList N List.mem_cons_self) hi (by decide) (by rw [hn]; decide) (by rw [hn]; decide) fun t3 => ?_)
  k_steps
  rename_i dD hA lD hB FB NB
  refine hK _ _ ?_
  exact hnext dD [_, _, _] _ _ (.cons _ _ (.cons _ _ (.cons _ _ .nil))) FB NB (nd_lt lD D)
end Mine
end SL1
section SL2
open PySem.Calls
namespace Mine
def RLeaf (v : Int) (_ : Addr) (o : Obj) : Prop := ∃ vs : List Value, o = listOf vs.toArray 0 ∧ IntsAre vs (leafRow v)
theorem law_2 {w : World} {p : Program} {loose : List Str} {mean : ExcName → Option Value} {mg mb : Str → Option Value}
  {dp un : Nat} {gd : Option (List Code)} {cs : Scope} {a : Addr} {ccd : Value} {outer : List Env} {A₀ : Around} {base h₀ : Heap} {L : Addr} {m : Str → Option Value} {s : Shared} {Q : Flow → Shared → Prop} {E : Value → Shared → Prop} (b : List Stmt) (hb : b = lawB w.params 2) (hcs : cs = lawS w.params) (l d e : Addr) (us us2 : List Value) (n0 n1 n2 n3 n4 n5 n6 : Int) (news : List (Addr × Obj)) (N : News h₀ L s.heap ((d, listOf us.toArray 0) :: news)) (D : ND ((d, listOf us.toArray 0) :: news)) (hi : IntsAre us [n0, n1, n2, n3, n4, n5, n6]) (hm : m = fm [("joins", .ref e), ("numbers", .ref d), ("script", .ref l)])
  (hnext : ∀ a0 vs0 a1 vs1 a2 vs2 a3 vs3 c h' tk', IntsAre vs0 (leafRow n0) → IntsAre vs1 (leafRow n1) → IntsAre vs2 (leafRow n2) → IntsAre vs3 (leafRow n3) → Fr h₀ L h' (fm [("leaves", .ref c), ("joins", .ref e), ("numbers", .ref d), ("script", .ref l)]) → 
    News h₀ L h' ((c, listOf [Value.ref a0, .ref a1, .ref a2, .ref a3].toArray 4) :: (a3, listOf vs3.toArray 0) :: (a2, listOf vs2.toArray 0) :: (a1, listOf vs1.toArray 0) :: (a0, listOf vs0.toArray 0) :: (d, listOf us.toArray 0) :: news) →
    ND ((c, listOf [Value.ref a0, .ref a1, .ref a2, .ref a3].toArray 4) :: (a3, listOf vs3.toArray 0) :: (a2, listOf vs2.toArray 0) :: (a1, listOf vs1.toArray 0) :: (a0, listOf vs0.toArray 0) :: (d, listOf us.toArray 0) :: news) → wpAny (model PySem.Challenge.rw_kl0095_01.row.prog w) (ktrTop dp un gd "law" cs L a ccd (cellsFrom (L + 1) cs.names []) outer) (execs (lawB w.params 3) (envX "law" cs L a ccd (cellsFrom (L + 1) cs.names []))) Q E { s with heap := h', toks := tk' })
  (B : Below A₀ base outer h₀) (F : Fr h₀ L s.heap m) (X : (lay.heap_1 w.params).In h₀) (T : Top p loose mean mg mb h₀) (hk : cs.kind = .function)
  (hd1 : dp + 12 < recursionLimit) (hu : un + 120 < cLine) :
  wpAny (model PySem.Challenge.rw_kl0095_01.row.prog w) (ktrTop dp un gd "law" cs L a ccd (cellsFrom (L + 1) cs.names []) outer) (execs b (envX "law" cs L a ccd (cellsFrom (L + 1) cs.names []))) Q E s := by
  revert X; k_fill; intro X
  conv at hb => rhs; whnf
  conv at hcs => rhs; whnf
  subst hb hcs
  subst hm
  walk1
  refine absQ fun K E2 hK => ?_
  k_steps
  k_dflt (refine' Stop.go (compA (by k_asm) rfl ?c1 ?c2 ?c3 ?c4 ?c5 ?c6 ?c7 ?c8 ?_); (case c1 => with_unfolding_all rfl); (case c2 => rfl); (case c3 => decide); (case c4 => rfl); (case c5 => decide); (case c6 => rfl); (case c7 => rfl); (case c8 => rfl))
  k_steps
  rename_i dA wsA hA FA NA iA cA leA lA
  replace iA : IntsAre wsA [n0, n1, n2, n3] := iA
  refine fun P₀ k₀ => k₀ _ _ wsA.toArray.size _ (fun i _ ys nw => Made RLeaf ((dA, listOf wsA.toArray 0) :: (d, listOf us.toArray 0) :: news) ([n0, n1, n2, n3].take i) ys nw) (Src.list rfl FA NA (.inr ⟨_, List.mem_cons_self, rfl, _, rfl⟩)) ?_ (.nil (nd_lt lA D)) (fun _ _ _ _ _ _ h => h) ?_ ?_ ?_
  · rw [List.size_toArray, iA.length]; exact (by decide : 4 ≤ sizeLine)
  · intro i k ys nw h
    rw [h.len]; exact List.length_take_le _ _
  · intro I C D i v oI oC m₂ ys news₁ h tk E' hi4 hv hJ hS hC hx F2 N2 off ne3
    obtain ⟨n, t, rfl, e1⟩ := IntsAre.at iA i v (by simpa using hv)
    refine tests0 ?_
    rw [if_pos rfl]
    k_steps
    k_dflt (refine' Stop.go (leaf_c _ ?cN _ _  ?cB ?cF ?cX ?cT ?cK ?cD ?cU ?_); (case cN => k_asm); (case cB => k_asm); (case cF => k_asm); (case cX => k_asm); (case cT => k_asm); (case cK => first | assumption | exact rfl); (case cD => ktr_room); (case cU => ktr_units); skip; intro a9 vs9 h9 tk9 i9 F9 N9 o9; (try dsimp only); (try k_fold))
    k_steps
    exact CEnd.push F9 N9 o9 off (srcUp hS fun p hp => List.mem_cons_of_mem _ hp) (by rw [take_snoc e1]; exact .snoc hJ ⟨_, rfl, i9⟩ fun p hp => o9 p (List.mem_cons_of_mem _ (List.mem_cons_of_mem _ (List.mem_cons_of_mem _ hp))))
  · intro k ys nw hS hJ c h F3 N3 o3
    rw [show wsA.toArray.size = 4 by rw [List.size_toArray, iA.length]; rfl] at hJ
    have nd := hJ.nd
    obtain ⟨a0, o0, a1, o1, a2, o2, a3, o3', rfl, rfl, ⟨vs0, rfl, i0⟩, ⟨vs1, rfl, i1⟩, ⟨vs2, rfl, i2⟩, ⟨vs3, rfl, i3⟩⟩ := Made.four hJ
    refine hK _ _ ?_
    have N4 : News h₀ L h ((c, listOf [Value.ref a0, .ref a1, .ref a2, .ref a3].toArray 4) :: _) := N3
    exact hnext a0 vs0 a1 vs1 a2 vs2 a3 vs3 c _ _ i0 i1 i2 i3 F3 (news_sub N4 (.cons_cons _ (.cons_cons _ (.cons_cons _ (.cons_cons _ (.cons_cons _ (.cons _ (.cons_cons _ (List.Sublist.refl _))))))))) (nd_sub (nd_cons (off1_mem o3) nd) (.cons_cons _ (.cons_cons _ (.cons_cons _ (.cons_cons _ (.cons_cons _ (.cons _ (.cons_cons _ (List.Sublist.refl _)))))))))
end Mine
end SL2
section SL3
open PySem.Calls
namespace Mine
def rowF (n0 n1 n2 n3 j0 j1 j2 : Int) : List Int := leafRow n0 ++ leafRow n1 ++ [238 + j0] ++ leafRow n2 ++ leafRow n3 ++ [238 + j1, 238 + j2]
theorem law_3 {w : World} {p : Program} {loose : List Str} {mean : ExcName → Option Value} {mg mb : Str → Option Value}
  {dp un : Nat} {gd : Option (List Code)} {cs : Scope} {a : Addr} {ccd : Value} {outer : List Env} {A₀ : Around} {base h₀ : Heap} {L : Addr} {m : Str → Option Value} {s : Shared} {Q : Flow → Shared → Prop} {E : Value → Shared → Prop} (b : List Stmt) (hb : b = lawB w.params 3) (hcs : cs = lawS w.params) (l d e a0 a1 a2 a3 c : Addr) (us2 vs0 vs1 vs2 vs3 : List Value) (n0 n1 n2 n3 : Int) (j0 j1 j2 : Int) (news : List (Addr × Obj)) (N : News h₀ L s.heap ((c, listOf [Value.ref a0, .ref a1, .ref a2, .ref a3].toArray 4) :: (a3, listOf vs3.toArray 0) :: (a2, listOf vs2.toArray 0) :: (a1, listOf vs1.toArray 0) :: (a0, listOf vs0.toArray 0) :: (e, listOf us2.toArray 0) :: news)) (D : ND ((c, listOf [Value.ref a0, .ref a1, .ref a2, .ref a3].toArray 4) :: (a3, listOf vs3.toArray 0) :: (a2, listOf vs2.toArray 0) :: (a1, listOf vs1.toArray 0) :: (a0, listOf vs0.toArray 0) :: (e, listOf us2.toArray 0) :: news)) (hj : IntsAre us2 [j0, j1, j2]) (i0 : IntsAre vs0 (leafRow n0)) (i1 : IntsAre vs1 (leafRow n1)) (i2 : IntsAre vs2 (leafRow n2)) (i3 : IntsAre vs3 (leafRow n3)) (hm : m = fm [("leaves", .ref c), ("joins", .ref e), ("numbers", .ref d), ("script", .ref l)])
  (hnext : ∀ r rs h' tk', IntsAre rs (rowF n0 n1 n2 n3 j0 j1 j2) → Fr h₀ L h' (fm [("row", .ref r), ("leaves", .ref c), ("joins", .ref e), ("numbers", .ref d), ("script", .ref l)]) → News h₀ L h' ((r, listOf rs.toArray 0) :: (e, listOf us2.toArray 0) :: news) → ND ((r, listOf rs.toArray 0) :: (e, listOf us2.toArray 0) :: news) → wpAny (model PySem.Challenge.rw_kl0095_01.row.prog w) (ktrTop dp un gd "law" cs L a ccd (cellsFrom (L + 1) cs.names []) outer) (execs (lawB w.params 4) (envX "law" cs L a ccd (cellsFrom (L + 1) cs.names []))) Q E { s with heap := h', toks := tk' })
  (B : Below A₀ base outer h₀) (F : Fr h₀ L s.heap m) (X : (lay.heap_1 w.params).In h₀) (T : Top p loose mean mg mb h₀) (hk : cs.kind = .function)
  (hd1 : dp + 12 < recursionLimit) (hu : un + 120 < cLine) :
  wpAny (model PySem.Challenge.rw_kl0095_01.row.prog w) (ktrTop dp un gd "law" cs L a ccd (cellsFrom (L + 1) cs.names []) outer) (execs b (envX "law" cs L a ccd (cellsFrom (L + 1) cs.names []))) Q E s := by
  revert X; k_fill; intro X
  conv at hb => rhs; whnf
  conv at hcs => rhs; whnf
  subst hb hcs
  subst hm
  have w0 := leaf_len n0
  have w1 := leaf_len n1
  have w2 := leaf_len n2
  have w3 := leaf_len n3
  walk1
  refine absQ fun K E2 hK => ?_
  k_steps
  refine Stop.go (item_val (v := .ref a0) (News.isList (by assumption) (by k_mem)) (by decide) (by decide) rfl ?_)
  k_steps
  refine Stop.go (item_val (v := .ref a1) (News.isList (by assumption) (by k_mem)) (by decide) (by decide) rfl ?_)
  k_steps
  refine Stop.go (item_ints (News.isList (by assumption) (by k_mem)) hj (by decide) (by simp) (by simp) fun tj0 => ?_)
  k_steps
  refine Stop.go (item_val (v := .ref a2) (News.isList (by assumption) (by k_mem)) (by decide) (by decide) rfl ?_)
  k_steps
  refine Stop.go (item_val (v := .ref a3) (News.isList (by assumption) (by k_mem)) (by decide) (by decide) rfl ?_)
  k_steps
  refine Stop.go (item_ints (News.isList (by assumption) (by k_mem)) hj (by decide) (by simp) (by simp) fun tj1 => ?_)
  k_steps
  refine Stop.go (item_ints (News.isList (by assumption) (by k_mem)) hj (by decide) (by simp) (by simp) fun tj2 => ?_)
  k_steps
  rename_i dR rs hA iR lR hB FB NB
  refine hK _ _ ?_
  exact hnext dR rs _ _ iR FB (news_sub NB (.cons_cons _ (.cons _ (.cons _ (.cons _ (.cons _ (.cons _ (.cons _ (.cons _ (.cons _ (.cons _ (.cons _ (.cons _ (.cons_cons _ (List.Sublist.refl _))))))))))))))) (nd_lt lR.2.2.2.2.2.2.2.2.2.2.2 (nd_sub D (.cons _ (.cons _ (.cons _ (.cons _ (.cons _ (.cons_cons _ (List.Sublist.refl _)))))))))
end Mine
end SL3
section SL5
open PySem.Calls
namespace Mine
def encF (n : Int) : List Int := (if 4096 ≤ n then [64 + (n.fdiv 4096).fmod 64] else []) ++ (if 64 ≤ n then [64 + (n.fdiv 64).fmod 64] else []) ++ [n.fmod 64]
def encH (n : Int) : Nat → List Int
  | 0 => []
  | 1 => if 4096 ≤ n then [64 + (n.fdiv 4096).fmod 64] else []
  | _ => (if 4096 ≤ n then [64 + (n.fdiv 4096).fmod 64] else []) ++ (if 64 ≤ n then [64 + (n.fdiv 64).fmod 64] else [])
theorem eh0p {n : Int} {t : Tok} {ys : List Value} (h : 64 ^ Int.toNat 2 ≤ n) (i : IntsAre ys (encH n 0)) : IntsAre (ys ++ [.int (64 + (n.fdiv (64 ^ Int.toNat 2)).fmod 64) t]) (encH n (0 + 1)) := by
  have e : (64 : Int) ^ Int.toNat 2 = 4096 := by decide
  rw [e] at h ⊢
  show IntsAre _ (if 4096 ≤ n then _ else _)
  rw [if_pos h]
  exact ints_snoc i _ _
theorem eh0n {n : Int} {ys : List Value} (h : ¬ 64 ^ Int.toNat 2 ≤ n) (i : IntsAre ys (encH n 0)) : IntsAre ys (encH n (0 + 1)) := by
  have e : (64 : Int) ^ Int.toNat 2 = 4096 := by decide
  rw [e] at h
  show IntsAre _ (if 4096 ≤ n then _ else _)
  rw [if_neg h]
  exact i
theorem eh1p {n : Int} {t : Tok} {ys : List Value} (h : 64 ^ Int.toNat 1 ≤ n) (i : IntsAre ys (encH n 1)) : IntsAre (ys ++ [.int (64 + (n.fdiv (64 ^ Int.toNat 1)).fmod 64) t]) (encH n (1 + 1)) := by
  have e : (64 : Int) ^ Int.toNat 1 = 64 := by decide
  rw [e] at h ⊢
  show IntsAre _ (encH n 1 ++ if 64 ≤ n then _ else _)
  rw [if_pos h]
  exact ints_snoc i _ _
theorem eh1n {n : Int} {ys : List Value} (h : ¬ 64 ^ Int.toNat 1 ≤ n) (i : IntsAre ys (encH n 1)) : IntsAre ys (encH n (1 + 1)) := by
  have e : (64 : Int) ^ Int.toNat 1 = 64 := by decide
  rw [e] at h
  show IntsAre _ (encH n 1 ++ if 64 ≤ n then _ else _)
  rw [if_neg h, List.append_nil]
  exact i
theorem snoc_len {ys : List Value} {y : Value} {i : Nat} (h : ys.length ≤ i) : (ys ++ [y]).length ≤ i + 1 := by rw [List.length_append]; exact Nat.succ_le_succ h
theorem flat_enc_len : ∀ l : List Int, (l.flatMap encF).length ≤ 3 * l.length
  | [] => Nat.le_refl _
  | n :: l => by
    rw [List.flatMap_cons, List.length_append, List.length_cons]
    have h1 : (encF n).length ≤ 3 := by unfold encF; split <;> split <;> simp
    have h2 := flat_enc_len l
    omega
theorem flat_snoc {l : List Int} {i : Nat} {n : Int} {os ws : List Value} (e : l[i]? = some n) (h : IntsAre os ((l.take i).flatMap encF)) (k : IntsAre ws (encH n 2 ++ [n.fmod 64])) : IntsAre (os ++ ws) ((l.take (i + 1)).flatMap encF) := by
  rw [take_snoc e, List.flatMap_append, List.flatMap_cons, List.flatMap_nil, List.append_nil]
  exact h.append k
theorem law_5 {w : World} {p : Program} {loose : List Str} {mean : ExcName → Option Value} {mg mb : Str → Option Value}
  {dp un : Nat} {gd : Option (List Code)} {cs : Scope} {a : Addr} {ccd : Value} {outer : List Env} {A₀ : Around} {base h₀ : Heap} {L : Addr} {m : Str → Option Value} {s : Shared} {Q : Flow → Shared → Prop} {E : Value → Shared → Prop} (b : List Stmt) (hb : b = lawB w.params 4) (hcs : cs = lawS w.params) (l d e c r : Addr) (rs : List Value) (row : List Int) (oc : Obj) (v₀ : Option Value) (hoc : oc.data = .cell v₀) (news : List (Addr × Obj)) (N : News h₀ L s.heap ((r, listOf rs.toArray 0) :: (L + 1, oc) :: news)) (D : ND ((r, listOf rs.toArray 0) :: (L + 1, oc) :: news)) (hi : IntsAre rs row) (hlen : row.length ≤ 20) (hr : ∀ n ∈ row, 0 ≤ n ∧ n < 262144) (hm : m = fm [("row", .ref r), ("leaves", .ref c), ("joins", .ref e), ("numbers", .ref d), ("script", .ref l)])
  (hnext : ∀ q os ep oc v₀ h' tk', oc.data = .cell v₀ → IntsAre os ((row ++ [0, 15]).flatMap encF) → Fr h₀ L h' (fm [("octets", .ref q), ("row", .ref r), ("leaves", .ref c), ("joins", .ref e), ("numbers", .ref d), ("script", .ref l)]) → News h₀ L h' ((q, listOf os.toArray ep) :: (r, listOf rs.toArray 0) :: (L + 1, oc) :: news) → ND ((q, listOf os.toArray ep) :: (r, listOf rs.toArray 0) :: (L + 1, oc) :: news) → wpAny (model PySem.Challenge.rw_kl0095_01.row.prog w) (ktrTop dp un gd "law" cs L a ccd (cellsFrom (L + 1) cs.names []) outer) (execs (lawB w.params 6) (envX "law" cs L a ccd (cellsFrom (L + 1) cs.names []))) Q E { s with heap := h', toks := tk' })
  (B : Below A₀ base outer h₀) (F : Fr h₀ L s.heap m) (X : (lay.heap_1 w.params).In h₀) (T : Top p loose mean mg mb h₀) (hk : cs.kind = .function)
  (hd1 : dp + 12 < recursionLimit) (hu : un + 120 < cLine) :
  wpAny (model PySem.Challenge.rw_kl0095_01.row.prog w) (ktrTop dp un gd "law" cs L a ccd (cellsFrom (L + 1) cs.names []) outer) (execs b (envX "law" cs L a ccd (cellsFrom (L + 1) cs.names []))) Q E s := by
  revert X; k_fill; intro X
  conv at hb => rhs; whnf
  conv at hcs => rhs; whnf
  subst hb hcs
  subst hm
  walk1
  refine absQ fun K E2 hK => ?_
  k_steps
  rename_i dO hA lO hB FB NB
  refine hK _ _ ?_
  walk1
  refine absQ fun K2 E3 hK2 => ?_
  k_steps
  k_dflt (refine' Stop.go (forUC ?fF ?fk ?fx ?fc ?_); (case fF => k_asm); (case fk => rfl); (case fx => rfl); (case fc => rfl); k_whole)
  k_steps
  rename_i dS hS lS dT wsT hT FT NT iT lT
  have hil : (row ++ [0, 15]).length ≤ 22 := by rw [List.length_append]; simp only [List.length_cons, List.length_nil]; omega
  have DT : ND ((dT, listOf wsT.toArray 0) :: (dO, listOf #[] 0) :: (r, listOf rs.toArray 0) :: (L + 1, oc) :: news) := nd_lt lT.2 (nd_lt lO D)
  have DF := nd_front [_, _, _] DT
  have NF : News h₀ L hT ((L + 1, oc) :: ((dT, listOf wsT.toArray 0) :: (dO, listOf #[] 0) :: (r, listOf rs.toArray 0) :: news)) := news_front [_, _, _] (news_sub NT (.cons_cons _ (.cons _ (.cons_cons _ (.cons_cons _ (.cons_cons _ (List.Sublist.refl _)))))))
  replace FT : Fr h₀ L hT (fm [("octets", .ref dO), ("row", .ref r), ("leaves", .ref c), ("joins", .ref e), ("numbers", .ref d), ("script", .ref l)]) := FT
  refine fun P₀ k₀ => k₀ _ oc v₀ ((dT, listOf wsT.toArray 0) :: (dO, listOf #[] 0) :: (r, listOf rs.toArray 0) :: news) _ wsT.toArray.size _ (fun i _ m' nw => ∃ (os : List Value) (ep : Nat), nw = (dT, listOf wsT.toArray 0) :: (dO, listOf os.toArray ep) :: (r, listOf rs.toArray 0) :: news ∧ IntsAre os (((row ++ [0, 15]).take i).flatMap encF) ∧ m' = fm [("octets", .ref dO), ("row", .ref r), ("leaves", .ref c), ("joins", .ref e), ("numbers", .ref d), ("script", .ref l)]) (SrcC.list rfl FT NF (.inr ⟨_, List.mem_cons_of_mem _ List.mem_cons_self, rfl, _, rfl⟩) ⟨_, List.mem_cons_self⟩ (Ne.symm (nd_off DF _ List.mem_cons_self))) (.inr ⟨_, List.mem_cons_self, rfl, _, rfl⟩) hoc (nd_off DF) ⟨[], 0, rfl, .nil, rfl⟩ (by rintro i k k' m nw _ h; exact h) ?_ ?_
  · rintro I i v oI oc2 m₁ news₁ h tk E' hi4 hv ⟨os, ep, rfl, ios, rfl⟩ hS2 off2 hIc F2 N2 hd2
    obtain ⟨n, t, rfl, e1⟩ := IntsAre.at iT i v (by simpa using hv)
    refine absQ fun K3 E4 hK3 => ?_
    k_steps
    k_dflt (refine' Stop.go (kl_method ?gN ?gm PySem.F.slot_list_extend PySem.F.type_list_extend ?_); (case gN => k_asm); (case gm => k_mem))
    k_steps
    k_dflt (refine' Stop.go (compU (by k_asm) ?c2 ?c3 ?c4 ?c5 ?c6 ?_); (case c2 => rfl); (case c3 => decide); (case c4 => rfl); (case c5 => decide); (case c6 => rfl))
    k_steps
    rename_i dU hU FU NU lU
    refine fun P₀ k₀ => k₀ _ _ (#[Value.int 2 tk, .int 1 (tk + 1)] : Array Value).size _ (fun i _ ys nw => nw = (dU, ({ cls := .type "tuple", data := .seq #[.int 2 tk, .int 1 (tk + 1)] } : Obj)) :: (I, oI) :: (L + 1, oc2) :: (dT, listOf wsT.toArray 0) :: (dO, listOf os.toArray ep) :: (r, listOf rs.toArray 0) :: news ∧ IntsAre ys (encH n i) ∧ ys.length ≤ i) (Src.tuple rfl FU NU ⟨_, List.mem_cons_self⟩) (by decide : 2 ≤ sizeLine) ⟨rfl, .nil, Nat.le_refl _⟩ (by rintro i k k' m nw _ h; exact h) (fun _ _ _ _ h => h.2.2) ?_ ?_
    · rintro I2 C2 D2 i2 v2 oI2 oC2 m2 ys2 news2 h2 tk2 E2' hi2 hv2 ⟨rfl, iy2, ly2⟩ hS3 hC2 hx2 F3 N3 off3 ne3
      have hi3 : i2 = 0 ∨ i2 = 1 := by have h2 : i2 < 2 := hi2; omega
      rcases hi3 with rfl | rfl
      · obtain rfl := Option.some.inj (show some (Value.int 2 tk) = some v2 from hv2)
        k_steps
        · rename_i hge
          exact CEnd.intro F3 N3 off3 hS3 ⟨rfl, eh0p hge iy2, snoc_len ly2⟩
        · rename_i hge
          exact CEnd.intro F3 N3 off3 hS3 ⟨rfl, eh0n hge iy2, Nat.le_succ_of_le ly2⟩
      · obtain rfl := Option.some.inj (show some (Value.int 1 (tk + 1)) = some v2 from hv2)
        k_steps
        · rename_i hge
          exact CEnd.intro F3 N3 off3 hS3 ⟨rfl, eh1p hge iy2, snoc_len ly2⟩
        · rename_i hge
          exact CEnd.intro F3 N3 off3 hS3 ⟨rfl, eh1n hge iy2, Nat.le_succ_of_le ly2⟩
    · rintro k5 ys5 nw5 hS5 ⟨rfl, iy5, ly5⟩ D5 h5 F5 N5 o5
      replace N5 : News h₀ L h5 ((D5, listOf ys5.toArray ys5.length) :: _) := N5
      replace iy5 : IntsAre ys5 (encH n 2) := iy5
      replace ly5 : ys5.length ≤ 2 := ly5
      have w5 : (encH n 2).length ≤ 2 := by rw [← iy5.length]; exact ly5
      k_steps
      rename_i dL hL FL NL lL dX wsX hX FX NX iX lX
      have DX : ∀ p ∈ [(dX, listOf wsX.toArray 0), (I, oI), (L + 1, oc2), (dT, listOf wsT.toArray 0)], p.1 ≠ dO := List.forall_mem_cons.mpr ⟨Nat.ne_of_gt lX.2.2.2.2.2.2.1, List.forall_mem_cons.mpr ⟨Ne.symm (off2 _ (List.mem_cons_of_mem _ List.mem_cons_self)).1, List.forall_mem_cons.mpr ⟨Ne.symm (off2 _ (List.mem_cons_of_mem _ List.mem_cons_self)).2, List.forall_mem_cons.mpr ⟨Ne.symm (nd_off DT _ List.mem_cons_self), List.forall_mem_nil _⟩⟩⟩⟩
      have NY : News h₀ L hX ([(dX, listOf wsX.toArray 0), (I, oI), (L + 1, oc2), (dT, listOf wsT.toArray 0)] ++ (dO, listOf os.toArray ep) :: (r, listOf rs.toArray 0) :: news) := news_sub NX (.cons_cons _ (.cons _ (.cons _ (.cons _ (.cons_cons _ (.cons_cons _ (.cons_cons _ (.cons_cons _ (.cons_cons _ (List.Sublist.refl _))))))))))
      have oO : @Ne Nat dO I ∧ @Ne Nat dO (L + 1) := off2 (dO, listOf os.toArray ep) (List.mem_cons_of_mem _ List.mem_cons_self)
      refine extend_in FX NY DX (fun p hp => ?_) (NX _ List.mem_cons_self).1 (fun hZ nZ FZ NZ => ?_) ?_
      · exact (List.mem_cons.mp hp).elim (fun e => e ▸ nd_off (nd_tail DT) _ List.mem_cons_self) fun hp => nd_off (nd_tail DT) _ (List.mem_cons_of_mem _ (List.mem_cons_of_mem _ hp))
      · k_steps
        refine hK3 _ _ ?_
        exact ForEndC.next (news₂ := (dT, listOf wsT.toArray 0) :: (dO, listOf (os ++ wsX).toArray nZ) :: (r, listOf rs.toArray 0) :: news) FZ (news_sub NZ (.cons _ (List.Sublist.refl _))) hd2 (List.forall_mem_cons.mpr ⟨off2 _ List.mem_cons_self, List.forall_mem_cons.mpr ⟨oO, fun p hp => off2 p (List.mem_cons_of_mem _ (List.mem_cons_of_mem _ hp))⟩⟩) (.inr ⟨_, List.mem_cons_self, rfl, _, rfl⟩) ⟨os ++ wsX, nZ, rfl, flat_snoc e1 ios iX, rfl⟩
      · have q1 := ios.length
        have q2 := iX.length
        have q3 := flat_enc_len ((row ++ [0, 15]).take i)
        have q4 : ((row ++ [0, 15]).take i).length ≤ 22 := Nat.le_trans (List.length_take_le' _ _) hil
        rw [List.length_append] at q2
        show os.length + wsX.toArray.size ≤ sizeLine
        rw [List.size_toArray, sizeLine_eq, q1, q2]
        simp only [List.length_cons, List.length_nil]
        omega
  · rintro h6 tk6 m6 oc6 v6 news6 F6 N6 hd6 off6 hS6 ⟨os, ep, rfl, ios, rfl⟩
    have hsz : wsT.toArray.size = (row ++ [0, 15]).length := by rw [List.size_toArray, iT.length]
    rw [hsz, List.take_length] at ios
    refine hK2 _ _ ?_
    exact hnext dO os ep oc6 v6 _ _ hd6 ios F6 (news_sub (news_back [_, _, _] N6) (.cons _ (List.Sublist.refl _))) (nd_set (nd_tail (nd_back [_, _, _] (nd_set DF))))
end Mine
end SL5
section SL6
open PySem.Calls
namespace Mine
theorem law_6 {w : World} {p : Program} {loose : List Str} {mean : ExcName → Option Value} {mg mb : Str → Option Value}
  {dp un : Nat} {gd : Option (List Code)} {cs : Scope} {a : Addr} {ccd : Value} {outer : List Env} {A₀ : Around} {base h₀ : Heap} {L : Addr} {m : Str → Option Value} {s : Shared} {Q : Flow → Shared → Prop} {E : Value → Shared → Prop} (b : List Stmt) (hb : b = lawB w.params 6) (hcs : cs = lawS w.params) (l d e c r q ep : Nat) (rs os : List Value) (row octs : List Int) (oc : Obj) (v₀ : Option Value) (hoc : oc.data = .cell v₀) (news : List (Addr × Obj)) (N : News h₀ L s.heap ((L + 2, oc) :: (q, listOf os.toArray ep) :: (r, listOf rs.toArray 0) :: news)) (D : ND ((L + 2, oc) :: (q, listOf os.toArray ep) :: (r, listOf rs.toArray 0) :: news)) (hi : IntsAre rs row) (io : IntsAre os octs) (hr : reads octs row 0) (hlen : row.length ≤ 20) (hm : m = fm [("octets", .ref q), ("row", .ref r), ("leaves", .ref c), ("joins", .ref e), ("numbers", .ref d), ("script", .ref l)])
  (hnext : ∀ x ws oc h' tk', oc.data = .cell (some (.ref x)) → IntsAre ws row → Fr h₀ L h' (fm [("octets", .ref q), ("row", .ref r), ("leaves", .ref c), ("joins", .ref e), ("numbers", .ref d), ("script", .ref l)]) → News h₀ L h' ((x, listOf ws.toArray ws.length) :: (L + 2, oc) :: news) → ND ((x, listOf ws.toArray ws.length) :: (L + 2, oc) :: news) → wpAny (model PySem.Challenge.rw_kl0095_01.row.prog w) (ktrTop dp un gd "law" cs L a ccd (cellsFrom (L + 1) cs.names []) outer) (execs (lawB w.params 8) (envX "law" cs L a ccd (cellsFrom (L + 1) cs.names []))) Q E { s with heap := h', toks := tk' })
  (B : Below A₀ base outer h₀) (F : Fr h₀ L s.heap m) (X : (lay.heap_1 w.params).In h₀) (T : Top p loose mean mg mb h₀) (hk : cs.kind = .function)
  (hd1 : dp + 12 < recursionLimit) (hu : un + 120 < cLine) :
  wpAny (model PySem.Challenge.rw_kl0095_01.row.prog w) (ktrTop dp un gd "law" cs L a ccd (cellsFrom (L + 1) cs.names []) outer) (execs b (envX "law" cs L a ccd (cellsFrom (L + 1) cs.names []))) Q E s := by
  revert X; k_fill; intro X
  conv at hb => rhs; whnf
  conv at hcs => rhs; whnf
  subst hb hcs
  subst hm
  walk1
  refine absQ fun K E2 hK => ?_
  k_steps
  k_dflt (refine' Stop.go (read_c q os octs _ N (.inr ⟨_, List.mem_cons_of_mem _ List.mem_cons_self, rfl, _, rfl⟩) io row hr (Nat.le_trans hlen (by decide)) ?cB ?cF ?cX ?cT ?cK ?cD ?cU ?_); (case cB => k_asm); (case cF => k_asm); (case cX => k_asm); (case cT => k_asm); (case cK => first | assumption | exact rfl); (case cD => ktr_room); (case cU => ktr_units); intro xA wsA hA tkA iA FA NA oA; (try dsimp only); (try k_fold))
  k_steps
  have NB : News h₀ L hA ((xA, listOf wsA.toArray wsA.length) :: (L + 2, oc) :: (q, listOf os.toArray ep) :: (r, listOf rs.toArray 0) :: news) := NA
  refine storeX_C FA NB rfl (.tail (Ne.symm (oA _ List.mem_cons_self)) (.head (nd_off D))) hoc fun hC ocC FC NC hdC => ?_
  k_steps
  refine hK _ _ ?_
  walk1
  refine absQ fun K2 E3 hK2 => ?_
  k_steps
  refine hK2 _ _ ?_
  exact hnext xA wsA ocC _ _ hdC iA FC (news_sub NC (.cons_cons _ (.cons_cons _ (.cons _ (.cons _ (List.Sublist.refl _)))))) (nd_put [_] (nd_sub (nd_cons oA D) (.cons_cons _ (.cons_cons _ (.cons _ (.cons _ (List.Sublist.refl _)))))))
end Mine
end SL6
section SL8
open PySem.Calls
namespace Mine
def RPart (w : World) (v : Int) (a : Addr) (o : Obj) : Prop := DI PySem.Challenge.rw_kl0095_01.row.prog w o (partL v) ∧ (a == sysModules) = false
theorem law_8 {w : World} {p : Program} {loose : List Str} {mean : ExcName → Option Value} {mg mb : Str → Option Value}
  {dp un : Nat} {gd : Option (List Code)} {cs : Scope} {a : Addr} {ccd : Value} {outer : List Env} {A₀ : Around} {base h₀ : Heap} {L : Addr} {m : Str → Option Value} {s : Shared} {Q : Flow → Shared → Prop} {E : Value → Shared → Prop} (b : List Stmt) (hb : b = lawB w.params 8) (hcs : cs = lawS w.params) (l d e c r q : Addr) (us : List Value) (n0 n1 n2 n3 n4 n5 n6 : Int) (news : List (Addr × Obj)) (N : News h₀ L s.heap ((d, listOf us.toArray 0) :: news)) (D : ND ((d, listOf us.toArray 0) :: news)) (hi : IntsAre us [n0, n1, n2, n3, n4, n5, n6]) (hm : m = fm [("octets", .ref q), ("row", .ref r), ("leaves", .ref c), ("joins", .ref e), ("numbers", .ref d), ("script", .ref l)])
  (hnext : ∀ b0 p0 b1 p1 b2 p2 b3 p3 g h' tk', RPart w n0 b0 p0 → RPart w n1 b1 p1 → RPart w n2 b2 p2 → RPart w n3 b3 p3 → Fr h₀ L h' (fm [("parts", .ref g), ("octets", .ref q), ("row", .ref r), ("leaves", .ref c), ("joins", .ref e), ("numbers", .ref d), ("script", .ref l)]) → 
    News h₀ L h' ((g, listOf [Value.ref b0, .ref b1, .ref b2, .ref b3].toArray 4) :: (b3, p3) :: (b2, p2) :: (b1, p1) :: (b0, p0) :: (d, listOf us.toArray 0) :: news) →
    ND ((g, listOf [Value.ref b0, .ref b1, .ref b2, .ref b3].toArray 4) :: (b3, p3) :: (b2, p2) :: (b1, p1) :: (b0, p0) :: (d, listOf us.toArray 0) :: news) → wpAny (model PySem.Challenge.rw_kl0095_01.row.prog w) (ktrTop dp un gd "law" cs L a ccd (cellsFrom (L + 1) cs.names []) outer) (execs (lawB w.params 9) (envX "law" cs L a ccd (cellsFrom (L + 1) cs.names []))) Q E { s with heap := h', toks := tk' })
  (B : Below A₀ base outer h₀) (F : Fr h₀ L s.heap m) (X : (lay.heap_1 w.params).In h₀) (T : Top p loose mean mg mb h₀) (hk : cs.kind = .function)
  (hd1 : dp + 12 < recursionLimit) (hu : un + 120 < cLine) :
  wpAny (model PySem.Challenge.rw_kl0095_01.row.prog w) (ktrTop dp un gd "law" cs L a ccd (cellsFrom (L + 1) cs.names []) outer) (execs b (envX "law" cs L a ccd (cellsFrom (L + 1) cs.names []))) Q E s := by
  revert X; k_fill; intro X
  conv at hb => rhs; whnf
  conv at hcs => rhs; whnf
  subst hb hcs
  subst hm
  walk1
  refine absQ fun K E2 hK => ?_
  k_steps
  k_dflt (refine' Stop.go (compA (by k_asm) rfl ?c1 ?c2 ?c3 ?c4 ?c5 ?c6 ?c7 ?c8 ?_); (case c1 => with_unfolding_all rfl); (case c2 => rfl); (case c3 => decide); (case c4 => rfl); (case c5 => decide); (case c6 => rfl); (case c7 => rfl); (case c8 => rfl))
  k_steps
  rename_i dA wsA hA FA NA iA cA leA lA
  replace iA : IntsAre wsA [n0, n1, n2, n3] := iA
  refine fun P₀ k₀ => k₀ _ _ wsA.toArray.size _ (fun i _ ys nw => Made (RPart w) ((dA, listOf wsA.toArray 0) :: (d, listOf us.toArray 0) :: news) ([n0, n1, n2, n3].take i) ys nw) (Src.list rfl FA NA (.inr ⟨_, List.mem_cons_self, rfl, _, rfl⟩)) ?_ (.nil (nd_lt lA D)) (fun _ _ _ _ _ _ h => h) ?_ ?_ ?_
  · rw [List.size_toArray, iA.length]; exact (by decide : 4 ≤ sizeLine)
  · intro i k ys nw h
    rw [h.len]; exact List.length_take_le _ _
  · intro I C D i v oI oC m₂ ys news₁ h tk E' hi4 hv hJ hS hC hx F2 N2 off ne3
    obtain ⟨n, t, rfl, e1⟩ := IntsAre.at iA i v (by simpa using hv)
    refine tests0 ?_
    rw [if_pos rfl]
    k_steps
    k_dflt (refine' Stop.go (part_c _ ?cN _ _  ?cB ?cF ?cX ?cT ?cK ?cD ?cU ?_); (case cN => k_asm); (case cB => k_asm); (case cF => k_asm); (case cX => k_asm); (case cT => k_asm); (case cK => first | assumption | exact rfl); (case cD => ktr_room); (case cU => ktr_units); skip; intro a9 o9 h9 tk9 i9 F9 N9 off9 s9; (try dsimp only); (try k_fold))
    k_steps
    exact CEnd.push F9 N9 off9 off (srcUp hS fun p hp => List.mem_cons_of_mem _ hp) (by rw [take_snoc e1]; exact .snoc hJ ⟨i9, s9⟩ fun p hp => off9 p (List.mem_cons_of_mem _ (List.mem_cons_of_mem _ (List.mem_cons_of_mem _ hp))))
  · intro k ys nw hS hJ g h F3 N3 o3
    rw [show wsA.toArray.size = 4 by rw [List.size_toArray, iA.length]; rfl] at hJ
    have nd := hJ.nd
    obtain ⟨b0, p0, b1, p1, b2, p2, b3, p3, rfl, rfl, i0, i1, i2, i3⟩ := Made.four hJ
    refine hK _ _ ?_
    have N4 : News h₀ L h ((g, listOf [Value.ref b0, .ref b1, .ref b2, .ref b3].toArray 4) :: _) := N3
    exact hnext b0 p0 b1 p1 b2 p2 b3 p3 g _ _ i0 i1 i2 i3 F3 (news_sub N4 (.cons_cons _ (.cons_cons _ (.cons_cons _ (.cons_cons _ (.cons_cons _ (.cons _ (.cons_cons _ (List.Sublist.refl _))))))))) (nd_sub (nd_cons (off1_mem o3) nd) (.cons_cons _ (.cons_cons _ (.cons_cons _ (.cons_cons _ (.cons_cons _ (.cons _ (.cons_cons _ (List.Sublist.refl _)))))))))
end Mine
end SL8
section SL9
open PySem.Calls
namespace Mine
theorem law_9 {w : World} {p : Program} {loose : List Str} {mean : ExcName → Option Value} {mg mb : Str → Option Value}
  {dp un : Nat} {gd : Option (List Code)} {cs : Scope} {a : Addr} {ccd : Value} {outer : List Env} {A₀ : Around} {base h₀ : Heap} {L : Addr} {m : Str → Option Value} {s : Shared} {Q : Flow → Shared → Prop} {E : Value → Shared → Prop} (b : List Stmt) (hb : b = lawB w.params 9) (hcs : cs = lawS w.params) (l d e c r q g b0 b1 b2 b3 : Addr) (p0 p1 p2 p3 : Obj) (us2 : List Value) (n0 n1 n2 n3 j0 j1 j2 : Int) (oc : Obj) (v₀ : Option Value) (hoc : oc.data = .cell v₀) (news : List (Addr × Obj)) (N : News h₀ L s.heap ((g, listOf [Value.ref b0, .ref b1, .ref b2, .ref b3].toArray 4) :: (b3, p3) :: (b2, p2) :: (b1, p1) :: (b0, p0) :: (e, listOf us2.toArray 0) :: (L + 3, oc) :: news)) (D : ND ((g, listOf [Value.ref b0, .ref b1, .ref b2, .ref b3].toArray 4) :: (b3, p3) :: (b2, p2) :: (b1, p1) :: (b0, p0) :: (e, listOf us2.toArray 0) :: (L + 3, oc) :: news)) (hj : IntsAre us2 [j0, j1, j2]) (i0 : RPart w n0 b0 p0) (i1 : RPart w n1 b1 p1) (i2 : RPart w n2 b2 p2) (i3 : RPart w n3 b3 p3)
  (hj0 : 0 ≤ j0 ∧ j0 ≤ 2) (hj1 : 0 ≤ j1 ∧ j1 ≤ 2) (hj2 : 0 ≤ j2 ∧ j2 ≤ 2) (hpl : ∀ v, (partL v).length ≤ 64) (hpb : ∀ v k, Builtin.Int.intBits (kdfLook (partL v) k 0) ≤ 64)
  (hl1 : (joinedL (partL n0) (partL n1) j0).length ≤ 64) (hl2 : (joinedL (partL n2) (partL n3) j1).length ≤ 64) (hb1 : ∀ k, Builtin.Int.intBits (kdfLook (joinedL (partL n0) (partL n1) j0) k 0) ≤ 64) (hm : m = fm [("parts", .ref g), ("octets", .ref q), ("row", .ref r), ("leaves", .ref c), ("joins", .ref e), ("numbers", .ref d), ("script", .ref l)])
  (hnext : ∀ z o oc h' tk', oc.data = .cell (some (.ref z)) → DI PySem.Challenge.rw_kl0095_01.row.prog w o (joinedL (joinedL (partL n0) (partL n1) j0) (joinedL (partL n2) (partL n3) j1) j2) → (z == sysModules) = false → Fr h₀ L h' (fm [("parts", .ref g), ("octets", .ref q), ("row", .ref r), ("leaves", .ref c), ("joins", .ref e), ("numbers", .ref d), ("script", .ref l)]) → 
    News h₀ L h' ((z, o) :: (L + 3, oc) :: news) → ND ((z, o) :: (L + 3, oc) :: news) → wpAny (model PySem.Challenge.rw_kl0095_01.row.prog w) (ktrTop dp un gd "law" cs L a ccd (cellsFrom (L + 1) cs.names []) outer) (execs (lawB w.params 10) (envX "law" cs L a ccd (cellsFrom (L + 1) cs.names []))) Q E { s with heap := h', toks := tk' })
  (B : Below A₀ base outer h₀) (F : Fr h₀ L s.heap m) (X : (lay.heap_1 w.params).In h₀) (T : Top p loose mean mg mb h₀) (hk : cs.kind = .function)
  (hd1 : dp + 12 < recursionLimit) (hu : un + 120 < cLine) :
  wpAny (model PySem.Challenge.rw_kl0095_01.row.prog w) (ktrTop dp un gd "law" cs L a ccd (cellsFrom (L + 1) cs.names []) outer) (execs b (envX "law" cs L a ccd (cellsFrom (L + 1) cs.names []))) Q E s := by
  revert X; k_fill; intro X
  conv at hb => rhs; whnf
  conv at hcs => rhs; whnf
  subst hb hcs
  subst hm
  walk1
  refine absQ fun K E2 hK => ?_
  k_steps
  refine Stop.go (item_val (v := .ref b0) (News.isList (by assumption) (by k_mem)) (by decide) (by decide) rfl ?_)
  k_steps
  refine Stop.go (item_val (v := .ref b1) (News.isList (by assumption) (by k_mem)) (by decide) (by decide) rfl ?_)
  k_steps
  refine Stop.go (item_ints (News.isList (by assumption) (by k_mem)) hj (by decide) (by simp) (by simp) fun tj0 => ?_)
  k_steps
  k_dflt (refine' Stop.go (joined_c _ ?cN b0 b1 p0 p1 _ _ j0 _ ?ce1 ?ce2 i0.1 i1.1 i0.2 i1.2 (hpl _) (hpl _) (hpb _) hj0.1 hj0.2 ?cB ?cF ?cX ?cT ?cK ?cD ?cU ?_); (case cN => k_asm); (case cB => k_asm); (case cF => k_asm); (case cX => k_asm); (case cT => k_asm); (case cK => first | assumption | exact rfl); (case cD => ktr_room); (case cU => ktr_units); (case ce1 => exact (N (b0, p0) (by k_mem)).1); (case ce2 => exact (N (b1, p1) (by k_mem)).1); intro a1 o1 h1 tk1 d1 F1 N1 off1 s1; (try dsimp only); (try k_fold))
  k_steps
  refine Stop.go (item_val (v := .ref b2) (News.isList (by assumption) (by k_mem)) (by decide) (by decide) rfl ?_)
  k_steps
  refine Stop.go (item_val (v := .ref b3) (News.isList (by assumption) (by k_mem)) (by decide) (by decide) rfl ?_)
  k_steps
  refine Stop.go (item_ints (News.isList (by assumption) (by k_mem)) hj (by decide) (by simp) (by simp) fun tj1 => ?_)
  k_steps
  k_dflt (refine' Stop.go (joined_c _ ?cN b2 b3 p2 p3 _ _ j1 _ ?ce1 ?ce2 i2.1 i3.1 i2.2 i3.2 (hpl _) (hpl _) (hpb _) hj1.1 hj1.2 ?cB ?cF ?cX ?cT ?cK ?cD ?cU ?_); (case cN => k_asm); (case cB => k_asm); (case cF => k_asm); (case cX => k_asm); (case cT => k_asm); (case cK => first | assumption | exact rfl); (case cD => ktr_room); (case cU => ktr_units); (case ce1 => exact (N1 (b2, p2) (by k_mem)).1); (case ce2 => exact (N1 (b3, p3) (by k_mem)).1); intro a2 o2 h2 tk2 d2 F2 N2 off2 s2; (try dsimp only); (try k_fold))
  k_steps
  refine Stop.go (item_ints (News.isList (by assumption) (by k_mem)) hj (by decide) (by simp) (by simp) fun tj2 => ?_)
  k_steps
  k_dflt (refine' Stop.go (joined_c _ ?cN a1 a2 o1 o2 _ _ j2 _ ?ce1 ?ce2 d1 d2 s1 s2 hl1 hl2 hb1 hj2.1 hj2.2 ?cB ?cF ?cX ?cT ?cK ?cD ?cU ?_); (case cN => k_asm); (case cB => k_asm); (case cF => k_asm); (case cX => k_asm); (case cT => k_asm); (case cK => first | assumption | exact rfl); (case cD => ktr_room); (case cU => ktr_units); (case ce1 => exact (N2 (a1, o1) (by k_mem)).1); (case ce2 => exact (N2 (a2, o2) (by k_mem)).1); intro a3 o3 h3 tk3 d3 F3 N3 off3 s3; (try dsimp only); (try k_fold))
  k_steps
  have D4 := nd_sub (nd_cons (o := o3) off3 (nd_cons off2 (nd_cons off1 D))) (.cons_cons _ (.cons _ (.cons _ (.cons _ (.cons _ (.cons _ (.cons _ (.cons _ (.cons _ (.cons_cons _ (List.Sublist.refl _)))))))))))
  refine storeX_C F3 (news_sub N3 (.cons_cons _ (.cons _ (.cons _ (.cons _ (.cons _ (.cons _ (.cons _ (.cons _ (.cons _ (.cons_cons _ (List.Sublist.refl _)))))))))))) rfl (.tail (Ne.symm (nd_off D4 _ List.mem_cons_self)) (.head (nd_off (nd_tail D4)))) hoc fun hC ocC FC NC hdC => ?_
  k_steps
  refine hK _ _ ?_
  exact hnext a3 o3 ocC _ _ hdC d3 s3 FC NC (nd_put [_] D4)
end Mine
end SL9
section SL10
open PySem.Calls
namespace Mine
def degsL (c : List (Int × Int)) (ks : List Int) : List Int := ks.filterMap fun k => if kdfLook c k 0 ≠ 0 then some (k.fdiv 8 + k.fmod 8) else none
theorem degs_p {c : List (Int × Int)} {ks : List Int} {k : Int} {t : Tok} {ys : List Value} (h : kdfLook c k 0 ≠ 0) (i : IntsAre ys (degsL c ks)) : IntsAre (ys ++ [.int (k.fdiv 8 + k.fmod 8) t]) (degsL c (ks ++ [k])) := by
  unfold degsL at i ⊢
  rw [List.filterMap_append, List.filterMap_cons, if_pos h, List.filterMap_nil]
  exact ints_snoc i _ _
theorem degs_n {c : List (Int × Int)} {ks : List Int} {k : Int} {ys : List Value} (h : ¬ kdfLook c k 0 ≠ 0) (i : IntsAre ys (degsL c ks)) : IntsAre ys (degsL c (ks ++ [k])) := by
  unfold degsL at i ⊢
  rw [List.filterMap_append, List.filterMap_cons, if_neg h, List.filterMap_nil, List.append_nil]
  exact i
theorem law_10 {w : World} {p : Program} {loose : List Str} {mean : ExcName → Option Value} {mg mb : Str → Option Value}
  {dp un : Nat} {gd : Option (List Code)} {cs : Scope} {a : Addr} {ccd : Value} {outer : List Env} {A₀ : Around} {base h₀ : Heap} {L : Addr} {m : Str → Option Value} {s : Shared} {Q : Flow → Shared → Prop} {E : Value → Shared → Prop} (b : List Stmt) (hb : b = lawB w.params 10) (hcs : cs = lawS w.params) (l d e c r q g z : Addr) (o oc : Obj) (wl : List (Int × Int)) (hoc : oc.data = .cell (some (.ref z))) (news : List (Addr × Obj)) (N : News h₀ L s.heap ((L + 3, oc) :: (z, o) :: news)) (D : ND ((L + 3, oc) :: (z, o) :: news)) (hw : DI PySem.Challenge.rw_kl0095_01.row.prog w o wl) (lo : (z == sysModules) = false) (hlen : wl.length ≤ 64) (hm : m = fm [("parts", .ref g), ("octets", .ref q), ("row", .ref r), ("leaves", .ref c), ("joins", .ref e), ("numbers", .ref d), ("script", .ref l)])
  (hnext : ∀ x ys h' tk', IntsAre ys (degsL wl (wl.map (·.1))) → Fr h₀ L h' (fm [("degrees", .ref x), ("parts", .ref g), ("octets", .ref q), ("row", .ref r), ("leaves", .ref c), ("joins", .ref e), ("numbers", .ref d), ("script", .ref l)]) → 
    News h₀ L h' ((x, listOf ys.toArray ys.length) :: (L + 3, oc) :: (z, o) :: news) → ND ((x, listOf ys.toArray ys.length) :: (L + 3, oc) :: (z, o) :: news) → wpAny (model PySem.Challenge.rw_kl0095_01.row.prog w) (ktrTop dp un gd "law" cs L a ccd (cellsFrom (L + 1) cs.names []) outer) (execs (lawB w.params 11) (envX "law" cs L a ccd (cellsFrom (L + 1) cs.names []))) Q E { s with heap := h', toks := tk' })
  (B : Below A₀ base outer h₀) (F : Fr h₀ L s.heap m) (X : (lay.heap_1 w.params).In h₀) (T : Top p loose mean mg mb h₀) (hk : cs.kind = .function)
  (hd1 : dp + 12 < recursionLimit) (hu : un + 120 < cLine) :
  wpAny (model PySem.Challenge.rw_kl0095_01.row.prog w) (ktrTop dp un gd "law" cs L a ccd (cellsFrom (L + 1) cs.names []) outer) (execs b (envX "law" cs L a ccd (cellsFrom (L + 1) cs.names []))) Q E s := by
  revert X; k_fill; intro X
  conv at hb => rhs; whnf
  conv at hcs => rhs; whnf
  subst hb hcs
  subst hm
  walk1
  refine absQ fun K E2 hK => ?_
  k_steps
  k_dflt (refine' Stop.go (compA (by k_asm) rfl ?c1 ?c2 ?c3 ?c4 ?c5 ?c6 ?c7 ?c8 ?_); (case c1 => with_unfolding_all rfl); (case c2 => rfl); (case c3 => decide); (case c4 => rfl); (case c5 => decide); (case c6 => rfl); (case c7 => rfl); (case c8 => rfl))
  k_steps
  refine fun P₀ k₀ => k₀ _ _ wl.length _ (fun i _ ys nw => nw = (L + 3, oc) :: (z, o) :: news ∧ IntsAre ys (degsL wl ((wl.map (·.1)).take i)) ∧ ys.length ≤ i) (Src.dict rfl F N (.inr (List.mem_cons_of_mem _ List.mem_cons_self)) hw lo) (Nat.le_trans hlen (by decide)) ⟨rfl, .nil, Nat.le_refl _⟩ (by rintro i k k' m nw _ h; exact h) (fun _ _ _ _ h => h.2.2) ?_ ?_
  · rintro I2 C2 D2 i2 v2 oI2 oC2 m2 ys2 news2 h2 tk2 E2' hi2 ⟨kk, yy, tt, hcc, rfl⟩ ⟨rfl, iy2, ly2⟩ hS3 hC2 hx2 F3 N3 off3 ne3
    k_steps
    refine Stop.go (kdf_item (hw.tab (N3 (z, o) (by k_mem)).1 lo) (has_of_get hcc) fun ta => ?_)
    dsimp only
    k_steps
    · rename_i hne
      exact CEnd.intro F3 N3 off3 hS3 ⟨rfl, by rw [take_map hcc]; exact degs_p hne iy2, by rw [List.length_append]; exact Nat.succ_le_succ ly2⟩
    · rename_i hne
      exact CEnd.intro F3 N3 off3 hS3 ⟨rfl, by rw [take_map hcc]; exact degs_n (not_not_intro hne) iy2, Nat.le_succ_of_le ly2⟩
  · rintro k5 ys5 nw5 hS5 ⟨rfl, iy5, ly5⟩ x h5 F5 N5 o5
    rw [show wl.length = (wl.map (·.1)).length from (List.length_map ..).symm, List.take_length] at iy5
    refine hK _ _ ?_
    exact hnext x ys5 _ _ iy5 F5 N5 (nd_cons (off1_mem o5) D)
end Mine
end SL10
section SL11
open PySem.Calls
namespace Mine
/-- items whose tokens lie in a range -/
def TokIn (vs : List Value) (k : Nat) : Prop := ∀ z u, Value.int z u ∈ vs → 0 < u ∧ u < k
theorem tok_nil {k : Nat} : TokIn [] k := fun _ _ h => by simp at h
theorem TokIn.mono {vs : List Value} {k k' : Nat} (h : TokIn vs k) (hk : k ≤ k') : TokIn vs k' := fun z u hm => ⟨(h z u hm).1, Nat.lt_of_lt_of_le (h z u hm).2 hk⟩
theorem TokIn.snoc {vs : List Value} {k k' : Nat} {z : Int} {u : Tok} (h : TokIn vs k) (hk : k ≤ k') (h0 : 0 < u) (h1 : u < k') : TokIn (vs ++ [.int z u]) k' := fun y v hm => by
  rcases List.mem_append.mp hm with hm | hm
  · exact h.mono hk y v hm
  · cases List.mem_singleton.mp hm; exact ⟨h0, h1⟩
def RLine (f : Nat → List Int) (k : Nat) (i : Nat) (_ : Addr) (o : Obj) : Prop := ∃ vs : List Value, o = listOf vs.toArray vs.length ∧ IntsAre vs (f i) ∧ TokIn vs k
theorem Made.mono {α : Type} {R R' : α → Addr → Obj → Prop} {base nw : List (Addr × Obj)} {xs : List α} {ys : List Value} (h : Made R base xs ys nw) (k : ∀ x a o, R x a o → R' x a o) : Made R' base xs ys nw := by
  induction h with
  | nil d => exact .nil d
  | snoc _ r o ih => exact .snoc ih (k _ _ _ r) o
theorem RLine.mono {f : Nat → List Int} {k k' i : Nat} {a : Addr} {o : Obj} (hk : k ≤ k') (h : RLine f k i a o) : RLine f k' i a o := let ⟨vs, e, i, t⟩ := h; ⟨vs, e, i, t.mono hk⟩
def lineF (v : Int → Int → Int) (n : Nat) (i : Nat) : List Int := (List.range n).map fun j : Nat => v i j
theorem line_snoc (v : Int → Int → Int) (n i : Nat) : lineF v (n + 1) i = lineF v n i ++ [v i n] := by unfold lineF; rw [List.range_succ, List.map_append]; rfl
theorem range_small : Builtin.Range.small 0 5 1 = true := by decide
theorem range_five : Builtin.Range.rangeSize 0 5 1 = ((5 : Nat) : Int) := by decide
theorem law_11 {w : World} {p : Program} {loose : List Str} {mean : ExcName → Option Value} {mg mb : Str → Option Value}
  {dp un : Nat} {gd : Option (List Code)} {cs : Scope} {a : Addr} {ccd : Value} {outer : List Env} {A₀ : Around} {base h₀ : Heap} {L : Addr} {m : Str → Option Value} {s : Shared} {Q : Flow → Shared → Prop} {E : Value → Shared → Prop} (b : List Stmt) (hb : b = lawB w.params 11) (hcs : cs = lawS w.params) (l d e c r q g dg x xe : Nat) (oR : Obj) (ws : List Value) (row : List Int) (v : Int → Int → Int) (hoR : oR.data = .cell (some (.ref x))) (news : List (Addr × Obj)) (N : News h₀ L s.heap ((119, tabObj #[]) :: (L + 2, oR) :: (x, listOf ws.toArray xe) :: news)) (D : ND ((119, tabObj #[]) :: (L + 2, oR) :: (x, listOf ws.toArray xe) :: news)) (hC : CodeHd h₀ 123 119) (hi : IntsAre ws row) (hlen : row.length ≤ 20)
  (hlast : ∃ n, row[row.length - 1]? = some n ∧ n < 256) (hv : ∀ i j : Nat, i < 5 → j < 5 → runM i j row = [v i j]) (hok : ∀ i j : Nat, i < 5 → j < 5 → ∀ k n, row[k]? = some n → okM (runM i j (row.take k)) n) (hm : m = fm [("degrees", .ref dg), ("parts", .ref g), ("octets", .ref q), ("row", .ref r), ("leaves", .ref c), ("joins", .ref e), ("numbers", .ref d), ("script", .ref l)])
  (hnext : ∀ a0 vs0 a1 vs1 a2 vs2 a3 vs3 a4 vs4 y tl h' tk', TabL tl → IntsAre vs0 (lineF v 5 0) → IntsAre vs1 (lineF v 5 1) → IntsAre vs2 (lineF v 5 2) → IntsAre vs3 (lineF v 5 3) → IntsAre vs4 (lineF v 5 4) → TokIn vs0 tk' → TokIn vs1 tk' → TokIn vs2 tk' → TokIn vs3 tk' → TokIn vs4 tk' → 1 ≤ tk' → Fr h₀ L h' (fm [("values", .ref y), ("degrees", .ref dg), ("parts", .ref g), ("octets", .ref q), ("row", .ref r), ("leaves", .ref c), ("joins", .ref e), ("numbers", .ref d), ("script", .ref l)]) → 
    News h₀ L h' (tl ++ (y, listOf [Value.ref a0, .ref a1, .ref a2, .ref a3, .ref a4].toArray 5) :: (a4, listOf vs4.toArray vs4.length) :: (a3, listOf vs3.toArray vs3.length) :: (a2, listOf vs2.toArray vs2.length) :: (a1, listOf vs1.toArray vs1.length) :: (a0, listOf vs0.toArray vs0.length) :: (L + 2, oR) :: (x, listOf ws.toArray xe) :: news) →
    (∀ p ∈ tl, ∀ q ∈ (y, listOf [Value.ref a0, .ref a1, .ref a2, .ref a3, .ref a4].toArray 5) :: (a4, listOf vs4.toArray vs4.length) :: (a3, listOf vs3.toArray vs3.length) :: (a2, listOf vs2.toArray vs2.length) :: (a1, listOf vs1.toArray vs1.length) :: (a0, listOf vs0.toArray vs0.length) :: (L + 2, oR) :: (x, listOf ws.toArray xe) :: news, q.1 ≠ p.1) →
    ND ((y, listOf [Value.ref a0, .ref a1, .ref a2, .ref a3, .ref a4].toArray 5) :: (a4, listOf vs4.toArray vs4.length) :: (a3, listOf vs3.toArray vs3.length) :: (a2, listOf vs2.toArray vs2.length) :: (a1, listOf vs1.toArray vs1.length) :: (a0, listOf vs0.toArray vs0.length) :: (L + 2, oR) :: (x, listOf ws.toArray xe) :: news) → wpAny (model PySem.Challenge.rw_kl0095_01.row.prog w) (ktrTop dp un gd "law" cs L a ccd (cellsFrom (L + 1) cs.names []) outer) (execs (lawB w.params 12) (envX "law" cs L a ccd (cellsFrom (L + 1) cs.names []))) Q E { s with heap := h', toks := tk' })
  (B : Below A₀ base outer h₀) (F : Fr h₀ L s.heap m) (X : (lay.heap_1 w.params).In h₀) (T : Top p loose mean mg mb h₀) (hk : cs.kind = .function)
  (hd1 : dp + 12 < recursionLimit) (hu : un + 120 < cLine) :
  wpAny (model PySem.Challenge.rw_kl0095_01.row.prog w) (ktrTop dp un gd "law" cs L a ccd (cellsFrom (L + 1) cs.names []) outer) (execs b (envX "law" cs L a ccd (cellsFrom (L + 1) cs.names []))) Q E s := by
  revert X; k_fill; intro X
  conv at hb => rhs; whnf
  conv at hcs => rhs; whnf
  subst hb hcs
  subst hm
  have hiS : Stop (IntsAre ws row) := Stop.go hi
  walk1
  refine absQ fun K E2 hK => ?_
  k_steps
  k_dflt (refine' Stop.go (compAK (by k_asm) rfl ?c1 ?c2 ?c3 ?c3b ?c4 ?c5 ?c6 ?c7 ?c8 ?_); (case c1 => with_unfolding_all rfl); (case c2 => rfl); (case c3 => intro _; rfl); (case c3b => intro _; rfl); (case c4 => rfl); (case c5 => decide); (case c6 => rfl); (case c7 => rfl); (case c8 => rfl))
  iterate 6 walk1
  refine toksUp ?_
  k_steps
  rename_i eA hA tkA tA1 tA2 tA3 rA FA NA gA uA
  replace uA : s.toks + 1 ≤ tkA := uA
  have DB : ND ((L + 2, oR) :: (x, listOf ws.toArray xe) :: news) := nd_tail D
  refine fun P₀ k₀ => k₀ _ _ 5 _ (fun i k ys nw => ∃ tl nl, TabL tl ∧ nw = tl ++ nl ∧ (∀ p ∈ tl, ∀ q ∈ nl, q.1 ≠ p.1) ∧ Made (RLine (fun i => lineF v 5 i) k) ((L + 2, oR) :: (x, listOf ws.toArray xe) :: news) (List.range i) ys nl ∧ 1 ≤ k) (Src.range rfl FA NA rA range_small range_five) (by decide) ⟨[(119, tabObj #[])], (L + 2, oR) :: (x, listOf ws.toArray xe) :: news, .inl rfl, rfl, fun p hp q hq => by rw [List.mem_singleton.mp hp]; exact nd_off D q hq, .nil DB, Nat.le_trans (Nat.le_add_left _ _) uA⟩ ?_ ?_ ?_ ?_
  · rintro i k k' ys nw hk ⟨tl, nl, a, b, c, d, e⟩
    exact ⟨tl, nl, a, b, c, d.mono fun _ _ _ => RLine.mono hk, Nat.le_trans e hk⟩
  · rintro i k ys nw ⟨tl, nl, a, b, c, d, e⟩
    rw [d.len, List.length_range]; exact Nat.le_refl _
  · rintro I C D' Kc i vv oI oC oK m₂ ys news₁ h tk E' hi5 ⟨t, rfl⟩ ⟨tl, nl, hT, rfl, offT, hMd, hk1⟩ hS hC' hdK F2 N2 off offK ne3
    rw [Int.zero_add] at hdK
    k_steps
    k_dflt (refine' Stop.go (compU (by k_asm) ?c2 ?c3 ?c4 ?c5 ?c6 ?_); (case c2 => rfl); (case c3 => decide); (case c4 => rfl); (case c5 => decide); (case c6 => rfl))
    refine toksUp ?_
    k_steps
    rename_i eB hB tkB tB1 tB2 tB3 rB FB NB gB uB
    replace uB : tk ≤ tkB := uB
    have NB2 : News h₀ L hB (tl ++ ((I, oI) :: (C, oC) :: (D', LCg.lst ys) :: (Kc, oK) :: nl)) := news_comm [_, _, _, _] tl NB
    have of1 := fun p (hp : p ∈ tl) => off.mem p (List.mem_cons_of_mem _ (List.mem_append_left _ hp))
    have ap1 : Apart tl ((I, oI) :: (C, oC) :: (D', LCg.lst ys) :: (Kc, oK) :: nl) := apart_cons (apart_cons (apart_cons (apart_cons offT fun p hp => offK p (List.mem_append_left _ hp)) fun p hp => (of1 p hp).2.2) fun p hp => (of1 p hp).2.1) fun p hp => (of1 p hp).1
    refine fun P₁ k₁ => k₁ _ _ 5 _ (fun j k ys2 nw2 => ∃ tl', TabL tl' ∧ nw2 = tl' ++ ((I, oI) :: (C, oC) :: (D', LCg.lst ys) :: (Kc, oK) :: nl) ∧ Apart tl' ((I, oI) :: (C, oC) :: (D', LCg.lst ys) :: (Kc, oK) :: nl) ∧ IntsAre ys2 (lineF v j i) ∧ TokIn ys2 k ∧ tk ≤ k) (Src.range rfl FB NB2 rB range_small range_five) (by decide) ⟨tl, hT, rfl, ap1, .nil, tok_nil, uB⟩ ?_ ?_ ?_ ?_
    · rintro j k k' ys2 nw2 hk ⟨tl', a, b, c, d, e, f⟩
      exact ⟨tl', a, b, c, d, e.mono hk, Nat.le_trans f hk⟩
    · rintro j k ys2 nw2 ⟨tl', a, b, c, d, e, f⟩
      rw [d.length, lineF, List.length_map, List.length_range]; exact Nat.le_refl _
    · rintro I2 C2 D2 j vv2 oI2 oC2 m2 ys2 nw2 h2 tk2 E2' hj5 ⟨t2, rfl⟩ ⟨tl', hT', hnw, ap', iy, hTk, hk2⟩ hS2 hC2 hx2 F3 N3 off3 ne32
      refine tests0 ?_
      rw [if_pos rfl]
      have mK : (Kc, oK) ∈ nw2 := by rw [hnw]; exact List.mem_append_right _ (List.mem_cons_of_mem _ (List.mem_cons_of_mem _ (List.mem_cons_of_mem _ List.mem_cons_self)))
      have mR : (L + 2, oR) ∈ nw2 := by rw [hnw]; exact List.mem_append_right _ (List.mem_cons_of_mem _ (List.mem_cons_of_mem _ (List.mem_cons_of_mem _ (List.mem_cons_of_mem _ (hMd.sub _ List.mem_cons_self)))))
      have N4 : News h₀ L h2 ((Kc, oK) :: (L + 2, oR) :: (I2, oI2) :: (C2, oC2) :: (D2, LCg.lst ys2) :: nw2) := List.forall_mem_cons.mpr ⟨N3 _ (List.mem_cons_of_mem _ (List.mem_cons_of_mem _ (List.mem_cons_of_mem _ mK))), List.forall_mem_cons.mpr ⟨N3 _ (List.mem_cons_of_mem _ (List.mem_cons_of_mem _ (List.mem_cons_of_mem _ mR))), N3⟩⟩
      clear N3
      rw [Int.zero_add] at hx2
      have hj5' : j < 5 := hj5
      have hi5' : i < 5 := hi5
      k_steps
      rename_i lV hV FV NV lV2
      have NV2 : News h₀ L hV (tl' ++ ((lV, listOf #[.int i t, .int j t2] 0) :: (I2, oI2) :: (C2, oC2) :: (D2, LCg.lst ys2) :: (I, oI) :: (C, oC) :: (D', LCg.lst ys) :: (Kc, oK) :: nl)) := news_comm [_, _, _, _] tl' (hnw ▸ news_sub NV (.cons_cons _ (.cons _ (.cons _ (.cons_cons _ (.cons_cons _ (.cons_cons _ (List.Sublist.refl _))))))))
      have apV : Apart tl' ((lV, listOf #[Value.int i t, .int j t2] 0) :: (I2, oI2) :: (C2, oC2) :: (D2, LCg.lst ys2) :: (I, oI) :: (C, oC) :: (D', LCg.lst ys) :: (Kc, oK) :: nl) := apart_cons (apart_cons (apart_cons (apart_cons ap' fun p hp => (off3.mem p (hnw ▸ List.mem_append_left _ hp)).2.2) fun p hp => (off3.mem p (hnw ▸ List.mem_append_left _ hp)).2.1) fun p hp => (off3.mem p (hnw ▸ List.mem_append_left _ hp)).1) fun p hp => Nat.ne_of_lt (allLt_mem lV2.2.2.2.2.2 p (hnw ▸ List.mem_append_left _ hp))
      have mX : (x, listOf ws.toArray xe) ∈ nl := hMd.sub _ (List.mem_cons_of_mem _ List.mem_cons_self)
      k_dflt (refine' Stop.go (value_c tl' hT' _ ?vN apV ?vC x lV ws row (.inr ⟨_, List.mem_cons_of_mem _ (List.mem_cons_of_mem _ (List.mem_cons_of_mem _ (List.mem_cons_of_mem _ (List.mem_cons_of_mem _ (List.mem_cons_of_mem _ (List.mem_cons_of_mem _ (List.mem_cons_of_mem _ mX))))))), rfl, _, rfl⟩) (Stop.out hiS) (Nat.le_trans hlen (by decide)) i j t t2 (.inr ⟨_, List.mem_cons_self, rfl, _, rfl⟩) (hok i j hi5' hj5') (v i j) (hv i j hi5' hj5') hlast ?cB ?cF ?cX ?cT ?cK ?cD ?cU ?_); (case cB => k_asm); (case cF => k_asm); (case cX => k_asm); (case cT => k_asm); (case cK => first | assumption | exact rfl); (case cD => ktr_room); (case cU => ktr_units); (case vN => exact NV2); (case vC => exact codeHd_hide hC FV NV2); intro u tl3 h9 tk9 hT3 F9 N9 ap3 u1 u2; (try dsimp only); (try k_fold))
      replace u1 : tk2 ≤ u := u1
      k_steps
      exact CEnd.intro (news' := tl3 ++ (I, oI) :: (C, oC) :: (D', LCg.lst ys) :: (Kc, oK) :: nl) F9 (news_sub (news_uncomm [_, _, _, _] tl3 N9) (.cons _ (List.Sublist.refl _))) (LCg.Off3.of fun p hp => (List.mem_append.mp hp).elim (fun hp => ⟨Ne.symm (ap3 p hp _ (List.mem_cons_of_mem _ (List.mem_cons_self))), Ne.symm (ap3 p hp _ (List.mem_cons_of_mem _ (List.mem_cons_of_mem _ (List.mem_cons_self)))), Ne.symm (ap3 p hp _ (List.mem_cons_of_mem _ (List.mem_cons_of_mem _ (List.mem_cons_of_mem _ (List.mem_cons_self)))))⟩) fun hp => off3.mem p (hnw ▸ List.mem_append_right _ hp)) trivial ⟨tl3, hT3, rfl, apart_sub ap3 (.cons _ (.cons _ (.cons _ (.cons _ (List.Sublist.refl _))))), by rw [line_snoc]; exact ints_snoc iy _ _, hTk.snoc (Nat.le_trans u1 (Nat.le_of_lt u2)) (Nat.lt_of_lt_of_le (Nat.le_trans hk1 hk2) u1) u2, Nat.le_trans hk2 (Nat.le_trans u1 (Nat.le_of_lt u2))⟩
    · rintro k5 ys5 nw5 hS5 ⟨tl5, hT5, rfl, ap5, iy5, hTk5, hk5⟩ D5 h5 F5 N5 o5
      have oo := off1_mem o5
      have hIq := oo (I, oI) (List.mem_append_right _ List.mem_cons_self)
      have hCq := oo (C, oC) (List.mem_append_right _ (List.mem_cons_of_mem _ (List.mem_cons_self)))
      have hDq := oo (D', LCg.lst ys) (List.mem_append_right _ (List.mem_cons_of_mem _ (List.mem_cons_of_mem _ (List.mem_cons_self))))
      have hKq := oo (Kc, oK) (List.mem_append_right _ (List.mem_cons_of_mem _ (List.mem_cons_of_mem _ (List.mem_cons_of_mem _ (List.mem_cons_self)))))
      refine CEnd.intro (news' := (Kc, oK) :: (tl5 ++ ((D5, LCg.lst ys5) :: nl))) F5 (fun p hp => N5 p ?_) (LCg.Off3.of fun p hp => ?_) trivial ⟨oK, _, _, rfl, hdK, fun p hp => ?_, trivial, tl5, (D5, LCg.lst ys5) :: nl, hT5, rfl, apart_cons (apart_sub ap5 (.cons _ (.cons _ (.cons _ (.cons _ (List.Sublist.refl _)))))) (fun p hp => oo p (List.mem_append_left _ hp)), ?_, Nat.le_trans hk1 hk5⟩
      · simp only [List.mem_cons, List.mem_append] at hp ⊢
        rcases hp with h | h | h | h | h | h | h <;> simp only [h, true_or, or_true]
      · rcases List.mem_cons.mp hp with rfl | hp
        · exact off.mem _ List.mem_cons_self
        rcases List.mem_append.mp hp with hp | hp
        · exact ⟨Ne.symm (ap5 p hp _ List.mem_cons_self), Ne.symm (ap5 p hp _ (List.mem_cons_of_mem _ (List.mem_cons_self))), Ne.symm (ap5 p hp _ (List.mem_cons_of_mem _ (List.mem_cons_of_mem _ (List.mem_cons_self))))⟩
        rcases List.mem_cons.mp hp with rfl | hp
        · exact ⟨Ne.symm hIq, Ne.symm hCq, Ne.symm hDq⟩
        · exact off.mem p (List.mem_cons_of_mem _ (List.mem_append_right _ hp))
      · rcases List.mem_append.mp hp with hp | hp
        · exact Ne.symm (ap5 p hp _ (List.mem_cons_of_mem _ (List.mem_cons_of_mem _ (List.mem_cons_of_mem _ (List.mem_cons_self)))))
        rcases List.mem_cons.mp hp with rfl | hp
        · exact Ne.symm hKq
        · exact offK p (List.mem_append_right _ hp)
      · rw [List.range_succ]
        exact .snoc (hMd.mono fun _ _ _ => RLine.mono hk5) ⟨ys5, rfl, iy5, hTk5⟩ fun p hp => oo p (List.mem_append_right _ (List.mem_cons_of_mem _ (List.mem_cons_of_mem _ (List.mem_cons_of_mem _ (List.mem_cons_of_mem _ hp)))))
  · rintro k6 ys6 nw6 hS6 ⟨tl6, nl6, hT6, rfl, ap6, hMd6, hk6⟩ D6 h6 F6 N6 o6
    have nd6 := nd_cons (o := LCg.lst ys6) (fun p hp => off1_mem o6 p (List.mem_append_right _ hp)) hMd6.nd
    have ap7 : Apart tl6 ((D6, LCg.lst ys6) :: nl6) := apart_cons ap6 fun p hp => off1_mem o6 p (List.mem_append_left _ hp)
    have N7 : News h₀ L h6 (tl6 ++ ((D6, LCg.lst ys6) :: nl6)) := news_comm [_] tl6 N6
    obtain ⟨a0, p0, a1, p1, a2, p2, a3, p3, a4, p4, rfl, rfl, ⟨vs0, rfl, i0, t0⟩, ⟨vs1, rfl, i1, t1⟩, ⟨vs2, rfl, i2, t2⟩, ⟨vs3, rfl, i3, t3⟩, ⟨vs4, rfl, i4, t4⟩⟩ := Made.five (x0 := 0) (x1 := 1) (x2 := 2) (x3 := 3) (x4 := 4) hMd6
    refine hK _ _ ?_
    exact hnext a0 vs0 a1 vs1 a2 vs2 a3 vs3 a4 vs4 D6 tl6 _ _ hT6 i0 i1 i2 i3 i4 t0 t1 t2 t3 t4 hk6 F6 N7 ap7 nd6
end Mine
end SL11
section SL12
open PySem.Calls
namespace Mine
/-- a list of lists of ints -/
def Lines (items : List Value) (ls : List (List Int)) (nl : List (Addr × Obj)) (k : Nat) : Prop := items.length = ls.length ∧ ∀ (i : Nat) (l : List Int), ls[i]? = some l → ∃ (a : Addr) (vs : List Value), items[i]? = some (Value.ref a) ∧ (a, listOf vs.toArray vs.length) ∈ nl ∧ IntsAre vs l ∧ TokIn vs k
theorem Lines.up {items : List Value} {ls : List (List Int)} {nl nl' : List (Addr × Obj)} {k k' : Nat} (h : Lines items ls nl k) (hs : ∀ p ∈ nl, p ∈ nl') (hk : k ≤ k') : Lines items ls nl' k' := ⟨h.1, fun i l e => let ⟨a, vs, h1, h2, h3, h4⟩ := h.2 i l e; ⟨a, vs, h1, hs _ h2, h3, h4.mono hk⟩⟩
theorem Lines.at {items : List Value} {ls : List (List Int)} {nl : List (Addr × Obj)} {k i : Nat} {v : Value} (h : Lines items ls nl k) (hv : items[i]? = some v) : ∃ l a vs, ls[i]? = some l ∧ v = Value.ref a ∧ (a, listOf vs.toArray vs.length) ∈ nl ∧ IntsAre vs l ∧ TokIn vs k := by
  have hlt : i < ls.length := h.1 ▸ (List.getElem?_eq_some_iff.mp hv).1
  obtain ⟨a, vs, h1, h2, h3, h4⟩ := h.2 i ls[i] (List.getElem?_eq_getElem hlt)
  rw [hv] at h1
  exact ⟨ls[i], a, vs, List.getElem?_eq_getElem hlt, Option.some.inj h1, h2, h3, h4⟩
theorem law_12 {w : World} {p : Program} {loose : List Str} {mean : ExcName → Option Value} {mg mb : Str → Option Value}
  {dp un : Nat} {gd : Option (List Code)} {cs : Scope} {a : Addr} {ccd : Value} {outer : List Env} {A₀ : Around} {base h₀ : Heap} {L : Addr} {m : Str → Option Value} {s : Shared} {Q : Flow → Shared → Prop} {E : Value → Shared → Prop} (b : List Stmt) (hb : b = lawB w.params 12) (hcs : cs = lawS w.params) (l d e c r q g dg y ep : Nat) (items : List Value) (ls : List (List Int)) (news : List (Addr × Obj)) (N : News h₀ L s.heap ((y, listOf items.toArray ep) :: news)) (hL : Lines items ls news s.toks) (hls : ls.length ≤ 64) (h1 : 1 ≤ s.toks) (hm : m = fm [("values", .ref y), ("degrees", .ref dg), ("parts", .ref g), ("octets", .ref q), ("row", .ref r), ("leaves", .ref c), ("joins", .ref e), ("numbers", .ref d), ("script", .ref l)])
  (hnext : ∀ t h' tk', s.toks ≤ tk' → Fr h₀ L h' (fm [("noughts", .int (ls.map fun l => ((l.count 0 : Nat) : Int)).sum t), ("values", .ref y), ("degrees", .ref dg), ("parts", .ref g), ("octets", .ref q), ("row", .ref r), ("leaves", .ref c), ("joins", .ref e), ("numbers", .ref d), ("script", .ref l)]) → News h₀ L h' ((y, listOf items.toArray ep) :: news) → wpAny (model PySem.Challenge.rw_kl0095_01.row.prog w) (ktrTop dp un gd "law" cs L a ccd (cellsFrom (L + 1) cs.names []) outer) (execs (lawB w.params 13) (envX "law" cs L a ccd (cellsFrom (L + 1) cs.names []))) Q E { s with heap := h', toks := tk' })
  (B : Below A₀ base outer h₀) (F : Fr h₀ L s.heap m) (X : (lay.heap_1 w.params).In h₀) (T : Top p loose mean mg mb h₀) (hk : cs.kind = .function)
  (hd1 : dp + 12 < recursionLimit) (hu : un + 120 < cLine) :
  wpAny (model PySem.Challenge.rw_kl0095_01.row.prog w) (ktrTop dp un gd "law" cs L a ccd (cellsFrom (L + 1) cs.names []) outer) (execs b (envX "law" cs L a ccd (cellsFrom (L + 1) cs.names []))) Q E s := by
  revert X; k_fill; intro X
  conv at hb => rhs; whnf
  conv at hcs => rhs; whnf
  subst hb hcs
  subst hm
  walk1
  refine toksUp (absQ fun K E2 hK => ?_)
  k_steps
  k_dflt (refine' Stop.go (compU (by k_asm) ?c2 ?c3 ?c4 ?c5 ?c6 ?_); (case c2 => rfl); (case c3 => decide); (case c4 => rfl); (case c5 => decide); (case c6 => rfl))
  k_steps
  refine fun P₀ k₀ => k₀ _ _ items.toArray.size _ (fun i k ys nw => nw = (y, listOf items.toArray ep) :: news ∧ IntsAre ys ((ls.take i).map fun l => ((l.count 0 : Nat) : Int)) ∧ ys.length ≤ i ∧ s.toks ≤ k) (Src.list rfl F N (.inr ⟨_, List.mem_cons_self, rfl, _, rfl⟩)) (by rw [List.size_toArray, hL.1]; exact Nat.le_trans hls (by decide : 64 ≤ sizeLine)) ⟨rfl, .nil, Nat.le_refl _, Nat.le_refl _⟩ (by rintro i k k' ys nw hk ⟨a, b, c, d⟩; exact ⟨a, b, c, Nat.le_trans d hk⟩) (fun _ _ _ _ h => h.2.2.1) ?_ ?_
  · rintro I C D' i v oI oC m₂ ys news₁ h tk E' hi5 hv ⟨rfl, iy, ly, htk⟩ hS hC hx F2 N2 off ne3
    obtain ⟨li, al, vs, e1, rfl, mL, iL, tL⟩ := hL.at (show items[i]? = some v by simpa using hv)
    refine tests0 ?_
    rw [if_pos rfl]
    refine toksUp (absQ fun K5 E5 hK5 => ?_)
    k_steps
    k_dflt (refine' Stop.go (countOf_c _ ?cN al vs li tk (.inr ⟨_, List.mem_cons_of_mem _ (List.mem_cons_of_mem _ (List.mem_cons_of_mem _ (List.mem_cons_of_mem _ (mL)))), rfl, _, rfl⟩) iL (Nat.ne_of_gt (Nat.lt_of_lt_of_le h1 htk)) (fun n u hm => ⟨Nat.ne_of_gt (tL n u hm).1, Nat.ne_of_lt (Nat.lt_of_lt_of_le (tL n u hm).2 htk)⟩) ?cB ?cF ?cX ?cT ?cK ?cD ?cU ?_); (case cN => k_asm); (case cB => k_asm); (case cF => k_asm); (case cX => k_asm); (case cT => k_asm); (case cK => first | assumption | exact rfl); (case cD => ktr_room); (case cU => ktr_units); intro t9 h9 tk9 F9 N9; (try dsimp only); (try k_fold))
    k_steps
    refine hK5 _ _ fun u9 => ?_
    exact CEnd.intro (news' := (y, listOf items.toArray ep) :: news) F9 N9 off hS ⟨rfl, by rw [take_snoc e1, List.map_append]; exact ints_snoc iy _ _, by rw [List.length_append]; exact Nat.succ_le_succ ly, Nat.le_trans htk u9⟩
  · rintro k5 ys5 nw5 hS5 ⟨rfl, iy5, ly5, hk5⟩ D5 h5 F5 N5 o5
    rw [List.size_toArray, hL.1, List.take_length] at iy5
    replace N5 : News h₀ L h5 ((D5, listOf ys5.toArray ys5.length) :: _) := N5
    have hlen5 : (ls.map fun l => ((l.count 0 : Nat) : Int)).length ≤ 64 := by rw [List.length_map]; exact hls
    k_steps
    rename_i h6 tk6 t6 h7 F7 N7
    refine hK _ _ fun u7 => ?_
    exact hnext t6 _ _ u7 F7 (news_sub N7 (.cons _ (List.Sublist.refl _)))
end Mine
end SL12
section SL13
open PySem.Calls
namespace Mine
theorem law_13 {w : World} {p : Program} {loose : List Str} {mean : ExcName → Option Value} {mg mb : Str → Option Value}
  {dp un : Nat} {gd : Option (List Code)} {cs : Scope} {a : Addr} {ccd : Value} {outer : List Env} {A₀ : Around} {base h₀ : Heap} {L : Addr} {m : Str → Option Value} {s : Shared} {Q : Flow → Shared → Prop} {E : Value → Shared → Prop} (b : List Stmt) (hb : b = lawB w.params 13) (hcs : cs = lawS w.params) (l d e c r q g dg y ep : Nat) (ds : List Value) (degs : List Int) (nz : Int) (tz : Tok) (news : List (Addr × Obj)) (N : News h₀ L s.heap ((dg, listOf ds.toArray ep) :: news)) (hi : IntsAre ds degs) (hdl : degs.length ≤ 64) (hz0 : degs = [] → nz = 25) (hz2 : degs ≠ [] → nz ≠ 25) (hz1 : ∀ M ∈ degs, (∀ a ∈ degs, a ≤ M) → nz ≤ 5 * M) (hm : m = fm [("noughts", .int nz tz), ("values", .ref y), ("degrees", .ref dg), ("parts", .ref g), ("octets", .ref q), ("row", .ref r), ("leaves", .ref c), ("joins", .ref e), ("numbers", .ref d), ("script", .ref l)])
  (hnext : ∀ h' tk', s.toks ≤ tk' → Fr h₀ L h' (fm [("noughts", .int nz tz), ("values", .ref y), ("degrees", .ref dg), ("parts", .ref g), ("octets", .ref q), ("row", .ref r), ("leaves", .ref c), ("joins", .ref e), ("numbers", .ref d), ("script", .ref l)]) → News h₀ L h' ((dg, listOf ds.toArray ep) :: news) → wpAny (model PySem.Challenge.rw_kl0095_01.row.prog w) (ktrTop dp un gd "law" cs L a ccd (cellsFrom (L + 1) cs.names []) outer) (execs (lawB w.params 14) (envX "law" cs L a ccd (cellsFrom (L + 1) cs.names []))) Q E { s with heap := h', toks := tk' })
  (B : Below A₀ base outer h₀) (F : Fr h₀ L s.heap m) (X : (lay.heap_1 w.params).In h₀) (T : Top p loose mean mg mb h₀) (hk : cs.kind = .function)
  (hd1 : dp + 12 < recursionLimit) (hu : un + 120 < cLine) :
  wpAny (model PySem.Challenge.rw_kl0095_01.row.prog w) (ktrTop dp un gd "law" cs L a ccd (cellsFrom (L + 1) cs.names []) outer) (execs b (envX "law" cs L a ccd (cellsFrom (L + 1) cs.names []))) Q E s := by
  revert X; k_fill; intro X
  conv at hb => rhs; whnf
  conv at hcs => rhs; whnf
  subst hb hcs
  subst hm
  walk1
  refine toksUp (absQ fun K E2 hK => ?_)
  k_steps
  · rename_i hA eA
    exfalso
    by_cases h0 : degs = []
    · rw [hz0 h0, h0] at eA; exact absurd eA (by decide)
    · have e1 : (nz == 25) = false := beq_eq_false_iff_ne.mpr (hz2 h0)
      rw [e1, decide_eq_false h0] at eA; exact absurd eA (by decide)
  · refine hK _ _ fun uA => ?_
    exact hnext _ _ uA (by k_asm) (news_sub (by k_asm) (.cons _ (.cons _ (List.Sublist.refl _))))
  · rename_i hd0 eA
    have hne : degs ≠ [] := of_decide_eq_false eA
    have hpos : 0 < degs.length := List.length_pos_iff.mpr hne
    refine kso_max (by k_asm) (by k_asm) (News.isList (by k_asm) (by k_mem)) hi hpos rfl fun hM M tM tkM FM NM hM1 hM2 => ?_
    have hle := hz1 M hM1 hM2
    k_steps
    refine hK _ _ fun uA => ?_
    exact hnext _ _ uA FM (news_sub NM (.cons _ (.cons _ (List.Sublist.refl _))))
end Mine
end SL13
section SL14
open PySem.Calls
namespace Mine
theorem law_14 {w : World} {p : Program} {loose : List Str} {mean : ExcName → Option Value} {mg mb : Str → Option Value}
  {dp un : Nat} {gd : Option (List Code)} {cs : Scope} {a : Addr} {ccd : Value} {outer : List Env} {A₀ : Around} {base h₀ : Heap} {L : Addr} {m : Str → Option Value} {s : Shared} {Q : Flow → Shared → Prop} {E : Value → Shared → Prop} (b : List Stmt) (hb : b = lawB w.params 14) (hcs : cs = lawS w.params) (l d e c r q g dg y : Nat) (nz : Int) (tz : Tok) (us : List Value) (n0 n1 n2 n3 n4 n5 n6 : Int) (oX oY : Obj) (v₀ v₁ : Option Value) (hX : oX.data = .cell v₀) (hY : oY.data = .cell v₁) (news : List (Addr × Obj)) (N : News h₀ L s.heap ((L + 5, oX) :: (L + 6, oY) :: (d, listOf us.toArray 0) :: news)) (D : ND ((L + 5, oX) :: (L + 6, oY) :: (d, listOf us.toArray 0) :: news)) (hi : IntsAre us [n0, n1, n2, n3, n4, n5, n6]) (hm : m = fm [("noughts", .int nz tz), ("values", .ref y), ("degrees", .ref dg), ("parts", .ref g), ("octets", .ref q), ("row", .ref r), ("leaves", .ref c), ("joins", .ref e), ("numbers", .ref d), ("script", .ref l)])
  (hnext : ∀ oX oY tx ty h' tk', s.toks ≤ tk' → oX.data = .cell (some (.int n5 tx)) → oY.data = .cell (some (.int n6 ty)) → Fr h₀ L h' (fm [("noughts", .int nz tz), ("values", .ref y), ("degrees", .ref dg), ("parts", .ref g), ("octets", .ref q), ("row", .ref r), ("leaves", .ref c), ("joins", .ref e), ("numbers", .ref d), ("script", .ref l)]) → News h₀ L h' ((L + 5, oX) :: (L + 6, oY) :: (d, listOf us.toArray 0) :: news) → ND ((L + 5, oX) :: (L + 6, oY) :: (d, listOf us.toArray 0) :: news) → wpAny (model PySem.Challenge.rw_kl0095_01.row.prog w) (ktrTop dp un gd "law" cs L a ccd (cellsFrom (L + 1) cs.names []) outer) (execs (lawB w.params 15) (envX "law" cs L a ccd (cellsFrom (L + 1) cs.names []))) Q E { s with heap := h', toks := tk' })
  (B : Below A₀ base outer h₀) (F : Fr h₀ L s.heap m) (X : (lay.heap_1 w.params).In h₀) (T : Top p loose mean mg mb h₀) (hk : cs.kind = .function)
  (hd1 : dp + 12 < recursionLimit) (hu : un + 120 < cLine) :
  wpAny (model PySem.Challenge.rw_kl0095_01.row.prog w) (ktrTop dp un gd "law" cs L a ccd (cellsFrom (L + 1) cs.names []) outer) (execs b (envX "law" cs L a ccd (cellsFrom (L + 1) cs.names []))) Q E s := by
  revert X; k_fill; intro X
  conv at hb => rhs; whnf
  conv at hcs => rhs; whnf
  subst hb hcs
  subst hm
  walk1
  refine toksUp (absQ fun K E2 hK => ?_)
  k_steps
  rename_i dA wsA hA FA NA iA cA leA lA
  replace iA : IntsAre wsA [n5, n6] := iA
  obtain ⟨t5, t6, rfl⟩ : ∃ t5 t6, wsA = [Value.int n5 t5, .int n6 t6] := by
    cases iA with | cons _ t5 iA => cases iA with | cons _ t6 iA => cases iA; exact ⟨t5, t6, rfl⟩
  k_dflt (refine' kun_list FA NA (News.isList NA List.mem_cons_self) rfl rfl rfl fun hB FB NB => ?_)
  k_steps
  have NB2 : News h₀ L hB ((L + 5, oX) :: (L + 6, oY) :: (d, listOf us.toArray 0) :: news) := news_sub NB (.cons _ (List.Sublist.refl _))
  refine storeX_C FB NB2 rfl (.head (nd_off D)) hX fun hC oX2 FC NC hX2 => ?_
  k_steps
  have DX : ND ((L + 5, oX2) :: (L + 6, oY) :: (d, listOf us.toArray 0) :: news) := nd_set D
  refine storeX_C FC NC rfl (.tail (Ne.symm (nd_off DX _ List.mem_cons_self)) (.head (nd_off (nd_tail DX)))) hY fun hD oY2 FD ND2 hY2 => ?_
  k_steps
  refine hK _ _ fun uA => ?_
  exact hnext oX2 oY2 t5 t6 _ _ uA hX2 hY2 FD ND2 (nd_put [_] DX)
end Mine
end SL14
section SL15
open PySem.Calls
namespace Mine
/-- a list of lists of ints, the tokens told not -/
def Lin (items : List Value) (ls : List (List Int)) (nl : List (Addr × Obj)) : Prop := items.length = ls.length ∧ ∀ (i : Nat) (l : List Int), ls[i]? = some l → ∃ (a : Addr) (vs : List Value), items[i]? = some (Value.ref a) ∧ (a, listOf vs.toArray vs.length) ∈ nl ∧ IntsAre vs l
theorem Lin.up {items : List Value} {ls : List (List Int)} {nl nl' : List (Addr × Obj)} (h : Lin items ls nl) (hs : ∀ p ∈ nl, p ∈ nl') : Lin items ls nl' := ⟨h.1, fun i l e => let ⟨a, vs, h1, h2, h3⟩ := h.2 i l e; ⟨a, vs, h1, hs _ h2, h3⟩⟩
theorem Lin.at {items : List Value} {ls : List (List Int)} {nl : List (Addr × Obj)} {i : Nat} {v : Value} (h : Lin items ls nl) (hv : items[i]? = some v) : ∃ l a vs, ls[i]? = some l ∧ v = Value.ref a ∧ (a, listOf vs.toArray vs.length) ∈ nl ∧ IntsAre vs l := by
  have hlt : i < ls.length := h.1 ▸ (List.getElem?_eq_some_iff.mp hv).1
  obtain ⟨a, vs, h1, h2, h3⟩ := h.2 i ls[i] (List.getElem?_eq_getElem hlt)
  rw [hv] at h1
  exact ⟨ls[i], a, vs, List.getElem?_eq_getElem hlt, Option.some.inj h1, h2, h3⟩
def RSt (l : List Int) (_ : Addr) (o : Obj) : Prop := ∃ vs : List Value, o = listOf vs.toArray vs.length ∧ IntsAre vs (stairsF l.length l)
theorem law_15 {w : World} {p : Program} {loose : List Str} {mean : ExcName → Option Value} {mg mb : Str → Option Value}
  {dp un : Nat} {gd : Option (List Code)} {cs : Scope} {a : Addr} {ccd : Value} {outer : List Env} {A₀ : Around} {base h₀ : Heap} {L : Addr} {m : Str → Option Value} {s : Shared} {Q : Flow → Shared → Prop} {E : Value → Shared → Prop} (b : List Stmt) (hb : b = lawB w.params 15) (hcs : cs = lawS w.params) (l d e c r q g dg y ep : Nat) (nz : Int) (tz : Tok) (items : List Value) (ls : List (List Int)) (news : List (Addr × Obj)) (N : News h₀ L s.heap ((y, listOf items.toArray ep) :: news)) (D : ND ((y, listOf items.toArray ep) :: news)) (hL : Lin items ls news) (hls : ls.length ≤ 64) (hll : ∀ l ∈ ls, l.length ≤ 64) (hm : m = fm [("noughts", .int nz tz), ("values", .ref y), ("degrees", .ref dg), ("parts", .ref g), ("octets", .ref q), ("row", .ref r), ("leaves", .ref c), ("joins", .ref e), ("numbers", .ref d), ("script", .ref l)])
  (hnext : ∀ z items2 mk h' tk', Lin items2 (ls.map fun l => stairsF l.length l) mk → Fr h₀ L h' (fm [("stairs", .ref z), ("noughts", .int nz tz), ("values", .ref y), ("degrees", .ref dg), ("parts", .ref g), ("octets", .ref q), ("row", .ref r), ("leaves", .ref c), ("joins", .ref e), ("numbers", .ref d), ("script", .ref l)]) → News h₀ L h' ((z, listOf items2.toArray items2.length) :: (mk ++ ((y, listOf items.toArray ep) :: news))) → ND ((z, listOf items2.toArray items2.length) :: (mk ++ ((y, listOf items.toArray ep) :: news))) → wpAny (model PySem.Challenge.rw_kl0095_01.row.prog w) (ktrTop dp un gd "law" cs L a ccd (cellsFrom (L + 1) cs.names []) outer) (execs (lawB w.params 16) (envX "law" cs L a ccd (cellsFrom (L + 1) cs.names []))) Q E { s with heap := h', toks := tk' })
  (B : Below A₀ base outer h₀) (F : Fr h₀ L s.heap m) (X : (lay.heap_1 w.params).In h₀) (T : Top p loose mean mg mb h₀) (hk : cs.kind = .function)
  (hd1 : dp + 12 < recursionLimit) (hu : un + 120 < cLine) :
  wpAny (model PySem.Challenge.rw_kl0095_01.row.prog w) (ktrTop dp un gd "law" cs L a ccd (cellsFrom (L + 1) cs.names []) outer) (execs b (envX "law" cs L a ccd (cellsFrom (L + 1) cs.names []))) Q E s := by
  revert X; k_fill; intro X
  conv at hb => rhs; whnf
  conv at hcs => rhs; whnf
  subst hb hcs
  subst hm
  walk1
  refine absQ fun K E2 hK => ?_
  k_steps
  k_dflt (refine' Stop.go (compA (by k_asm) rfl ?c1 ?c2 ?c3 ?c4 ?c5 ?c6 ?c7 ?c8 ?_); (case c1 => with_unfolding_all rfl); (case c2 => rfl); (case c3 => decide); (case c4 => rfl); (case c5 => decide); (case c6 => rfl); (case c7 => rfl); (case c8 => rfl))
  k_steps
  refine fun P₀ k₀ => k₀ _ _ items.toArray.size _ (fun i k ys nw => Made RSt ((y, listOf items.toArray ep) :: news) (ls.take i) ys nw) (Src.list rfl F N (.inr ⟨_, List.mem_cons_self, rfl, _, rfl⟩)) (by rw [List.size_toArray, hL.1]; exact Nat.le_trans hls (by decide : 64 ≤ sizeLine)) (.nil D) (fun _ _ _ _ _ _ h => h) (fun i k ys nw h => by rw [h.len]; exact List.length_take_le _ _) ?_ ?_
  · rintro I C D' i v oI oC m₂ ys news₁ h tk E' hi5 hv hJ hS hC hx F2 N2 off ne3
    obtain ⟨li, al, vs, e1, rfl, mL, iL⟩ := hL.at (show items[i]? = some v by simpa using hv)
    refine tests0 ?_
    rw [if_pos rfl]
    k_steps
    k_dflt (refine' Stop.go (stairs_c _ ?cN al vs li (.inr ⟨_, List.mem_cons_of_mem _ (List.mem_cons_of_mem _ (List.mem_cons_of_mem _ (hJ.sub _ (List.mem_cons_of_mem _ mL)))), rfl, _, rfl⟩) iL (hll li (List.mem_of_getElem? e1)) ?cB ?cF ?cX ?cT ?cK ?cD ?cU ?_); (case cN => k_asm); (case cB => k_asm); (case cF => k_asm); (case cX => k_asm); (case cT => k_asm); (case cK => first | assumption | exact rfl); (case cD => ktr_room); (case cU => ktr_units); intro a9 ws9 h9 tk9 i9 F9 N9 o9; (try dsimp only); (try k_fold))
    k_steps
    exact CEnd.push F9 N9 o9 off (srcUp hS fun p hp => List.mem_cons_of_mem _ hp) (by rw [take_snoc e1]; exact .snoc hJ ⟨ws9, rfl, i9⟩ fun p hp => o9 p (List.mem_cons_of_mem _ (List.mem_cons_of_mem _ (List.mem_cons_of_mem _ hp))))
  · rintro k5 ys5 nw5 hS5 hJ5 D5 h5 F5 N5 o5
    rw [List.size_toArray, hL.1, List.take_length] at hJ5
    have nd := nd_cons (o := LCg.lst ys5) (off1_mem o5) hJ5.nd
    have hl5 := hJ5.len
    obtain ⟨mk, rfl, hmk⟩ := hJ5.split
    refine hK _ _ ?_
    exact hnext D5 ys5 mk _ _ ⟨by rw [hl5, List.length_map], fun i l e => by
      rw [List.getElem?_map] at e
      obtain ⟨l0, e0, rfl⟩ := Option.map_eq_some_iff.mp e
      obtain ⟨a, o, h1, h2, vs, rfl, h3⟩ := hmk i l0 e0
      exact ⟨a, vs, h1, h2, h3⟩⟩ F5 N5 nd
end Mine
end SL15
section SL17
open PySem.Calls
namespace Mine
def colF (SS : List (List Int)) (j : Nat) : List Int := SS.map fun l => l.getD j 0
def alongL (x : Int) (H : List Int) : List Int := H.mapIdx fun i h => h * waysN x i i
def alongF (SS : List (List Int)) (x : Int) (j : Nat) : Int := (alongL x (stairsF (colF SS j).length (colF SS j))).sum
def toldF (SS : List (List Int)) (x y : Int) : Nat → Int
  | 0 => 0
  | j + 1 => toldF SS x y j + alongF SS x j * waysN y j j
theorem along_at {x : Int} {H : List Int} {i : Nat} {n : Int} (e : H[i]? = some n) : (alongL x H)[i]? = some (n * waysN x i (Int.toNat (i : Int))) := by
  rw [alongL, List.getElem?_mapIdx, e, Int.toNat_natCast]; rfl
theorem getD_nat (l : List Int) (j : Nat) : l.getD (Int.toNat (j : Int)) 0 = l.getD j 0 := by rw [Int.toNat_natCast]
theorem law_17 {w : World} {p : Program} {loose : List Str} {mean : ExcName → Option Value} {mg mb : Str → Option Value}
  {dp un : Nat} {gd : Option (List Code)} {cs : Scope} {a : Addr} {ccd : Value} {outer : List Env} {A₀ : Around} {base h₀ : Heap} {L : Addr} {m : Str → Option Value} {s : Shared} {Q : Flow → Shared → Prop} {E : Value → Shared → Prop} (b : List Stmt) (hb : b = lawB w.params 16) (hcs : cs = lawS w.params) (l d e c r q g dg y z ep : Nat) (nz : Int) (tz : Tok) (items : List Value) (SS : List (List Int)) (oJ oX oY : Obj) (v₀ : Option Value) (n5 n6 : Int) (tx ty : Tok) (hJ : oJ.data = .cell v₀) (hX : oX.data = .cell (some (.int n5 tx))) (hY : oY.data = .cell (some (.int n6 ty))) (news : List (Addr × Obj)) (N : News h₀ L s.heap ((L + 4, oJ) :: (z, listOf items.toArray ep) :: (L + 5, oX) :: (L + 6, oY) :: news)) (D : ND ((L + 4, oJ) :: (z, listOf items.toArray ep) :: (L + 5, oX) :: (L + 6, oY) :: news)) (hL : Lin items SS news) (hls : SS.length = 5) (hll : ∀ l ∈ SS, l.length = 5)
  (bb : Nat) (hb8 : 8 ≤ bb) (hb3 : bb ≤ 3000000) (hbx : Builtin.Int.intBits n5 ≤ bb) (hby : Builtin.Int.intBits n6 ≤ bb) (hHb : ∀ j < 5, ∀ h ∈ stairsF (colF SS j).length (colF SS j), Builtin.Int.intBits h ≤ 64) (hAb : ∀ j : Nat, j < 5 → IntMulOk (alongF SS n5 j) (waysN n6 j j)) (hm : m = fm [("stairs", .ref z), ("noughts", .int nz tz), ("values", .ref y), ("degrees", .ref dg), ("parts", .ref g), ("octets", .ref q), ("row", .ref r), ("leaves", .ref c), ("joins", .ref e), ("numbers", .ref d), ("script", .ref l)])
  (hnext : ∀ tt va vh oJ v₀ h' tk', oJ.data = .cell v₀ → Fr h₀ L h' (fun y' => if y' = "along" then va else if y' = "heights" then vh else fm [("told", .int (toldF SS n5 n6 5) tt), ("stairs", .ref z), ("noughts", .int nz tz), ("values", .ref y), ("degrees", .ref dg), ("parts", .ref g), ("octets", .ref q), ("row", .ref r), ("leaves", .ref c), ("joins", .ref e), ("numbers", .ref d), ("script", .ref l)] y') → News h₀ L h' ((L + 4, oJ) :: (z, listOf items.toArray ep) :: (L + 5, oX) :: (L + 6, oY) :: news) → ND ((L + 4, oJ) :: (z, listOf items.toArray ep) :: (L + 5, oX) :: (L + 6, oY) :: news) → wpAny (model PySem.Challenge.rw_kl0095_01.row.prog w) (ktrTop dp un gd "law" cs L a ccd (cellsFrom (L + 1) cs.names []) outer) (execs (lawB w.params 18) (envX "law" cs L a ccd (cellsFrom (L + 1) cs.names []))) Q E { s with heap := h', toks := tk' })
  (B : Below A₀ base outer h₀) (F : Fr h₀ L s.heap m) (X : (lay.heap_1 w.params).In h₀) (T : Top p loose mean mg mb h₀) (hk : cs.kind = .function)
  (hd1 : dp + 12 < recursionLimit) (hu : un + 120 < cLine) :
  wpAny (model PySem.Challenge.rw_kl0095_01.row.prog w) (ktrTop dp un gd "law" cs L a ccd (cellsFrom (L + 1) cs.names []) outer) (execs b (envX "law" cs L a ccd (cellsFrom (L + 1) cs.names []))) Q E s := by
  revert X; k_fill; intro X
  conv at hb => rhs; whnf
  conv at hcs => rhs; whnf
  subst hb hcs
  subst hm
  walk1
  refine absQ fun K E2 hK => ?_
  k_steps
  refine hK _ _ ?_
  walk1
  refine absQ fun K2 E3 hK2 => ?_
  k_steps
  k_dflt (refine' Stop.go (forUC ?fF ?fk ?fx ?fc ?_); (case fF => k_asm); (case fk => rfl); (case fx => rfl); (case fc => rfl); k_whole)
  k_steps
  rename_i hB tkB t1 t2 t3 rB FB NB gB
  have hd4 : oJ.data = .cell v₀ := hJ
  refine fun P₀ k₀ => k₀ _ oJ v₀ _ _ 5 _ (fun i _ m' nw => nw = (z, listOf items.toArray ep) :: (L + 5, oX) :: (L + 6, oY) :: news ∧ ∃ tt, ∀ y' : Str, y' ≠ "along" → y' ≠ "heights" → m' y' = fm [("told", .int (toldF SS n5 n6 i) tt), ("stairs", .ref z), ("noughts", .int nz tz), ("values", .ref y), ("degrees", .ref dg), ("parts", .ref g), ("octets", .ref q), ("row", .ref r), ("leaves", .ref c), ("joins", .ref e), ("numbers", .ref d), ("script", .ref l)] y') (SrcC.range rfl FB NB rB range_small range_five ⟨_, List.mem_cons_self⟩) trivial hd4 (nd_off D) ⟨rfl, _, fun _ _ _ => rfl⟩ (by rintro i k k' m nw _ h; exact h) ?_ ?_
  · rintro I j v oI oc2 m₁ news₁ h tk E' hj5 ⟨tj, rfl⟩ ⟨rfl, tt, hm1⟩ hS2 off2 hIc F2 N2 hd2
    rw [Int.zero_add] at hd2
    have hj5' : j < 5 := hj5
    replace F2 := fr_done2 F2 hm1
    refine absQ fun K3 E4 hK3 => ?_
    walk1
    refine absQ fun K4 E5 hK4 => ?_
    k_steps
    k_dflt (refine' Stop.go (compU (by k_asm) ?c2 ?c3 ?c4 ?c5 ?c6 ?_); (case c2 => rfl); (case c3 => decide); (case c4 => rfl); (case c5 => decide); (case c6 => rfl))
    k_steps
    refine fun P₁ k₁ => k₁ _ _ items.toArray.size _ (fun i _ ys nw => nw = (I, oI) :: (L + 4, oc2) :: (z, listOf items.toArray ep) :: (L + 5, oX) :: (L + 6, oY) :: news ∧ IntsAre ys ((SS.take i).map fun l => l.getD j 0) ∧ ys.length ≤ i) (Src.list rfl F2 N2 (.inr ⟨_, List.mem_cons_of_mem _ (List.mem_cons_of_mem _ List.mem_cons_self), rfl, _, rfl⟩)) (by rw [List.size_toArray, hL.1, hls]; exact (by decide : 5 ≤ sizeLine)) ⟨rfl, .nil, Nat.le_refl _⟩ (by rintro i k k' m nw _ h; exact h) (fun _ _ _ _ h => h.2.2) ?_ ?_
    · rintro I3 C3 D3 i3 v3 oI3 oC3 m3 ys3 nw3 h3 tk3 E3' hi3 hv3 ⟨rfl, iy3, ly3⟩ hS3 hC3 hx3 F3 N3 off3 ne3
      obtain ⟨li, al, vs, e1, rfl, mL, iL⟩ := hL.at (show items[i3]? = some v3 by simpa using hv3)
      have hl5 := hll li (List.mem_of_getElem? e1)
      refine tests0 ?_
      rw [if_pos rfl]
      k_steps
      refine Stop.go (item_ints (News.isList N3 (n := vs.length) (List.mem_cons_of_mem _ (List.mem_cons_of_mem _ (List.mem_cons_of_mem _ (List.mem_cons_of_mem _ (List.mem_cons_of_mem _ (List.mem_cons_of_mem _ (List.mem_cons_of_mem _ (List.mem_cons_of_mem _ (mL)))))))))) iL (Int.natCast_nonneg j) (by rw [hl5]; exact Int.ofNat_lt.mpr hj5') (by rw [hl5]; decide) fun t9 => ?_)
      rw [getD_nat]
      refine CEnd.intro F3 N3 off3 hS3 ⟨rfl, ?_, ?_⟩
      · rw [take_snoc e1, List.map_append]; exact ints_snoc iy3 _ _
      · rw [List.length_append]; exact Nat.succ_le_succ ly3
    · rintro k5 ys5 nw5 hS5 ⟨rfl, iy5, ly5⟩ D5 h5 F5 N5 o5
      replace iy5 : IntsAre ys5 (colF SS j) := by rw [List.size_toArray, hL.1, List.take_length] at iy5; exact iy5
      k_steps
      k_dflt (refine' Stop.go (stairs_c _ ?cN D5 ys5 (colF SS j) (.inr ⟨LCg.lst ys5, List.mem_cons_self, rfl, _, rfl⟩) iy5 (by rw [colF, List.length_map, hls]; decide) ?cB ?cF ?cX ?cT ?cK ?cD ?cU ?_); (case cN => k_asm); (case cB => k_asm); (case cF => k_asm); (case cX => k_asm); (case cT => k_asm); (case cK => first | assumption | exact rfl); (case cD => ktr_room); (case cU => ktr_units); intro aH wsH hH tkH iH FH NH oH; (try dsimp only); (try k_fold))
      k_steps
      rename_i hS FS NS
      have hH5 : (stairsF (colF SS j).length (colF SS j)).length ≤ 5 := Nat.le_trans (stairs_len.go _ _) (by rw [colF, List.length_map, hls]; exact Nat.le_refl _)
      replace NS : News h₀ L hS ((aH, listOf wsH.toArray wsH.length) :: (I, oI) :: (L + 4, oc2) :: (z, listOf items.toArray ep) :: (L + 5, oX) :: (L + 6, oY) :: news) := news_sub (l := (aH, listOf wsH.toArray wsH.length) :: (D5, LCg.lst ys5) :: (I, oI) :: (L + 4, oc2) :: (z, listOf items.toArray ep) :: (L + 5, oX) :: (L + 6, oY) :: news) NS (.cons_cons _ (.cons _ (List.Sublist.refl _)))
      refine hK4 _ _ ?_
      walk1
      refine absQ fun K5 E6 hK5 => ?_
      k_steps
      k_dflt (refine' Stop.go (pairU (by k_asm) ?c2 ?c3 ?c4 ?c5 ?c6 ?c7 ?c8 ?_); (case c2 => rfl); (case c3 => decide); (case c4 => rfl); (case c5 => decide); (case c6 => rfl); (case c7 => rfl); (case c8 => decide))
      k_steps
      refine Stop.go (pairEnum (V := fun i v => ∃ n t, v = .int n t ∧ (alongL n5 (stairsF (colF SS j).length (colF SS j)))[i]? = some n) rfl FS NS (.inr ⟨_, List.mem_cons_self, rfl, _, rfl⟩) ?_ ?_ ?_)
      · rw [List.size_toArray, iH.length]; exact Nat.le_trans hH5 (by decide : 5 ≤ sizeLine)
      · rintro h6 i6 a6 b6 C6 oC6 m6 nw6 h7 tk7 Q7 E7 ⟨t6, rfl, hb6⟩ hC6 hx6 hy6 hm6 hsub F7 N7 kk
        have NX : News h₀ L h7 ((L + 5, oX) :: (C6, oC6) :: nw6) := List.forall_mem_cons.mpr ⟨N7 _ (hsub _ (List.mem_cons_of_mem _ (List.mem_cons_of_mem _ (List.mem_cons_of_mem _ (List.mem_cons_of_mem _ List.mem_cons_self))))), List.forall_mem_cons.mpr ⟨N7 _ hm6, N7⟩⟩
        clear N7
        obtain ⟨nH, tH, rfl, eH⟩ := IntsAre.at iH i6 b6 (by simpa using hb6)
        k_steps
        have hi6 : i6 < 5 := Nat.lt_of_lt_of_le (List.getElem?_eq_some_iff.mp eH).1 hH5
        k_dflt (refine' Stop.go (ways_c n5 i6 tx t6 bb hb8 hb3 hbx (Int.natCast_nonneg _) (Int.ofNat_le.mpr (Nat.le_of_lt_succ hi6)) ?cB ?cF ?cX ?cT ?cK ?cD ?cU ?_); (case cB => k_asm); (case cF => k_asm); (case cX => k_asm); (case cT => k_asm); (case cK => first | assumption | exact rfl); (case cD => ktr_room); (case cU => ktr_units); intro tW hW tkW gW; (try dsimp only); (try k_fold))
        have FW := F7.keeps gW
        have NW := NX.grown gW
        k_steps
        k_dflt (refine' Stop.go (mul_c _ ?cN _ _ _ _ ?cM ?cB ?cF ?cX ?cT ?cK ?cD ?cU ?_); (case cN => k_asm); (case cB => k_asm); (case cF => k_asm); (case cX => k_asm); (case cT => k_asm); (case cK => first | assumption | exact rfl); (case cD => ktr_room); (case cU => ktr_units); (case cM => exact IntMulOk.of_left (hHb j hj5' nH (List.mem_of_getElem? eH))); intro t' h' tk' q1 q2 F' N'; (try dsimp only); (try k_fold))
        k_steps
        exact kk _ _ _ ⟨_, _, rfl, along_at eH⟩ F' (news_sub N' (.cons _ (.cons _ (List.Sublist.refl _))))
      · intro h8 zs hzl hzV D8 h9 tk9 F9 N9 o9
        have iz : IntsAre zs (alongL n5 (stairsF (colF SS j).length (colF SS j))) := ints_of_at (by rw [hzl, List.size_toArray, iH.length, alongL, List.length_mapIdx]) hzV
        have hz5 : (alongL n5 (stairsF (colF SS j).length (colF SS j))).length ≤ 5 := by rw [alongL, List.length_mapIdx]; exact hH5
        replace N9 : News h₀ L h9 ((D8, listOf zs.toArray zs.length) :: _) := N9
        k_steps
        rename_i hG tkG tG hG2 FG NG
        refine hK5 _ _ ?_
        walk1
        refine absQ fun K6 E7 hK6 => ?_
        k_steps
        k_dflt (refine' Stop.go (ways_c n6 j ty tj bb hb8 hb3 hby (Int.natCast_nonneg _) (Int.ofNat_le.mpr (Nat.le_of_lt_succ hj5')) ?cB ?cF ?cX ?cT ?cK ?cD ?cU ?_); (case cB => k_asm); (case cF => k_asm); (case cX => k_asm); (case cT => k_asm); (case cK => first | assumption | exact rfl); (case cD => ktr_room); (case cU => ktr_units); intro tW hW tkW gW; (try dsimp only); (try k_fold))
        have FW := FG.keeps gW
        have NW := NG.grown gW
        k_steps
        k_dflt (refine' Stop.go (mul_c _ ?cN _ _ _ _ ?cM ?cB ?cF ?cX ?cT ?cK ?cD ?cU ?_); (case cN => k_asm); (case cB => k_asm); (case cF => k_asm); (case cX => k_asm); (case cT => k_asm); (case cK => first | assumption | exact rfl); (case cD => ktr_room); (case cU => ktr_units); (case cM => exact hAb j hj5'); intro t' h' tk' q1 q2 F' N'; (try dsimp only); (try k_fold))
        k_steps
        k_dflt (refine' Stop.go (add_c _ ?cN _ _ _ _  ?cB ?cF ?cX ?cT ?cK ?cD ?cU ?_); (case cN => k_asm); (case cB => k_asm); (case cF => k_asm); (case cX => k_asm); (case cT => k_asm); (case cK => first | assumption | exact rfl); (case cD => ktr_room); (case cU => ktr_units); skip; intro t' h' tk' q1 q2 F' N'; (try dsimp only); (try k_fold))
        k_steps
        rename_i hE FE NE
        refine hK6 _ _ ?_
        k_steps
        refine hK3 _ _ ?_
        refine ForEndC.next (news₂ := (z, listOf items.toArray ep) :: (L + 5, oX) :: (L + 6, oY) :: news) FE (news_sub NE (.cons _ (.cons _ (List.Sublist.refl _)))) hd2 off2 trivial ⟨rfl, t', fun y' g1 g2 => ?_⟩
        simp only [fm, if_neg g1, if_neg g2]
        by_cases g : y' = "told"
        · rw [if_pos g, if_pos g]; rfl
        · rw [if_neg g, if_neg g, if_neg g]
  · rintro h6 tk6 m6 oc6 v6 news6 F6 N6 hd6 off6 hS6 ⟨rfl, tt, hm6⟩
    refine hK2 _ _ ?_
    exact hnext tt _ _ oc6 v6 _ _ hd6 (fr_done2 F6 hm6) N6 (nd_set D)
end Mine
end SL17
section SL18
open PySem.Calls
namespace Mine
def plainT (c : List (Int × Int)) (x y k : Int) : Int := kdfLook c k 0 * x ^ (k.fdiv 8).toNat * y ^ (k.fmod 8).toNat
theorem pow_room {a n : Int} (h : Builtin.Int.intBits a ≤ 1048576) (k : n ≤ 4) : (Builtin.Int.intBits a : Int) * n ≤ 2 ^ 27 := by
  have h1 : ((Builtin.Int.intBits a : Nat) : Int) ≤ 1048576 := Int.ofNat_le.mpr h
  have h0 : (0 : Int) ≤ ((Builtin.Int.intBits a : Nat) : Int) := Int.natCast_nonneg _
  have h2 : ((Builtin.Int.intBits a : Nat) : Int) * n ≤ ((Builtin.Int.intBits a : Nat) : Int) * 4 := Int.mul_le_mul_of_nonneg_left k h0
  omega
def plainF (c : List (Int × Int)) (x y : Int) : Int := ((c.map (·.1)).map (plainT c x y)).sum
theorem law_18 {w : World} {p : Program} {loose : List Str} {mean : ExcName → Option Value} {mg mb : Str → Option Value}
  {dp un : Nat} {gd : Option (List Code)} {cs : Scope} {a : Addr} {ccd : Value} {outer : List Env} {A₀ : Around} {base h₀ : Heap} {L : Addr} {m : Str → Option Value} {s : Shared} {Q : Flow → Shared → Prop} {E : Value → Shared → Prop} (b : List Stmt) (hb : b = lawB w.params 18) (hcs : cs = lawS w.params) (l d e c r q g dg y z zw : Nat) (nz told : Int) (tz tt : Tok) (va vh : Option Value) (oW ow oX oY : Obj) (wl : List (Int × Int)) (n5 n6 : Int) (tx ty : Tok) (hW : oW.data = .cell (some (.ref zw))) (hX : oX.data = .cell (some (.int n5 tx))) (hY : oY.data = .cell (some (.int n6 ty))) (news : List (Addr × Obj)) (N : News h₀ L s.heap ((L + 3, oW) :: (zw, ow) :: (L + 5, oX) :: (L + 6, oY) :: news)) (hw : DI PySem.Challenge.rw_kl0095_01.row.prog w ow wl) (lo : (zw == sysModules) = false) (hlen : wl.length ≤ 64)
  (hkey : ∀ k ∈ wl.map (·.1), 0 ≤ k.fdiv 8 ∧ k.fdiv 8 ≤ 4 ∧ k.fmod 8 ≤ 4) (hcb : ∀ k, Builtin.Int.intBits (kdfLook wl k 0) ≤ 64) (hbx : Builtin.Int.intBits n5 ≤ 1048576) (hby : Builtin.Int.intBits n6 ≤ 1048576) (hpm : ∀ k ∈ wl.map (·.1), IntMulOk (kdfLook wl k 0 * n5 ^ (k.fdiv 8).toNat) (n6 ^ (k.fmod 8).toNat)) (hm : m = fun y' : Str => if y' = "along" then va else if y' = "heights" then vh else fm [("told", .int told tt), ("stairs", .ref z), ("noughts", .int nz tz), ("values", .ref y), ("degrees", .ref dg), ("parts", .ref g), ("octets", .ref q), ("row", .ref r), ("leaves", .ref c), ("joins", .ref e), ("numbers", .ref d), ("script", .ref l)] y')
  (hnext : ∀ tp h' tk', Fr h₀ L h' (fun y' : Str => if y' = "plain" then some (.int (plainF wl n5 n6) tp) else (fun y' : Str => if y' = "along" then va else if y' = "heights" then vh else fm [("told", .int told tt), ("stairs", .ref z), ("noughts", .int nz tz), ("values", .ref y), ("degrees", .ref dg), ("parts", .ref g), ("octets", .ref q), ("row", .ref r), ("leaves", .ref c), ("joins", .ref e), ("numbers", .ref d), ("script", .ref l)] y') y') → News h₀ L h' ((L + 3, oW) :: (zw, ow) :: (L + 5, oX) :: (L + 6, oY) :: news) → wpAny (model PySem.Challenge.rw_kl0095_01.row.prog w) (ktrTop dp un gd "law" cs L a ccd (cellsFrom (L + 1) cs.names []) outer) (execs (lawB w.params 19) (envX "law" cs L a ccd (cellsFrom (L + 1) cs.names []))) Q E { s with heap := h', toks := tk' })
  (B : Below A₀ base outer h₀) (F : Fr h₀ L s.heap m) (X : (lay.heap_1 w.params).In h₀) (T : Top p loose mean mg mb h₀) (hk : cs.kind = .function)
  (hd1 : dp + 12 < recursionLimit) (hu : un + 120 < cLine) :
  wpAny (model PySem.Challenge.rw_kl0095_01.row.prog w) (ktrTop dp un gd "law" cs L a ccd (cellsFrom (L + 1) cs.names []) outer) (execs b (envX "law" cs L a ccd (cellsFrom (L + 1) cs.names []))) Q E s := by
  revert X; k_fill; intro X
  conv at hb => rhs; whnf
  conv at hcs => rhs; whnf
  subst hb hcs
  subst hm
  walk1
  refine absQ fun K E2 hK => ?_
  k_steps
  k_dflt (refine' Stop.go (compU (by k_asm) ?c2 ?c3 ?c4 ?c5 ?c6 ?_); (case c2 => rfl); (case c3 => decide); (case c4 => rfl); (case c5 => decide); (case c6 => rfl))
  k_steps
  refine fun P₀ k₀ => k₀ _ _ wl.length _ (fun i _ ys nw => nw = (L + 3, oW) :: (zw, ow) :: (L + 5, oX) :: (L + 6, oY) :: news ∧ IntsAre ys (((wl.map (·.1)).take i).map (plainT wl n5 n6)) ∧ ys.length ≤ i) (Src.dict rfl F N (.inr (List.mem_cons_of_mem _ List.mem_cons_self)) hw lo) (Nat.le_trans hlen (by decide)) ⟨rfl, .nil, Nat.le_refl _⟩ (by rintro i k k' m nw _ h; exact h) (fun _ _ _ _ h => h.2.2) ?_ ?_
  · rintro I2 C2 D2 i2 v2 oI2 oC2 m2 ys2 news2 h2 tk2 E2' hi2 ⟨kk, yy, tt2, hcc, rfl⟩ ⟨rfl, iy2, ly2⟩ hS3 hC2 hx2 F3 N3 off3 ne3
    have mk : kk ∈ wl.map (·.1) := List.mem_map.mpr ⟨_, List.mem_of_getElem? hcc, rfl⟩
    obtain ⟨k1, k2, k3⟩ := hkey kk mk
    refine tests0 ?_
    rw [if_pos rfl]
    k_steps
    refine Stop.go (kdf_item (hw.tab (N3 (zw, ow) (by k_mem)).1 lo) (has_of_get hcc) fun ta => ?_)
    dsimp only
    have hm1 : IntMulOk (kdfLook wl kk 0) (n5 ^ (kk.fdiv 8).toNat) := IntMulOk.of_left (hcb kk)
    have hm2 := hpm kk mk
    have k0 : 0 ≤ kk.fmod 8 := Int.fmod_nonneg_of_pos _ (by decide)
    iterate 6 walk1
    refine pow_int k1 (pow_room hbx k2) ?_
    walk1
    iterate 6 walk1
    refine pow_int k0 (pow_room hby k3) ?_
    walk1
    refine CEnd.intro F3 N3 off3 hS3 ⟨rfl, ?_, ?_⟩
    · rw [take_map hcc, List.map_append]; exact ints_snoc iy2 _ _
    · rw [List.length_append]; exact Nat.succ_le_succ ly2
  · rintro k5 ys5 nw5 hS5 ⟨rfl, iy5, ly5⟩ D5 h5 F5 N5 o5
    rw [show wl.length = (wl.map (·.1)).length from (List.length_map ..).symm, List.take_length] at iy5
    replace N5 : News h₀ L h5 ((D5, listOf ys5.toArray ys5.length) :: _) := N5
    have hlen5 : ((wl.map (·.1)).map (plainT wl n5 n6)).length ≤ 64 := by rw [List.length_map, List.length_map]; exact hlen
    k_steps
    rename_i h6 tk6 t6 h7 F7 N7
    refine hK _ _ ?_
    exact hnext t6 _ _ F7 (news_sub N7 (.cons _ (List.Sublist.refl _)))
end Mine
end SL18
section SL19
open PySem.Calls
namespace Mine
theorem law_19 {w : World} {p : Program} {loose : List Str} {mean : ExcName → Option Value} {mg mb : Str → Option Value}
  {dp un : Nat} {gd : Option (List Code)} {cs : Scope} {a : Addr} {ccd : Value} {outer : List Env} {A₀ : Around} {base h₀ : Heap} {L : Addr} {m : Str → Option Value} {s : Shared} {Q : Flow → Shared → Prop} {E : Value → Shared → Prop} (b : List Stmt) (hb : b = lawB w.params 19) (hcs : cs = lawS w.params) (l d e c r q g dg y z x xe : Nat) (nz V : Int) (tz tt tp : Tok) (va vh : Option Value) (oR oX oY : Obj) (n5 n6 : Int) (tx ty : Tok) (ws : List Value) (row : List Int) (hoR : oR.data = .cell (some (.ref x))) (hX : oX.data = .cell (some (.int n5 tx))) (hY : oY.data = .cell (some (.int n6 ty))) (tl news : List (Addr × Obj)) (hT : TabL tl) (N : News h₀ L s.heap (tl ++ ((L + 2, oR) :: (x, listOf ws.toArray xe) :: (L + 5, oX) :: (L + 6, oY) :: news))) (ap : Apart tl ((L + 2, oR) :: (x, listOf ws.toArray xe) :: (L + 5, oX) :: (L + 6, oY) :: news)) (hC : CodeHd h₀ 123 119) (hi : IntsAre ws row) (hlen : row.length ≤ 20)
  (hlast : ∃ n, row[row.length - 1]? = some n ∧ n < 256) (hv : runM n5 n6 row = [V]) (hok : ∀ k n, row[k]? = some n → okM (runM n5 n6 (row.take k)) n) (hm : m = fun y' : Str => if y' = "plain" then some (.int V tp) else (fun y' : Str => if y' = "along" then va else if y' = "heights" then vh else fm [("told", .int V tt), ("stairs", .ref z), ("noughts", .int nz tz), ("values", .ref y), ("degrees", .ref dg), ("parts", .ref g), ("octets", .ref q), ("row", .ref r), ("leaves", .ref c), ("joins", .ref e), ("numbers", .ref d), ("script", .ref l)] y') y')
  (hnext : ∀ h' tk' m tl', TabL tl' → Fr h₀ L h' m → News h₀ L h' tl' → Q (.ret (.bool true)) { s with heap := h', toks := tk' })
  (B : Below A₀ base outer h₀) (F : Fr h₀ L s.heap m) (X : (lay.heap_1 w.params).In h₀) (T : Top p loose mean mg mb h₀) (hk : cs.kind = .function)
  (hd1 : dp + 12 < recursionLimit) (hu : un + 120 < cLine) :
  wpAny (model PySem.Challenge.rw_kl0095_01.row.prog w) (ktrTop dp un gd "law" cs L a ccd (cellsFrom (L + 1) cs.names []) outer) (execs b (envX "law" cs L a ccd (cellsFrom (L + 1) cs.names []))) Q E s := by
  revert X; k_fill; intro X
  conv at hb => rhs; whnf
  conv at hcs => rhs; whnf
  subst hb hcs
  subst hm
  have hiS : Stop (IntsAre ws row) := Stop.go hi
  walk1
  refine absQ fun K E2 hK => ?_
  generalize hnx : tl ++ ((L + 2, oR) :: (x, listOf ws.toArray xe) :: (L + 5, oX) :: (L + 6, oY) :: news) = nx at N
  have N4 : News h₀ L s.heap ((L + 2, oR) :: (L + 5, oX) :: (L + 6, oY) :: nx) := by
    rw [← hnx] at N ⊢
    exact List.forall_mem_cons.mpr ⟨N _ (List.mem_append_right _ List.mem_cons_self), List.forall_mem_cons.mpr ⟨N _ (List.mem_append_right _ (List.mem_cons_of_mem _ (List.mem_cons_of_mem _ (List.mem_cons_self)))), List.forall_mem_cons.mpr ⟨N _ (List.mem_append_right _ (List.mem_cons_of_mem _ (List.mem_cons_of_mem _ (List.mem_cons_of_mem _ (List.mem_cons_self))))), N⟩⟩⟩
  clear N
  k_steps
  rename_i lV hV FV NV lV2
  have NV2 : News h₀ L hV (tl ++ ((lV, listOf #[.int n5 tx, .int n6 ty] 0) :: (L + 2, oR) :: (x, listOf ws.toArray xe) :: (L + 5, oX) :: (L + 6, oY) :: news)) := news_comm [_] tl (hnx ▸ news_sub NV (.cons_cons _ (.cons _ (.cons _ (.cons _ (List.Sublist.refl _))))))
  have apV : Apart tl ((lV, listOf #[Value.int n5 tx, .int n6 ty] 0) :: (L + 2, oR) :: (x, listOf ws.toArray xe) :: (L + 5, oX) :: (L + 6, oY) :: news) := apart_cons ap fun p hp => Nat.ne_of_lt (allLt_mem lV2.2.2.2 p (hnx ▸ List.mem_append_left _ hp))
  k_dflt (refine' Stop.go (value_c tl hT _ ?vN apV ?vC x lV ws row (.inr ⟨_, List.mem_cons_of_mem _ (List.mem_cons_of_mem _ (List.mem_cons_self)), rfl, _, rfl⟩) (Stop.out hiS) (Nat.le_trans hlen (by decide)) n5 n6 tx ty (.inr ⟨_, List.mem_cons_self, rfl, _, rfl⟩) hok V hv hlast ?cB ?cF ?cX ?cT ?cK ?cD ?cU ?_); (case cB => k_asm); (case cF => k_asm); (case cX => k_asm); (case cT => k_asm); (case cK => first | assumption | exact rfl); (case cD => ktr_room); (case cU => ktr_units); (case vN => exact NV2); (case vC => exact codeHd_hide hC FV NV2); intro u tl3 h9 tk9 hT3 F9 N9 ap3 u1 u2; (try dsimp only); (try k_fold))
  generalize hn9 : tl3 ++ ((lV, listOf #[.int n5 tx, .int n6 ty] 0) :: (L + 2, oR) :: (x, listOf ws.toArray xe) :: (L + 5, oX) :: (L + 6, oY) :: news) = n9 at N9
  k_steps
  rename_i la ha l1a lb hb Fb Nb l1b
  refine hK _ _ ?_
  exact hnext _ _ _ _ hT3 Fb (fun p hp => Nb p (by have h9 : p ∈ n9 := hn9 ▸ List.mem_append_left _ hp; simp only [List.mem_cons]; simp [h9]))
end Mine
end SL19
end Walks
section SP1
namespace Mine
def ks (c : List (Int × Int)) : List Int := c.map (·.1)
theorem look_nil (k d : Int) : kdfLook [] k d = d := rfl
theorem look_cons (a b : Int) (c : List (Int × Int)) (k d : Int) : kdfLook ((a, b) :: c) k d = if a = k then b else kdfLook c k d := by
  unfold kdfLook
  rw [List.find?_cons]
  by_cases h : a = k
  · simp [h]
  · simp [h]
theorem look_off {k d : Int} : ∀ {c : List (Int × Int)}, k ∉ ks c → kdfLook c k d = d
  | [], _ => rfl
  | (a, b) :: c, h => by
    have h' : ¬ (k = a ∨ k ∈ ks c) := by simpa [ks] using h
    rw [look_cons, if_neg (fun e => h' (.inl e.symm)), look_off fun m => h' (.inr m)]
theorem any_iff {c : List (Int × Int)} {k : Int} : (c.any fun p => decide (p.1 = k)) = true ↔ k ∈ ks c := by
  simp [ks, List.any_eq_true]
theorem put_keys (c : List (Int × Int)) (k v : Int) : ks (kdfPut c k v) = if k ∈ ks c then ks c else ks c ++ [k] := by
  unfold kdfPut
  by_cases h : k ∈ ks c
  · rw [if_pos (any_iff.mpr h), if_pos h]
    unfold ks
    rw [List.map_map]
    refine List.map_congr_left fun p _ => ?_
    by_cases e : p.1 = k <;> simp [e]
  · rw [if_neg (fun q => h (any_iff.mp q)), if_neg h]
    simp [ks]
theorem look_set (k v k' : Int) : ∀ {c : List (Int × Int)}, k ∈ ks c → kdfLook (c.map fun p => if decide (p.1 = k) then (p.1, v) else p) k' 0 = if k' = k then v else kdfLook c k' 0
  | [], h => by simp [ks] at h
  | (a, b) :: c, h => by
    rw [List.map_cons]
    by_cases ha : a = k
    · subst ha
      simp only [decide_true, if_true]
      rw [look_cons, look_cons]
      by_cases hk : k' = a
      · rw [if_pos hk.symm, if_pos hk]
      · rw [if_neg (Ne.symm hk), if_neg hk, if_neg (Ne.symm hk)]
        by_cases hm : a ∈ ks c
        · rw [look_set a v k' hm, if_neg hk]
        · have e : (c.map fun p => if decide (p.1 = a) then (p.1, v) else p) = c := by
            refine (List.map_congr_left fun p hp => ?_).trans (List.map_id c)
            have : p.1 ≠ a := fun q => hm (List.mem_map.mpr ⟨p, hp, q⟩)
            simp [this]
          rw [e]
    · have hm : k ∈ ks c := by
        have : k = a ∨ k ∈ ks c := by simpa [ks] using h
        exact this.resolve_left (Ne.symm ha)
      simp only [ha, decide_false, Bool.false_eq_true, if_false]
      rw [look_cons, look_cons, look_set k v k' hm]
      by_cases hk : k' = k
      · rw [if_pos hk, if_neg (fun e => ha (e.trans hk)), if_pos hk]
      · rw [if_neg hk, if_neg hk]
theorem look_app {c : List (Int × Int)} {k v k' : Int} (h : k ∉ ks c) : kdfLook (c ++ [(k, v)]) k' 0 = if k' = k then v else kdfLook c k' 0 := by
  induction c with
  | nil =>
    rw [List.nil_append, look_cons, look_nil]
    by_cases e : k' = k
    · rw [if_pos e, if_pos e.symm]
    · rw [if_neg e, if_neg (Ne.symm e)]
  | cons p c ih =>
    obtain ⟨a, b⟩ := p
    have h' : ¬ (k = a ∨ k ∈ ks c) := by simpa [ks] using h
    rw [List.cons_append, look_cons, look_cons, ih fun m => h' (.inr m)]
    by_cases e : k' = k
    · rw [if_pos e, if_neg (fun q => h' (.inl (e ▸ q.symm))), if_pos e]
    · rw [if_neg e, if_neg e]
theorem look_put (c : List (Int × Int)) (k v k' : Int) : kdfLook (kdfPut c k v) k' 0 = if k' = k then v else kdfLook c k' 0 := by
  unfold kdfPut
  by_cases h : k ∈ ks c
  · rw [if_pos (any_iff.mpr h)]; exact look_set k v k' h
  · rw [if_neg (fun q => h (any_iff.mp q))]; exact look_app h
theorem put_nodup {c : List (Int × Int)} {k v : Int} (h : (ks c).Nodup) : (ks (kdfPut c k v)).Nodup := by
  rw [put_keys]
  by_cases hk : k ∈ ks c
  · rw [if_pos hk]; exact h
  · rw [if_neg hk]
    exact List.nodup_append.mpr ⟨h, by simp, fun a ha b hb e => hk (by rw [List.mem_singleton.mp hb] at e; exact e ▸ ha)⟩
theorem put_mem {c : List (Int × Int)} {k v a : Int} (h : a ∈ ks (kdfPut c k v)) : a = k ∨ a ∈ ks c := by
  rw [put_keys] at h
  by_cases hk : k ∈ ks c
  · rw [if_pos hk] at h; exact .inr h
  · rw [if_neg hk] at h
    exact (List.mem_append.mp h).elim .inr fun m => .inl (List.mem_singleton.mp m)

/-! sums over keys -/
theorem sum_zero {K : List Int} {φ : Int → Int} (h : ∀ k ∈ K, φ k = 0) : (K.map φ).sum = 0 := by
  induction K with
  | nil => rfl
  | cons a K ih =>
    rw [List.map_cons, List.sum_cons, h a List.mem_cons_self, ih fun k hk => h k (List.mem_cons_of_mem _ hk)]; rfl
theorem sum_pick {K : List Int} {φ : Int → Int} {a : Int} (hn : K.Nodup) (ha : a ∈ K) : (K.map φ).sum = φ a + (K.map fun k => if k = a then 0 else φ k).sum := by
  induction K with
  | nil => cases ha
  | cons b K ih =>
    obtain ⟨hb, hn'⟩ := List.nodup_cons.mp hn
    rw [List.map_cons, List.sum_cons, List.map_cons, List.sum_cons]
    by_cases e : b = a
    · subst e
      rw [if_pos rfl, Int.zero_add]
      congr 2
      refine List.map_congr_left fun k hk => ?_
      have hne : k ≠ b := fun q => hb (q ▸ hk)
      rw [if_neg hne]
    · rw [if_neg e, ih hn' ((List.mem_cons.mp ha).resolve_left (Ne.symm e))]
      omega
theorem sum_over {A K : List Int} {φ : Int → Int} (hK : K.Nodup) (hA : A.Nodup) (hs : ∀ k ∈ A, k ∈ K) (h0 : ∀ k ∈ K, k ∉ A → φ k = 0) : (K.map φ).sum = (A.map φ).sum := by
  induction A generalizing φ with
  | nil => rw [sum_zero fun k hk => h0 k hk (by simp)]; rfl
  | cons a A ih =>
    obtain ⟨ha, hA'⟩ := List.nodup_cons.mp hA
    rw [sum_pick hK (hs a List.mem_cons_self), List.map_cons, List.sum_cons, ih hA' (fun k hk => hs k (List.mem_cons_of_mem _ hk)) ?_]
    · congr 2
      refine List.map_congr_left fun k hk => ?_
      have hne : k ≠ a := fun q => ha (q ▸ hk)
      rw [if_neg hne]
    · intro k hk hka
      by_cases e : k = a
      · rw [if_pos e]
      · rw [if_neg e]; exact h0 k hk fun m => (List.mem_cons.mp m).elim e hka
theorem sum_add {K : List Int} {φ ψ : Int → Int} : (K.map fun k => φ k + ψ k).sum = (K.map φ).sum + (K.map ψ).sum := by
  induction K with
  | nil => rfl
  | cons a K ih => simp only [List.map_cons, List.sum_cons, ih]; omega
theorem sum_mul {K : List Int} {φ : Int → Int} (c : Int) : (K.map fun k => c * φ k).sum = c * (K.map φ).sum := by
  induction K with
  | nil => simp
  | cons a K ih => simp only [List.map_cons, List.sum_cons, ih]; rw [Int.mul_add]
theorem sum_congr {K : List Int} {φ ψ : Int → Int} (h : ∀ k ∈ K, φ k = ψ k) : (K.map φ).sum = (K.map ψ).sum := by rw [List.map_congr_left h]

/-! the grid of keys -/
def KK : List Int := [0, 1, 2, 3, 4, 8, 9, 10, 11, 12, 16, 17, 18, 19, 20, 24, 25, 26, 27, 28, 32, 33, 34, 35, 36]
theorem KK_nodup : KK.Nodup := by decide
/-- a key of degree D at most -/
def Kd (D : Nat) (k : Int) : Prop := ∃ a b : Nat, k = 8 * a + b ∧ a + b ≤ D
theorem Kd.up {D D' : Nat} {k : Int} (h : Kd D k) (hD : D ≤ D') : Kd D' k := let ⟨a, b, e, l⟩ := h; ⟨a, b, e, Nat.le_trans l hD⟩
theorem Kd.mem {k : Int} (h : Kd 4 k) : k ∈ KK := by
  obtain ⟨a, b, rfl, l⟩ := h
  have ha : a = 0 ∨ a = 1 ∨ a = 2 ∨ a = 3 ∨ a = 4 := by omega
  have hb : b = 0 ∨ b = 1 ∨ b = 2 ∨ b = 3 ∨ b = 4 := by omega
  rcases ha with rfl | rfl | rfl | rfl | rfl <;> rcases hb with rfl | rfl | rfl | rfl | rfl <;> decide
/-- the term of a key -/
def mono (x y k : Int) : Int := x ^ (k.fdiv 8).toNat * y ^ (k.fmod 8).toNat
theorem key_div {a b : Nat} (hb : b < 8) : ((8 * (a : Int) + b).fdiv 8).toNat = a ∧ ((8 * (a : Int) + b).fmod 8).toNat = b := by
  rw [Int.fdiv_eq_ediv_of_nonneg _ (by decide), Int.fmod_eq_emod_of_nonneg _ (by decide)]
  omega
theorem mono_at (x y : Int) {a b : Nat} (hb : b < 8) : mono x y (8 * a + b) = x ^ a * y ^ b := by
  unfold mono
  obtain ⟨h1, h2⟩ := key_div (a := a) hb
  rw [h1, h2]
theorem mono_mul {x y k l : Int} (hk : Kd 2 k) (hl : Kd 2 l) : mono x y (k + l) = mono x y k * mono x y l := by
  obtain ⟨a, b, rfl, h1⟩ := hk
  obtain ⟨c, d, rfl, h2⟩ := hl
  have e : 8 * (a : Int) + b + (8 * c + d) = 8 * ((a + c : Nat) : Int) + ((b + d : Nat) : Int) := by omega
  rw [e, mono_at x y (by omega), mono_at x y (by omega), mono_at x y (by omega), Int.pow_add, Int.pow_add]
  simp only [Int.mul_assoc, Int.mul_left_comm]
/-- well-made coefficients -/
def Wf (D : Nat) (c : List (Int × Int)) : Prop := (ks c).Nodup ∧ ∀ k ∈ ks c, Kd D k
/-- the polynomial's value -/
def ev (c : List (Int × Int)) (x y : Int) : Int := (KK.map fun k => kdfLook c k 0 * mono x y k).sum
theorem ev_keys {c : List (Int × Int)} {D : Nat} (h : Wf D c) (hD : D ≤ 4) (x y : Int) : ev c x y = ((ks c).map fun k => kdfLook c k 0 * mono x y k).sum :=
  sum_over KK_nodup h.1 (fun k hk => ((h.2 k hk).up hD).mem) fun k _ hk => by rw [look_off hk]; simp
theorem ev_nil (x y : Int) : ev [] x y = 0 := sum_zero fun k _ => by rw [look_nil]; simp
theorem ev_put {c : List (Int × Int)} {k v : Int} (hk : k ∈ KK) (x y : Int) : ev (kdfPut c k v) x y = ev c x y + (v - kdfLook c k 0) * mono x y k := by
  unfold ev
  rw [sum_pick (φ := fun k' => kdfLook (kdfPut c k v) k' 0 * mono x y k') KK_nodup hk, sum_pick (φ := fun k' => kdfLook c k' 0 * mono x y k') KK_nodup hk]
  rw [look_put, if_pos rfl]
  have e : (KK.map fun k' => if k' = k then 0 else kdfLook (kdfPut c k v) k' 0 * mono x y k') = KK.map fun k' => if k' = k then 0 else kdfLook c k' 0 * mono x y k' := by
    refine List.map_congr_left fun k' _ => ?_
    by_cases h : k' = k
    · rw [if_pos h, if_pos h]
    · rw [if_neg h, if_neg h, look_put, if_neg h]
  rw [e, Int.sub_mul]
  omega
theorem Wf.put {c : List (Int × Int)} {D : Nat} {k v : Int} (h : Wf D c) (hk : Kd D k) : Wf D (kdfPut c k v) :=
  ⟨put_nodup h.1, fun a ha => (put_mem ha).elim (fun e => e ▸ hk) (h.2 a)⟩
theorem Wf.nil (D : Nat) : Wf D [] := ⟨List.nodup_nil, fun _ h => by simp [ks] at h⟩
end Mine
end SP1
section SP2
namespace Mine
/-! parts -/
def leafB (v x y : Int) : Int := [x, x, y, y, (v.fdiv 10).fmod 7 - 3].getD (v.fmod 5).toNat 0
def leafV (v x y : Int) : Int := if (v.fdiv 5).fmod 2 ≠ 0 then -leafB v x y - 1 else leafB v x y
theorem fmod_five (v : Int) : v.fmod 5 = 0 ∨ v.fmod 5 = 1 ∨ v.fmod 5 = 2 ∨ v.fmod 5 = 3 ∨ v.fmod 5 = 4 := by
  have h1 : 0 ≤ v.fmod 5 := Int.fmod_nonneg_of_pos _ (by decide)
  have h2 : v.fmod 5 < 5 := Int.fmod_lt_of_pos _ (by decide)
  omega
theorem fmod_seven (v : Int) : 0 ≤ (v.fdiv 10).fmod 7 ∧ (v.fdiv 10).fmod 7 < 7 := ⟨Int.fmod_nonneg_of_pos _ (by decide), Int.fmod_lt_of_pos _ (by decide)⟩
theorem mono_0 (x y : Int) : mono x y 0 = 1 := by simp [mono]
theorem mono_1 (x y : Int) : mono x y 1 = y := by have h := mono_at x y (a := 0) (b := 1) (by decide); rw [show (8 * ((0 : Nat) : Int) + ((1 : Nat) : Int)) = 1 from rfl] at h; rw [h, Int.pow_zero, Int.one_mul, Int.pow_succ, Int.pow_zero, Int.one_mul]
theorem mono_8 (x y : Int) : mono x y 8 = x := by have h := mono_at x y (a := 1) (b := 0) (by decide); rw [show (8 * ((1 : Nat) : Int) + ((0 : Nat) : Int)) = 8 from rfl] at h; rw [h, Int.pow_zero, Int.mul_one, Int.pow_succ, Int.pow_zero, Int.one_mul]
theorem part_kv (v x y : Int) : partV v * mono x y (partK v) = leafB v x y := by
  unfold partV partK leafB
  rcases fmod_five v with h | h | h | h | h <;> rw [h]
  · show (if (0 : Int) = 4 then _ else 1) * mono x y 8 = x
    rw [if_neg (by decide), mono_8, Int.one_mul]
  · show (if (1 : Int) = 4 then _ else 1) * mono x y 8 = x
    rw [if_neg (by decide), mono_8, Int.one_mul]
  · show (if (2 : Int) = 4 then _ else 1) * mono x y 1 = y
    rw [if_neg (by decide), mono_1, Int.one_mul]
  · show (if (3 : Int) = 4 then _ else 1) * mono x y 1 = y
    rw [if_neg (by decide), mono_1, Int.one_mul]
  · show (if (4 : Int) = 4 then (v.fdiv 10).fmod 7 - 3 else 1) * mono x y 0 = (v.fdiv 10).fmod 7 - 3
    rw [if_pos rfl, mono_0, Int.mul_one]
theorem part_key (v : Int) : Kd 1 (partK v) := by
  unfold partK
  rcases fmod_five v with h | h | h | h | h <;> rw [h]
  · exact ⟨1, 0, rfl, by decide⟩
  · exact ⟨1, 0, rfl, by decide⟩
  · exact ⟨0, 1, rfl, by decide⟩
  · exact ⟨0, 1, rfl, by decide⟩
  · exact ⟨0, 0, rfl, by decide⟩
theorem part_val (v : Int) : (partV v).natAbs ≤ 3 := by
  unfold partV
  have := fmod_seven v
  split <;> omega
theorem put_nil (k v : Int) : kdfPut [] k v = [(k, v)] := rfl
theorem Wf.one {D : Nat} {k v : Int} (h : Kd D k) : Wf D [(k, v)] := put_nil k v ▸ (Wf.nil D).put h
theorem ev_one {k v : Int} (h : Kd 4 k) (x y : Int) : ev [(k, v)] x y = v * mono x y k := by
  rw [← put_nil, ev_put h.mem, ev_nil, look_nil]; simp
theorem Kd.zero (D : Nat) : Kd D 0 := ⟨0, 0, rfl, Nat.zero_le _⟩
theorem part_wf (v : Int) : Wf 1 (partL v) := by
  unfold partL
  split
  · exact (Wf.one (part_key v)).put (Kd.zero 1)
  · exact Wf.one (part_key v)
theorem part_ev (v x y : Int) : ev (partL v) x y = leafV v x y := by
  have hk := (part_key v).up (show 1 ≤ 4 by decide)
  unfold partL leafV
  split
  · rw [ev_put (Kd.zero 4).mem, ev_one hk, mono_0, Int.neg_mul, part_kv]
    omega
  · rw [ev_one hk, part_kv]
/-- every coefficient is small -/
def Bm (M : Nat) (c : List (Int × Int)) : Prop := ∀ k, (kdfLook c k 0).natAbs ≤ M
theorem Bm.put {M : Nat} {c : List (Int × Int)} {k v : Int} (h : Bm M c) (hv : v.natAbs ≤ M) : Bm M (kdfPut c k v) := fun a => by
  rw [look_put]
  split
  · exact hv
  · exact h a
theorem Bm.up {M M' : Nat} {c : List (Int × Int)} (h : Bm M c) (k : M ≤ M') : Bm M' c := fun a => Nat.le_trans (h a) k
theorem Bm.nil (M : Nat) : Bm M [] := fun k => by rw [look_nil]; exact Nat.zero_le _
theorem Bm.one {M : Nat} {k v : Int} (hv : v.natAbs ≤ M) : Bm M [(k, v)] := put_nil k v ▸ (Bm.nil M).put hv
theorem part_bm (v : Int) : Bm 4 (partL v) := by
  have h3 := part_val v
  have hb : Bm 3 [(partK v, -(partV v))] := Bm.one (by omega)
  unfold partL
  split
  · exact (hb.up (by decide)).put (by have := hb 0; omega)
  · exact Bm.one (by omega)
theorem part_len (v : Int) : (partL v).length ≤ 2 := by
  unfold partL
  split
  · exact kdfPut_len _ _ _
  · exact (by decide : 1 ≤ 2)
theorem bits_of_bm {M : Nat} {c : List (Int × Int)} (h : Bm M c) (hM : M < 2 ^ 64) (k : Int) : Builtin.Int.intBits (kdfLook c k 0) ≤ 64 := intBits_le_iff.mpr (Nat.lt_of_le_of_lt (h k) hM)

/-! joins -/
def opJ (j b a : Int) : Int := if j = 0 then b + a else if j = 1 then b - a else b * a
theorem row_len (c1 c2 : List (Int × Int)) (l : Int) : ∀ (rs : List Int) (acc : List (Int × Int)), (prodRow c1 c2 l acc rs).length ≤ acc.length + rs.length
  | [], acc => Nat.le_refl _
  | r :: rs, acc => by
    show (prodRow c1 c2 l (kdfPut acc (l + r) _) rs).length ≤ _
    have h1 := row_len c1 c2 l rs (kdfPut acc (l + r) (kdfLook acc (l + r) 0 + kdfLook c1 l 0 * kdfLook c2 r 0))
    have h2 := kdfPut_len acc (l + r) (kdfLook acc (l + r) 0 + kdfLook c1 l 0 * kdfLook c2 r 0)
    simp only [List.length_cons]; omega
def prodGo (c1 c2 : List (Int × Int)) (acc : List (Int × Int)) (ls : List Int) : List (Int × Int) := ls.foldl (fun acc l => prodRow c1 c2 l acc (c2.map (·.1))) acc
theorem prod_len (c1 c2 : List (Int × Int)) : ∀ (ls : List Int) (acc : List (Int × Int)), (prodGo c1 c2 acc ls).length ≤ acc.length + ls.length * c2.length
  | [], acc => by simp [prodGo]
  | l :: ls, acc => by
    have h1 := prod_len c1 c2 ls (prodRow c1 c2 l acc (c2.map (·.1)))
    have h2 := row_len c1 c2 l (c2.map (·.1)) acc
    rw [List.length_map] at h2
    show (prodGo c1 c2 (prodRow c1 c2 l acc (c2.map (·.1))) ls).length ≤ _
    rw [List.length_cons, Nat.succ_mul]
    omega
def sumGo (g : Int → Int) (acc : List (Int × Int)) (ps : List Int) : List (Int × Int) := ps.foldl (fun acc p => kdfPut acc p (g p)) acc
theorem sum_len (g : Int → Int) : ∀ (ps : List Int) (acc : List (Int × Int)), (sumGo g acc ps).length ≤ acc.length + ps.length
  | [], acc => Nat.le_refl _
  | p :: ps, acc => by
    have h1 := sum_len g ps (kdfPut acc p (g p))
    have h2 := kdfPut_len acc p (g p)
    show (sumGo g (kdfPut acc p (g p)) ps).length ≤ _
    simp only [List.length_cons]; omega
theorem row_all {c1 c2 : List (Int × Int)} {l : Int} {D1 D2 : Nat} (hD1 : D1 ≤ 2) (hD2 : D2 ≤ 2) (hl : Kd D1 l) (x y : Int) : ∀ (rs : List Int) (acc : List (Int × Int)), (∀ r ∈ rs, Kd D2 r) → Wf (D1 + D2) acc →
    Wf (D1 + D2) (prodRow c1 c2 l acc rs) ∧ ev (prodRow c1 c2 l acc rs) x y = ev acc x y + kdfLook c1 l 0 * mono x y l * (rs.map fun r => kdfLook c2 r 0 * mono x y r).sum
  | [], acc, _, h => ⟨h, by simp [prodRow]⟩
  | r :: rs, acc, hr, h => by
    have hk : Kd (D1 + D2) (l + r) := by
      obtain ⟨a, b, e1, h1⟩ := hl
      obtain ⟨c, d, e2, h2⟩ := hr r List.mem_cons_self
      exact ⟨a + c, b + d, by rw [e1, e2]; omega, by omega⟩
    obtain ⟨w, e⟩ := row_all (c1 := c1) (c2 := c2) hD1 hD2 hl x y rs (kdfPut acc (l + r) (kdfLook acc (l + r) 0 + kdfLook c1 l 0 * kdfLook c2 r 0)) (fun q hq => hr q (List.mem_cons_of_mem _ hq)) (h.put hk)
    refine ⟨w, ?_⟩
    show ev (prodRow c1 c2 l (kdfPut acc (l + r) _) rs) x y = _
    rw [e, ev_put (hk.up (by omega)).mem, mono_mul (hl.up hD1) ((hr r List.mem_cons_self).up hD2), List.map_cons, List.sum_cons]
    generalize (rs.map fun r => kdfLook c2 r 0 * mono x y r).sum = S
    generalize kdfLook c1 l 0 = p
    generalize kdfLook c2 r 0 = q
    generalize mono x y l = u
    generalize mono x y r = v
    generalize kdfLook acc (l + r) 0 = t
    have : (t + p * q - t) = p * q := by omega
    rw [this]
    grind
theorem prod_all {c1 c2 : List (Int × Int)} {D1 D2 : Nat} (hD1 : D1 ≤ 2) (hD2 : D2 ≤ 2) (h2 : Wf D2 c2) (x y : Int) : ∀ (ls : List Int) (acc : List (Int × Int)), (∀ l ∈ ls, Kd D1 l) → Wf (D1 + D2) acc →
    Wf (D1 + D2) (prodGo c1 c2 acc ls) ∧ ev (prodGo c1 c2 acc ls) x y = ev acc x y + (ls.map fun l => kdfLook c1 l 0 * mono x y l).sum * ev c2 x y
  | [], acc, _, h => ⟨h, by simp [prodGo]⟩
  | l :: ls, acc, hl, h => by
    obtain ⟨w1, e1⟩ := row_all (c1 := c1) (c2 := c2) hD1 hD2 (hl l List.mem_cons_self) x y (ks c2) acc h2.2 h
    obtain ⟨w, e⟩ := prod_all (c1 := c1) hD1 hD2 h2 x y ls _ (fun q hq => hl q (List.mem_cons_of_mem _ hq)) w1
    refine ⟨w, ?_⟩
    show ev (prodGo c1 c2 (prodRow c1 c2 l acc (ks c2)) ls) x y = _
    rw [e, e1, List.map_cons, List.sum_cons]
    have e3 := ev_keys h2 (Nat.le_trans hD2 (by decide)) x y
    rw [← e3]
    grind
theorem sum_look (g : Int → Int) (k : Int) : ∀ (ps : List Int) (acc : List (Int × Int)), kdfLook (sumGo g acc ps) k 0 = if k ∈ ps then g k else kdfLook acc k 0
  | [], acc => by simp [sumGo]
  | p :: ps, acc => by
    show kdfLook (sumGo g (kdfPut acc p (g p)) ps) k 0 = _
    rw [sum_look g k ps, look_put]
    by_cases h1 : k ∈ ps
    · rw [if_pos h1, if_pos (List.mem_cons_of_mem _ h1)]
    · rw [if_neg h1]
      by_cases h2 : k = p
      · subst h2; rw [if_pos rfl, if_pos List.mem_cons_self]
      · rw [if_neg h2, if_neg fun m => (List.mem_cons.mp m).elim h2 h1]
theorem sum_wf {D : Nat} (g : Int → Int) : ∀ (ps : List Int) (acc : List (Int × Int)), (∀ p ∈ ps, Kd D p) → Wf D acc → Wf D (sumGo g acc ps)
  | [], _, _, h => h
  | p :: ps, acc, hp, h => sum_wf g ps _ (fun q hq => hp q (List.mem_cons_of_mem _ hq)) (h.put (hp p List.mem_cons_self))
theorem joined_all {c1 c2 : List (Int × Int)} {D1 D2 : Nat} {j : Int} (hD1 : D1 ≤ 2) (hD2 : D2 ≤ 2) (h1 : Wf D1 c1) (h2 : Wf D2 c2) (hj : j = 0 ∨ j = 1 ∨ j = 2) (x y : Int) :
    Wf (D1 + D2) (joinedL c1 c2 j) ∧ ev (joinedL c1 c2 j) x y = opJ j (ev c1 x y) (ev c2 x y) := by
  unfold joinedL
  by_cases e2 : j = 2
  · subst e2
    rw [if_pos rfl]
    obtain ⟨w, e⟩ := prod_all (c1 := c1) hD1 hD2 h2 x y (ks c1) [] h1.2 (Wf.nil _)
    refine ⟨w, ?_⟩
    have e3 := ev_keys h1 (Nat.le_trans hD1 (by decide)) x y
    show ev (prodGo c1 c2 [] (ks c1)) x y = _
    rw [e, ev_nil, ← e3, opJ, if_neg (by decide), if_neg (by decide)]
    omega
  · rw [if_neg e2]
    have hj' : j = 0 ∨ j = 1 := by omega
    generalize hg : (fun p => kdfLook c1 p 0 + (1 - 2 * j) * kdfLook c2 p 0) = g
    have hs : sumAll c1 c2 j (c1.map (·.1) ++ c2.map (·.1)) = sumGo g [] (ks c1 ++ ks c2) := by rw [← hg]; rfl
    rw [hs]
    refine ⟨sum_wf g _ _ (fun p hp => ?_) (Wf.nil _), ?_⟩
    · rcases List.mem_append.mp hp with hp | hp
      · exact (h1.2 p hp).up (by omega)
      · exact (h2.2 p hp).up (by omega)
    · have hl : ∀ k, kdfLook (sumGo g [] (ks c1 ++ ks c2)) k 0 = g k := fun k => by
        rw [sum_look]
        by_cases hm : k ∈ ks c1 ++ ks c2
        · rw [if_pos hm]
        · rw [if_neg hm, look_nil, ← hg]
          have a1 : k ∉ ks c1 := fun m => hm (List.mem_append_left _ m)
          have a2 : k ∉ ks c2 := fun m => hm (List.mem_append_right _ m)
          show 0 = kdfLook c1 k 0 + (1 - 2 * j) * kdfLook c2 k 0
          rw [look_off a1, look_off a2]; simp
      have e : ev (sumGo g [] (ks c1 ++ ks c2)) x y = ev c1 x y + (1 - 2 * j) * ev c2 x y := by
        unfold ev
        rw [← sum_mul, ← sum_add]
        refine sum_congr fun k _ => ?_
        rw [hl, ← hg]
        show (kdfLook c1 k 0 + (1 - 2 * j) * kdfLook c2 k 0) * mono x y k = _
        rw [Int.add_mul, Int.mul_assoc]
      rw [e, opJ]
      rcases hj' with rfl | rfl
      · rw [if_pos rfl]; omega
      · rw [if_neg (by decide), if_pos rfl]; omega
end Mine
end SP2
section SP3
namespace Mine
/-! lengths and sizes of joins -/
theorem joined_len {c1 c2 : List (Int × Int)} {j : Int} {n1 n2 M : Nat} (h1 : c1.length ≤ n1) (h2 : c2.length ≤ n2) (ha : n1 * n2 ≤ M) (hb : n1 + n2 ≤ M) : (joinedL c1 c2 j).length ≤ M := by
  unfold joinedL
  split
  · have h := prod_len c1 c2 (c1.map (·.1)) []
    rw [List.length_map, List.length_nil, Nat.zero_add] at h
    exact Nat.le_trans h (Nat.le_trans (Nat.mul_le_mul h1 h2) ha)
  · have h := sum_len (fun p => kdfLook c1 p 0 + (1 - 2 * j) * kdfLook c2 p 0) (c1.map (·.1) ++ c2.map (·.1)) []
    rw [List.length_append, List.length_map, List.length_map, List.length_nil, Nat.zero_add] at h
    exact Nat.le_trans h (by omega)
theorem row_bm {c1 c2 : List (Int × Int)} {l : Int} {M1 M2 : Nat} (h1 : Bm M1 c1) (h2 : Bm M2 c2) : ∀ (rs : List Int) (acc : List (Int × Int)) (M : Nat), Bm M acc → Bm (M + rs.length * (M1 * M2)) (prodRow c1 c2 l acc rs)
  | [], acc, M, h => h.up (Nat.le_add_right _ _)
  | r :: rs, acc, M, h => by
    have ht : (kdfLook c1 l 0 * kdfLook c2 r 0).natAbs ≤ M1 * M2 := by rw [Int.natAbs_mul]; exact Nat.mul_le_mul (h1 l) (h2 r)
    have hv : (kdfLook acc (l + r) 0 + kdfLook c1 l 0 * kdfLook c2 r 0).natAbs ≤ M + M1 * M2 := Nat.le_trans (Int.natAbs_add_le _ _) (Nat.add_le_add (h _) ht)
    have := row_bm (l := l) h1 h2 rs (kdfPut acc (l + r) (kdfLook acc (l + r) 0 + kdfLook c1 l 0 * kdfLook c2 r 0)) (M + M1 * M2) ((h.up (Nat.le_add_right _ _)).put hv)
    refine Bm.up this ?_
    rw [List.length_cons, Nat.succ_mul]; omega
theorem prod_bm {c1 c2 : List (Int × Int)} {M1 M2 : Nat} (h1 : Bm M1 c1) (h2 : Bm M2 c2) : ∀ (ls : List Int) (acc : List (Int × Int)) (M : Nat), Bm M acc → Bm (M + ls.length * (c2.length * (M1 * M2))) (prodGo c1 c2 acc ls)
  | [], acc, M, h => by simpa [prodGo] using h
  | l :: ls, acc, M, h => by
    have a := row_bm (l := l) h1 h2 (c2.map (·.1)) acc M h
    rw [List.length_map] at a
    refine Bm.up (prod_bm h1 h2 ls _ _ a) ?_
    rw [List.length_cons, Nat.succ_mul]; omega
theorem sum_bm {g : Int → Int} {M : Nat} (hg : ∀ k, (g k).natAbs ≤ M) : ∀ (ps : List Int) (acc : List (Int × Int)), Bm M acc → Bm M (sumGo g acc ps)
  | [], _, h => h
  | p :: ps, acc, h => sum_bm hg ps _ (h.put (hg p))
theorem joined_bm {c1 c2 : List (Int × Int)} {j : Int} {n1 n2 M1 M2 M : Nat} (h1 : Bm M1 c1) (h2 : Bm M2 c2) (l1 : c1.length ≤ n1) (l2 : c2.length ≤ n2) (hj : j = 0 ∨ j = 1 ∨ j = 2) (ha : n1 * (n2 * (M1 * M2)) ≤ M) (hb : M1 + M2 ≤ M) : Bm M (joinedL c1 c2 j) := by
  unfold joinedL
  split
  · have h := prod_bm h1 h2 (c1.map (·.1)) [] 0 (Bm.nil 0)
    rw [List.length_map, Nat.zero_add] at h
    exact h.up (Nat.le_trans (Nat.mul_le_mul l1 (Nat.mul_le_mul_right _ l2)) ha)
  · refine sum_bm (g := fun p => kdfLook c1 p 0 + (1 - 2 * j) * kdfLook c2 p 0) (fun k => ?_) _ [] (Bm.nil M)
    have e : ((1 - 2 * j) * kdfLook c2 k 0).natAbs = (kdfLook c2 k 0).natAbs := by
      rcases hj with rfl | rfl | rfl
      · simp
      · simp
      · contradiction
    have a1 := h1 k
    have a2 := h2 k
    exact Nat.le_trans (Int.natAbs_add_le _ _) (by rw [e]; omega)

/-! the machine -/
def runS (x y : Int) (st ns : List Int) : List Int := ns.foldl (stepM x y) st
theorem runS_app (x y : Int) (st a b : List Int) : runS x y st (a ++ b) = runS x y (runS x y st a) b := List.foldl_append ..
theorem step_leaf (v x y : Int) (st : List Int) : stepM x y st (leafC v) = leafB v x y :: st ∧ 256 ≤ leafC v := by
  have hm := fmod_seven v
  unfold leafC leafB
  rcases fmod_five v with h | h | h | h | h <;> rw [h]
  · exact ⟨rfl, (by decide : (256 : Int) ≤ 256)⟩
  · exact ⟨rfl, (by decide : (256 : Int) ≤ 256)⟩
  · exact ⟨rfl, (by decide : (256 : Int) ≤ 257)⟩
  · exact ⟨rfl, (by decide : (256 : Int) ≤ 257)⟩
  · have hge : 256 ≤ 4097 + (v.fdiv 10).fmod 7 := by omega
    refine ⟨?_, hge⟩
    show stepM x y st (4097 + (v.fdiv 10).fmod 7) = ((v.fdiv 10).fmod 7 - 3) :: st
    rw [step_hi hge, if_neg (by omega)]
    congr 1
    omega
theorem step_inv (x y a : Int) (r : List Int) : stepM x y (a :: r) 255 = (-a - 1) :: r := rfl
theorem step_op (x y a b j : Int) (r : List Int) (hj : j = 0 ∨ j = 1 ∨ j = 2) : stepM x y (a :: b :: r) (238 + j) = opJ j b a :: r := by
  rcases hj with rfl | rfl | rfl <;> rfl
theorem run_leaf (v x y : Int) (st : List Int) : runS x y st (leafRow v) = leafV v x y :: st := by
  unfold leafRow leafV runS
  split
  · rw [List.foldl_cons, (step_leaf v x y st).1, List.foldl_cons, step_inv]; rfl
  · rw [List.foldl_cons, (step_leaf v x y st).1]; rfl
theorem run_op (x y a b j : Int) (r : List Int) (hj : j = 0 ∨ j = 1 ∨ j = 2) : runS x y (a :: b :: r) [238 + j] = opJ j b a :: r := step_op x y a b j r hj
/-- what the machine says -/
def saysV (n0 n1 n2 n3 j0 j1 j2 x y : Int) : Int := opJ j2 (opJ j0 (leafV n0 x y) (leafV n1 x y)) (opJ j1 (leafV n2 x y) (leafV n3 x y))
theorem row_split (n0 n1 n2 n3 j0 j1 j2 : Int) : rowF n0 n1 n2 n3 j0 j1 j2 = leafRow n0 ++ (leafRow n1 ++ ([238 + j0] ++ (leafRow n2 ++ (leafRow n3 ++ ([238 + j1] ++ [238 + j2]))))) := by
  unfold rowF
  simp only [List.append_assoc, List.cons_append, List.nil_append]
theorem run_row {n0 n1 n2 n3 j0 j1 j2 : Int} (h0 : j0 = 0 ∨ j0 = 1 ∨ j0 = 2) (h1 : j1 = 0 ∨ j1 = 1 ∨ j1 = 2) (h2 : j2 = 0 ∨ j2 = 1 ∨ j2 = 2) (x y : Int) : runM x y (rowF n0 n1 n2 n3 j0 j1 j2) = [saysV n0 n1 n2 n3 j0 j1 j2 x y] := by
  show runS x y [] _ = _
  rw [row_split]
  simp only [runS_app, run_leaf, run_op _ _ _ _ _ _ h0, run_op _ _ _ _ _ _ h1, run_op _ _ _ _ _ _ h2]
  rfl
/-- each step may be taken -/
def Ok (x y : Int) (st ns : List Int) : Prop := ∀ (k : Nat) (n : Int), ns[k]? = some n → okM (runS x y st (ns.take k)) n
theorem Ok.nil (x y : Int) (st : List Int) : Ok x y st [] := fun k n h => by simp at h
theorem Ok.cons {x y : Int} {st ns : List Int} {n : Int} (h : okM st n) (k : Ok x y (stepM x y st n) ns) : Ok x y st (n :: ns) := fun i m e => by
  cases i with
  | zero => cases e; exact h
  | succ i => exact k i m (by simpa using e)
theorem Ok.app {x y : Int} {st a b : List Int} (h : Ok x y st a) (k : Ok x y (runS x y st a) b) : Ok x y st (a ++ b) := by
  induction a generalizing st with
  | nil => exact k
  | cons n a ih =>
    refine Ok.cons (h 0 n rfl) (ih (fun i m e => ?_) k)
    exact h (i + 1) m (by simpa using e)
theorem Ok.leaf (v x y : Int) (st : List Int) : Ok x y st (leafRow v) := by
  unfold leafRow
  obtain ⟨e, h⟩ := step_leaf v x y st
  split
  · exact Ok.cons (.inl h) (by rw [e]; exact Ok.cons (.inr (.inl ⟨rfl, _, _, rfl⟩)) (Ok.nil _ _ _))
  · exact Ok.cons (.inl h) (Ok.nil _ _ _)
theorem Ok.op {x y a b j : Int} {r : List Int} (hj : j = 0 ∨ j = 1 ∨ j = 2) (hm : IntMulOk b a) : Ok x y (a :: b :: r) [238 + j] :=
  Ok.cons (.inr (.inr ⟨by omega, a, b, r, rfl, fun _ => hm⟩)) (Ok.nil _ _ _)
theorem ok_row {n0 n1 n2 n3 j0 j1 j2 : Int} (h0 : j0 = 0 ∨ j0 = 1 ∨ j0 = 2) (h1 : j1 = 0 ∨ j1 = 1 ∨ j1 = 2) (h2 : j2 = 0 ∨ j2 = 1 ∨ j2 = 2) {x y : Int} (m0 : IntMulOk (leafV n0 x y) (leafV n1 x y)) (m1 : IntMulOk (leafV n2 x y) (leafV n3 x y))
    (m2 : IntMulOk (opJ j0 (leafV n0 x y) (leafV n1 x y)) (opJ j1 (leafV n2 x y) (leafV n3 x y))) : Ok x y [] (rowF n0 n1 n2 n3 j0 j1 j2) := by
  rw [row_split]
  refine (Ok.leaf _ _ _ _).app ?_
  rw [run_leaf]
  refine (Ok.leaf _ _ _ _).app ?_
  rw [run_leaf]
  refine (Ok.op h0 m0).app ?_
  rw [run_op _ _ _ _ _ _ h0]
  refine (Ok.leaf _ _ _ _).app ?_
  rw [run_leaf]
  refine (Ok.leaf _ _ _ _).app ?_
  rw [run_leaf]
  refine (Ok.op h1 m1).app ?_
  rw [run_op _ _ _ _ _ _ h1]
  exact Ok.op h2 m2
theorem row_last (n0 n1 n2 n3 j0 j1 j2 : Int) : ∃ n, (rowF n0 n1 n2 n3 j0 j1 j2)[(rowF n0 n1 n2 n3 j0 j1 j2).length - 1]? = some n ∧ n = 238 + j2 := by
  refine ⟨238 + j2, ?_, rfl⟩
  have e : rowF n0 n1 n2 n3 j0 j1 j2 = (leafRow n0 ++ leafRow n1 ++ [238 + j0] ++ leafRow n2 ++ leafRow n3 ++ [238 + j1]) ++ [238 + j2] := by unfold rowF; simp only [List.append_assoc, List.cons_append, List.nil_append]
  rw [e, List.length_append]
  simp
theorem row_len20 (n0 n1 n2 n3 j0 j1 j2 : Int) : (rowF n0 n1 n2 n3 j0 j1 j2).length ≤ 20 := by
  have := leaf_len n0
  have := leaf_len n1
  have := leaf_len n2
  have := leaf_len n3
  unfold rowF
  simp only [List.length_append, List.length_cons, List.length_nil]
  omega

/-! reading the octets -/
def Nums : List Int := [0, 238, 239, 240, 255, 256, 257, 4097, 4098, 4099, 4100, 4101, 4102, 4103]
theorem varint_enc : ∀ n ∈ Nums, ∀ r, varint (encF n ++ r) = some (n, r) := by
  intro n hn r
  simp only [Nums, List.mem_cons, List.not_mem_nil, or_false] at hn
  rcases hn with rfl | rfl | rfl | rfl | rfl | rfl | rfl | rfl | rfl | rfl | rfl | rfl | rfl | rfl <;> cases r <;> rfl
theorem reads_all {ns t : List Int} : ∀ (rows : List Int) (i : Nat), (∀ n ∈ rows, n ∈ Nums ∧ n ≠ 0) → ns.drop i = rows.flatMap encF ++ (encF 0 ++ t) → reads ns rows i
  | [], i, _, h => by
    refine ⟨i + (encF 0).length, ?_⟩
    rw [← List.drop_drop, h]
    simp only [List.flatMap_nil, List.nil_append, List.drop_left']
    exact varint_enc 0 (by decide) t
  | n :: r, i, hn, h => by
    obtain ⟨h1, h0⟩ := hn n List.mem_cons_self
    have e : ns.drop (i + (encF n).length) = r.flatMap encF ++ (encF 0 ++ t) := by
      rw [← List.drop_drop, h, List.flatMap_cons, List.append_assoc, List.drop_left']
      rfl
    refine ⟨h0, i + (encF n).length, ?_, reads_all r _ (fun m hm => hn m (List.mem_cons_of_mem _ hm)) e⟩
    rw [e, h, List.flatMap_cons, List.append_assoc]
    exact varint_enc n h1 _
theorem leaf_nums (v : Int) : ∀ n ∈ leafRow v, n ∈ Nums ∧ n ≠ 0 := by
  have hC : leafC v ∈ Nums ∧ leafC v ≠ 0 := by
    have hm := fmod_seven v
    unfold leafC
    rcases fmod_five v with h | h | h | h | h <;> rw [h]
    · exact (by decide : (256 : Int) ∈ Nums ∧ (256 : Int) ≠ 0)
    · exact (by decide : (256 : Int) ∈ Nums ∧ (256 : Int) ≠ 0)
    · exact (by decide : (257 : Int) ∈ Nums ∧ (257 : Int) ≠ 0)
    · exact (by decide : (257 : Int) ∈ Nums ∧ (257 : Int) ≠ 0)
    · have : (v.fdiv 10).fmod 7 = 0 ∨ (v.fdiv 10).fmod 7 = 1 ∨ (v.fdiv 10).fmod 7 = 2 ∨ (v.fdiv 10).fmod 7 = 3 ∨ (v.fdiv 10).fmod 7 = 4 ∨ (v.fdiv 10).fmod 7 = 5 ∨ (v.fdiv 10).fmod 7 = 6 := by omega
      rcases this with e | e | e | e | e | e | e <;> rw [e] <;> decide
  unfold leafRow
  split
  · intro n hn
    rcases List.mem_cons.mp hn with rfl | hn
    · exact hC
    · rw [List.mem_singleton.mp hn]; decide
  · intro n hn
    rw [List.mem_singleton.mp hn]; exact hC
theorem row_nums {n0 n1 n2 n3 j0 j1 j2 : Int} (h0 : j0 = 0 ∨ j0 = 1 ∨ j0 = 2) (h1 : j1 = 0 ∨ j1 = 1 ∨ j1 = 2) (h2 : j2 = 0 ∨ j2 = 1 ∨ j2 = 2) : ∀ n ∈ rowF n0 n1 n2 n3 j0 j1 j2, n ∈ Nums ∧ n ≠ 0 := by
  have ho : ∀ {j : Int}, (j = 0 ∨ j = 1 ∨ j = 2) → (238 + j) ∈ Nums ∧ 238 + j ≠ 0 := fun hj => by rcases hj with rfl | rfl | rfl <;> decide
  rw [row_split]
  intro n hn
  simp only [List.mem_append, List.mem_singleton] at hn
  rcases hn with hn | hn | rfl | hn | hn | rfl | rfl
  · exact leaf_nums _ _ hn
  · exact leaf_nums _ _ hn
  · exact ho h0
  · exact leaf_nums _ _ hn
  · exact leaf_nums _ _ hn
  · exact ho h1
  · exact ho h2
theorem reads_row {n0 n1 n2 n3 j0 j1 j2 : Int} (h0 : j0 = 0 ∨ j0 = 1 ∨ j0 = 2) (h1 : j1 = 0 ∨ j1 = 1 ∨ j1 = 2) (h2 : j2 = 0 ∨ j2 = 1 ∨ j2 = 2) : reads ((rowF n0 n1 n2 n3 j0 j1 j2 ++ [0, 15]).flatMap encF) (rowF n0 n1 n2 n3 j0 j1 j2) 0 := by
  refine reads_all (t := encF 15) _ _ (row_nums h0 h1 h2) ?_
  rw [List.drop_zero, List.flatMap_append]
  simp only [List.flatMap_cons, List.flatMap_nil, List.append_nil]
end Mine
end SP3
section SP4
namespace Mine
/-! the ways to choose -/
def Choose (x m2 m3 m4 : Int) : Prop := 2 * m2 = x * (x - 1) ∧ 3 * m3 = m2 * (x - 2) ∧ 4 * m4 = m3 * (x - 3)
theorem choose_up {x m2 m3 m4 : Int} (h : Choose x m2 m3 m4) : Choose (x + 1) (m2 + x) (m3 + m2) (m4 + m3) := by
  obtain ⟨h1, h2, h3⟩ := h
  refine ⟨?_, ?_, ?_⟩ <;> grind
theorem choose_down {x m2 m3 m4 : Int} (h : Choose x m2 m3 m4) : Choose (x - 1) (m2 - (x - 1)) (m3 - (m2 - (x - 1))) (m4 - (m3 - (m2 - (x - 1)))) := by
  obtain ⟨h1, h2, h3⟩ := h
  refine ⟨?_, ?_, ?_⟩ <;> grind
theorem choose_nat : ∀ n : Nat, ∃ m2 m3 m4, Choose (n : Int) m2 m3 m4
  | 0 => ⟨0, 0, 0, by decide, by decide, by decide⟩
  | n + 1 => by
    obtain ⟨m2, m3, m4, h⟩ := choose_nat n
    exact ⟨_, _, _, by have := choose_up h; simpa using this⟩
theorem choose_neg : ∀ n : Nat, ∃ m2 m3 m4, Choose (-(n : Int)) m2 m3 m4
  | 0 => ⟨0, 0, 0, by decide, by decide, by decide⟩
  | n + 1 => by
    obtain ⟨m2, m3, m4, h⟩ := choose_neg n
    have := choose_down h
    rw [show -(n : Int) - 1 = -((n + 1 : Nat) : Int) by omega] at this
    exact ⟨_, _, _, this⟩
theorem choose_all (x : Int) : ∃ m2 m3 m4, Choose x m2 m3 m4 := by
  rcases Int.le_total 0 x with h | h
  · obtain ⟨n, rfl⟩ := Int.eq_ofNat_of_zero_le h; exact choose_nat n
  · obtain ⟨n, hn⟩ := Int.eq_ofNat_of_zero_le (show 0 ≤ -x by omega)
    have := choose_neg n
    rw [← hn, Int.neg_neg] at this
    exact this
theorem fdiv_step {p e m : Int} {k : Nat} (h : p = ((k : Int) + 1) * m) (h0 : 0 ≤ e) (h1 : e ≤ k) : (p + e).fdiv ((k : Int) + 1) = m := by
  rw [Int.fdiv_eq_ediv_of_nonneg _ (by omega), h, Int.add_comm, Int.add_mul_ediv_left _ _ (by omega), Int.ediv_eq_zero_of_lt h0 (by omega)]
  omega
theorem par_le (n : Int) (k : Nat) : 0 ≤ (k : Int) * (1 - n.fmod 2) ∧ (k : Int) * (1 - n.fmod 2) ≤ k := by
  have h1 : 0 ≤ n.fmod 2 := Int.fmod_nonneg_of_pos _ (by decide)
  have h2 : n.fmod 2 < 2 := Int.fmod_lt_of_pos _ (by decide)
  have : n.fmod 2 = 0 ∨ n.fmod 2 = 1 := by omega
  rcases this with e | e <;> rw [e] <;> omega
theorem ways_step {x n w m : Int} {k : Nat} (hw : waysN x n k = w) (h : w * (x - k) = ((k : Int) + 1) * m) : waysN x n (k + 1) = m := by
  unfold waysN
  rw [hw]
  exact fdiv_step h (par_le n k).1 (par_le n k).2
theorem ways_1 (x n : Int) : waysN x n 1 = x := ways_step (k := 0) (w := 1) rfl (by simp)
theorem ways_2 {x m2 m3 m4 : Int} (n : Int) (h : Choose x m2 m3 m4) : waysN x n 2 = m2 := ways_step (k := 1) (ways_1 x n) (by have := h.1; show x * (x - 1) = (1 + 1) * m2; omega)
theorem ways_3 {x m2 m3 m4 : Int} (n : Int) (h : Choose x m2 m3 m4) : waysN x n 3 = m3 := ways_step (k := 2) (ways_2 n h) (by have := h.2.1; show m2 * (x - 2) = (2 + 1) * m3; omega)
theorem ways_4 {x m2 m3 m4 : Int} (n : Int) (h : Choose x m2 m3 m4) : waysN x n 4 = m4 := ways_step (k := 3) (ways_3 n h) (by have := h.2.2; show m3 * (x - 3) = (3 + 1) * m4; omega)

theorem pows {x m2 m3 m4 : Int} (h : Choose x m2 m3 m4) : x * x = 2 * m2 + x ∧ x * x * x = 6 * m3 + 6 * m2 + x ∧ x * x * x * x = 24 * m4 + 36 * m3 + 14 * m2 + x := by
  obtain ⟨h1, h2, h3⟩ := h
  rw [Int.mul_sub] at h1 h2 h3
  have a2 : x * x = 2 * m2 + x := by omega
  have b2 : m2 * x = 3 * m3 + 2 * m2 := by omega
  have b3 : m3 * x = 4 * m4 + 3 * m3 := by omega
  have a3 : x * x * x = 6 * m3 + 6 * m2 + x := by
    have e : x * x * x = (2 * m2 + x) * x := congrArg (· * x) a2
    rw [Int.add_mul, Int.mul_assoc 2 m2 x] at e
    omega
  refine ⟨a2, a3, ?_⟩
  have e : x * x * x * x = (6 * m3 + 6 * m2 + x) * x := congrArg (· * x) a3
  rw [Int.add_mul, Int.add_mul, Int.mul_assoc 6 m3 x, Int.mul_assoc 6 m2 x] at e
  omega
/-! polynomials of one letter -/
def IsP (f : Int → Int) : Prop := ∃ c0 c1 c2 c3 c4 : Int, ∀ t, f t = c0 + c1 * t + c2 * (t * t) + c3 * (t * t * t) + c4 * (t * t * t * t)
theorem IsP.zero : IsP fun _ => 0 := ⟨0, 0, 0, 0, 0, fun t => by simp⟩
theorem IsP.add {f g : Int → Int} (hf : IsP f) (hg : IsP g) : IsP fun t => f t + g t := by
  obtain ⟨a0, a1, a2, a3, a4, ha⟩ := hf
  obtain ⟨b0, b1, b2, b3, b4, hb⟩ := hg
  exact ⟨a0 + b0, a1 + b1, a2 + b2, a3 + b3, a4 + b4, fun t => by show f t + g t = _; rw [ha, hb]; grind⟩
theorem IsP.smul {f : Int → Int} (c : Int) (hf : IsP f) : IsP fun t => c * f t := by
  obtain ⟨a0, a1, a2, a3, a4, ha⟩ := hf
  exact ⟨c * a0, c * a1, c * a2, c * a3, c * a4, fun t => by show c * f t = _; rw [ha]; grind⟩
theorem IsP.sub {f g : Int → Int} (hf : IsP f) (hg : IsP g) : IsP fun t => f t - g t := by
  obtain ⟨a0, a1, a2, a3, a4, ha⟩ := hf
  obtain ⟨b0, b1, b2, b3, b4, hb⟩ := hg
  exact ⟨a0 - b0, a1 - b1, a2 - b2, a3 - b3, a4 - b4, fun t => by show f t - g t = _; rw [ha, hb]; grind⟩
theorem IsP.congr {f g : Int → Int} (hf : IsP f) (h : ∀ t, g t = f t) : IsP g := by
  obtain ⟨a0, a1, a2, a3, a4, ha⟩ := hf
  exact ⟨a0, a1, a2, a3, a4, fun t => by rw [h, ha]⟩
theorem IsP.sum {K : List Int} {φ : Int → Int → Int} (h : ∀ k ∈ K, IsP (φ k)) : IsP fun t => (K.map fun k => φ k t).sum := by
  induction K with
  | nil => exact IsP.zero
  | cons a K ih => exact (h a List.mem_cons_self).add (ih fun k hk => h k (List.mem_cons_of_mem _ hk))
theorem IsP.pow {a : Nat} (ha : a ≤ 4) : IsP fun t => t ^ a := by
  have : a = 0 ∨ a = 1 ∨ a = 2 ∨ a = 3 ∨ a = 4 := by omega
  rcases this with rfl | rfl | rfl | rfl | rfl
  · exact ⟨1, 0, 0, 0, 0, fun t => by simp [Int.pow_succ, Int.pow_zero]⟩
  · exact ⟨0, 1, 0, 0, 0, fun t => by simp [Int.pow_succ, Int.pow_zero]⟩
  · exact ⟨0, 0, 1, 0, 0, fun t => by simp [Int.pow_succ, Int.pow_zero]⟩
  · exact ⟨0, 0, 0, 1, 0, fun t => by simp [Int.pow_succ, Int.pow_zero]⟩
  · exact ⟨0, 0, 0, 0, 1, fun t => by simp [Int.pow_succ, Int.pow_zero]⟩
theorem KK_ab : ∀ k ∈ KK, (k.fdiv 8).toNat ≤ 4 ∧ (k.fmod 8).toNat ≤ 4 := by decide
theorem ev_x (c : List (Int × Int)) (y : Int) : IsP fun x => ev c x y := by
  unfold ev
  refine IsP.sum fun k hk => ?_
  refine ((IsP.pow (KK_ab k hk).1).smul (kdfLook c k 0 * y ^ (k.fmod 8).toNat)).congr fun t => ?_
  unfold mono
  grind
theorem ev_y (c : List (Int × Int)) (x : Int) : IsP fun y => ev c x y := by
  unfold ev
  refine IsP.sum fun k hk => ?_
  refine ((IsP.pow (KK_ab k hk).2).smul (kdfLook c k 0 * x ^ (k.fdiv 8).toNat)).congr fun t => ?_
  unfold mono
  grind
theorem newton {f : Int → Int} (hf : IsP f) (x : Int) : (alongL x (stairsF 5 [f 0, f 1, f 2, f 3, f 4])).sum = f x := by
  obtain ⟨m2, m3, m4, hc⟩ := choose_all x
  have e0 : waysN x ((0 : Nat) : Int) 0 = 1 := rfl
  have e1 : waysN x ((1 : Nat) : Int) 1 = x := ways_1 x _
  have e2 : waysN x ((2 : Nat) : Int) 2 = m2 := ways_2 _ hc
  have e3 : waysN x ((3 : Nat) : Int) 3 = m3 := ways_3 _ hc
  have e4 : waysN x ((4 : Nat) : Int) 4 = m4 := ways_4 _ hc
  have e : (alongL x (stairsF 5 [f 0, f 1, f 2, f 3, f 4])).sum = f 0 * waysN x ((0 : Nat) : Int) 0 + ((f 1 - f 0) * waysN x ((1 : Nat) : Int) 1 + ((f 2 - f 1 - (f 1 - f 0)) * waysN x ((2 : Nat) : Int) 2
      + ((f 3 - f 2 - (f 2 - f 1) - (f 2 - f 1 - (f 1 - f 0))) * waysN x ((3 : Nat) : Int) 3 + ((f 4 - f 3 - (f 3 - f 2) - (f 3 - f 2 - (f 2 - f 1)) - (f 3 - f 2 - (f 2 - f 1) - (f 2 - f 1 - (f 1 - f 0)))) * waysN x ((4 : Nat) : Int) 4 + 0)))) := rfl
  rw [e, e0, e1, e2, e3, e4]
  obtain ⟨c0, c1, c2, c3, c4, h⟩ := hf
  rw [h 0, h 1, h 2, h 3, h 4, h x]
  obtain ⟨x2, x3, x4⟩ := pows hc
  rw [x4, x3, x2]
  clear e e0 e1 e2 e3 e4 h hc x2 x3 x4
  grind
/-! the whole table tells the far point -/
def linesF (v : Int → Int → Int) : List (List Int) := [lineF v 5 0, lineF v 5 1, lineF v 5 2, lineF v 5 3, lineF v 5 4]
def stairsAll (v : Int → Int → Int) : List (List Int) := (linesF v).map fun l => stairsF l.length l
def G (v : Int → Int → Int) (j : Nat) (t : Int) : Int := (stairsF 5 [v t 0, v t 1, v t 2, v t 3, v t 4]).getD j 0
theorem G_P {v : Int → Int → Int} (hx : ∀ y, IsP fun x => v x y) {j : Nat} (hj : j < 5) : IsP (G v j) := by
  have : j = 0 ∨ j = 1 ∨ j = 2 ∨ j = 3 ∨ j = 4 := by omega
  have d1 : ∀ a b : Int, IsP fun t => v t b - v t a := fun a b => (hx b).sub (hx a)
  rcases this with rfl | rfl | rfl | rfl | rfl
  · exact hx 0
  · exact d1 0 1
  · exact (d1 1 2).sub (d1 0 1)
  · exact ((d1 2 3).sub (d1 1 2)).sub ((d1 1 2).sub (d1 0 1))
  · exact (((d1 3 4).sub (d1 2 3)).sub ((d1 2 3).sub (d1 1 2))).sub (((d1 2 3).sub (d1 1 2)).sub ((d1 1 2).sub (d1 0 1)))
theorem col_G (v : Int → Int → Int) (j : Nat) : colF (stairsAll v) j = [G v j 0, G v j 1, G v j 2, G v j 3, G v j 4] := rfl
theorem along_G {v : Int → Int → Int} (hx : ∀ y, IsP fun x => v x y) (x : Int) {j : Nat} (hj : j < 5) : alongF (stairsAll v) x j = G v j x := by
  unfold alongF
  rw [col_G]
  exact newton (G_P hx hj) x
theorem told_all {v : Int → Int → Int} (hx : ∀ y, IsP fun x => v x y) (hy : ∀ x, IsP fun y => v x y) (x y : Int) : toldF (stairsAll v) x y 5 = v x y := by
  have e : toldF (stairsAll v) x y 5 = ((((0 + alongF (stairsAll v) x 0 * waysN y ((0 : Nat) : Int) 0) + alongF (stairsAll v) x 1 * waysN y ((1 : Nat) : Int) 1) + alongF (stairsAll v) x 2 * waysN y ((2 : Nat) : Int) 2) + alongF (stairsAll v) x 3 * waysN y ((3 : Nat) : Int) 3) + alongF (stairsAll v) x 4 * waysN y ((4 : Nat) : Int) 4 := rfl
  rw [e, along_G hx x (by decide), along_G hx x (by decide), along_G hx x (by decide), along_G hx x (by decide), along_G hx x (by decide), ← newton (hy x) y]
  show _ = G v 0 x * waysN y ((0 : Nat) : Int) 0 + (G v 1 x * waysN y ((1 : Nat) : Int) 1 + (G v 2 x * waysN y ((2 : Nat) : Int) 2 + (G v 3 x * waysN y ((3 : Nat) : Int) 3 + (G v 4 x * waysN y ((4 : Nat) : Int) 4 + 0))))
  omega
end Mine
end SP4
section SP5
namespace Mine
/-- a polynomial of degree k and its first coefficient -/
def PT : Nat → (Int → Int) → Int → Prop
  | 0, f, a => ∀ t, f t = a
  | k + 1, f, a => ∃ c g, PT k g a ∧ ∀ t, f t = c + t * g t
theorem PT.mix : ∀ {k : Nat} {h g : Int → Int} {a b : Int} (r : Int), PT (k + 1) h a → PT k g b → PT (k + 1) (fun t => h t + r * g t) a
  | 0, h, g, a, b, r, ⟨c, h', H, e⟩, G => ⟨c + r * b, h', H, fun t => by show h t + r * g t = _; rw [e, G t]; omega⟩
  | k + 1, h, g, a, b, r, ⟨c, h', H, e⟩, ⟨c', g', G, e'⟩ => ⟨c + r * c', _, PT.mix r H G, fun t => by show h t + r * g t = _; rw [e, e']; grind⟩
theorem PT.factor : ∀ {k : Nat} {f : Int → Int} {a : Int} (r : Int), PT (k + 1) f a → ∃ g, PT k g a ∧ ∀ t, f t - f r = (t - r) * g t
  | 0, f, a, r, ⟨c, g, G, e⟩ => ⟨g, G, fun t => by rw [e, e, G t, G r]; grind⟩
  | k + 1, f, a, r, ⟨c, h, H, e⟩ => by
    obtain ⟨g, G, eg⟩ := PT.factor r H
    refine ⟨_, PT.mix r H G, fun t => ?_⟩
    have := eg t
    rw [e, e]
    grind
theorem PT.roots : ∀ {k : Nat} {f : Int → Int} {a : Int}, PT k f a → ∀ rs : List Int, rs.Nodup → (∀ r ∈ rs, f r = 0) → k < rs.length → a = 0
  | 0, f, a, h, r :: rs, _, hr, _ => (h r).symm.trans (hr r List.mem_cons_self)
  | k + 1, f, a, h, r :: rs, hn, hr, hl => by
    obtain ⟨g, G, eg⟩ := PT.factor r h
    obtain ⟨hr', hn'⟩ := List.nodup_cons.mp hn
    refine PT.roots G rs hn' (fun q hq => ?_) (by simpa using hl)
    have e := eg q
    rw [hr q (List.mem_cons_of_mem _ hq), hr r List.mem_cons_self] at e
    have hne : q ≠ r := fun z => hr' (z ▸ hq)
    rcases Int.mul_eq_zero.mp (show (q - r) * g q = 0 by omega) with z | z
    · omega
    · exact z
  | _, _, _, _, [], _, _, h => by simp at h
def Z5 : List Int := [0, 1, 2, 3, 4]
theorem count_map (f : Int → Int) : ∀ l : List Int, (l.map f).count 0 = (l.filter fun t => decide (f t = 0)).length
  | [] => rfl
  | a :: l => by
    rw [List.map_cons, List.count_cons, count_map f l, List.filter_cons]
    by_cases h : f a = 0
    · simp [h]
    · simp [h]
theorem PT.count {k : Nat} {f : Int → Int} {a : Int} (h : PT k f a) (ha : a ≠ 0) : (Z5.map f).count 0 ≤ k := by
  rw [count_map]
  refine Nat.le_of_not_lt fun hlt => ha (h.roots _ ?_ (fun r hr => ?_) hlt)
  · exact (show Z5.Nodup by decide).sublist List.filter_sublist
  · simpa using (List.mem_filter.mp hr).2
def hor : List Int → Int → Int
  | [], _ => 0
  | c :: cs, t => c + t * hor cs t
theorem hor_zero {t : Int} : ∀ {cs : List Int}, (∀ c ∈ cs, c = 0) → hor cs t = 0
  | [], _ => rfl
  | c :: cs, h => by
    show c + t * hor cs t = 0
    rw [h c List.mem_cons_self, hor_zero fun d hd => h d (List.mem_cons_of_mem _ hd)]; simp
theorem hor_top : ∀ {cs : List Int} {k : Nat} {a : Int}, cs[k]? = some a → (∀ m b, k < m → cs[m]? = some b → b = 0) → PT k (hor cs) a
  | [], k, a, h, _ => by simp at h
  | c :: cs, 0, a, h, hz => fun t => by
    cases h
    show c + t * hor cs t = c
    rw [hor_zero fun d hd => ?_]
    · simp
    · obtain ⟨i, hi⟩ := List.getElem?_of_mem hd
      exact hz (i + 1) d (Nat.succ_pos _) (by simpa using hi)
  | c :: cs, k + 1, a, h, hz => ⟨c, hor cs, hor_top (by simpa using h) fun m b hm e => hz (m + 1) b (Nat.succ_lt_succ hm) (by simpa using e), fun _ => rfl⟩
theorem maxN (p : Nat → Prop) : ∀ n : Nat, (∃ b, b < n ∧ p b) → ∃ b, b < n ∧ p b ∧ ∀ m, b < m → m < n → ¬ p m
  | 0, ⟨_, h, _⟩ => absurd h (Nat.not_lt_zero _)
  | n + 1, h => by
    by_cases hn : p n
    · exact ⟨n, Nat.lt_succ_self _, hn, fun m h1 h2 => absurd h1 (by omega)⟩
    · obtain ⟨b, hb, hp⟩ := h
      have : b < n := by
        rcases Nat.lt_succ_iff_lt_or_eq.mp hb with h | h
        · exact h
        · exact absurd (h ▸ hp) hn
      obtain ⟨c, hc, hpc, hm⟩ := maxN p n ⟨b, this, hp⟩
      exact ⟨c, Nat.lt_succ_of_lt hc, hpc, fun m h1 h2 => by
        rcases Nat.lt_succ_iff_lt_or_eq.mp h2 with h | h
        · exact hm m h1 h
        · exact h ▸ hn⟩
/-! two letters -/
def co (c : List (Int × Int)) (a b : Nat) : Int := kdfLook c (8 * a + b) 0
def colC (c : List (Int × Int)) (b : Nat) : List Int := [co c 0 b, co c 1 b, co c 2 b, co c 3 b, co c 4 b]
def rowC (c : List (Int × Int)) (x : Int) : List Int := [hor (colC c 0) x, hor (colC c 1) x, hor (colC c 2) x, hor (colC c 3) x, hor (colC c 4) x]
theorem ev_hor (c : List (Int × Int)) (x y : Int) : ev c x y = hor (rowC c x) y := by
  have e : ev c x y = kdfLook c 0 0 * (x ^ 0 * y ^ 0) + (kdfLook c 1 0 * (x ^ 0 * y ^ 1) + (kdfLook c 2 0 * (x ^ 0 * y ^ 2) + (kdfLook c 3 0 * (x ^ 0 * y ^ 3) + (kdfLook c 4 0 * (x ^ 0 * y ^ 4) + (
    kdfLook c 8 0 * (x ^ 1 * y ^ 0) + (kdfLook c 9 0 * (x ^ 1 * y ^ 1) + (kdfLook c 10 0 * (x ^ 1 * y ^ 2) + (kdfLook c 11 0 * (x ^ 1 * y ^ 3) + (kdfLook c 12 0 * (x ^ 1 * y ^ 4) + (
    kdfLook c 16 0 * (x ^ 2 * y ^ 0) + (kdfLook c 17 0 * (x ^ 2 * y ^ 1) + (kdfLook c 18 0 * (x ^ 2 * y ^ 2) + (kdfLook c 19 0 * (x ^ 2 * y ^ 3) + (kdfLook c 20 0 * (x ^ 2 * y ^ 4) + (
    kdfLook c 24 0 * (x ^ 3 * y ^ 0) + (kdfLook c 25 0 * (x ^ 3 * y ^ 1) + (kdfLook c 26 0 * (x ^ 3 * y ^ 2) + (kdfLook c 27 0 * (x ^ 3 * y ^ 3) + (kdfLook c 28 0 * (x ^ 3 * y ^ 4) + (
    kdfLook c 32 0 * (x ^ 4 * y ^ 0) + (kdfLook c 33 0 * (x ^ 4 * y ^ 1) + (kdfLook c 34 0 * (x ^ 4 * y ^ 2) + (kdfLook c 35 0 * (x ^ 4 * y ^ 3) + (kdfLook c 36 0 * (x ^ 4 * y ^ 4) + 0)))))))))))))))))))))))) := rfl
  rw [e]
  show _ = hor [hor [kdfLook c 0 0, kdfLook c 8 0, kdfLook c 16 0, kdfLook c 24 0, kdfLook c 32 0] x, hor [kdfLook c 1 0, kdfLook c 9 0, kdfLook c 17 0, kdfLook c 25 0, kdfLook c 33 0] x, hor [kdfLook c 2 0, kdfLook c 10 0, kdfLook c 18 0, kdfLook c 26 0, kdfLook c 34 0] x,
    hor [kdfLook c 3 0, kdfLook c 11 0, kdfLook c 19 0, kdfLook c 27 0, kdfLook c 35 0] x, hor [kdfLook c 4 0, kdfLook c 12 0, kdfLook c 20 0, kdfLook c 28 0, kdfLook c 36 0] x] y
  simp only [hor, Int.pow_succ, Int.pow_zero, Int.one_mul, Int.mul_one, Int.mul_zero, Int.add_zero]
  clear e
  generalize kdfLook c 0 0 = a0; generalize kdfLook c 1 0 = a1; generalize kdfLook c 2 0 = a2; generalize kdfLook c 3 0 = a3; generalize kdfLook c 4 0 = a4
  generalize kdfLook c 8 0 = b0; generalize kdfLook c 9 0 = b1; generalize kdfLook c 10 0 = b2; generalize kdfLook c 11 0 = b3; generalize kdfLook c 12 0 = b4
  generalize kdfLook c 16 0 = c0; generalize kdfLook c 17 0 = c1; generalize kdfLook c 18 0 = c2; generalize kdfLook c 19 0 = c3; generalize kdfLook c 20 0 = c4
  generalize kdfLook c 24 0 = d0; generalize kdfLook c 25 0 = d1; generalize kdfLook c 26 0 = d2; generalize kdfLook c 27 0 = d3; generalize kdfLook c 28 0 = d4
  generalize kdfLook c 32 0 = e0; generalize kdfLook c 33 0 = e1; generalize kdfLook c 34 0 = e2; generalize kdfLook c 35 0 = e3; generalize kdfLook c 36 0 = e4
  grind

theorem col_at (c : List (Int × Int)) {a b : Nat} (ha : a < 5) : (colC c b)[a]? = some (co c a b) := by
  have : a = 0 ∨ a = 1 ∨ a = 2 ∨ a = 3 ∨ a = 4 := by omega
  rcases this with rfl | rfl | rfl | rfl | rfl <;> rfl
theorem row_at (c : List (Int × Int)) (x : Int) {b : Nat} (hb : b < 5) : (rowC c x)[b]? = some (hor (colC c b) x) := by
  have : b = 0 ∨ b = 1 ∨ b = 2 ∨ b = 3 ∨ b = 4 := by omega
  rcases this with rfl | rfl | rfl | rfl | rfl <;> rfl
theorem col_some {c : List (Int × Int)} {b m : Nat} {z : Int} (h : (colC c b)[m]? = some z) : m < 5 ∧ z = co c m b := by
  have hm : m < 5 := (List.getElem?_eq_some_iff.mp h).1
  exact ⟨hm, Option.some.inj (h.symm.trans (col_at c hm))⟩
theorem row_some {c : List (Int × Int)} {x : Int} {m : Nat} {z : Int} (h : (rowC c x)[m]? = some z) : m < 5 ∧ z = hor (colC c m) x := by
  have hm : m < 5 := (List.getElem?_eq_some_iff.mp h).1
  exact ⟨hm, Option.some.inj (h.symm.trans (row_at c x hm))⟩
theorem hor_col0 {c : List (Int × Int)} {b : Nat} (h : ∀ a, a < 5 → co c a b = 0) (x : Int) : hor (colC c b) x = 0 := hor_zero fun z hz => by
  obtain ⟨i, hi⟩ := List.getElem?_of_mem hz
  obtain ⟨h1, h2⟩ := col_some hi
  rw [h2]; exact h i h1
/-- the top of the table -/
theorem top_all {c : List (Int × Int)} (h : ∃ a b, a < 5 ∧ b < 5 ∧ co c a b ≠ 0) : ∃ a b A, a < 5 ∧ b < 5 ∧ co c a b ≠ 0 ∧ PT a (hor (colC c b)) A ∧ A ≠ 0 ∧ ∀ x, PT b (hor (rowC c x)) (hor (colC c b) x) := by
  obtain ⟨a0, b0, ha0, hb0, h0⟩ := h
  obtain ⟨b, hb, ⟨a1, ha1, h1⟩, hbm⟩ := maxN (fun b => ∃ a, a < 5 ∧ co c a b ≠ 0) 5 ⟨b0, hb0, a0, ha0, h0⟩
  obtain ⟨a, ha, h2, ham⟩ := maxN (fun a => co c a b ≠ 0) 5 ⟨a1, ha1, h1⟩
  refine ⟨a, b, co c a b, ha, hb, h2, hor_top (col_at c ha) fun m z hm e => ?_, h2, fun x => hor_top (row_at c x hb) fun m z hm e => ?_⟩
  · obtain ⟨h3, h4⟩ := col_some e
    rw [h4]
    exact Decidable.not_not.mp (ham m hm h3)
  · obtain ⟨h3, h4⟩ := row_some e
    rw [h4]
    exact hor_col0 (fun a ha => Decidable.not_not.mp fun hne => hbm m hm h3 ⟨a, ha, hne⟩) x
theorem Z5_len (f : Int → Int) : (Z5.map f).count 0 ≤ 5 := Nat.le_trans List.count_le_length (by simp [Z5])
theorem filter_sum (f g : Int → Int) (b : Nat) : ∀ l : List Int, (∀ i ∈ l, (if f i = 0 then (5 : Int) else b) ≥ g i) → (l.map g).sum ≤ l.length * b + 5 * (l.map f).count 0
  | [], _ => by simp
  | i :: l, h => by
    have ih := filter_sum f g b l fun j hj => h j (List.mem_cons_of_mem _ hj)
    have hi := h i List.mem_cons_self
    simp only [List.map_cons, List.sum_cons, List.count_cons, List.length_cons]
    have hx : ((l.length + 1 : Nat) : Int) * (b : Int) = (l.length : Int) * b + b := by
      rw [Int.natCast_add, Int.add_mul]; simp
    rw [hx]
    by_cases hf : f i = 0
    · rw [if_pos hf] at hi
      simp only [hf, beq_self_eq_true, if_true]
      omega
    · rw [if_neg hf] at hi
      have : (f i == 0) = false := beq_eq_false_iff_ne.mpr hf
      simp only [this]
      omega
def nzG (v : Int → Int → Int) : Int := (Z5.map fun i => (((Z5.map fun j => v i j).count 0 : Nat) : Int)).sum
theorem nz_top {c : List (Int × Int)} {v : Int → Int → Int} (hv : ∀ x y, v x y = ev c x y) (h : ∃ a b, a < 5 ∧ b < 5 ∧ co c a b ≠ 0) : ∃ a b : Nat, a < 5 ∧ b < 5 ∧ co c a b ≠ 0 ∧ nzG v ≤ 5 * ((a : Int) + b) := by
  obtain ⟨a, b, A, ha, hb, h0, hA, hne, hB⟩ := top_all h
  refine ⟨a, b, ha, hb, h0, ?_⟩
  have hc := hA.count hne
  have hs := filter_sum (hor (colC c b)) (fun i => (((Z5.map fun j => v i j).count 0 : Nat) : Int)) b Z5 fun i _ => by
    have e : (fun j => v i j) = hor (rowC c i) := funext fun j => by rw [hv, ev_hor]
    show (((Z5.map fun j => v i j).count 0 : Nat) : Int) ≤ _
    rw [e]
    by_cases hf : hor (colC c b) i = 0
    · rw [if_pos hf]
      exact Int.ofNat_le.mpr (Z5_len _)
    · rw [if_neg hf]
      exact Int.ofNat_le.mpr ((hB i).count hf)
  unfold nzG
  have h5 : ((Z5.length : Nat) : Int) = 5 := rfl
  rw [h5] at hs
  omega
theorem nz_none {c : List (Int × Int)} {v : Int → Int → Int} (hv : ∀ x y, v x y = ev c x y) (h : ∀ a b, a < 5 → b < 5 → co c a b = 0) : nzG v = 25 := by
  have e : v = fun _ _ => 0 := funext fun x => funext fun y => by
    rw [hv, ev_hor]
    refine hor_zero fun z hz => ?_
    obtain ⟨i, hi⟩ := List.getElem?_of_mem hz
    obtain ⟨h1, h2⟩ := row_some hi
    rw [h2]
    exact hor_col0 (fun a ha => h a i ha h1) x
  rw [e]; rfl
/-- degrees -/
theorem degs_mem {c : List (Int × Int)} {K : List Int} {d : Int} : d ∈ degsL c K ↔ ∃ k ∈ K, kdfLook c k 0 ≠ 0 ∧ d = k.fdiv 8 + k.fmod 8 := by
  unfold degsL
  rw [List.mem_filterMap]
  constructor
  · rintro ⟨k, hk, e⟩
    by_cases h : kdfLook c k 0 ≠ 0
    · rw [if_pos h] at e; exact ⟨k, hk, h, (Option.some.inj e).symm⟩
    · rw [if_neg h] at e; cases e
  · rintro ⟨k, hk, h, e⟩
    exact ⟨k, hk, by rw [if_pos h, e]⟩
theorem key_deg {a b : Nat} (hb : b < 8) : (8 * (a : Int) + b).fdiv 8 + (8 * (a : Int) + b).fmod 8 = a + b := by
  have h1 : (8 * (a : Int) + b).fdiv 8 = a := by rw [Int.fdiv_eq_ediv_of_nonneg _ (by decide)]; omega
  have h2 : (8 * (a : Int) + b).fmod 8 = b := by rw [Int.fmod_eq_emod_of_nonneg _ (by decide)]; omega
  rw [h1, h2]
theorem look_key {c : List (Int × Int)} {k : Int} (h : kdfLook c k 0 ≠ 0) : k ∈ ks c := Decidable.not_not.mp fun hn => h (look_off hn)
theorem degs_co {c : List (Int × Int)} {a b : Nat} (hb : b < 5) (h : co c a b ≠ 0) : (a : Int) + b ∈ degsL c (ks c) := degs_mem.mpr ⟨8 * a + b, look_key h, h, (key_deg (by omega)).symm⟩
theorem degs_key {c : List (Int × Int)} (hw : Wf 4 c) {d : Int} (h : d ∈ degsL c (ks c)) : d ≤ 4 ∧ ∃ a b, a < 5 ∧ b < 5 ∧ co c a b ≠ 0 := by
  obtain ⟨k, hk, h0, e⟩ := degs_mem.mp h
  obtain ⟨a, b, ek, hd⟩ := hw.2 k hk
  subst ek
  rw [key_deg (by omega)] at e
  exact ⟨by omega, a, b, by omega, by omega, h0⟩
theorem nz_facts {c : List (Int × Int)} {v : Int → Int → Int} (hw : Wf 4 c) (hv : ∀ x y, v x y = ev c x y) :
    (degsL c (ks c) = [] → nzG v = 25) ∧ (degsL c (ks c) ≠ [] → nzG v ≠ 25) ∧ ∀ M ∈ degsL c (ks c), (∀ a ∈ degsL c (ks c), a ≤ M) → nzG v ≤ 5 * M := by
  have hle : ∀ d ∈ degsL c (ks c), ∃ d' ∈ degsL c (ks c), nzG v ≤ 5 * d' := fun d hd => by
    obtain ⟨_, h⟩ := degs_key hw hd
    obtain ⟨a, b, ha, hb, h0, hn⟩ := nz_top hv h
    exact ⟨_, degs_co hb h0, hn⟩
  refine ⟨fun he => nz_none hv fun a b ha hb => Decidable.not_not.mp fun hne => ?_, fun hne h25 => ?_, fun M hM hmax => ?_⟩
  · have := degs_co hb hne
    rw [he] at this
    cases this
  · obtain ⟨d, hd⟩ := List.exists_mem_of_ne_nil _ hne
    obtain ⟨d', hd', hn⟩ := hle d hd
    have := (degs_key hw hd').1
    omega
  · obtain ⟨d', hd', hn⟩ := hle M hM
    have := hmax d' hd'
    omega
end Mine
end SP5
section SF0
namespace Mine
def wlF (n0 n1 n2 n3 j0 j1 j2 : Int) : List (Int × Int) := joinedL (joinedL (partL n0) (partL n1) j0) (joinedL (partL n2) (partL n3) j1) j2
def nzF (v : Int → Int → Int) : Int := ((linesF v).map fun l => ((l.count 0 : Nat) : Int)).sum
structure Facts (n0 n1 n2 n3 j0 j1 j2 n5 n6 : Int) : Prop where
  hj0 : j0 = 0 ∨ j0 = 1 ∨ j0 = 2
  hj1 : j1 = 0 ∨ j1 = 1 ∨ j1 = 2
  hj2 : j2 = 0 ∨ j2 = 1 ∨ j2 = 2
  bx : Builtin.Int.intBits n5 ≤ 1048576
  by' : Builtin.Int.intBits n6 ≤ 1048576
  hr : ∀ n ∈ rowF n0 n1 n2 n3 j0 j1 j2, 0 ≤ n ∧ n < 262144
  hl1 : (joinedL (partL n0) (partL n1) j0).length ≤ 64
  hl2 : (joinedL (partL n2) (partL n3) j1).length ≤ 64
  hb1 : ∀ k, Builtin.Int.intBits (kdfLook (joinedL (partL n0) (partL n1) j0) k 0) ≤ 64
  hlen : (wlF n0 n1 n2 n3 j0 j1 j2).length ≤ 64
  hok : ∀ i j : Nat, i < 5 → j < 5 → ∀ k n, (rowF n0 n1 n2 n3 j0 j1 j2)[k]? = some n → okM (runM i j ((rowF n0 n1 n2 n3 j0 j1 j2).take k)) n
  hdl : (degsL (wlF n0 n1 n2 n3 j0 j1 j2) ((wlF n0 n1 n2 n3 j0 j1 j2).map (·.1))).length ≤ 64
  hz0 : degsL (wlF n0 n1 n2 n3 j0 j1 j2) ((wlF n0 n1 n2 n3 j0 j1 j2).map (·.1)) = [] → nzF (saysV n0 n1 n2 n3 j0 j1 j2) = 25
  hz2 : degsL (wlF n0 n1 n2 n3 j0 j1 j2) ((wlF n0 n1 n2 n3 j0 j1 j2).map (·.1)) ≠ [] → nzF (saysV n0 n1 n2 n3 j0 j1 j2) ≠ 25
  hz1 : ∀ M ∈ degsL (wlF n0 n1 n2 n3 j0 j1 j2) ((wlF n0 n1 n2 n3 j0 j1 j2).map (·.1)), (∀ a ∈ degsL (wlF n0 n1 n2 n3 j0 j1 j2) ((wlF n0 n1 n2 n3 j0 j1 j2).map (·.1)), a ≤ M) → nzF (saysV n0 n1 n2 n3 j0 j1 j2) ≤ 5 * M
  hHb : ∀ j < 5, ∀ h ∈ stairsF (colF (stairsAll (saysV n0 n1 n2 n3 j0 j1 j2)) j).length (colF (stairsAll (saysV n0 n1 n2 n3 j0 j1 j2)) j), Builtin.Int.intBits h ≤ 64
  hAb : ∀ j : Nat, j < 5 → IntMulOk (alongF (stairsAll (saysV n0 n1 n2 n3 j0 j1 j2)) n5 j) (waysN n6 j j)
  told : toldF (stairsAll (saysV n0 n1 n2 n3 j0 j1 j2)) n5 n6 5 = saysV n0 n1 n2 n3 j0 j1 j2 n5 n6
  hkey : ∀ k ∈ (wlF n0 n1 n2 n3 j0 j1 j2).map (·.1), 0 ≤ k.fdiv 8 ∧ k.fdiv 8 ≤ 4 ∧ k.fmod 8 ≤ 4
  hcb : ∀ k, Builtin.Int.intBits (kdfLook (wlF n0 n1 n2 n3 j0 j1 j2) k 0) ≤ 64
  hpm : ∀ k ∈ (wlF n0 n1 n2 n3 j0 j1 j2).map (·.1), IntMulOk (kdfLook (wlF n0 n1 n2 n3 j0 j1 j2) k 0 * n5 ^ (k.fdiv 8).toNat) (n6 ^ (k.fmod 8).toNat)
  plain : plainF (wlF n0 n1 n2 n3 j0 j1 j2) n5 n6 = saysV n0 n1 n2 n3 j0 j1 j2 n5 n6
  hokF : ∀ k n, (rowF n0 n1 n2 n3 j0 j1 j2)[k]? = some n → okM (runM n5 n6 ((rowF n0 n1 n2 n3 j0 j1 j2).take k)) n
end Mine
end SF0
section SP6
namespace Mine
theorem mod3 (v : Int) : v.fmod 3 = 0 ∨ v.fmod 3 = 1 ∨ v.fmod 3 = 2 := by
  have h1 : 0 ≤ v.fmod 3 := Int.fmod_nonneg_of_pos _ (by decide)
  have h2 : v.fmod 3 < 3 := Int.fmod_lt_of_pos _ (by decide)
  omega
theorem nums_bits {ns : List Int} (h : PyData.layable0 (.list (ns.map .int)) = true) {n : Int} (hn : n ∈ numsF ns) : Builtin.Int.intBits n ≤ 1048576 := by
  rcases List.mem_append.mp hn with hn | hn
  · exact intBits_le_of_item (List.mem_of_mem_take hn) h
  · refine bits_mono (bits_small ?_) (by decide)
    have := List.mem_of_mem_drop hn
    simp only [List.mem_cons, List.not_mem_nil, or_false] at this
    rcases this with rfl | rfl | rfl | rfl | rfl | rfl | rfl <;> decide
/-! sizes -/
section
variable {b : Nat} (h8 : 8 ≤ b) {x y : Int} (hx : Builtin.Int.intBits x ≤ b) (hy : Builtin.Int.intBits y ≤ b)
include h8 hx hy
theorem leafB_bits (v : Int) : Builtin.Int.intBits (leafB v x y) ≤ b := by
  unfold leafB
  have hm := fmod_seven v
  rcases fmod_five v with h | h | h | h | h <;> rw [h]
  · exact hx
  · exact hx
  · exact hy
  · exact hy
  · exact bits_mono (bits_small (by show ((v.fdiv 10).fmod 7 - 3).natAbs < 256; omega)) h8
theorem leafV_bits (v : Int) : Builtin.Int.intBits (leafV v x y) ≤ b + 1 := by
  have hb := leafB_bits h8 hx hy v
  unfold leafV
  split
  · refine bits_mono (intBits_sub_le (intBits_neg_le hb) (bits_small (by decide : (1 : Int).natAbs < 256))) ?_
    omega
  · exact bits_mono hb (Nat.le_succ _)
omit h8 hx hy in
theorem opJ_bits {j p q : Int} {m : Nat} (hm : 1 ≤ m) (hp : Builtin.Int.intBits p ≤ m) (hq : Builtin.Int.intBits q ≤ m) : Builtin.Int.intBits (opJ j p q) ≤ 2 * m := by
  unfold opJ
  split
  · exact bits_mono (intBits_add_le hp hq) (by omega)
  · split
    · exact bits_mono (intBits_sub_le hp hq) (by omega)
    · exact bits_mono (intBits_mul_le hp hq) (by omega)
theorem says_bits (n0 n1 n2 n3 j0 j1 j2 : Int) : Builtin.Int.intBits (saysV n0 n1 n2 n3 j0 j1 j2 x y) ≤ 4 * (b + 1) :=
  bits_mono (opJ_bits (by omega) (opJ_bits (by omega) (leafV_bits h8 hx hy n0) (leafV_bits h8 hx hy n1)) (opJ_bits (by omega) (leafV_bits h8 hx hy n2) (leafV_bits h8 hx hy n3))) (by omega)
theorem ok_all (hb : b ≤ 1048576) {n0 n1 n2 n3 j0 j1 j2 : Int} (h0 : j0 = 0 ∨ j0 = 1 ∨ j0 = 2) (h1 : j1 = 0 ∨ j1 = 1 ∨ j1 = 2) (h2 : j2 = 0 ∨ j2 = 1 ∨ j2 = 2) : Ok x y [] (rowF n0 n1 n2 n3 j0 j1 j2) :=
  ok_row h0 h1 h2 (mulOk_of_bits (leafV_bits h8 hx hy n0) (leafV_bits h8 hx hy n1) (by omega)) (mulOk_of_bits (leafV_bits h8 hx hy n2) (leafV_bits h8 hx hy n3) (by omega))
    (mulOk_of_bits (opJ_bits (by omega) (leafV_bits h8 hx hy n0) (leafV_bits h8 hx hy n1)) (opJ_bits (by omega) (leafV_bits h8 hx hy n2) (leafV_bits h8 hx hy n3)) (by omega))
end
theorem dif_bits {m : Nat} : ∀ {l : List Int}, (∀ a ∈ l, Builtin.Int.intBits a ≤ m) → ∀ a ∈ dif l, Builtin.Int.intBits a ≤ m + 1
  | [], _, a, h => by cases h
  | [_], _, a, h => by cases h
  | p :: q :: r, hl, a, h => by
    rcases List.mem_cons.mp h with rfl | h
    · exact bits_mono (intBits_sub_le (hl q (by simp)) (hl p (by simp))) (by omega)
    · exact dif_bits (l := q :: r) (fun z hz => hl z (List.mem_cons_of_mem _ hz)) a h
theorem stairs_bits : ∀ {n m : Nat} {l : List Int}, (∀ a ∈ l, Builtin.Int.intBits a ≤ m) → ∀ a ∈ stairsF n l, Builtin.Int.intBits a ≤ m + n
  | 0, m, l, _, a, h => by cases l <;> cases h
  | n + 1, m, [], _, a, h => by cases h
  | n + 1, m, p :: r, hl, a, h => by
    rcases List.mem_cons.mp h with rfl | h
    · exact bits_mono (hl _ List.mem_cons_self) (by omega)
    · exact bits_mono (stairs_bits (dif_bits hl) a h) (by omega)
theorem G_bits {v : Int → Int → Int} {m : Nat} {t : Int} (h : ∀ j : Nat, j < 5 → Builtin.Int.intBits (v t j) ≤ m) (j : Nat) (hj : j < 5) : Builtin.Int.intBits (G v j t) ≤ m + 5 := by
  have hl : ∀ a ∈ [v t 0, v t 1, v t 2, v t 3, v t 4], Builtin.Int.intBits a ≤ m := by
    intro a ha
    simp only [List.mem_cons, List.not_mem_nil, or_false] at ha
    rcases ha with rfl | rfl | rfl | rfl | rfl
    · exact h 0 (by decide)
    · exact h 1 (by decide)
    · exact h 2 (by decide)
    · exact h 3 (by decide)
    · exact h 4 (by decide)
  have hlen : (stairsF 5 [v t 0, v t 1, v t 2, v t 3, v t 4]).length = 5 := rfl
  unfold G
  rw [List.getD_eq_getElem?_getD, List.getElem?_eq_getElem (hlen ▸ hj)]
  exact stairs_bits hl _ (List.getElem_mem _)
theorem small_bits {i : Nat} (h : i < 5) : Builtin.Int.intBits (i : Int) ≤ 8 := bits_small (by omega)
section
variable {n0 n1 n2 n3 j0 j1 j2 : Int} (h0 : j0 = 0 ∨ j0 = 1 ∨ j0 = 2) (h1 : j1 = 0 ∨ j1 = 1 ∨ j1 = 2) (h2 : j2 = 0 ∨ j2 = 1 ∨ j2 = 2)
include h0 h1 h2
theorem wl_all (x y : Int) : Wf 4 (wlF n0 n1 n2 n3 j0 j1 j2) ∧ ev (wlF n0 n1 n2 n3 j0 j1 j2) x y = saysV n0 n1 n2 n3 j0 j1 j2 x y := by
  have a := joined_all (D1 := 1) (D2 := 1) (by decide) (by decide) (part_wf n0) (part_wf n1) h0 x y
  have b := joined_all (D1 := 1) (D2 := 1) (by decide) (by decide) (part_wf n2) (part_wf n3) h1 x y
  have c := joined_all (D1 := 2) (D2 := 2) (by decide) (by decide) a.1 b.1 h2 x y
  refine ⟨c.1, c.2.trans ?_⟩
  rw [a.2, b.2, part_ev, part_ev, part_ev, part_ev]; rfl
omit h0 h1 h2 in
theorem in_len (n m j : Int) : (joinedL (partL n) (partL m) j).length ≤ 4 := joined_len (part_len n) (part_len m) (by decide) (by decide)
omit h0 h1 h2 in
theorem in_bm {j : Int} (hj : j = 0 ∨ j = 1 ∨ j = 2) (n m : Int) : Bm 64 (joinedL (partL n) (partL m) j) := joined_bm (part_bm n) (part_bm m) (part_len n) (part_len m) hj (by decide) (by decide)
omit h0 h1 h2 in
theorem wl_len : (wlF n0 n1 n2 n3 j0 j1 j2).length ≤ 16 := joined_len (in_len _ _ _) (in_len _ _ _) (by decide) (by decide)
theorem wl_bm : Bm 65536 (wlF n0 n1 n2 n3 j0 j1 j2) := joined_bm (in_bm h0 n0 n1) (in_bm h1 n2 n3) (in_len _ _ _) (in_len _ _ _) h2 (by decide) (by decide)
theorem says_ev : saysV n0 n1 n2 n3 j0 j1 j2 = ev (wlF n0 n1 n2 n3 j0 j1 j2) := funext fun x => funext fun y => (wl_all h0 h1 h2 x y).2.symm
end
theorem nz_same (v : Int → Int → Int) : nzF v = nzG v := rfl
theorem plain_ev {c : List (Int × Int)} (hw : Wf 4 c) (x y : Int) : plainF c x y = ev c x y := by
  rw [ev_keys hw (by decide)]
  unfold plainF
  show ((ks c).map _).sum = _
  refine sum_congr fun k _ => ?_
  unfold plainT mono
  exact Int.mul_assoc _ _ _
theorem facts {ns : List Int} (h : PyData.layable0 (.list (ns.map .int)) = true) {n0 n1 n2 n3 n4 n5 n6 : Int} (e : numsF ns = [n0, n1, n2, n3, n4, n5, n6]) : Facts n0 n1 n2 n3 (n4.fmod 3) ((n4.fdiv 3).fmod 3) ((n4.fdiv 9).fmod 3) n5 n6 := by
  have h5 : Builtin.Int.intBits n5 ≤ 1048576 := nums_bits h (by rw [e]; simp)
  have h6 : Builtin.Int.intBits n6 ≤ 1048576 := nums_bits h (by rw [e]; simp)
  have h0 := mod3 n4
  have h1 := mod3 (n4.fdiv 3)
  have h2 := mod3 (n4.fdiv 9)
  generalize n4.fmod 3 = j0 at *
  generalize (n4.fdiv 3).fmod 3 = j1 at *
  generalize (n4.fdiv 9).fmod 3 = j2 at *
  have hw : Wf 4 (wlF n0 n1 n2 n3 j0 j1 j2) := (wl_all h0 h1 h2 0 0).1
  have hs := says_ev (n0 := n0) (n1 := n1) (n2 := n2) (n3 := n3) h0 h1 h2
  have hx : ∀ y, IsP fun x => saysV n0 n1 n2 n3 j0 j1 j2 x y := by rw [hs]; exact ev_x _
  have hy : ∀ x, IsP fun y => saysV n0 n1 n2 n3 j0 j1 j2 x y := by rw [hs]; exact ev_y _
  have nz := nz_facts (v := saysV n0 n1 n2 n3 j0 j1 j2) hw (fun x y => by rw [hs])
  have hk : ∀ k ∈ ks (wlF n0 n1 n2 n3 j0 j1 j2), 0 ≤ k.fdiv 8 ∧ k.fdiv 8 ≤ 4 ∧ 0 ≤ k.fmod 8 ∧ k.fmod 8 ≤ 4 := fun k hk => by
    obtain ⟨a, b, ek, hd⟩ := hw.2 k hk
    have h1 : (8 * (a : Int) + b).fdiv 8 = a := by rw [Int.fdiv_eq_ediv_of_nonneg _ (by decide)]; omega
    have h2 : (8 * (a : Int) + b).fmod 8 = b := by rw [Int.fmod_eq_emod_of_nonneg _ (by decide)]; omega
    rw [ek, h1, h2]; omega
  exact {
    hj0 := h0, hj1 := h1, hj2 := h2, bx := h5, by' := h6
    hr := fun n hn => by
      have := (row_nums h0 h1 h2 n hn).1
      exact (by decide : ∀ n ∈ Nums, 0 ≤ n ∧ n < 262144) n this
    hl1 := Nat.le_trans (in_len _ _ _) (by decide)
    hl2 := Nat.le_trans (in_len _ _ _) (by decide)
    hb1 := fun k => bits_of_bm (in_bm h0 n0 n1) (by decide) k
    hlen := Nat.le_trans wl_len (by decide)
    hok := fun i j hi hj => ok_all (Nat.le_refl 8) (small_bits hi) (small_bits hj) (by decide) h0 h1 h2
    hdl := Nat.le_trans (List.length_filterMap_le _ _) (by rw [List.length_map]; exact Nat.le_trans wl_len (by decide))
    hz0 := nz.1, hz2 := nz.2.1, hz1 := nz.2.2
    hHb := fun j hj a ha => by
      rw [col_G] at ha
      refine bits_mono (stairs_bits (m := 41) (fun z hz => ?_) a ha) (show 41 + 5 ≤ 64 by decide)
      have hg : ∀ i : Nat, i < 5 → Builtin.Int.intBits (G (saysV n0 n1 n2 n3 j0 j1 j2) j (i : Int)) ≤ 41 := fun i hi => G_bits (m := 36) (fun j' hj' => says_bits (Nat.le_refl 8) (small_bits hi) (small_bits hj') _ _ _ _ _ _ _) j hj
      simp only [List.mem_cons, List.not_mem_nil, or_false] at hz
      rcases hz with rfl | rfl | rfl | rfl | rfl
      · exact hg 0 (by decide)
      · exact hg 1 (by decide)
      · exact hg 2 (by decide)
      · exact hg 3 (by decide)
      · exact hg 4 (by decide)
    hAb := fun j hj => by
      rw [along_G hx n5 hj]
      refine mulOk_of_bits (G_bits (m := 4 * (1048576 + 1)) (fun j' hj' => says_bits (by decide) h5 (bits_mono (small_bits hj') (by decide)) _ _ _ _ _ _ _) j hj) (ways_bits (b := 1048576) (by decide) h6 j (by omega)) ?_
      omega
    told := told_all hx hy n5 n6
    hkey := fun k hk' => let ⟨p, q, _, r⟩ := hk k hk'; ⟨p, q, r⟩
    hcb := fun k => bits_of_bm (wl_bm h0 h1 h2) (by decide) k
    hpm := fun k hk' => by
      obtain ⟨p, q, r, t⟩ := hk k hk'
      have e1 : (k.fdiv 8).toNat ≤ 4 := by omega
      have e2 : (k.fmod 8).toNat ≤ 4 := by omega
      have p1 : Builtin.Int.intBits (n5 ^ (k.fdiv 8).toNat) ≤ 4194305 := bits_mono (intBits_pow_le h5 _) (by have := Nat.mul_le_mul_left 1048576 e1; omega)
      have p2 : Builtin.Int.intBits (n6 ^ (k.fmod 8).toNat) ≤ 4194305 := bits_mono (intBits_pow_le h6 _) (by have := Nat.mul_le_mul_left 1048576 e2; omega)
      exact mulOk_of_bits (intBits_mul_le (bits_of_bm (wl_bm h0 h1 h2) (by decide) k) p1) p2 (by decide)
    plain := by rw [plain_ev hw, ← hs]
    hokF := ok_all (by decide) h5 h6 (Nat.le_refl _) h0 h1 h2 }
end Mine
end SP6
section SGL
open PySem.Calls
namespace Mine
theorem tab_grown {h₀ g : Heap} {L : Addr} {tl : List (Addr × Obj)} (h : TabL tl) (N : News h₀ L g tl) : GrownAll [(123, 119)] g := by
  rcases h with rfl | ⟨c1, oc, cvs, ct, rfl, e, hx⟩
  · exact ⟨⟨_, (N _ List.mem_cons_self).1⟩, True.intro⟩
  · exact ⟨⟨_, (N _ List.mem_cons_self).1⟩, True.intro⟩
theorem news_flip {h₀ g : Heap} {L : Addr} {tl W : List (Addr × Obj)} (N : News h₀ L g (tl ++ W)) : News h₀ L g (W ++ tl) := fun p hp => N p (List.mem_append.mpr (List.mem_append.mp hp).symm)
theorem nd_flip {tl W : List (Addr × Obj)} (D : ND W) (Dt : ND tl) (ap : ∀ p ∈ tl, ∀ q ∈ W, q.1 ≠ p.1) : ND (W ++ tl) := List.pairwise_append.mpr ⟨D, Dt, fun a ha b hb => (ap b hb a ha).symm⟩
theorem tab_nd {h₀ g : Heap} {L : Addr} {tl W : List (Addr × Obj)} (h : TabL tl) (N : News h₀ L g (tl ++ W)) : ND tl := by
  rcases h with rfl | ⟨c1, oc, cvs, ct, rfl, e, hx⟩
  · exact List.pairwise_singleton _ _
  · refine List.pairwise_cons.mpr ⟨fun q hq => ?_, List.pairwise_singleton _ _⟩
    rw [List.mem_singleton.mp hq]
    intro h
    have e1 := (N _ (List.mem_append_left _ List.mem_cons_self)).1
    have e2 := (N _ (List.mem_append_left _ (List.mem_cons_of_mem _ List.mem_cons_self))).1
    have h' : c1 = 119 := h
    subst h'
    have e3 := e1.symm.trans e2
    have e4 : tabObj #[rawInt 108, rawInt 53, .ref 119] = oc := Option.some.inj e3
    rw [← e4] at e
    cases e
    have hy : (#[rawInt 108, rawInt 53, Value.ref 119] : Array Value)[1]? = some (rawInt 53) := rfl
    have hz := Option.some.inj (hy.symm.trans hx)
    unfold rawInt at hz
    cases hz
theorem lines_five {v : Int → Int → Int} {nl : List (Addr × Obj)} {k : Nat} {a0 a1 a2 a3 a4 : Addr} {us : List (List Value)} {us0 us1 us2 us3 us4 : List Value} (hu : us = [us0, us1, us2, us3, us4])
    (hm : ∀ p ∈ [((a0 : Nat), listOf us0.toArray us0.length), ((a1 : Nat), listOf us1.toArray us1.length), ((a2 : Nat), listOf us2.toArray us2.length), ((a3 : Nat), listOf us3.toArray us3.length), ((a4 : Nat), listOf us4.toArray us4.length)], p ∈ nl)
    (l0 : IntsAre us0 (lineF v 5 0)) (l1 : IntsAre us1 (lineF v 5 1)) (l2 : IntsAre us2 (lineF v 5 2)) (l3 : IntsAre us3 (lineF v 5 3)) (l4 : IntsAre us4 (lineF v 5 4))
    (u0 : TokIn us0 k) (u1 : TokIn us1 k) (u2 : TokIn us2 k) (u3 : TokIn us3 k) (u4 : TokIn us4 k) : Lines [Value.ref a0, .ref a1, .ref a2, .ref a3, .ref a4] (linesF v) nl k := by
  refine ⟨rfl, fun i l e => ?_⟩
  rcases i with _ | _ | _ | _ | _ | i
  · cases e; exact ⟨_, us0, rfl, hm _ (by simp), l0, u0⟩
  · cases e; exact ⟨_, us1, rfl, hm _ (by simp), l1, u1⟩
  · cases e; exact ⟨_, us2, rfl, hm _ (by simp), l2, u2⟩
  · cases e; exact ⟨_, us3, rfl, hm _ (by simp), l3, u3⟩
  · cases e; exact ⟨_, us4, rfl, hm _ (by simp), l4, u4⟩
  · simp [linesF] at e
theorem lin_sub {items : List Value} {ls : List (List Int)} {nl nl' : List (Addr × Obj)} {k : Nat} (h : Lines items ls nl k) (hs : ∀ p ∈ nl, p ∈ nl') : Lin items ls nl' := ⟨h.1, fun i l e => let ⟨a, vs, h1, h2, h3, _⟩ := h.2 i l e; ⟨a, vs, h1, hs _ h2, h3⟩⟩
theorem lines_len (v : Int → Int → Int) : ∀ l ∈ linesF v, l.length ≤ 64 := by
  intro l hl
  simp only [linesF, List.mem_cons, List.not_mem_nil, or_false] at hl
  rcases hl with rfl | rfl | rfl | rfl | rfl <;> exact (by decide : 5 ≤ 64)
theorem stairs_five (v : Int → Int → Int) : ∀ l ∈ stairsAll v, l.length = 5 := by
  intro l hl
  simp only [stairsAll, linesF, List.map_cons, List.map_nil, List.mem_cons, List.not_mem_nil, or_false] at hl
  rcases hl with rfl | rfl | rfl | rfl | rfl <;> rfl

theorem law_all {w : World} {p : Program} {loose : List Str} {mean : ExcName → Option Value} {mg mb : Str → Option Value}
  {dp un : Nat} {gd : Option (List Code)} {cs : Scope} {a : Addr} {ccd : Value} {outer : List Env} {A₀ : Around} {base h₀ : Heap} {L : Addr} {s : Shared} {Q : Flow → Shared → Prop} {E : Value → Shared → Prop} (hcs : cs = lawS w.params)
  (l : Addr) (vs : List Value) (ns : List Int) (n0 n1 n2 n3 n4 n5 n6 j0 j1 j2 : Int) (ej0 : j0 = n4.fmod 3) (ej1 : j1 = (n4.fdiv 3).fmod 3) (ej2 : j2 = (n4.fdiv 9).fmod 3) (P : Facts n0 n1 n2 n3 j0 j1 j2 n5 n6) (hns : numsF ns = [n0, n1, n2, n3, n4, n5, n6])
  (w1 w2 w3 w4 w5 w6 : Obj) (v₁ v₂ v₃ v₄ v₅ v₆ : Option Value) (e1 : w1.data = .cell v₁) (e2 : w2.data = .cell v₂) (e3 : w3.data = .cell v₃) (e4 : w4.data = .cell v₄) (e5 : w5.data = .cell v₅) (e6 : w6.data = .cell v₆)
  (N : News h₀ L s.heap ((L + 6, w6) :: (L + 5, w5) :: (L + 4, w4) :: (L + 3, w3) :: (L + 2, w2) :: (L + 1, w1) :: (119, tabObj #[]) :: [])) (D : ND ((L + 6, w6) :: (L + 5, w5) :: (L + 4, w4) :: (L + 3, w3) :: (L + 2, w2) :: (L + 1, w1) :: (119, tabObj #[]) :: [])) (hl : h₀.IsList l vs.toArray) (hi : IntsAre vs ns) (hn : ns.length ≤ 63) (hC : CodeHd h₀ 123 119)
  (hnext : ∀ h' tk' m tl', TabL tl' → Fr h₀ L h' m → News h₀ L h' tl' → Q (.ret (.bool true)) { s with heap := h', toks := tk' })
  (B : Below A₀ base outer h₀) (F : Fr h₀ L s.heap (fm [("script", .ref l)])) (X : (lay.heap_1 w.params).In h₀) (T : Top p loose mean mg mb h₀) (hk : cs.kind = .function) (hd1 : dp + 12 < recursionLimit) (hu : un + 120 < cLine) :
  wpAny (model PySem.Challenge.rw_kl0095_01.row.prog w) (ktrTop dp un gd "law" cs L a ccd (cellsFrom (L + 1) cs.names []) outer) (execs (lawB w.params 0) (envX "law" cs L a ccd (cellsFrom (L + 1) cs.names []))) Q E s := by
  have last : ∃ n, (rowF n0 n1 n2 n3 j0 j1 j2)[(rowF n0 n1 n2 n3 j0 j1 j2).length - 1]? = some n ∧ n < 256 := let ⟨n, h, e⟩ := row_last n0 n1 n2 n3 j0 j1 j2; ⟨n, h, by have := P.hj2; omega⟩
  refine law_0 _ rfl hcs l vs ns _ N D hl hi hn rfl ?_ B F X T hk hd1 hu
  rintro d us h0 t0 iu F0 N100 D100
  rw [hns] at iu
  clear N D F hi
  refine law_1 _ rfl hcs l d us _ _ N100 D100 iu rfl rfl ?_ B F0 X T hk hd1 hu
  rintro e us2 h1 t1 ij F1 N101 D101
  clear N100 D100 F0
  rw [show joinsF [n0, n1, n2, n3, n4, n5, n6] = [n4.fmod 3, (n4.fdiv 3).fmod 3, (n4.fdiv 9).fmod 3] from rfl, ← ej0, ← ej1, ← ej2] at ij
  have N1 : News h₀ L _ (((d : Nat), listOf us.toArray 0) :: ((e : Nat), listOf us2.toArray 0) :: (L + 6, w6) :: (L + 5, w5) :: (L + 4, w4) :: (L + 3, w3) :: (L + 2, w2) :: (L + 1, w1) :: (119, tabObj #[]) :: []) := news_front [_] N101
  have D1 : ND (((d : Nat), listOf us.toArray 0) :: ((e : Nat), listOf us2.toArray 0) :: (L + 6, w6) :: (L + 5, w5) :: (L + 4, w4) :: (L + 3, w3) :: (L + 2, w2) :: (L + 1, w1) :: (119, tabObj #[]) :: []) := nd_front [_] D101
  clear N101 D101
  refine law_2 _ rfl hcs l d e us us2 n0 n1 n2 n3 n4 n5 n6 _ N1 D1 iu rfl ?_ B F1 X T hk hd1 hu
  rintro a0 vs0 a1 vs1 a2 vs2 a3 vs3 c h2 t2 i0 i1 i2 i3 F2 N102 D102
  clear N1 D1 F1
  have N2 : News h₀ L _ (((e : Nat), listOf us2.toArray 0) :: ((c : Nat), listOf [Value.ref a0, .ref a1, .ref a2, .ref a3].toArray 4) :: ((a3 : Nat), listOf vs3.toArray 0) :: ((a2 : Nat), listOf vs2.toArray 0) :: ((a1 : Nat), listOf vs1.toArray 0) :: ((a0 : Nat), listOf vs0.toArray 0) :: ((d : Nat), listOf us.toArray 0) :: (L + 6, w6) :: (L + 5, w5) :: (L + 4, w4) :: (L + 3, w3) :: (L + 2, w2) :: (L + 1, w1) :: (119, tabObj #[]) :: []) := news_front [_, _, _, _, _, _] N102
  have D2 : ND (((e : Nat), listOf us2.toArray 0) :: ((c : Nat), listOf [Value.ref a0, .ref a1, .ref a2, .ref a3].toArray 4) :: ((a3 : Nat), listOf vs3.toArray 0) :: ((a2 : Nat), listOf vs2.toArray 0) :: ((a1 : Nat), listOf vs1.toArray 0) :: ((a0 : Nat), listOf vs0.toArray 0) :: ((d : Nat), listOf us.toArray 0) :: (L + 6, w6) :: (L + 5, w5) :: (L + 4, w4) :: (L + 3, w3) :: (L + 2, w2) :: (L + 1, w1) :: (119, tabObj #[]) :: []) := nd_front [_, _, _, _, _, _] D102
  clear N102 D102
  have N3 : News h₀ L _ (((a0 : Nat), listOf vs0.toArray 0) :: ((e : Nat), listOf us2.toArray 0) :: ((c : Nat), listOf [Value.ref a0, .ref a1, .ref a2, .ref a3].toArray 4) :: ((a3 : Nat), listOf vs3.toArray 0) :: ((a2 : Nat), listOf vs2.toArray 0) :: ((a1 : Nat), listOf vs1.toArray 0) :: ((d : Nat), listOf us.toArray 0) :: (L + 6, w6) :: (L + 5, w5) :: (L + 4, w4) :: (L + 3, w3) :: (L + 2, w2) :: (L + 1, w1) :: (119, tabObj #[]) :: []) := news_front [_, _, _, _, _] N2
  have D3 : ND (((a0 : Nat), listOf vs0.toArray 0) :: ((e : Nat), listOf us2.toArray 0) :: ((c : Nat), listOf [Value.ref a0, .ref a1, .ref a2, .ref a3].toArray 4) :: ((a3 : Nat), listOf vs3.toArray 0) :: ((a2 : Nat), listOf vs2.toArray 0) :: ((a1 : Nat), listOf vs1.toArray 0) :: ((d : Nat), listOf us.toArray 0) :: (L + 6, w6) :: (L + 5, w5) :: (L + 4, w4) :: (L + 3, w3) :: (L + 2, w2) :: (L + 1, w1) :: (119, tabObj #[]) :: []) := nd_front [_, _, _, _, _] D2
  clear N2 D2
  have N4 : News h₀ L _ (((a1 : Nat), listOf vs1.toArray 0) :: ((a0 : Nat), listOf vs0.toArray 0) :: ((e : Nat), listOf us2.toArray 0) :: ((c : Nat), listOf [Value.ref a0, .ref a1, .ref a2, .ref a3].toArray 4) :: ((a3 : Nat), listOf vs3.toArray 0) :: ((a2 : Nat), listOf vs2.toArray 0) :: ((d : Nat), listOf us.toArray 0) :: (L + 6, w6) :: (L + 5, w5) :: (L + 4, w4) :: (L + 3, w3) :: (L + 2, w2) :: (L + 1, w1) :: (119, tabObj #[]) :: []) := news_front [_, _, _, _, _] N3
  have D4 : ND (((a1 : Nat), listOf vs1.toArray 0) :: ((a0 : Nat), listOf vs0.toArray 0) :: ((e : Nat), listOf us2.toArray 0) :: ((c : Nat), listOf [Value.ref a0, .ref a1, .ref a2, .ref a3].toArray 4) :: ((a3 : Nat), listOf vs3.toArray 0) :: ((a2 : Nat), listOf vs2.toArray 0) :: ((d : Nat), listOf us.toArray 0) :: (L + 6, w6) :: (L + 5, w5) :: (L + 4, w4) :: (L + 3, w3) :: (L + 2, w2) :: (L + 1, w1) :: (119, tabObj #[]) :: []) := nd_front [_, _, _, _, _] D3
  clear N3 D3
  have N5 : News h₀ L _ (((a2 : Nat), listOf vs2.toArray 0) :: ((a1 : Nat), listOf vs1.toArray 0) :: ((a0 : Nat), listOf vs0.toArray 0) :: ((e : Nat), listOf us2.toArray 0) :: ((c : Nat), listOf [Value.ref a0, .ref a1, .ref a2, .ref a3].toArray 4) :: ((a3 : Nat), listOf vs3.toArray 0) :: ((d : Nat), listOf us.toArray 0) :: (L + 6, w6) :: (L + 5, w5) :: (L + 4, w4) :: (L + 3, w3) :: (L + 2, w2) :: (L + 1, w1) :: (119, tabObj #[]) :: []) := news_front [_, _, _, _, _] N4
  have D5 : ND (((a2 : Nat), listOf vs2.toArray 0) :: ((a1 : Nat), listOf vs1.toArray 0) :: ((a0 : Nat), listOf vs0.toArray 0) :: ((e : Nat), listOf us2.toArray 0) :: ((c : Nat), listOf [Value.ref a0, .ref a1, .ref a2, .ref a3].toArray 4) :: ((a3 : Nat), listOf vs3.toArray 0) :: ((d : Nat), listOf us.toArray 0) :: (L + 6, w6) :: (L + 5, w5) :: (L + 4, w4) :: (L + 3, w3) :: (L + 2, w2) :: (L + 1, w1) :: (119, tabObj #[]) :: []) := nd_front [_, _, _, _, _] D4
  clear N4 D4
  have N6 : News h₀ L _ (((a3 : Nat), listOf vs3.toArray 0) :: ((a2 : Nat), listOf vs2.toArray 0) :: ((a1 : Nat), listOf vs1.toArray 0) :: ((a0 : Nat), listOf vs0.toArray 0) :: ((e : Nat), listOf us2.toArray 0) :: ((c : Nat), listOf [Value.ref a0, .ref a1, .ref a2, .ref a3].toArray 4) :: ((d : Nat), listOf us.toArray 0) :: (L + 6, w6) :: (L + 5, w5) :: (L + 4, w4) :: (L + 3, w3) :: (L + 2, w2) :: (L + 1, w1) :: (119, tabObj #[]) :: []) := news_front [_, _, _, _, _] N5
  have D6 : ND (((a3 : Nat), listOf vs3.toArray 0) :: ((a2 : Nat), listOf vs2.toArray 0) :: ((a1 : Nat), listOf vs1.toArray 0) :: ((a0 : Nat), listOf vs0.toArray 0) :: ((e : Nat), listOf us2.toArray 0) :: ((c : Nat), listOf [Value.ref a0, .ref a1, .ref a2, .ref a3].toArray 4) :: ((d : Nat), listOf us.toArray 0) :: (L + 6, w6) :: (L + 5, w5) :: (L + 4, w4) :: (L + 3, w3) :: (L + 2, w2) :: (L + 1, w1) :: (119, tabObj #[]) :: []) := nd_front [_, _, _, _, _] D5
  clear N5 D5
  have N7 : News h₀ L _ (((c : Nat), listOf [Value.ref a0, .ref a1, .ref a2, .ref a3].toArray 4) :: ((a3 : Nat), listOf vs3.toArray 0) :: ((a2 : Nat), listOf vs2.toArray 0) :: ((a1 : Nat), listOf vs1.toArray 0) :: ((a0 : Nat), listOf vs0.toArray 0) :: ((e : Nat), listOf us2.toArray 0) :: ((d : Nat), listOf us.toArray 0) :: (L + 6, w6) :: (L + 5, w5) :: (L + 4, w4) :: (L + 3, w3) :: (L + 2, w2) :: (L + 1, w1) :: (119, tabObj #[]) :: []) := news_front [_, _, _, _, _] N6
  have D7 : ND (((c : Nat), listOf [Value.ref a0, .ref a1, .ref a2, .ref a3].toArray 4) :: ((a3 : Nat), listOf vs3.toArray 0) :: ((a2 : Nat), listOf vs2.toArray 0) :: ((a1 : Nat), listOf vs1.toArray 0) :: ((a0 : Nat), listOf vs0.toArray 0) :: ((e : Nat), listOf us2.toArray 0) :: ((d : Nat), listOf us.toArray 0) :: (L + 6, w6) :: (L + 5, w5) :: (L + 4, w4) :: (L + 3, w3) :: (L + 2, w2) :: (L + 1, w1) :: (119, tabObj #[]) :: []) := nd_front [_, _, _, _, _] D6
  clear N6 D6
  refine law_3 _ rfl hcs l d e a0 a1 a2 a3 c us2 vs0 vs1 vs2 vs3 n0 n1 n2 n3 j0 j1 j2 _ N7 D7 ij i0 i1 i2 i3 rfl ?_ B F2 X T hk hd1 hu
  rintro r rs h3 t3 ir F3 N103 D103
  clear N7 D7 F2
  have N8 : News h₀ L _ ((L + 1, w1) :: ((r : Nat), listOf rs.toArray 0) :: ((e : Nat), listOf us2.toArray 0) :: ((d : Nat), listOf us.toArray 0) :: (L + 6, w6) :: (L + 5, w5) :: (L + 4, w4) :: (L + 3, w3) :: (L + 2, w2) :: (119, tabObj #[]) :: []) := news_front [_, _, _, _, _, _, _, _] N103
  have D8 : ND ((L + 1, w1) :: ((r : Nat), listOf rs.toArray 0) :: ((e : Nat), listOf us2.toArray 0) :: ((d : Nat), listOf us.toArray 0) :: (L + 6, w6) :: (L + 5, w5) :: (L + 4, w4) :: (L + 3, w3) :: (L + 2, w2) :: (119, tabObj #[]) :: []) := nd_front [_, _, _, _, _, _, _, _] D103
  clear N103 D103
  have N9 : News h₀ L _ (((r : Nat), listOf rs.toArray 0) :: (L + 1, w1) :: ((e : Nat), listOf us2.toArray 0) :: ((d : Nat), listOf us.toArray 0) :: (L + 6, w6) :: (L + 5, w5) :: (L + 4, w4) :: (L + 3, w3) :: (L + 2, w2) :: (119, tabObj #[]) :: []) := news_front [_] N8
  have D9 : ND (((r : Nat), listOf rs.toArray 0) :: (L + 1, w1) :: ((e : Nat), listOf us2.toArray 0) :: ((d : Nat), listOf us.toArray 0) :: (L + 6, w6) :: (L + 5, w5) :: (L + 4, w4) :: (L + 3, w3) :: (L + 2, w2) :: (119, tabObj #[]) :: []) := nd_front [_] D8
  clear N8 D8
  refine law_5 _ rfl hcs l d e c r rs _ w1 _ e1 _ N9 D9 ir (row_len20 _ _ _ _ _ _ _) P.hr rfl ?_ B F3 X T hk hd1 hu
  rintro q os ep w1x _ h5 t5 e1x io F5 N105 D105
  clear N9 D9 F3
  have N10 : News h₀ L _ (((r : Nat), listOf rs.toArray 0) :: ((q : Nat), listOf os.toArray ep) :: (L + 1, w1x) :: ((e : Nat), listOf us2.toArray 0) :: ((d : Nat), listOf us.toArray 0) :: (L + 6, w6) :: (L + 5, w5) :: (L + 4, w4) :: (L + 3, w3) :: (L + 2, w2) :: (119, tabObj #[]) :: []) := news_front [_] N105
  have D10 : ND (((r : Nat), listOf rs.toArray 0) :: ((q : Nat), listOf os.toArray ep) :: (L + 1, w1x) :: ((e : Nat), listOf us2.toArray 0) :: ((d : Nat), listOf us.toArray 0) :: (L + 6, w6) :: (L + 5, w5) :: (L + 4, w4) :: (L + 3, w3) :: (L + 2, w2) :: (119, tabObj #[]) :: []) := nd_front [_] D105
  clear N105 D105
  have N11 : News h₀ L _ (((q : Nat), listOf os.toArray ep) :: ((r : Nat), listOf rs.toArray 0) :: (L + 1, w1x) :: ((e : Nat), listOf us2.toArray 0) :: ((d : Nat), listOf us.toArray 0) :: (L + 6, w6) :: (L + 5, w5) :: (L + 4, w4) :: (L + 3, w3) :: (L + 2, w2) :: (119, tabObj #[]) :: []) := news_front [_] N10
  have D11 : ND (((q : Nat), listOf os.toArray ep) :: ((r : Nat), listOf rs.toArray 0) :: (L + 1, w1x) :: ((e : Nat), listOf us2.toArray 0) :: ((d : Nat), listOf us.toArray 0) :: (L + 6, w6) :: (L + 5, w5) :: (L + 4, w4) :: (L + 3, w3) :: (L + 2, w2) :: (119, tabObj #[]) :: []) := nd_front [_] D10
  clear N10 D10
  have N12 : News h₀ L _ ((L + 2, w2) :: ((q : Nat), listOf os.toArray ep) :: ((r : Nat), listOf rs.toArray 0) :: (L + 1, w1x) :: ((e : Nat), listOf us2.toArray 0) :: ((d : Nat), listOf us.toArray 0) :: (L + 6, w6) :: (L + 5, w5) :: (L + 4, w4) :: (L + 3, w3) :: (119, tabObj #[]) :: []) := news_front [_, _, _, _, _, _, _, _, _] N11
  have D12 : ND ((L + 2, w2) :: ((q : Nat), listOf os.toArray ep) :: ((r : Nat), listOf rs.toArray 0) :: (L + 1, w1x) :: ((e : Nat), listOf us2.toArray 0) :: ((d : Nat), listOf us.toArray 0) :: (L + 6, w6) :: (L + 5, w5) :: (L + 4, w4) :: (L + 3, w3) :: (119, tabObj #[]) :: []) := nd_front [_, _, _, _, _, _, _, _, _] D11
  clear N11 D11
  refine law_6 _ rfl hcs l d e c r q ep rs os _ _ w2 _ e2 _ N12 D12 ir io (reads_row P.hj0 P.hj1 P.hj2) (row_len20 _ _ _ _ _ _ _) rfl ?_ B F5 X T hk hd1 hu
  rintro x ws w2x h6 t6 e2x iw F6 N106 D106
  clear N12 D12 F5
  have N13 : News h₀ L _ (((d : Nat), listOf us.toArray 0) :: ((x : Nat), listOf ws.toArray ws.length) :: (L + 2, w2x) :: (L + 1, w1x) :: ((e : Nat), listOf us2.toArray 0) :: (L + 6, w6) :: (L + 5, w5) :: (L + 4, w4) :: (L + 3, w3) :: (119, tabObj #[]) :: []) := news_front [_, _, _, _] N106
  have D13 : ND (((d : Nat), listOf us.toArray 0) :: ((x : Nat), listOf ws.toArray ws.length) :: (L + 2, w2x) :: (L + 1, w1x) :: ((e : Nat), listOf us2.toArray 0) :: (L + 6, w6) :: (L + 5, w5) :: (L + 4, w4) :: (L + 3, w3) :: (119, tabObj #[]) :: []) := nd_front [_, _, _, _] D106
  clear N106 D106
  refine law_8 _ rfl hcs l d e c r q us n0 n1 n2 n3 n4 n5 n6 _ N13 D13 iu rfl ?_ B F6 X T hk hd1 hu
  rintro b0 p0 b1 p1 b2 p2 b3 p3 g h8 t8 k0 k1 k2 k3 F8 N108 D108
  clear N13 D13 F6
  have N14 : News h₀ L _ ((L + 3, w3) :: ((g : Nat), listOf [Value.ref b0, .ref b1, .ref b2, .ref b3].toArray 4) :: ((b3 : Nat), p3) :: ((b2 : Nat), p2) :: ((b1 : Nat), p1) :: ((b0 : Nat), p0) :: ((d : Nat), listOf us.toArray 0) :: ((x : Nat), listOf ws.toArray ws.length) :: (L + 2, w2x) :: (L + 1, w1x) :: ((e : Nat), listOf us2.toArray 0) :: (L + 6, w6) :: (L + 5, w5) :: (L + 4, w4) :: (119, tabObj #[]) :: []) := news_front [_, _, _, _, _, _, _, _, _, _, _, _, _] N108
  have D14 : ND ((L + 3, w3) :: ((g : Nat), listOf [Value.ref b0, .ref b1, .ref b2, .ref b3].toArray 4) :: ((b3 : Nat), p3) :: ((b2 : Nat), p2) :: ((b1 : Nat), p1) :: ((b0 : Nat), p0) :: ((d : Nat), listOf us.toArray 0) :: ((x : Nat), listOf ws.toArray ws.length) :: (L + 2, w2x) :: (L + 1, w1x) :: ((e : Nat), listOf us2.toArray 0) :: (L + 6, w6) :: (L + 5, w5) :: (L + 4, w4) :: (119, tabObj #[]) :: []) := nd_front [_, _, _, _, _, _, _, _, _, _, _, _, _] D108
  clear N108 D108
  have N15 : News h₀ L _ (((e : Nat), listOf us2.toArray 0) :: (L + 3, w3) :: ((g : Nat), listOf [Value.ref b0, .ref b1, .ref b2, .ref b3].toArray 4) :: ((b3 : Nat), p3) :: ((b2 : Nat), p2) :: ((b1 : Nat), p1) :: ((b0 : Nat), p0) :: ((d : Nat), listOf us.toArray 0) :: ((x : Nat), listOf ws.toArray ws.length) :: (L + 2, w2x) :: (L + 1, w1x) :: (L + 6, w6) :: (L + 5, w5) :: (L + 4, w4) :: (119, tabObj #[]) :: []) := news_front [_, _, _, _, _, _, _, _, _, _] N14
  have D15 : ND (((e : Nat), listOf us2.toArray 0) :: (L + 3, w3) :: ((g : Nat), listOf [Value.ref b0, .ref b1, .ref b2, .ref b3].toArray 4) :: ((b3 : Nat), p3) :: ((b2 : Nat), p2) :: ((b1 : Nat), p1) :: ((b0 : Nat), p0) :: ((d : Nat), listOf us.toArray 0) :: ((x : Nat), listOf ws.toArray ws.length) :: (L + 2, w2x) :: (L + 1, w1x) :: (L + 6, w6) :: (L + 5, w5) :: (L + 4, w4) :: (119, tabObj #[]) :: []) := nd_front [_, _, _, _, _, _, _, _, _, _] D14
  clear N14 D14
  have N16 : News h₀ L _ (((b0 : Nat), p0) :: ((e : Nat), listOf us2.toArray 0) :: (L + 3, w3) :: ((g : Nat), listOf [Value.ref b0, .ref b1, .ref b2, .ref b3].toArray 4) :: ((b3 : Nat), p3) :: ((b2 : Nat), p2) :: ((b1 : Nat), p1) :: ((d : Nat), listOf us.toArray 0) :: ((x : Nat), listOf ws.toArray ws.length) :: (L + 2, w2x) :: (L + 1, w1x) :: (L + 6, w6) :: (L + 5, w5) :: (L + 4, w4) :: (119, tabObj #[]) :: []) := news_front [_, _, _, _, _, _] N15
  have D16 : ND (((b0 : Nat), p0) :: ((e : Nat), listOf us2.toArray 0) :: (L + 3, w3) :: ((g : Nat), listOf [Value.ref b0, .ref b1, .ref b2, .ref b3].toArray 4) :: ((b3 : Nat), p3) :: ((b2 : Nat), p2) :: ((b1 : Nat), p1) :: ((d : Nat), listOf us.toArray 0) :: ((x : Nat), listOf ws.toArray ws.length) :: (L + 2, w2x) :: (L + 1, w1x) :: (L + 6, w6) :: (L + 5, w5) :: (L + 4, w4) :: (119, tabObj #[]) :: []) := nd_front [_, _, _, _, _, _] D15
  clear N15 D15
  have N17 : News h₀ L _ (((b1 : Nat), p1) :: ((b0 : Nat), p0) :: ((e : Nat), listOf us2.toArray 0) :: (L + 3, w3) :: ((g : Nat), listOf [Value.ref b0, .ref b1, .ref b2, .ref b3].toArray 4) :: ((b3 : Nat), p3) :: ((b2 : Nat), p2) :: ((d : Nat), listOf us.toArray 0) :: ((x : Nat), listOf ws.toArray ws.length) :: (L + 2, w2x) :: (L + 1, w1x) :: (L + 6, w6) :: (L + 5, w5) :: (L + 4, w4) :: (119, tabObj #[]) :: []) := news_front [_, _, _, _, _, _] N16
  have D17 : ND (((b1 : Nat), p1) :: ((b0 : Nat), p0) :: ((e : Nat), listOf us2.toArray 0) :: (L + 3, w3) :: ((g : Nat), listOf [Value.ref b0, .ref b1, .ref b2, .ref b3].toArray 4) :: ((b3 : Nat), p3) :: ((b2 : Nat), p2) :: ((d : Nat), listOf us.toArray 0) :: ((x : Nat), listOf ws.toArray ws.length) :: (L + 2, w2x) :: (L + 1, w1x) :: (L + 6, w6) :: (L + 5, w5) :: (L + 4, w4) :: (119, tabObj #[]) :: []) := nd_front [_, _, _, _, _, _] D16
  clear N16 D16
  have N18 : News h₀ L _ (((b2 : Nat), p2) :: ((b1 : Nat), p1) :: ((b0 : Nat), p0) :: ((e : Nat), listOf us2.toArray 0) :: (L + 3, w3) :: ((g : Nat), listOf [Value.ref b0, .ref b1, .ref b2, .ref b3].toArray 4) :: ((b3 : Nat), p3) :: ((d : Nat), listOf us.toArray 0) :: ((x : Nat), listOf ws.toArray ws.length) :: (L + 2, w2x) :: (L + 1, w1x) :: (L + 6, w6) :: (L + 5, w5) :: (L + 4, w4) :: (119, tabObj #[]) :: []) := news_front [_, _, _, _, _, _] N17
  have D18 : ND (((b2 : Nat), p2) :: ((b1 : Nat), p1) :: ((b0 : Nat), p0) :: ((e : Nat), listOf us2.toArray 0) :: (L + 3, w3) :: ((g : Nat), listOf [Value.ref b0, .ref b1, .ref b2, .ref b3].toArray 4) :: ((b3 : Nat), p3) :: ((d : Nat), listOf us.toArray 0) :: ((x : Nat), listOf ws.toArray ws.length) :: (L + 2, w2x) :: (L + 1, w1x) :: (L + 6, w6) :: (L + 5, w5) :: (L + 4, w4) :: (119, tabObj #[]) :: []) := nd_front [_, _, _, _, _, _] D17
  clear N17 D17
  have N19 : News h₀ L _ (((b3 : Nat), p3) :: ((b2 : Nat), p2) :: ((b1 : Nat), p1) :: ((b0 : Nat), p0) :: ((e : Nat), listOf us2.toArray 0) :: (L + 3, w3) :: ((g : Nat), listOf [Value.ref b0, .ref b1, .ref b2, .ref b3].toArray 4) :: ((d : Nat), listOf us.toArray 0) :: ((x : Nat), listOf ws.toArray ws.length) :: (L + 2, w2x) :: (L + 1, w1x) :: (L + 6, w6) :: (L + 5, w5) :: (L + 4, w4) :: (119, tabObj #[]) :: []) := news_front [_, _, _, _, _, _] N18
  have D19 : ND (((b3 : Nat), p3) :: ((b2 : Nat), p2) :: ((b1 : Nat), p1) :: ((b0 : Nat), p0) :: ((e : Nat), listOf us2.toArray 0) :: (L + 3, w3) :: ((g : Nat), listOf [Value.ref b0, .ref b1, .ref b2, .ref b3].toArray 4) :: ((d : Nat), listOf us.toArray 0) :: ((x : Nat), listOf ws.toArray ws.length) :: (L + 2, w2x) :: (L + 1, w1x) :: (L + 6, w6) :: (L + 5, w5) :: (L + 4, w4) :: (119, tabObj #[]) :: []) := nd_front [_, _, _, _, _, _] D18
  clear N18 D18
  have N20 : News h₀ L _ (((g : Nat), listOf [Value.ref b0, .ref b1, .ref b2, .ref b3].toArray 4) :: ((b3 : Nat), p3) :: ((b2 : Nat), p2) :: ((b1 : Nat), p1) :: ((b0 : Nat), p0) :: ((e : Nat), listOf us2.toArray 0) :: (L + 3, w3) :: ((d : Nat), listOf us.toArray 0) :: ((x : Nat), listOf ws.toArray ws.length) :: (L + 2, w2x) :: (L + 1, w1x) :: (L + 6, w6) :: (L + 5, w5) :: (L + 4, w4) :: (119, tabObj #[]) :: []) := news_front [_, _, _, _, _, _] N19
  have D20 : ND (((g : Nat), listOf [Value.ref b0, .ref b1, .ref b2, .ref b3].toArray 4) :: ((b3 : Nat), p3) :: ((b2 : Nat), p2) :: ((b1 : Nat), p1) :: ((b0 : Nat), p0) :: ((e : Nat), listOf us2.toArray 0) :: (L + 3, w3) :: ((d : Nat), listOf us.toArray 0) :: ((x : Nat), listOf ws.toArray ws.length) :: (L + 2, w2x) :: (L + 1, w1x) :: (L + 6, w6) :: (L + 5, w5) :: (L + 4, w4) :: (119, tabObj #[]) :: []) := nd_front [_, _, _, _, _, _] D19
  clear N19 D19
  have jl : ∀ {j : Int}, (j = 0 ∨ j = 1 ∨ j = 2) → 0 ≤ j ∧ j ≤ 2 := fun h => by omega
  refine law_9 _ rfl hcs l d e c r q g b0 b1 b2 b3 p0 p1 p2 p3 us2 n0 n1 n2 n3 j0 j1 j2 w3 _ e3 _ N20 D20 ij k0 k1 k2 k3 (jl P.hj0) (jl P.hj1) (jl P.hj2) (fun v => Nat.le_trans (part_len v) (by decide)) (fun v k => bits_of_bm (part_bm v) (by decide) k) P.hl1 P.hl2 P.hb1 rfl ?_ B F8 X T hk hd1 hu
  rintro z o w3x h9 t9 e3x hw lo F9 N109 D109
  clear N20 D20 F8
  have N21 : News h₀ L _ ((L + 3, w3x) :: ((z : Nat), o) :: ((d : Nat), listOf us.toArray 0) :: ((x : Nat), listOf ws.toArray ws.length) :: (L + 2, w2x) :: (L + 1, w1x) :: (L + 6, w6) :: (L + 5, w5) :: (L + 4, w4) :: (119, tabObj #[]) :: []) := news_front [_] N109
  have D21 : ND ((L + 3, w3x) :: ((z : Nat), o) :: ((d : Nat), listOf us.toArray 0) :: ((x : Nat), listOf ws.toArray ws.length) :: (L + 2, w2x) :: (L + 1, w1x) :: (L + 6, w6) :: (L + 5, w5) :: (L + 4, w4) :: (119, tabObj #[]) :: []) := nd_front [_] D109
  clear N109 D109
  refine law_10 _ rfl hcs l d e c r q g z o w3x (wlF n0 n1 n2 n3 j0 j1 j2) e3x _ N21 D21 hw lo P.hlen rfl ?_ B F9 X T hk hd1 hu
  rintro dg ds h10 t10 idg F10 N110 D110
  clear N21 D21 F9
  have N22 : News h₀ L _ (((x : Nat), listOf ws.toArray ws.length) :: ((dg : Nat), listOf ds.toArray ds.length) :: (L + 3, w3x) :: ((z : Nat), o) :: ((d : Nat), listOf us.toArray 0) :: (L + 2, w2x) :: (L + 1, w1x) :: (L + 6, w6) :: (L + 5, w5) :: (L + 4, w4) :: (119, tabObj #[]) :: []) := news_front [_, _, _, _] N110
  have D22 : ND (((x : Nat), listOf ws.toArray ws.length) :: ((dg : Nat), listOf ds.toArray ds.length) :: (L + 3, w3x) :: ((z : Nat), o) :: ((d : Nat), listOf us.toArray 0) :: (L + 2, w2x) :: (L + 1, w1x) :: (L + 6, w6) :: (L + 5, w5) :: (L + 4, w4) :: (119, tabObj #[]) :: []) := nd_front [_, _, _, _] D110
  clear N110 D110
  have N23 : News h₀ L _ ((L + 2, w2x) :: ((x : Nat), listOf ws.toArray ws.length) :: ((dg : Nat), listOf ds.toArray ds.length) :: (L + 3, w3x) :: ((z : Nat), o) :: ((d : Nat), listOf us.toArray 0) :: (L + 1, w1x) :: (L + 6, w6) :: (L + 5, w5) :: (L + 4, w4) :: (119, tabObj #[]) :: []) := news_front [_, _, _, _, _] N22
  have D23 : ND ((L + 2, w2x) :: ((x : Nat), listOf ws.toArray ws.length) :: ((dg : Nat), listOf ds.toArray ds.length) :: (L + 3, w3x) :: ((z : Nat), o) :: ((d : Nat), listOf us.toArray 0) :: (L + 1, w1x) :: (L + 6, w6) :: (L + 5, w5) :: (L + 4, w4) :: (119, tabObj #[]) :: []) := nd_front [_, _, _, _, _] D22
  clear N22 D22
  have N24 : News h₀ L _ ((119, tabObj #[]) :: (L + 2, w2x) :: ((x : Nat), listOf ws.toArray ws.length) :: ((dg : Nat), listOf ds.toArray ds.length) :: (L + 3, w3x) :: ((z : Nat), o) :: ((d : Nat), listOf us.toArray 0) :: (L + 1, w1x) :: (L + 6, w6) :: (L + 5, w5) :: (L + 4, w4) :: []) := news_front [_, _, _, _, _, _, _, _, _, _] N23
  have D24 : ND ((119, tabObj #[]) :: (L + 2, w2x) :: ((x : Nat), listOf ws.toArray ws.length) :: ((dg : Nat), listOf ds.toArray ds.length) :: (L + 3, w3x) :: ((z : Nat), o) :: ((d : Nat), listOf us.toArray 0) :: (L + 1, w1x) :: (L + 6, w6) :: (L + 5, w5) :: (L + 4, w4) :: []) := nd_front [_, _, _, _, _, _, _, _, _, _] D23
  clear N23 D23
  refine law_11 _ rfl hcs l d e c r q g dg x _ w2x ws _ (saysV n0 n1 n2 n3 j0 j1 j2) e2x _ N24 D24 hC iw (row_len20 _ _ _ _ _ _ _) last (fun i j _ _ => run_row P.hj0 P.hj1 P.hj2 i j) P.hok rfl ?_ B F10 X T hk hd1 hu
  rintro v0 us0 v1 us1 v2 us2' v3 us3 v4 us4 y tl h11 t11 hT l0 l1 l2 l3 l4 u0 u1 u2 u3 u4 ht1 F11 N111 ap D111
  clear N24 D24 F10
  have ap' : Apart tl [(L + 2, w2x), ((x : Nat), listOf ws.toArray ws.length), (L + 5, w5), (L + 6, w6)] := fun p hp q hq => ap p hp q (by simp only [List.mem_cons, List.not_mem_nil, or_false] at hq ⊢; rcases hq with h | h | h | h <;> simp [h])
  have Dt := tab_nd hT N111
  have N112 : News h₀ L h11 (((y : Nat), listOf [Value.ref v0, .ref v1, .ref v2, .ref v3, .ref v4].toArray 5) :: ((v4 : Nat), listOf us4.toArray us4.length) :: ((v3 : Nat), listOf us3.toArray us3.length) :: ((v2 : Nat), listOf us2'.toArray us2'.length) :: ((v1 : Nat), listOf us1.toArray us1.length) :: ((v0 : Nat), listOf us0.toArray us0.length) :: (L + 2, w2x) :: ((x : Nat), listOf ws.toArray ws.length) :: ((dg : Nat), listOf ds.toArray ds.length) :: (L + 3, w3x) :: ((z : Nat), o) :: ((d : Nat), listOf us.toArray 0) :: (L + 1, w1x) :: (L + 6, w6) :: (L + 5, w5) :: (L + 4, w4) :: tl) := news_flip (W := [((y : Nat), listOf [Value.ref v0, .ref v1, .ref v2, .ref v3, .ref v4].toArray 5), ((v4 : Nat), listOf us4.toArray us4.length), ((v3 : Nat), listOf us3.toArray us3.length), ((v2 : Nat), listOf us2'.toArray us2'.length), ((v1 : Nat), listOf us1.toArray us1.length), ((v0 : Nat), listOf us0.toArray us0.length), (L + 2, w2x), ((x : Nat), listOf ws.toArray ws.length), ((dg : Nat), listOf ds.toArray ds.length), (L + 3, w3x), ((z : Nat), o), ((d : Nat), listOf us.toArray 0), (L + 1, w1x), (L + 6, w6), (L + 5, w5), (L + 4, w4)]) N111
  have D112 : ND (((y : Nat), listOf [Value.ref v0, .ref v1, .ref v2, .ref v3, .ref v4].toArray 5) :: ((v4 : Nat), listOf us4.toArray us4.length) :: ((v3 : Nat), listOf us3.toArray us3.length) :: ((v2 : Nat), listOf us2'.toArray us2'.length) :: ((v1 : Nat), listOf us1.toArray us1.length) :: ((v0 : Nat), listOf us0.toArray us0.length) :: (L + 2, w2x) :: ((x : Nat), listOf ws.toArray ws.length) :: ((dg : Nat), listOf ds.toArray ds.length) :: (L + 3, w3x) :: ((z : Nat), o) :: ((d : Nat), listOf us.toArray 0) :: (L + 1, w1x) :: (L + 6, w6) :: (L + 5, w5) :: (L + 4, w4) :: tl) := nd_flip (W := [((y : Nat), listOf [Value.ref v0, .ref v1, .ref v2, .ref v3, .ref v4].toArray 5), ((v4 : Nat), listOf us4.toArray us4.length), ((v3 : Nat), listOf us3.toArray us3.length), ((v2 : Nat), listOf us2'.toArray us2'.length), ((v1 : Nat), listOf us1.toArray us1.length), ((v0 : Nat), listOf us0.toArray us0.length), (L + 2, w2x), ((x : Nat), listOf ws.toArray ws.length), ((dg : Nat), listOf ds.toArray ds.length), (L + 3, w3x), ((z : Nat), o), ((d : Nat), listOf us.toArray 0), (L + 1, w1x), (L + 6, w6), (L + 5, w5), (L + 4, w4)]) D111 Dt ap
  clear N111 D111 ap
  have hLs : Lines [Value.ref v0, .ref v1, .ref v2, .ref v3, .ref v4] (linesF (saysV n0 n1 n2 n3 j0 j1 j2)) [((v4 : Nat), listOf us4.toArray us4.length), ((v3 : Nat), listOf us3.toArray us3.length), ((v2 : Nat), listOf us2'.toArray us2'.length), ((v1 : Nat), listOf us1.toArray us1.length), ((v0 : Nat), listOf us0.toArray us0.length)] t11 := lines_five (us := [us0, us1, us2', us3, us4]) rfl (by simp) l0 l1 l2 l3 l4 u0 u1 u2 u3 u4
  refine law_12 _ rfl hcs l d e c r q g dg y _ _ (linesF (saysV n0 n1 n2 n3 j0 j1 j2)) _ N112 (hLs.up (by intro p hp; simp only [List.mem_cons, List.not_mem_nil, or_false] at hp ⊢; rcases hp with h | h | h | h | h <;> simp [h]) (Nat.le_refl _)) (by decide : 5 ≤ 64) ht1 rfl ?_ B F11 X T hk hd1 hu
  rintro tz h12 t12 le12 F12 N113
  clear N112 F11
  have N25 : News h₀ L _ (((dg : Nat), listOf ds.toArray ds.length) :: ((y : Nat), listOf [Value.ref v0, .ref v1, .ref v2, .ref v3, .ref v4].toArray 5) :: ((v4 : Nat), listOf us4.toArray us4.length) :: ((v3 : Nat), listOf us3.toArray us3.length) :: ((v2 : Nat), listOf us2'.toArray us2'.length) :: ((v1 : Nat), listOf us1.toArray us1.length) :: ((v0 : Nat), listOf us0.toArray us0.length) :: (L + 2, w2x) :: ((x : Nat), listOf ws.toArray ws.length) :: (L + 3, w3x) :: ((z : Nat), o) :: ((d : Nat), listOf us.toArray 0) :: (L + 1, w1x) :: (L + 6, w6) :: (L + 5, w5) :: (L + 4, w4) :: tl) := news_front [_, _, _, _, _, _, _, _] N113
  have D25 : ND (((dg : Nat), listOf ds.toArray ds.length) :: ((y : Nat), listOf [Value.ref v0, .ref v1, .ref v2, .ref v3, .ref v4].toArray 5) :: ((v4 : Nat), listOf us4.toArray us4.length) :: ((v3 : Nat), listOf us3.toArray us3.length) :: ((v2 : Nat), listOf us2'.toArray us2'.length) :: ((v1 : Nat), listOf us1.toArray us1.length) :: ((v0 : Nat), listOf us0.toArray us0.length) :: (L + 2, w2x) :: ((x : Nat), listOf ws.toArray ws.length) :: (L + 3, w3x) :: ((z : Nat), o) :: ((d : Nat), listOf us.toArray 0) :: (L + 1, w1x) :: (L + 6, w6) :: (L + 5, w5) :: (L + 4, w4) :: tl) := nd_front [_, _, _, _, _, _, _, _] D112
  clear N113 D112
  refine law_13 _ rfl hcs l d e c r q g dg y _ ds _ (nzF (saysV n0 n1 n2 n3 j0 j1 j2)) tz _ N25 idg P.hdl P.hz0 P.hz2 P.hz1 rfl ?_ B F12 X T hk hd1 hu
  rintro h13 t13 le13 F13 N114
  clear N25 F12
  have N26 : News h₀ L _ (((d : Nat), listOf us.toArray 0) :: ((dg : Nat), listOf ds.toArray ds.length) :: ((y : Nat), listOf [Value.ref v0, .ref v1, .ref v2, .ref v3, .ref v4].toArray 5) :: ((v4 : Nat), listOf us4.toArray us4.length) :: ((v3 : Nat), listOf us3.toArray us3.length) :: ((v2 : Nat), listOf us2'.toArray us2'.length) :: ((v1 : Nat), listOf us1.toArray us1.length) :: ((v0 : Nat), listOf us0.toArray us0.length) :: (L + 2, w2x) :: ((x : Nat), listOf ws.toArray ws.length) :: (L + 3, w3x) :: ((z : Nat), o) :: (L + 1, w1x) :: (L + 6, w6) :: (L + 5, w5) :: (L + 4, w4) :: tl) := news_front [_, _, _, _, _, _, _, _, _, _, _] N114
  have D26 : ND (((d : Nat), listOf us.toArray 0) :: ((dg : Nat), listOf ds.toArray ds.length) :: ((y : Nat), listOf [Value.ref v0, .ref v1, .ref v2, .ref v3, .ref v4].toArray 5) :: ((v4 : Nat), listOf us4.toArray us4.length) :: ((v3 : Nat), listOf us3.toArray us3.length) :: ((v2 : Nat), listOf us2'.toArray us2'.length) :: ((v1 : Nat), listOf us1.toArray us1.length) :: ((v0 : Nat), listOf us0.toArray us0.length) :: (L + 2, w2x) :: ((x : Nat), listOf ws.toArray ws.length) :: (L + 3, w3x) :: ((z : Nat), o) :: (L + 1, w1x) :: (L + 6, w6) :: (L + 5, w5) :: (L + 4, w4) :: tl) := nd_front [_, _, _, _, _, _, _, _, _, _, _] D25
  clear N114 D25
  have N27 : News h₀ L _ ((L + 6, w6) :: ((d : Nat), listOf us.toArray 0) :: ((dg : Nat), listOf ds.toArray ds.length) :: ((y : Nat), listOf [Value.ref v0, .ref v1, .ref v2, .ref v3, .ref v4].toArray 5) :: ((v4 : Nat), listOf us4.toArray us4.length) :: ((v3 : Nat), listOf us3.toArray us3.length) :: ((v2 : Nat), listOf us2'.toArray us2'.length) :: ((v1 : Nat), listOf us1.toArray us1.length) :: ((v0 : Nat), listOf us0.toArray us0.length) :: (L + 2, w2x) :: ((x : Nat), listOf ws.toArray ws.length) :: (L + 3, w3x) :: ((z : Nat), o) :: (L + 1, w1x) :: (L + 5, w5) :: (L + 4, w4) :: tl) := news_front [_, _, _, _, _, _, _, _, _, _, _, _, _] N26
  have D27 : ND ((L + 6, w6) :: ((d : Nat), listOf us.toArray 0) :: ((dg : Nat), listOf ds.toArray ds.length) :: ((y : Nat), listOf [Value.ref v0, .ref v1, .ref v2, .ref v3, .ref v4].toArray 5) :: ((v4 : Nat), listOf us4.toArray us4.length) :: ((v3 : Nat), listOf us3.toArray us3.length) :: ((v2 : Nat), listOf us2'.toArray us2'.length) :: ((v1 : Nat), listOf us1.toArray us1.length) :: ((v0 : Nat), listOf us0.toArray us0.length) :: (L + 2, w2x) :: ((x : Nat), listOf ws.toArray ws.length) :: (L + 3, w3x) :: ((z : Nat), o) :: (L + 1, w1x) :: (L + 5, w5) :: (L + 4, w4) :: tl) := nd_front [_, _, _, _, _, _, _, _, _, _, _, _, _] D26
  clear N26 D26
  have N28 : News h₀ L _ ((L + 5, w5) :: (L + 6, w6) :: ((d : Nat), listOf us.toArray 0) :: ((dg : Nat), listOf ds.toArray ds.length) :: ((y : Nat), listOf [Value.ref v0, .ref v1, .ref v2, .ref v3, .ref v4].toArray 5) :: ((v4 : Nat), listOf us4.toArray us4.length) :: ((v3 : Nat), listOf us3.toArray us3.length) :: ((v2 : Nat), listOf us2'.toArray us2'.length) :: ((v1 : Nat), listOf us1.toArray us1.length) :: ((v0 : Nat), listOf us0.toArray us0.length) :: (L + 2, w2x) :: ((x : Nat), listOf ws.toArray ws.length) :: (L + 3, w3x) :: ((z : Nat), o) :: (L + 1, w1x) :: (L + 4, w4) :: tl) := news_front [_, _, _, _, _, _, _, _, _, _, _, _, _, _] N27
  have D28 : ND ((L + 5, w5) :: (L + 6, w6) :: ((d : Nat), listOf us.toArray 0) :: ((dg : Nat), listOf ds.toArray ds.length) :: ((y : Nat), listOf [Value.ref v0, .ref v1, .ref v2, .ref v3, .ref v4].toArray 5) :: ((v4 : Nat), listOf us4.toArray us4.length) :: ((v3 : Nat), listOf us3.toArray us3.length) :: ((v2 : Nat), listOf us2'.toArray us2'.length) :: ((v1 : Nat), listOf us1.toArray us1.length) :: ((v0 : Nat), listOf us0.toArray us0.length) :: (L + 2, w2x) :: ((x : Nat), listOf ws.toArray ws.length) :: (L + 3, w3x) :: ((z : Nat), o) :: (L + 1, w1x) :: (L + 4, w4) :: tl) := nd_front [_, _, _, _, _, _, _, _, _, _, _, _, _, _] D27
  clear N27 D27
  refine law_14 _ rfl hcs l d e c r q g dg y _ tz us n0 n1 n2 n3 n4 n5 n6 w5 w6 _ _ e5 e6 _ N28 D28 iu rfl ?_ B F13 X T hk hd1 hu
  rintro w5x w6x tx ty h14 t14 le14 e5x e6x F14 N115 D115
  clear N28 D28 F13
  have N29 : News h₀ L _ ((L + 6, w6x) :: (L + 5, w5x) :: ((d : Nat), listOf us.toArray 0) :: ((dg : Nat), listOf ds.toArray ds.length) :: ((y : Nat), listOf [Value.ref v0, .ref v1, .ref v2, .ref v3, .ref v4].toArray 5) :: ((v4 : Nat), listOf us4.toArray us4.length) :: ((v3 : Nat), listOf us3.toArray us3.length) :: ((v2 : Nat), listOf us2'.toArray us2'.length) :: ((v1 : Nat), listOf us1.toArray us1.length) :: ((v0 : Nat), listOf us0.toArray us0.length) :: (L + 2, w2x) :: ((x : Nat), listOf ws.toArray ws.length) :: (L + 3, w3x) :: ((z : Nat), o) :: (L + 1, w1x) :: (L + 4, w4) :: tl) := news_front [_] N115
  have D29 : ND ((L + 6, w6x) :: (L + 5, w5x) :: ((d : Nat), listOf us.toArray 0) :: ((dg : Nat), listOf ds.toArray ds.length) :: ((y : Nat), listOf [Value.ref v0, .ref v1, .ref v2, .ref v3, .ref v4].toArray 5) :: ((v4 : Nat), listOf us4.toArray us4.length) :: ((v3 : Nat), listOf us3.toArray us3.length) :: ((v2 : Nat), listOf us2'.toArray us2'.length) :: ((v1 : Nat), listOf us1.toArray us1.length) :: ((v0 : Nat), listOf us0.toArray us0.length) :: (L + 2, w2x) :: ((x : Nat), listOf ws.toArray ws.length) :: (L + 3, w3x) :: ((z : Nat), o) :: (L + 1, w1x) :: (L + 4, w4) :: tl) := nd_front [_] D115
  clear N115 D115
  have N30 : News h₀ L _ ((L + 5, w5x) :: (L + 6, w6x) :: ((d : Nat), listOf us.toArray 0) :: ((dg : Nat), listOf ds.toArray ds.length) :: ((y : Nat), listOf [Value.ref v0, .ref v1, .ref v2, .ref v3, .ref v4].toArray 5) :: ((v4 : Nat), listOf us4.toArray us4.length) :: ((v3 : Nat), listOf us3.toArray us3.length) :: ((v2 : Nat), listOf us2'.toArray us2'.length) :: ((v1 : Nat), listOf us1.toArray us1.length) :: ((v0 : Nat), listOf us0.toArray us0.length) :: (L + 2, w2x) :: ((x : Nat), listOf ws.toArray ws.length) :: (L + 3, w3x) :: ((z : Nat), o) :: (L + 1, w1x) :: (L + 4, w4) :: tl) := news_front [_] N29
  have D30 : ND ((L + 5, w5x) :: (L + 6, w6x) :: ((d : Nat), listOf us.toArray 0) :: ((dg : Nat), listOf ds.toArray ds.length) :: ((y : Nat), listOf [Value.ref v0, .ref v1, .ref v2, .ref v3, .ref v4].toArray 5) :: ((v4 : Nat), listOf us4.toArray us4.length) :: ((v3 : Nat), listOf us3.toArray us3.length) :: ((v2 : Nat), listOf us2'.toArray us2'.length) :: ((v1 : Nat), listOf us1.toArray us1.length) :: ((v0 : Nat), listOf us0.toArray us0.length) :: (L + 2, w2x) :: ((x : Nat), listOf ws.toArray ws.length) :: (L + 3, w3x) :: ((z : Nat), o) :: (L + 1, w1x) :: (L + 4, w4) :: tl) := nd_front [_] D29
  clear N29 D29
  have N31 : News h₀ L _ ((L + 4, w4) :: (L + 5, w5x) :: (L + 6, w6x) :: ((d : Nat), listOf us.toArray 0) :: ((dg : Nat), listOf ds.toArray ds.length) :: ((y : Nat), listOf [Value.ref v0, .ref v1, .ref v2, .ref v3, .ref v4].toArray 5) :: ((v4 : Nat), listOf us4.toArray us4.length) :: ((v3 : Nat), listOf us3.toArray us3.length) :: ((v2 : Nat), listOf us2'.toArray us2'.length) :: ((v1 : Nat), listOf us1.toArray us1.length) :: ((v0 : Nat), listOf us0.toArray us0.length) :: (L + 2, w2x) :: ((x : Nat), listOf ws.toArray ws.length) :: (L + 3, w3x) :: ((z : Nat), o) :: (L + 1, w1x) :: tl) := news_front [_, _, _, _, _, _, _, _, _, _, _, _, _, _, _] N30
  have D31 : ND ((L + 4, w4) :: (L + 5, w5x) :: (L + 6, w6x) :: ((d : Nat), listOf us.toArray 0) :: ((dg : Nat), listOf ds.toArray ds.length) :: ((y : Nat), listOf [Value.ref v0, .ref v1, .ref v2, .ref v3, .ref v4].toArray 5) :: ((v4 : Nat), listOf us4.toArray us4.length) :: ((v3 : Nat), listOf us3.toArray us3.length) :: ((v2 : Nat), listOf us2'.toArray us2'.length) :: ((v1 : Nat), listOf us1.toArray us1.length) :: ((v0 : Nat), listOf us0.toArray us0.length) :: (L + 2, w2x) :: ((x : Nat), listOf ws.toArray ws.length) :: (L + 3, w3x) :: ((z : Nat), o) :: (L + 1, w1x) :: tl) := nd_front [_, _, _, _, _, _, _, _, _, _, _, _, _, _, _] D30
  clear N30 D30
  have N32 : News h₀ L _ (((y : Nat), listOf [Value.ref v0, .ref v1, .ref v2, .ref v3, .ref v4].toArray 5) :: (L + 4, w4) :: (L + 5, w5x) :: (L + 6, w6x) :: ((d : Nat), listOf us.toArray 0) :: ((dg : Nat), listOf ds.toArray ds.length) :: ((v4 : Nat), listOf us4.toArray us4.length) :: ((v3 : Nat), listOf us3.toArray us3.length) :: ((v2 : Nat), listOf us2'.toArray us2'.length) :: ((v1 : Nat), listOf us1.toArray us1.length) :: ((v0 : Nat), listOf us0.toArray us0.length) :: (L + 2, w2x) :: ((x : Nat), listOf ws.toArray ws.length) :: (L + 3, w3x) :: ((z : Nat), o) :: (L + 1, w1x) :: tl) := news_front [_, _, _, _, _] N31
  have D32 : ND (((y : Nat), listOf [Value.ref v0, .ref v1, .ref v2, .ref v3, .ref v4].toArray 5) :: (L + 4, w4) :: (L + 5, w5x) :: (L + 6, w6x) :: ((d : Nat), listOf us.toArray 0) :: ((dg : Nat), listOf ds.toArray ds.length) :: ((v4 : Nat), listOf us4.toArray us4.length) :: ((v3 : Nat), listOf us3.toArray us3.length) :: ((v2 : Nat), listOf us2'.toArray us2'.length) :: ((v1 : Nat), listOf us1.toArray us1.length) :: ((v0 : Nat), listOf us0.toArray us0.length) :: (L + 2, w2x) :: ((x : Nat), listOf ws.toArray ws.length) :: (L + 3, w3x) :: ((z : Nat), o) :: (L + 1, w1x) :: tl) := nd_front [_, _, _, _, _] D31
  clear N31 D31
  have hLi : Lin [Value.ref v0, .ref v1, .ref v2, .ref v3, .ref v4] (linesF (saysV n0 n1 n2 n3 j0 j1 j2)) ((L + 4, w4) :: (L + 5, w5x) :: (L + 6, w6x) :: ((d : Nat), listOf us.toArray 0) :: ((dg : Nat), listOf ds.toArray ds.length) :: ((v4 : Nat), listOf us4.toArray us4.length) :: ((v3 : Nat), listOf us3.toArray us3.length) :: ((v2 : Nat), listOf us2'.toArray us2'.length) :: ((v1 : Nat), listOf us1.toArray us1.length) :: ((v0 : Nat), listOf us0.toArray us0.length) :: (L + 2, w2x) :: ((x : Nat), listOf ws.toArray ws.length) :: (L + 3, w3x) :: ((z : Nat), o) :: (L + 1, w1x) :: tl) := lin_sub hLs (by intro p hp; simp only [List.mem_cons, List.not_mem_nil, or_false] at hp ⊢; rcases hp with h | h | h | h | h <;> simp [h])
  clear hLs
  refine law_15 _ rfl hcs l d e c r q g dg y _ _ tz _ (linesF (saysV n0 n1 n2 n3 j0 j1 j2)) _ N32 D32 hLi (by decide : 5 ≤ 64) (lines_len _) rfl ?_ B F14 X T hk hd1 hu
  rintro zs items2 mk h15 t15 hL2 F15 N116 D116
  clear N32 D32 F14
  have N33 : News h₀ L _ (((y : Nat), listOf [Value.ref v0, .ref v1, .ref v2, .ref v3, .ref v4].toArray 5) :: ((zs : Nat), listOf items2.toArray items2.length) :: (mk ++ (L + 4, w4) :: (L + 5, w5x) :: (L + 6, w6x) :: ((d : Nat), listOf us.toArray 0) :: ((dg : Nat), listOf ds.toArray ds.length) :: ((v4 : Nat), listOf us4.toArray us4.length) :: ((v3 : Nat), listOf us3.toArray us3.length) :: ((v2 : Nat), listOf us2'.toArray us2'.length) :: ((v1 : Nat), listOf us1.toArray us1.length) :: ((v0 : Nat), listOf us0.toArray us0.length) :: (L + 2, w2x) :: ((x : Nat), listOf ws.toArray ws.length) :: (L + 3, w3x) :: ((z : Nat), o) :: (L + 1, w1x) :: tl)) := news_front (_ :: mk) N116
  have D33 : ND (((y : Nat), listOf [Value.ref v0, .ref v1, .ref v2, .ref v3, .ref v4].toArray 5) :: ((zs : Nat), listOf items2.toArray items2.length) :: (mk ++ (L + 4, w4) :: (L + 5, w5x) :: (L + 6, w6x) :: ((d : Nat), listOf us.toArray 0) :: ((dg : Nat), listOf ds.toArray ds.length) :: ((v4 : Nat), listOf us4.toArray us4.length) :: ((v3 : Nat), listOf us3.toArray us3.length) :: ((v2 : Nat), listOf us2'.toArray us2'.length) :: ((v1 : Nat), listOf us1.toArray us1.length) :: ((v0 : Nat), listOf us0.toArray us0.length) :: (L + 2, w2x) :: ((x : Nat), listOf ws.toArray ws.length) :: (L + 3, w3x) :: ((z : Nat), o) :: (L + 1, w1x) :: tl)) := nd_front (_ :: mk) D116
  clear N116 D116
  have N34 : News h₀ L _ ((L + 4, w4) :: ((y : Nat), listOf [Value.ref v0, .ref v1, .ref v2, .ref v3, .ref v4].toArray 5) :: ((zs : Nat), listOf items2.toArray items2.length) :: (mk ++ (L + 5, w5x) :: (L + 6, w6x) :: ((d : Nat), listOf us.toArray 0) :: ((dg : Nat), listOf ds.toArray ds.length) :: ((v4 : Nat), listOf us4.toArray us4.length) :: ((v3 : Nat), listOf us3.toArray us3.length) :: ((v2 : Nat), listOf us2'.toArray us2'.length) :: ((v1 : Nat), listOf us1.toArray us1.length) :: ((v0 : Nat), listOf us0.toArray us0.length) :: (L + 2, w2x) :: ((x : Nat), listOf ws.toArray ws.length) :: (L + 3, w3x) :: ((z : Nat), o) :: (L + 1, w1x) :: tl)) := news_front (_ :: _ :: mk) N33
  have D34 : ND ((L + 4, w4) :: ((y : Nat), listOf [Value.ref v0, .ref v1, .ref v2, .ref v3, .ref v4].toArray 5) :: ((zs : Nat), listOf items2.toArray items2.length) :: (mk ++ (L + 5, w5x) :: (L + 6, w6x) :: ((d : Nat), listOf us.toArray 0) :: ((dg : Nat), listOf ds.toArray ds.length) :: ((v4 : Nat), listOf us4.toArray us4.length) :: ((v3 : Nat), listOf us3.toArray us3.length) :: ((v2 : Nat), listOf us2'.toArray us2'.length) :: ((v1 : Nat), listOf us1.toArray us1.length) :: ((v0 : Nat), listOf us0.toArray us0.length) :: (L + 2, w2x) :: ((x : Nat), listOf ws.toArray ws.length) :: (L + 3, w3x) :: ((z : Nat), o) :: (L + 1, w1x) :: tl)) := nd_front (_ :: _ :: mk) D33
  clear N33 D33
  have N35 : News h₀ L _ ((L + 5, w5x) :: (L + 4, w4) :: ((y : Nat), listOf [Value.ref v0, .ref v1, .ref v2, .ref v3, .ref v4].toArray 5) :: ((zs : Nat), listOf items2.toArray items2.length) :: (mk ++ (L + 6, w6x) :: ((d : Nat), listOf us.toArray 0) :: ((dg : Nat), listOf ds.toArray ds.length) :: ((v4 : Nat), listOf us4.toArray us4.length) :: ((v3 : Nat), listOf us3.toArray us3.length) :: ((v2 : Nat), listOf us2'.toArray us2'.length) :: ((v1 : Nat), listOf us1.toArray us1.length) :: ((v0 : Nat), listOf us0.toArray us0.length) :: (L + 2, w2x) :: ((x : Nat), listOf ws.toArray ws.length) :: (L + 3, w3x) :: ((z : Nat), o) :: (L + 1, w1x) :: tl)) := news_front (_ :: _ :: _ :: mk) N34
  have D35 : ND ((L + 5, w5x) :: (L + 4, w4) :: ((y : Nat), listOf [Value.ref v0, .ref v1, .ref v2, .ref v3, .ref v4].toArray 5) :: ((zs : Nat), listOf items2.toArray items2.length) :: (mk ++ (L + 6, w6x) :: ((d : Nat), listOf us.toArray 0) :: ((dg : Nat), listOf ds.toArray ds.length) :: ((v4 : Nat), listOf us4.toArray us4.length) :: ((v3 : Nat), listOf us3.toArray us3.length) :: ((v2 : Nat), listOf us2'.toArray us2'.length) :: ((v1 : Nat), listOf us1.toArray us1.length) :: ((v0 : Nat), listOf us0.toArray us0.length) :: (L + 2, w2x) :: ((x : Nat), listOf ws.toArray ws.length) :: (L + 3, w3x) :: ((z : Nat), o) :: (L + 1, w1x) :: tl)) := nd_front (_ :: _ :: _ :: mk) D34
  clear N34 D34
  have N36 : News h₀ L _ ((L + 6, w6x) :: (L + 5, w5x) :: (L + 4, w4) :: ((y : Nat), listOf [Value.ref v0, .ref v1, .ref v2, .ref v3, .ref v4].toArray 5) :: ((zs : Nat), listOf items2.toArray items2.length) :: (mk ++ ((d : Nat), listOf us.toArray 0) :: ((dg : Nat), listOf ds.toArray ds.length) :: ((v4 : Nat), listOf us4.toArray us4.length) :: ((v3 : Nat), listOf us3.toArray us3.length) :: ((v2 : Nat), listOf us2'.toArray us2'.length) :: ((v1 : Nat), listOf us1.toArray us1.length) :: ((v0 : Nat), listOf us0.toArray us0.length) :: (L + 2, w2x) :: ((x : Nat), listOf ws.toArray ws.length) :: (L + 3, w3x) :: ((z : Nat), o) :: (L + 1, w1x) :: tl)) := news_front (_ :: _ :: _ :: _ :: mk) N35
  have D36 : ND ((L + 6, w6x) :: (L + 5, w5x) :: (L + 4, w4) :: ((y : Nat), listOf [Value.ref v0, .ref v1, .ref v2, .ref v3, .ref v4].toArray 5) :: ((zs : Nat), listOf items2.toArray items2.length) :: (mk ++ ((d : Nat), listOf us.toArray 0) :: ((dg : Nat), listOf ds.toArray ds.length) :: ((v4 : Nat), listOf us4.toArray us4.length) :: ((v3 : Nat), listOf us3.toArray us3.length) :: ((v2 : Nat), listOf us2'.toArray us2'.length) :: ((v1 : Nat), listOf us1.toArray us1.length) :: ((v0 : Nat), listOf us0.toArray us0.length) :: (L + 2, w2x) :: ((x : Nat), listOf ws.toArray ws.length) :: (L + 3, w3x) :: ((z : Nat), o) :: (L + 1, w1x) :: tl)) := nd_front (_ :: _ :: _ :: _ :: mk) D35
  clear N35 D35
  have N37 : News h₀ L _ ((L + 5, w5x) :: (L + 6, w6x) :: (L + 4, w4) :: ((y : Nat), listOf [Value.ref v0, .ref v1, .ref v2, .ref v3, .ref v4].toArray 5) :: ((zs : Nat), listOf items2.toArray items2.length) :: (mk ++ ((d : Nat), listOf us.toArray 0) :: ((dg : Nat), listOf ds.toArray ds.length) :: ((v4 : Nat), listOf us4.toArray us4.length) :: ((v3 : Nat), listOf us3.toArray us3.length) :: ((v2 : Nat), listOf us2'.toArray us2'.length) :: ((v1 : Nat), listOf us1.toArray us1.length) :: ((v0 : Nat), listOf us0.toArray us0.length) :: (L + 2, w2x) :: ((x : Nat), listOf ws.toArray ws.length) :: (L + 3, w3x) :: ((z : Nat), o) :: (L + 1, w1x) :: tl)) := news_front [_] N36
  have D37 : ND ((L + 5, w5x) :: (L + 6, w6x) :: (L + 4, w4) :: ((y : Nat), listOf [Value.ref v0, .ref v1, .ref v2, .ref v3, .ref v4].toArray 5) :: ((zs : Nat), listOf items2.toArray items2.length) :: (mk ++ ((d : Nat), listOf us.toArray 0) :: ((dg : Nat), listOf ds.toArray ds.length) :: ((v4 : Nat), listOf us4.toArray us4.length) :: ((v3 : Nat), listOf us3.toArray us3.length) :: ((v2 : Nat), listOf us2'.toArray us2'.length) :: ((v1 : Nat), listOf us1.toArray us1.length) :: ((v0 : Nat), listOf us0.toArray us0.length) :: (L + 2, w2x) :: ((x : Nat), listOf ws.toArray ws.length) :: (L + 3, w3x) :: ((z : Nat), o) :: (L + 1, w1x) :: tl)) := nd_front [_] D36
  clear N36 D36
  have N38 : News h₀ L _ (((zs : Nat), listOf items2.toArray items2.length) :: (L + 5, w5x) :: (L + 6, w6x) :: (L + 4, w4) :: ((y : Nat), listOf [Value.ref v0, .ref v1, .ref v2, .ref v3, .ref v4].toArray 5) :: (mk ++ ((d : Nat), listOf us.toArray 0) :: ((dg : Nat), listOf ds.toArray ds.length) :: ((v4 : Nat), listOf us4.toArray us4.length) :: ((v3 : Nat), listOf us3.toArray us3.length) :: ((v2 : Nat), listOf us2'.toArray us2'.length) :: ((v1 : Nat), listOf us1.toArray us1.length) :: ((v0 : Nat), listOf us0.toArray us0.length) :: (L + 2, w2x) :: ((x : Nat), listOf ws.toArray ws.length) :: (L + 3, w3x) :: ((z : Nat), o) :: (L + 1, w1x) :: tl)) := news_front [_, _, _, _] N37
  have D38 : ND (((zs : Nat), listOf items2.toArray items2.length) :: (L + 5, w5x) :: (L + 6, w6x) :: (L + 4, w4) :: ((y : Nat), listOf [Value.ref v0, .ref v1, .ref v2, .ref v3, .ref v4].toArray 5) :: (mk ++ ((d : Nat), listOf us.toArray 0) :: ((dg : Nat), listOf ds.toArray ds.length) :: ((v4 : Nat), listOf us4.toArray us4.length) :: ((v3 : Nat), listOf us3.toArray us3.length) :: ((v2 : Nat), listOf us2'.toArray us2'.length) :: ((v1 : Nat), listOf us1.toArray us1.length) :: ((v0 : Nat), listOf us0.toArray us0.length) :: (L + 2, w2x) :: ((x : Nat), listOf ws.toArray ws.length) :: (L + 3, w3x) :: ((z : Nat), o) :: (L + 1, w1x) :: tl)) := nd_front [_, _, _, _] D37
  clear N37 D37
  have N39 : News h₀ L _ ((L + 4, w4) :: ((zs : Nat), listOf items2.toArray items2.length) :: (L + 5, w5x) :: (L + 6, w6x) :: ((y : Nat), listOf [Value.ref v0, .ref v1, .ref v2, .ref v3, .ref v4].toArray 5) :: (mk ++ ((d : Nat), listOf us.toArray 0) :: ((dg : Nat), listOf ds.toArray ds.length) :: ((v4 : Nat), listOf us4.toArray us4.length) :: ((v3 : Nat), listOf us3.toArray us3.length) :: ((v2 : Nat), listOf us2'.toArray us2'.length) :: ((v1 : Nat), listOf us1.toArray us1.length) :: ((v0 : Nat), listOf us0.toArray us0.length) :: (L + 2, w2x) :: ((x : Nat), listOf ws.toArray ws.length) :: (L + 3, w3x) :: ((z : Nat), o) :: (L + 1, w1x) :: tl)) := news_front [_, _, _] N38
  have D39 : ND ((L + 4, w4) :: ((zs : Nat), listOf items2.toArray items2.length) :: (L + 5, w5x) :: (L + 6, w6x) :: ((y : Nat), listOf [Value.ref v0, .ref v1, .ref v2, .ref v3, .ref v4].toArray 5) :: (mk ++ ((d : Nat), listOf us.toArray 0) :: ((dg : Nat), listOf ds.toArray ds.length) :: ((v4 : Nat), listOf us4.toArray us4.length) :: ((v3 : Nat), listOf us3.toArray us3.length) :: ((v2 : Nat), listOf us2'.toArray us2'.length) :: ((v1 : Nat), listOf us1.toArray us1.length) :: ((v0 : Nat), listOf us0.toArray us0.length) :: (L + 2, w2x) :: ((x : Nat), listOf ws.toArray ws.length) :: (L + 3, w3x) :: ((z : Nat), o) :: (L + 1, w1x) :: tl)) := nd_front [_, _, _] D38
  clear N38 D38
  refine law_17 _ rfl hcs l d e c r q g dg y zs _ _ tz items2 (stairsAll (saysV n0 n1 n2 n3 j0 j1 j2)) w4 w5x w6x _ n5 n6 tx ty e4 e5x e6x _ N39 D39 (hL2.up fun p hp => List.mem_cons_of_mem _ (List.mem_append_left _ hp)) rfl (stairs_five _) 1048576 (by decide) (by decide) P.bx P.by' P.hHb P.hAb rfl ?_ B F15 X T hk hd1 hu
  rintro tt va vh w4x _ h17 t17 e4x F17 N117 D117
  clear N39 D39 F15
  rw [P.told] at F17
  have N118 : News h₀ L h17 ((L + 3, w3x) :: ((z : Nat), o) :: (L + 5, w5x) :: (L + 6, w6x) :: (L + 2, w2x) :: ((x : Nat), listOf ws.toArray ws.length) :: tl) := fun p hp => N117 p (by simp only [List.mem_cons, List.mem_append] at hp ⊢; rcases hp with h | h | h | h | h | h | h <;> simp [h])
  refine law_18 _ rfl hcs l d e c r q g dg y zs z _ _ tz tt va vh w3x o w5x w6x (wlF n0 n1 n2 n3 j0 j1 j2) n5 n6 tx ty e3x e5x e6x _ N118 hw lo P.hlen P.hkey P.hcb P.bx P.by' P.hpm rfl ?_ B F17 X T hk hd1 hu
  rintro tp h18 t18 F18 N119
  rw [P.plain] at F18
  have N120 : News h₀ L h18 (tl ++ [(L + 2, w2x), ((x : Nat), listOf ws.toArray ws.length), (L + 5, w5x), (L + 6, w6x)]) := fun p hp => N119 p (by simp only [List.mem_cons, List.mem_append, List.not_mem_nil, or_false] at hp ⊢; rcases hp with h | h | h | h | h <;> simp [h])
  have ap2 : Apart tl [(L + 2, w2x), ((x : Nat), listOf ws.toArray ws.length), (L + 5, w5x), (L + 6, w6x)] := fun p hp q hq => by
    simp only [List.mem_cons, List.not_mem_nil, or_false] at hq
    rcases hq with h | h | h | h <;> subst h
    · exact ap' p hp _ (by simp)
    · exact ap' p hp _ (by simp)
    · exact ap' p hp (L + 5, w5) (by simp)
    · exact ap' p hp (L + 6, w6) (by simp)
  refine law_19 _ rfl hcs l d e c r q g dg y zs x _ _ _ tz tt tp va vh w2x w5x w6x n5 n6 tx ty ws _ e2x e5x e6x tl _ hT N120 ap2 hC iw (row_len20 _ _ _ _ _ _ _) last (run_row P.hj0 P.hj1 P.hj2 n5 n6) P.hokF rfl ?_ B F18 X T hk hd1 hu
  rintro h19 t19 m19 nl19 hT19 F19 N121
  exact hnext _ _ _ _ hT19 F19 N121
end Mine
end SGL
section SFIN2
open PySem.Calls
namespace Mine
theorem nd0 {L : Nat} (h : 119 < L) (w1 w2 w3 w4 w5 w6 : Obj) : ND ((L + 6, w6) :: (L + 5, w5) :: (L + 4, w4) :: (L + 3, w3) :: (L + 2, w2) :: (L + 1, w1) :: (119, tabObj #[]) :: []) := by
  simp only [ND, List.pairwise_cons, List.mem_cons, List.not_mem_nil, or_false, List.Pairwise.nil, and_true]
  refine ⟨?_, ?_, ?_, ?_, ?_, ?_, ?_⟩
  all_goals
    intro q hq
    first
    | exact hq.elim
    | (rcases hq with h | h | h | h | h | h <;> subst h <;> (show (_ : Nat) ≠ _) <;> omega)
    | (rcases hq with h | h | h | h | h <;> subst h <;> (show (_ : Nat) ≠ _) <;> omega)
    | (rcases hq with h | h | h | h <;> subst h <;> (show (_ : Nat) ≠ _) <;> omega)
    | (rcases hq with h | h | h <;> subst h <;> (show (_ : Nat) ≠ _) <;> omega)
    | (rcases hq with h | h <;> subst h <;> (show (_ : Nat) ≠ _) <;> omega)
    | (subst hq; (show (_ : Nat) ≠ _); omega)
theorem nums_ex (ns : List Int) : ∃ n0 n1 n2 n3 n4 n5 n6, numsF ns = [n0, n1, n2, n3, n4, n5, n6] := by
  have h := nums_len ns
  match e : numsF ns, h with
  | [n0, n1, n2, n3, n4, n5, n6], _ => exact ⟨n0, n1, n2, n3, n4, n5, n6, rfl⟩
theorem fin.tw17879305954018243132 : True := trivial
theorem fin.tw11112386831996348380 : True := trivial
theorem fin.tw16568428618268191670 : True := trivial
theorem fin.tw11820936759797337781 : True := trivial
theorem fin.tw8651105995357262798 : True := trivial
theorem fin.tw2962755328439268512 : True := trivial
theorem fin.tw14497727239971306367 : True := trivial
theorem fin.tw15587561589202958077 : True := trivial
theorem fin.tw16115155874713506467 : True := trivial
theorem fin.tw6207176494656529804 : True := trivial
theorem fin.tw9001875181463519149 : True := trivial
theorem fin.tw10807920368746810246 : True := trivial
theorem fin.tw8399098705505230059 : True := trivial
theorem fin.tw6213507637468552686 : True := trivial
theorem fin.tw17407121136558984578 : True := trivial
theorem fin.tw3753180429921760817 : True := trivial
theorem fin.tw1859308991734951218 : True := trivial
theorem fin.tw6081921254191324426 : True := trivial
theorem fin.tw855585454354188119 : True := trivial
theorem fin.tw15513600669972384820 : True := trivial
theorem fin.tw8919302590299486024 : True := trivial
theorem fin.tw6127190174262240918 : True := trivial
theorem fin.tw5734618986648460908 : True := trivial
theorem fin.tw12494633076269960713 : True := trivial
theorem fin.tw17717364068325071970 : True := trivial
theorem fin.tw11615019562542576733 : True := trivial
theorem fin.tw17801579834951734752 : True := trivial
theorem fin.tw4588413851689716618 : True := trivial
theorem fin.tw10891054232620793217 : True := trivial
theorem fin.tw15533503492667675913 : True := trivial
theorem fin.tw10098057777631523497 : True := trivial
theorem fin.tw5901363791540438844 : True := trivial
theorem fin.tw12284014389350100970 : True := trivial
theorem fin.tw17449020081951674710 : True := trivial
theorem fin.tw17743408960866722510 : True := trivial
theorem fin.tw16656299143469825513 : True := trivial
theorem fin.tw16275787546110486726 : True := trivial
theorem fin.tw999798209818781672 : True := trivial
theorem fin.tw18295790063311454060 : True := trivial
theorem fin.tw15688172546075569117 : True := trivial
theorem fin.tw14574801432027512755 : True := trivial
theorem fin.tw13516622038369049944 : True := trivial
theorem fin.tw7055459427971326715 : True := trivial
theorem fin.tw15205425988870721313 : True := trivial
set_option Elab.async true in
theorem fin : PySem.Challenge.rw_kl0095_01.Holds := by
    w_on; o_law; o_head (kmHook lay.heap_1 [2, 3, 15, 17, 18, 20, 21, 22, 24, 25, 27, 28, 29, 31, 32, 34, 35, 36, 38, 39, 41, 42, 43, 45, 46, 48, 49, 50, 52, 53, 55, 56, 64, 66, 67, 69, 70, 71, 72, 73, 74, 75, 78, 79, 80, 82, 83, 85, 86, 87, 89, 90, 92, 93, 94, 97, 99, 100, 102, 103, 104, 106, 107, 109, 110, 111, 113, 114, 116, 117, 118, 120, 121, 123, 124, 125, 128, 129, 130, 132, 133, 135, 136, 137, 139, 140, 142, 143, 144, 147, 148, 149, 151, 152, 154, 155, 156, 159, 160]  (fun _ => by kernel_rfl) [119]); (case hw => w_witness2); k_go0; (
      rename_i ns hs hlay0 hL1 hr1 hl2 wa wb wc wd we hLl ra w1x r0 hI hr hcond1 hcond hD h1 tk1 o6 o5 o4 o3 o2 o1 e6 e5 e4 e3 e2 e1 X0 X' T' K' F' N' l0
      obtain ⟨n0, n1, n2, n3, n4, n5, n6, hns⟩ := nums_ex ns
      refine law_all rfl wc wd ns n0 n1 n2 n3 n4 n5 n6 _ _ _ rfl rfl rfl (facts hL1 hns) hns o1 o2 o3 o4 o5 o6 _ _ _ _ _ _ e1 e2 e3 e4 e5 e6 N' (nd0 l0 _ _ _ _ _ _) lifted hI (by omega) codeHd ?_ K' (fr_re F' fun y => rfl) X' T' rfl (by decide) (by decide)
      clear N' K' X' T' F'
      rintro h' tk' m nl hT2 F2 N2
      refine ⟨?_, tab_grown hT2 N2⟩
      clear hT2 N2
      try dsimp only
      k_steps
      all_goals (try k_data))
end Mine
end SFIN2
theorem PySem.Challenge.cw_kl0095_01_holds : PySem.Challenge.rw_kl0095_01.Holds := by
  exact Mine.fin
