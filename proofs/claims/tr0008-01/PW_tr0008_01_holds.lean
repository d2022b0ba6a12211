import PyProof.Rows.All
import Wide.All
import OpenK.AllK
import Wide.FinOn
import PySem.Challenge.RW_tr0008_01
set_option Elab.async false
set_option maxRecDepth 100000
set_option maxHeartbeats 8000000
set_option linter.unusedVariables false
set_option linter.unusedSimpArgs false
set_option rowWalk.seconds 0
open PySem PySem.W PyProof.Rows PySem.Calls
namespace Mine
theorem hd1_of {A : Around} {k : Nat} (h : A.depth + (k + 2) < recursionLimit) (env : Env) : (A.deeper env).depth + 1 < recursionLimit := Nat.lt_of_le_of_lt (Nat.add_le_add_left (Nat.le_add_left 2 k) A.depth) h
theorem hd2_of {A : Around} {k : Nat} (h : A.depth + (k + 1) < recursionLimit) (env : Env) : (A.deeper env).depth < recursionLimit := Nat.lt_of_le_of_lt (Nat.add_le_add_left (Nat.le_add_left 1 k) A.depth) h
theorem hd5_of {A : Around} {k : Nat} (h : A.depth + (k + 3) < recursionLimit) (env : Env) : (A.deeper env).depth + 2 < recursionLimit := Nat.lt_of_le_of_lt (Nat.add_le_add_left (Nat.le_add_left 3 k) A.depth) h
theorem hu1_of {A : Around} {k : Nat} (h : A.units + (k + 70) < cLine) (env : Env) : (A.deeper env).units + 64 < cLine := Nat.lt_of_le_of_lt (Nat.add_le_add_left (Nat.le_trans (Nat.le_add_right 67 3) (Nat.le_add_left 70 k)) A.units) h
theorem hu5_of {A : Around} {k : Nat} (h : A.units + (k + 73) < cLine) (env : Env) : (A.deeper env).units + 70 < cLine := Nat.lt_of_le_of_lt (Nat.add_le_add_left (Nat.le_add_left 73 k) A.units) h
section
theorem runs_toks {M : Model} {Γ : Ctx} {p : Pos} {t : Sem Fin} {fs : List Frame} {s s' : Shared} {e : End} (h : Runs M Γ p t fs s e s') : s.toks ≤ s'.toks := by
  induction h
  case fresh ih => exact Nat.le_trans (Nat.le_succ _) ih
  case call ih1 ih2 => exact Nat.le_trans ih1 ih2
  case resumeFresh ih1 ih2 => exact Nat.le_trans ih1 ih2
  case resumeSuspended ih1 ih2 => exact Nat.le_trans ih1 ih2
  case segRet ih1 ih2 => exact Nat.le_trans ih1 ih2
  case segGen ih1 ih2 => exact Nat.le_trans ih1 ih2
  case segSuspGen ih1 ih2 => exact Nat.le_trans ih1 ih2
  all_goals first | exact Nat.le_refl _ | assumption

theorem wakes_toks {M : Model} {Γ : Ctx} {p : Pos} {g : Nat} {r : Resume} {s : Shared} {res : GenResult} {s' : Shared} (h : Wakes M Γ p g r s res s') : s.toks ≤ s'.toks := by
  unfold Wakes at h
  split at h
  · exact h.elim
  · split at h
    · obtain ⟨e₁, s₁, h, _, _, rfl⟩ := h; have z := runs_toks h; exact z
    · obtain ⟨_, rfl⟩ := h; exact Nat.le_refl _
    · obtain ⟨_, rfl⟩ := h; exact Nat.le_refl _
  · obtain ⟨e₁, s₁, h, _, _, rfl⟩ := h; have z := runs_toks h; exact z
  · obtain ⟨_, rfl⟩ := h; exact Nat.le_refl _
  · obtain ⟨_, rfl⟩ := h; exact Nat.le_refl _

open Sem in
theorem wp_toks {M : Model} {Γ : Ctx} {α : Type} (t : Sem α) (Q : α → Pos → Shared → Prop) (E : Value → Pos → Shared → Prop) (n : Nat) (p : Pos) (s : Shared) (hn : n ≤ s.toks)
    (h : wp M Γ t (fun a p s' => n ≤ s'.toks → Q a p s') (fun e p s' => n ≤ s'.toks → E e p s') p s) : wp M Γ t Q E p s := by
  induction t generalizing p s <;> simp only [wp] at h ⊢
  case pure => exact h hn
  case raise => exact h hn
  case rule ih => exact ih _ _ _ hn h
  case «at» ih => exact ih _ _ _ hn h
  case load ih => obtain ⟨o, h1, h2⟩ := h; exact ⟨o, h1, ih _ _ _ hn h2⟩
  case update ih => exact ⟨h.1, ih _ _ _ hn h.2⟩
  case loadIfAlive ih => exact ih _ _ _ hn h
  case point ih => exact ih _ _ _ hn h
  case alloc ih => exact ih _ _ _ hn h
  case fresh ih => exact ih _ _ _ (Nat.le_succ_of_le hn) h
  case ask ih => exact ih _ _ _ hn h
  case choose ih => exact ⟨h.1, ih _ _ _ hn h.2⟩
  case os ih => exact ih _ _ _ hn h
  case call ih => obtain ⟨r, s₁, h1, h2⟩ := h; exact ⟨r, s₁, h1, ih _ _ _ (Nat.le_trans hn (runs_toks h1)) h2⟩
  case handled ih => exact ih _ _ _ hn h
  case genState ih => obtain ⟨st, h1, h2⟩ := h; exact ⟨st, h1, ih _ _ _ hn h2⟩
  case newGen ih => exact ih _ _ _ hn h
  case resume ih => obtain ⟨res, s₁, h1, h2⟩ := h; exact ⟨res, s₁, h1, ih _ _ _ (Nat.le_trans hn (wakes_toks h1)) h2⟩
  case stack ih => exact ih _ _ _ hn h
  case thread ih => exact ih _ _ _ hn h

theorem wpAny_up {M : Model} {A : Around} {α : Type} {t : Sem α} {Q : α → Shared → Prop} {E : Value → Shared → Prop} {s : Shared}
    (h : wpAny M A t (fun a s' => s.toks ≤ s'.toks → Q a s') (fun e s' => s.toks ≤ s'.toks → E e s') s) : wpAny M A t Q E s :=
  fun Γ p hΓ => wp_toks t _ _ s.toks p s (Nat.le_refl _) (h Γ p hΓ)
theorem codeAny_up {M : Model} {A : Around} {c : Code} {R : Result → Shared → Prop} {s : Shared} (h : codeAny M A c (fun r s' => s.toks ≤ s'.toks → R r s') s) : codeAny M A c R s :=
  fun Γ p hc hΓ => let ⟨r, s', h1, h2⟩ := h Γ p hc hΓ; ⟨r, s', h1, h2 (runs_toks h1)⟩
end
section
noncomputable abbrev fr (outs : List Env) : List Addr := outs.filterMap (·.frame)
structure Kept (fs : List Addr) (h h' : Heap) : Prop where
  other : ∀ b o, h.get? b = some o → b ∉ fs → h'.get? b = some o
  frame : ∀ b o, h.get? b = some o → b ∈ fs → ∃ sl, h'.get? b = some { o with slots := sl }

theorem Kept.refl {fs : List Addr} {h : Heap} : Kept fs h h := ⟨fun _ _ e _ => e, fun _ o e _ => ⟨o.slots, e⟩⟩
theorem Kept.trans {fs : List Addr} {h h₁ h₂ : Heap} (x : Kept fs h h₁) (y : Kept fs h₁ h₂) : Kept fs h h₂ :=
  ⟨fun b o e m => y.other b o (x.other b o e m) m, fun b o e m => by
    obtain ⟨s1, h1⟩ := x.frame b o e m
    obtain ⟨s2, h2⟩ := y.frame b _ h1 m
    exact ⟨s2, h2⟩⟩
theorem Kept.up {fs : List Addr} {h h' : Heap} (x : Kept fs h h') {b : Addr} {o : Obj} (e : h.get? b = some o) : ∃ sl, h'.get? b = some { o with slots := sl } := by
  by_cases m : b ∈ fs
  · exact x.frame b o e m
  · exact ⟨o.slots, x.other b o e m⟩
theorem Kept.of_keeps {fs : List Addr} {h h' : Heap} (k : ∀ b o, h.get? b = some o → h'.get? b = some o) : Kept fs h h' :=
  ⟨fun b o e _ => k b o e, fun b o e _ => ⟨o.slots, k b o e⟩⟩
theorem Kept.of_turn {fs : List Addr} {h h' : Heap} (x : KtsTurn fs h h') : Kept fs h h' :=
  ⟨x.other, x.frame⟩
theorem Kept.ns {fs : List Addr} {h h' : Heap} (x : Kept fs h h') {L : Addr} {m : Str → Option Value} (n : h.Ns L m) : h'.Ns L m := by
  obtain ⟨o, es, ep, e, hd, r⟩ := n
  obtain ⟨sl, e'⟩ := x.up e
  exact ⟨_, es, ep, e', hd, r⟩
theorem Kept.list {fs : List Addr} {h h' : Heap} (x : Kept fs h h') {l : Addr} {vs : Array Value} (n : h.IsList l vs) : h'.IsList l vs := by
  obtain ⟨o, e, hc, ep, hd⟩ := n
  obtain ⟨sl, e'⟩ := x.up e
  exact ⟨_, e', hc, ep, hd⟩
theorem Kept.tuple {fs : List Addr} {h h' : Heap} (x : Kept fs h h') {l : Addr} {vs : Array Value} (n : h.IsTuple l vs) : h'.IsTuple l vs := by
  obtain ⟨o, e, hc, ep, hd⟩ := n
  obtain ⟨sl, e'⟩ := x.up e
  exact ⟨_, e', hc, ep, hd⟩
noncomputable def IntL (h : Heap) (v : Value) (xs : List Int) : Prop := ∃ l vs, v = .ref l ∧ h.IsList l vs.toArray ∧ IntsAre vs xs
theorem IntL.kept {fs : List Addr} {h h' : Heap} (x : Kept fs h h') {v : Value} {xs : List Int} (n : IntL h v xs) : IntL h' v xs := by
  obtain ⟨l, vs, e, hl, hi⟩ := n
  exact ⟨l, vs, e, x.list hl, hi⟩
structure Amb (K : Frag) (p : Program) (loose : List Str) (mean : ExcName → Option Value) (mg mb : Str → Option Value) (A : Around) (outs : List Env) (h : Heap) : Prop where
  ex : ∃ b, Below A b outs h ∧ K.In b ∧ Top p loose mean mg mb b
  D : KtsDicts (fr outs) h
  hh : A.handled = none

section
variable {K : Frag} {p : Program} {loose : List Str} {mean : ExcName → Option Value} {mg mb : Str → Option Value} {A A₀ : Around} {outs : List Env} {h h' g g₀ b : Heap} {L : Addr} {m : Str → Option Value} {news : List (Addr × Obj)}

theorem funFrames_frame {b : Heap} : ∀ {l : List Env}, h.FunFrames b l → ∀ env ∈ l, ∃ a, env.frame = some a
  | [], _, _, hm => nomatch hm
  | _ :: _, ⟨_, ⟨L, _, hf, _⟩, hr⟩, env, hm => by
    rcases List.mem_cons.mp hm with rfl | hm
    · exact ⟨L, hf⟩
    · exact funFrames_frame hr env hm

theorem Amb.open (x : Amb K p loose mean mg mb A outs h) : Below A (hideAll h (fr outs)) outs h ∧ K.In (hideAll h (fr outs)) ∧ Top p loose mean mg mb (hideAll h (fr outs)) := by
  obtain ⟨⟨b, B, X, T⟩, D, _⟩ := x
  have st : b.StaysIn (hideAll h (fr outs)) := fun c o e => hideAll_get _ (B.stays c o e) fun hm => by
    rw [(B.frames.mem hm).1] at e; cases e
  exact ⟨⟨B.stack, fun c o e => of_hideAll _ e, funFrames_hide B.frames fun env he a ha => List.mem_filterMap.mpr ⟨env, he, ha⟩⟩, X.keeps st, T.keeps st⟩
theorem Amb.get (x : Amb K p loose mean mg mb A outs h) {c : Addr} {o : Obj} (e : h.get? c = some o) (hn : ∀ es n, o.data ≠ .dict es n) : (hideAll h (fr outs)).get? c = some o :=
  hideAll_get _ e fun hm => by
    obtain ⟨o', es, n, ho', hd⟩ := x.D c hm
    rw [e] at ho'; cases ho'
    exact hn _ _ hd

theorem kept_of (TT : KtsTurn (fr outs) g₀ g) (F : Fr g L h m) : Kept (fr outs) g₀ h :=
  (Kept.of_turn TT).trans (Kept.of_keeps F.keep)
theorem reground (B : Below A₀ b outs g) (D : KtsDicts (fr outs) g) (hk : ∀ c o, g.get? c = some o → c ∉ fr outs → h'.get? c = some o) (hf : ∀ c o, g.get? c = some o → c ∈ fr outs → ∃ sl, h'.get? c = some { o with slots := sl }) :
    ∃ g', KtsTurn (fr outs) g g' ∧ g'.StaysIn h' ∧ Below A₀ b outs g' ∧ KtsDicts (fr outs) g' := by
  obtain ⟨T, S⟩ := kts_turn_at (h := h') (fs := fr outs) (g := g)
    (fun c hc => by
      obtain ⟨_, o, ho, _⟩ := B.frames.mem hc
      exact ⟨o, ho⟩) hk hf
  refine ⟨_, T, S, ⟨B.stack, fun c o e => T.other c o (B.stays c o e) (fun hm => by
    rw [(B.frames.mem hm).1] at e
    cases e), B.frames.of_keeps fun c o e _ => ?_⟩, D.turn T⟩
  obtain ⟨sl, hs⟩ := T.up e
  exact ⟨_, hs, rfl⟩
end
noncomputable def Ends (outs : List Env) (s : Shared) (Post : Value → Heap → Nat → Prop) (r : Result) (s' : Shared) : Prop :=
  match r with
  | .ok (.ret v) => ∃ h' tk, s' = { s with heap := h', toks := tk } ∧ Kept (fr outs) s.heap h' ∧ Post v h' tk
  | _ => False

section
variable {prog : Program} {w : World} {A₀ A : Around} {s : Shared} {K : Frag} {base b g g₀ : Heap} {outs : List Env} {mg mb : Str → Option Value} {p : Program} {loose : List Str} {mean : ExcName → Option Value}
  {R : Result → Shared → Prop} {name qual : Str} {params : Arguments} {body : List Stmt} {scope : Scope} {dV kV doc pm cdv ct oc : Value} {an od : Option Addr} {osl : Array (Option Value)} {f : Addr} {args : Args} {binds : List (Str × Value)} {m : Str → Option Value}
  {L : Addr} {news : List (Addr × Obj)} {env : Env} {vs : List Value} {E Q : Value → Shared → Prop} {Post : Value → Heap → Nat → Prop}
theorem enter (x : Amb K p loose mean mg mb A outs s.heap)
    (ho : K.lookup f = some ⟨oc, od, .func (fnOf name qual params body scope dV kV doc pm an cdv ct), osl⟩) (hcd : codeIn K cdv qual = true) (hroom : A.depth < recursionLimit)
    (hbind : BindsTo s (fnOf name qual params body scope dV kV doc pm an cdv ct) args binds) (hm : (fun y => binds.reverse.lookup y) = m) (hloc : ∀ y ∈ binds, scope.names.lookup y.1 = some .local)
    (h : ∀ L' h₁ tk, s.toks ≤ tk → Below A (hideAll s.heap (fr outs)) outs s.heap → K.In (hideAll s.heap (fr outs)) → K.In s.heap → Top p loose mean mg mb s.heap → KtsDicts (fr outs) s.heap → Fr s.heap L' h₁ m → News s.heap L' h₁ [] →
      wpAny (model prog w) (A.deeper (envOf qual scope L' f cdv)) (execs body (envOf qual scope L' f cdv))
        (fun fl s' => R (.ok (.ret (match fl with | .ret v => v | _ => .none))) s')
        (fun e s' => wpAny (model prog w) (A.deeper (envOf qual scope L' f cdv)) (leaving (envOf qual scope L' f cdv) e) (fun _ s'' => R (.error e) s'') (fun e' s'' => R (.error e') s'') s')
        { s with heap := h₁, toks := tk })
    (hco : scope.isCoroutine = false) (hgen : scope.isGenerator = false) (hk : scope.kind = .function)
    (hcell : ∀ x ∈ scope.names, x.2 ≠ .cell) : codeAny (model prog w) A (.call (.ref f) args) R s := by
  obtain ⟨B, X, T⟩ := x.open
  have X' := X.keeps B.stays
  have T' := T.keeps B.stays
  refine codeAny_call_def (fd := fnOf name qual params body scope dV kV doc pm an cdv ct) (body := body) (binds := binds) hroom (X' _ _ ho) rfl T'.nolimit (codeRec_of X' hcd) rfl hbind hcell hloc (fun h₁ hns hk₁ => ?_) hco hgen hk
  exact h s.heap.objs.size h₁ _ (by first | exact Nat.le_add_right _ _ | exact Nat.le_refl _) B X X' T' x.D ⟨hm ▸ hns, hk₁, Nat.le_refl _⟩ (fun _ hp => nomatch hp)

theorem amb_in (B : Below A₀ b outs g) (D : KtsDicts (fr outs) g) (F : Fr g L s.heap m) (X : K.In b) (T : Top p loose mean mg mb b) (hh : A₀.handled = none) (hf : env.frame = some L) (hk : env.scope.kind = .function) :
    Amb K p loose mean mg mb (A₀.deeper env) (env :: outs) s.heap := by
  refine ⟨⟨b, pushX B F hf hk, X, T⟩, fun c hc => ?_, hh⟩
  rw [fr, List.filterMap_cons, hf] at hc
  rcases List.mem_cons.mp hc with rfl | hc
  · obtain ⟨o, es, ep, e, hd, _⟩ := F.ns
    exact ⟨o, es, ep, e, hd⟩
  · obtain ⟨o, es, n, e, hd⟩ := D c hc
    exact ⟨o, es, n, F.keep _ _ e, hd⟩
theorem call_use (B : Below A₀ b outs g) (D : KtsDicts (fr outs) g) (TT : KtsTurn (fr outs) g₀ g) (F : Fr g L s.heap m) (N : News g L s.heap news) (hf : env.frame = some L)
    (C : codeAny (model prog w) A (.call (.ref f) ⟨vs, []⟩) (Ends (env :: outs) s Post) s)
    (h : ∀ v g' h' tk, s.toks ≤ tk → Below A₀ b outs g' → KtsDicts (fr outs) g' → KtsTurn (fr outs) g₀ g' → Fr g' L h' m → News g' L h' news → (∀ r o, s.heap.get? r = none → h'.get? r = some o → News g' L h' [(r, o)]) →
      Kept (L :: fr outs) s.heap h' → Post v h' tk → Q v { s with heap := h', toks := tk }) :
    wpAny (model prog w) A (call (.ref f) vs) Q E s := by
  refine wpAny_call (codeAny_up (codeAny_mono C fun r s' hr hle => ?_))
  unfold Ends at hr
  split at hr
  · rename_i v
    obtain ⟨h', tk, rfl, hk, hp⟩ := hr
    rw [fr, List.filterMap_cons, hf] at hk
    have hLg := kts_self F
    have hne : ∀ c o, g.get? c = some o → c ≠ L := fun c o e q => by rw [q, hLg] at e; cases e
    obtain ⟨g', T', S', B', D'⟩ := reground (h' := h') B D
      (fun c o e hm => hk.other c o (F.keep c o e) fun hm' => (List.mem_cons.mp hm').elim (hne c o e) hm)
      (fun c o e hm => hk.frame c o (F.keep c o e) (List.mem_cons_of_mem _ hm))
    have nof : ∀ c, g.get? c = none → c ∉ fr outs := fun c e hm => by
      obtain ⟨o, _, _, ho, _⟩ := D c hm
      rw [ho] at e; cases e
    refine h v g' h' tk hle B' D' (TT.trans T') ⟨hk.ns F.ns, S', by rw [T'.size]; exact F.above⟩ (fun q hq => ?_) (fun r o hr ho => ?_) hk hp
    · obtain ⟨n1, n2, n3⟩ := N q hq
      exact ⟨hk.other _ _ n1 fun hm => (List.mem_cons.mp hm).elim n2 (nof _ n3), n2, T'.none_ _ n3⟩
    · intro q hq
      rw [List.mem_singleton.mp hq]
      refine ⟨ho, fun q => ?_, T'.none_ _ ?_⟩
      · obtain ⟨oL, _, _, e, _⟩ := F.ns
        have q' : r = L := q
        rw [q', e] at hr; cases hr
      · cases e : g.get? r with
        | none => rfl
        | some o' => rw [F.keep _ _ e] at hr; cases hr
  · exact hr.elim
theorem ends_of {v : Value} {h' : Heap} {tk : Nat} (TT : KtsTurn (fr outs) s.heap g) (F : Fr g L h' m) (hp : Post v h' tk) : Ends outs s Post (.ok (.ret v)) { s with heap := h', toks := tk } :=
  ⟨h', tk, rfl, kept_of TT F, hp⟩
end
end
section
noncomputable def Stores (M : Model) (A : Around) (env : Env) (E : Value → Shared → Prop) : List (Str × Value) → (Shared → Prop) → Shared → Prop
  | [], K, s => K s
  | (x, v) :: r, K, s => wpAny M A (storeName env x v) (fun _ s' => Stores M A env E r K s') E s
theorem Stores.mono {M : Model} {A : Around} {env : Env} {E E' : Value → Shared → Prop} (hE : ∀ e s, E e s → E' e s) : ∀ {bs : List (Str × Value)} {K K' : Shared → Prop} {s : Shared}, (∀ s, K s → K' s) → Stores M A env E bs K s → Stores M A env E' bs K' s
  | [], _, _, _, h, x => h _ x
  | (_, _) :: _, _, _, _, h, x => wpAny_mono x (fun _ _ y => Stores.mono hE h y) hE
structure Drive (prog : Program) (w : World) (A : Around) (env : Env) (target : Expr) (it : Value) (fp wr : List Addr) (n : Nat) (P : Nat → List (Str × Value) → Prop) (St : Nat → Heap → Prop) : Prop where
  sub : ∀ b ∈ wr, b ∈ fp
  frame : ∀ i h h', St i h → (∀ b ∈ fp, ∀ o, h.get? b = some o → h'.get? b = some o) → St i h'
  item : ∀ i (s : Shared) (Kd Ki : Shared → Prop) (E : Value → Shared → Prop), i < n → St i s.heap →
    (∀ bs h' tk, P i bs → s.toks ≤ tk → St (i + 1) h' → (∀ b o, b ∉ wr → s.heap.get? b = some o → h'.get? b = some o) → Stores (model prog w) A env E bs Ki { s with heap := h', toks := tk }) →
    wpAny (model prog w) A (pyNext it) (fun r s₁ => match r with
      | none => Kd s₁
      | some v => wpAny (model prog w) A (letOwnedTupleGo target it v) (fun _ s₂ => wpAny (model prog w) A (assign target env v) (fun _ s₃ => Ki s₃) E s₂) E s₁) E s
  done : ∀ (s : Shared) (Kd Ki : Shared → Prop) (E : Value → Shared → Prop), St n s.heap →
    (∀ h' tk, s.toks ≤ tk → (∀ b o, b ∉ wr → s.heap.get? b = some o → h'.get? b = some o) → Kd { s with heap := h', toks := tk }) →
    wpAny (model prog w) A (pyNext it) (fun r s₁ => match r with
      | none => Kd s₁
      | some v => wpAny (model prog w) A (letOwnedTupleGo target it v) (fun _ s₂ => wpAny (model prog w) A (assign target env v) (fun _ s₃ => Ki s₃) E s₂) E s₁) E s
  self : ∀ i (s : Shared) (Q : Value → Shared → Prop) (E : Value → Shared → Prop), St i s.heap → Q it s → wpAny (model prog w) A (pyIter it) Q E s

section
variable {prog : Program} {w : World} {A : Around} {env : Env} {I : Addr} {fp wr : List Addr} {n : Nat} {St : Nat → Heap → Prop}

theorem Drive.name {P : Nat → Value → Prop} {x : Str} {pos : Pos} (W : Walks prog w A I fp wr n P St) :
    Drive prog w A env (.Name x pos) (.ref I) fp wr n (fun i bs => ∃ v, P i v ∧ bs = [(x, v)]) St where
  sub := W.sub
  frame := W.frame
  item := fun i s Kd Ki E hi st hQ => by
    refine wpAny_up (W.item i s _ _ hi st fun v h₁ tk₁ hP hst₁ hk₁ hle => ?_)
    refine wpAny_mono (E := E) (Q := fun _ s₂ => wpAny (model prog w) A (assign (.Name x pos) env v) (fun _ s₃ => Ki s₃) E s₂) ?_ (fun _ _ q => q) fun _ _ q => q
    show wpAny _ _ (pure ()) _ _ _
    exact wpAny_pure (wpAny_assign_Name (hQ [(x, v)] h₁ tk₁ ⟨v, hP, rfl⟩ hle hst₁ hk₁))
  done := fun s Kd Ki E st hQ => wpAny_up (W.done s _ _ st fun h' tk hk hle => hQ h' tk hle hk)
  self := W.self

theorem Drive.pair {Pt : Nat → Array Value → Prop} {Mid : Nat → Addr → Heap → Prop} {P : Nat → Value → Value → Prop} {x y : Str} {px py pos : Pos} {k : Nat} (W : WalksT prog w A I fp wr n Pt St Mid) (hP : ∀ i vals, Pt i vals → ∃ a b, P i a b ∧ vals = #[a, b])
    (hh : A.handled = none) (hex : ∀ i h, St i h → ∀ b ∈ fp, ∃ o, h.get? b = some o) :
    Drive prog w A env (.Tuple [.Name x px, .Name y py] k pos) (.ref I) fp wr n (fun i bs => ∃ a b, P i a b ∧ bs = [(x, a), (y, b)]) St where
  sub := W.sub
  frame := W.frame
  item := fun i s Kd Ki E hi st hQ => by
    refine wpAny_up (W.item i s _ _ hi st fun T vals h₁ tk₁ hPv hTle hT hM hk₁ hle => ?_)
    obtain ⟨a, b, hab, rfl⟩ := hP i vals hPv
    refine W.go _ _ _ i T _ _ E hM fun h₂ hst₂ hk₂ => ?_
    have hT₂ : h₂.IsTuple T #[a, b] := hT.at fun o e => hk₂ T o (W.apart _ _ _ hM) e
    refine wpAny_assign_Tuple hh hT₂ rfl rfl fun h₃ hx₃ => ?_
    replace hx₃ : Heap.ExtBut h₂.objs.size h₂ h₃ := hx₃
    have old₃ : ∀ c o, h₂.get? c = some o → h₃.get? c = some o := fun c o e => hx₃ c o (Nat.ne_of_lt (Heap.lt_size e)) e
    have z := hQ [(x, a), (y, b)] h₃ tk₁ ⟨a, b, hab, rfl⟩ hle (W.frame _ _ _ hst₂ fun c hc o e => old₃ c o e) fun c o hcw e => old₃ c o (hk₂ c o hcw (hk₁ c o hcw e))
    show wpAny _ A (do holding [b] (assign (.Name x px) env a); do holding [] (assign (.Name y py) env b); pure ()) _ _ _
    exact wpAny_bind (wpAny_holding (wpAny_assign_Name (wpAny_mono z (fun _ s₄ z' => wpAny_bind (wpAny_holding (wpAny_assign_Name (wpAny_mono z' (fun _ s₅ z'' => wpAny_pure z'') fun _ _ e => e)))) fun _ _ e => e)))
  done := fun s Kd Ki E st hQ => wpAny_up (W.done s _ _ st fun h' tk hk hle => hQ h' tk hle hk)
  self := W.self
end
noncomputable def IsLst (o : Obj) : Prop := o.cls = .type "list" ∨ ∃ v, o.data = .cell v
noncomputable def Turned (A₀ : Around) (b : Heap) (outs : List Env) (g₀ : Heap) (L : Addr) (s : Shared) (own : List (Addr × Obj)) (J : (Str → Option Value) → List (Addr × Obj) → Nat → Prop) (s' : Shared) : Prop :=
  ∃ g₂ h' tk m₂ news₂, s' = { s with heap := h', toks := tk } ∧ Below A₀ b outs g₂ ∧ KtsDicts (fr outs) g₂ ∧ KtsTurn (fr outs) g₀ g₂ ∧ Fr g₂ L h' m₂ ∧ News g₂ L h' (news₂ ++ own) ∧ J m₂ news₂ tk
theorem Turned.mk {A₀ : Around} {b : Heap} {outs : List Env} {g₀ : Heap} {L : Addr} {s : Shared} {own : List (Addr × Obj)} {J : (Str → Option Value) → List (Addr × Obj) → Nat → Prop} {g₂ h' : Heap} {tk : Nat} {m₂ : Str → Option Value} {led : List (Addr × Obj)} (news₂ : List (Addr × Obj))
    (B : Below A₀ b outs g₂) (D : KtsDicts (fr outs) g₂) (TT : KtsTurn (fr outs) g₀ g₂) (F : Fr g₂ L h' m₂) (N : News g₂ L h' led) (hs : ∀ p ∈ news₂, p ∈ led) (ho : ∀ p ∈ own, p ∈ led) (hJ : J m₂ news₂ tk) :
    Turned A₀ b outs g₀ L s own J { s with heap := h', toks := tk } :=
  ⟨g₂, h', tk, m₂, news₂, rfl, B, D, TT, F, fun p hp => N p ((List.mem_append.mp hp).elim (hs p) (ho p)), hJ⟩

theorem own_off {g h : Heap} {L : Addr} {led own : List (Addr × Obj)} {a : Addr} {o : Obj} (N : News g L h led) (ha : (a, o) ∈ led) (hl : IsLst o) (hsub : ∀ p ∈ own, p ∈ led) (hown : ∀ q ∈ own, ¬ IsLst q.2) : ∀ q ∈ own, q.1 ≠ a := fun q hq e => by
  have h1 := (N _ ha).1
  have h2 := (N _ (hsub q hq)).1
  rw [e, h1] at h2
  exact hown q hq (Option.some.inj h2 ▸ hl)

section
variable {prog : Program} {w : World} {A₀ A : Around} {s : Shared} {K : Frag} {b g g₀ : Heap} {outs : List Env} {R : Result → Shared → Prop} {m : Str → Option Value}
  {news keep : List (Addr × Obj)} {env : Env} {target : Expr} {it : Value} {fp wr : List Addr} {n : Nat} {P : Nat → List (Str × Value) → Prop} {St : Nat → Heap → Prop} {body orelse : List Stmt}

theorem for_use (Dr : Drive prog w A env target it fp wr n P St) (B : Below A₀ b outs g) (D : KtsDicts (fr outs) g) (TT : KtsTurn (fr outs) g₀ g) (F : Fr g env.locals s.heap m) (N : News g env.locals s.heap (news ++ keep))
    (hL : env.locals ∉ fp) (hst : St 0 s.heap) (hw : ∀ c ∈ wr, g.get? c = none ∧ ∀ p ∈ keep, p.1 ≠ c) (hwk : ∀ i h, St i h → ∀ c ∈ wr, ∀ o, h.get? c = some o → ¬ IsLst o) (hkeep : ∀ q ∈ keep, ¬ IsLst q.2)
    (J : Nat → (Str → Option Value) → List (Addr × Obj) → Nat → Prop) (hJ : J 0 m news s.toks) (hJl : ∀ i m news tk, J i m news tk → ∀ p ∈ news, IsLst p.2) (hJm : ∀ i m news tk tk', J i m news tk → tk ≤ tk' → J i m news tk')
    (hwe : ∀ i h, St i h → ∀ c ∈ wr, ∃ o, h.get? c = some o)
    (hfp : ∀ c ∈ fp, c ∈ wr ∨ (c ∉ fr outs ∧ ∃ o, g.get? c = some o) ∨ ∃ o, ∀ i m news tk, J i m news tk → (c, o) ∈ news)
    (turn : ∀ i bs g₁ m₁ news₁ own h tk, i < n → P i bs → Below A₀ b outs g₁ → KtsDicts (fr outs) g₁ → KtsTurn (fr outs) g₀ g₁ → J i m₁ news₁ tk → Fr g₁ env.locals h m₁ → News g₁ env.locals h (news₁ ++ own) → (∀ q ∈ own, ¬ IsLst q.2) →
      Stores (model prog w) A env (fun _ _ => False) bs (fun s₁ => wpAny (model prog w) A (execs body env) (fun f s' => match f with
        | .ret v => R (.ok (.ret v)) s'
        | .brk => R (.ok .next) s'
        | _ => Turned A₀ b outs g₀ env.locals s own (J (i + 1)) s') (fun _ _ => False) s₁) { s with heap := h, toks := tk })
    (done : ∀ g₁ m₁ news₁ h tk, Below A₀ b outs g₁ → KtsDicts (fr outs) g₁ → KtsTurn (fr outs) g₀ g₁ → J n m₁ news₁ tk → Fr g₁ env.locals h m₁ → News g₁ env.locals h (news₁ ++ keep) →
      wpAny (model prog w) A (execs orelse env) (fun f s₃ => R (.ok f) s₃) (notedBy (model prog w) A env fun e s' => R (.error e) s') { s with heap := h, toks := tk }) :
    codeAny (model prog w) A (.forLoop target it body orelse env) R s := by
  refine codeAny_forLoop_any
    (fun k s' => ∃ i g' h' tk m' news', s' = { s with heap := h', toks := tk } ∧ i ≤ n ∧ k = n + 1 - i ∧ Below A₀ b outs g' ∧ KtsDicts (fr outs) g' ∧ KtsTurn (fr outs) g₀ g' ∧ (∀ c, g.get? c = none → g'.get? c = none) ∧
      (∀ c o, g.get? c = some o → c ∉ fr outs → g'.get? c = some o) ∧ St i h' ∧ Fr g' env.locals h' m' ∧ News g' env.locals h' (news' ++ keep) ∧ J i m' news' tk) ?_ (n + 1)
    ⟨0, g, s.heap, s.toks, m, news, rfl, Nat.zero_le _, rfl, B, D, TT, fun _ e => e, fun _ _ e _ => e, hst, F, N, hJ⟩
  rintro k s' ⟨i, g', h', tk, m', news', rfl, hi, rfl, B', D', TT', gn, gs, hst', F', N', hJ'⟩
  have hLw : env.locals ∉ wr := fun h => hL (Dr.sub _ h)
  have next : ∀ h₁ m₁, h₁.Ns env.locals m₁ → (∀ c o, c ≠ env.locals → c ∉ wr → h'.get? c = some o → h₁.get? c = some o) → Fr g' env.locals h₁ m₁ ∧ News g' env.locals h₁ (news' ++ keep) := fun h₁ m₁ hn₁ hk₁ => by
    refine ⟨⟨hn₁, fun c o e => hk₁ c o (fun q => by rw [q, kts_self F'] at e; cases e) (fun q => by rw [gn _ (hw c q).1] at e; cases e) (F'.keep c o e), F'.above⟩, fun p hp => ?_⟩
    obtain ⟨n1, n2, n3⟩ := N' p hp
    refine ⟨hk₁ _ _ n2 (fun q => ?_) n1, n2, n3⟩
    rcases List.mem_append.mp hp with hp | hp
    · exact hwk _ _ hst' _ q _ n1 (hJl _ _ _ _ hJ' p hp)
    · exact (hw _ q).2 p hp rfl
  by_cases hlt : i < n
  · refine Dr.item i _ _ _ _ hlt hst' fun bs h₁ tk₁ hP hle hst₁ hk₁ => ?_
    replace hJ' := hJm _ _ _ _ _ hJ' hle
    obtain ⟨F₁, N₁⟩ := next h₁ m' (F'.ns.at' fun o e => hk₁ _ o hLw e) fun c o _ hcw e => hk₁ c o hcw e
    have Nown : News g' env.locals h₁ (ownOf g' wr h₁) := news_ownOf hLw
    have hown : ∀ q ∈ ownOf g' wr h₁ ++ keep, ¬ IsLst q.2 := fun q hq => by
      rcases List.mem_append.mp hq with hq | hq
      · exact hwk _ _ hst₁ _ (ownOf_sub q hq) _ (Nown q hq).1
      · exact hkeep q hq
    refine Stores.mono (fun _ _ e => e.elim) (fun _ z => wpAny_mono z (fun f s₃ h₃ => ?_) fun _ _ e => e.elim) (turn i bs g' m' news' (ownOf g' wr h₁ ++ keep) h₁ tk₁ hlt hP B' D' TT' hJ' F₁ (fun p hp => by
      rcases List.mem_append.mp hp with hp | hp
      · exact N₁ p (List.mem_append_left _ hp)
      · rcases List.mem_append.mp hp with hp | hp
        · exact Nown p hp
        · exact N₁ p (List.mem_append_right _ hp)) hown)
    have fin : Turned A₀ b outs g₀ env.locals s (ownOf g' wr h₁ ++ keep) (J (i + 1)) s₃ → ∃ k, k < n + 1 - i ∧ (∃ i g' h' tk m' news', s₃ = { s with heap := h', toks := tk } ∧ i ≤ n ∧ k = n + 1 - i ∧ Below A₀ b outs g' ∧ KtsDicts (fr outs) g' ∧ KtsTurn (fr outs) g₀ g' ∧ (∀ c, g.get? c = none → g'.get? c = none) ∧
      (∀ c o, g.get? c = some o → c ∉ fr outs → g'.get? c = some o) ∧ St i h' ∧ Fr g' env.locals h' m' ∧ News g' env.locals h' (news' ++ keep) ∧ J i m' news' tk) := by
      rintro ⟨g₂, h₂, tk₂, m₂, news₂, rfl, B₂, D₂, TT₂, F₂, N₂, hJ₂⟩
      have none₂ : ∀ c, g.get? c = none → g₂.get? c = none := fun c e => by
        have e0 : g₀.get? c = none := by
          cases q : g₀.get? c with
          | none => rfl
          | some o => obtain ⟨sl, h⟩ := TT.up q; rw [e] at h; cases h
        exact TT₂.none_ _ e0
      have some₂ : ∀ c o, g.get? c = some o → c ∉ fr outs → g₂.get? c = some o := fun c o e hc => by
        cases q : g₀.get? c with
        | none => rw [TT.none_ _ q] at e; cases e
        | some o' =>
          have h1 := TT.other c o' q hc
          rw [e] at h1; cases h1
          exact TT₂.other c o q hc
      refine ⟨n + 1 - (i + 1), by (first | lia | omega), i + 1, g₂, h₂, tk₂, m₂, news₂, rfl, hlt, rfl, B₂, D₂, TT₂, none₂, some₂, ?_, F₂, fun p hp => N₂ p ?_, hJ₂⟩
      · refine Dr.frame _ _ _ hst₁ fun c hc o e => ?_
        rcases hfp c hc with hc' | ⟨hc', o', ho'⟩ | ⟨o', ho'⟩
        · exact (N₂ (c, o) (List.mem_append_right _ (List.mem_append_left _ (mem_ownOf hc' (gn _ (hw c hc').1) e)))).1
        · have h1 := F₁.keep _ _ (gs c o' ho' hc')
          rw [e] at h1; cases h1
          exact F₂.keep _ _ (some₂ c o ho' hc')
        · have h1 := (N₁ _ (List.mem_append_left _ (ho' _ _ _ _ hJ'))).1
          rw [e] at h1; cases h1
          exact (N₂ _ (List.mem_append_left _ (ho' _ _ _ _ hJ₂))).1
      · rcases List.mem_append.mp hp with hp | hp
        · exact List.mem_append_left _ hp
        · exact List.mem_append_right _ (List.mem_append_right _ hp)
    cases f with
    | ret v => exact h₃
    | brk => exact h₃
    | next => exact fin h₃
    | cont => exact fin h₃
  · have hin : i = n := by (first | lia | omega)
    subst hin
    refine Dr.done _ _ _ _ hst' fun h₁ tk₁ hle hk₁ => ?_
    replace hJ' := hJm _ _ _ _ _ hJ' hle
    obtain ⟨F₁, N₁⟩ := next h₁ m' (F'.ns.at' fun o e => hk₁ _ o hLw e) fun c o _ hcw e => hk₁ c o hcw e
    exact done g' m' news' h₁ tk₁ B' D' TT' hJ' F₁ N₁
end
end
section
structure KeptX (X fs : List Addr) (h h' : Heap) : Prop where
  other : ∀ b o, h.get? b = some o → b ∉ X → b ∉ fs → h'.get? b = some o
  frame : ∀ b o, h.get? b = some o → b ∉ X → b ∈ fs → ∃ sl, h'.get? b = some { o with slots := sl }
theorem KeptX.refl {X fs : List Addr} {h : Heap} : KeptX X fs h h := ⟨fun _ _ e _ _ => e, fun _ o e _ _ => ⟨o.slots, e⟩⟩
theorem KeptX.trans {X fs : List Addr} {h h₁ h₂ : Heap} (x : KeptX X fs h h₁) (y : KeptX X fs h₁ h₂) : KeptX X fs h h₂ :=
  ⟨fun b o e m f => y.other b o (x.other b o e m f) m f, fun b o e m f => by
    obtain ⟨s1, h1⟩ := x.frame b o e m f
    obtain ⟨s2, h2⟩ := y.frame b _ h1 m f
    exact ⟨s2, h2⟩⟩
theorem KeptX.mono {X Y fs : List Addr} {h h' : Heap} (x : KeptX X fs h h') (s : ∀ b ∈ X, b ∈ Y) : KeptX Y fs h h' :=
  ⟨fun b o e m f => x.other b o e (fun q => m (s b q)) f, fun b o e m f => x.frame b o e (fun q => m (s b q)) f⟩
theorem KeptX.of_keeps {X fs : List Addr} {h h' : Heap} (k : ∀ b o, b ∉ X → h.get? b = some o → h'.get? b = some o) : KeptX X fs h h' :=
  ⟨fun b o e m _ => k b o m e, fun b o e m _ => ⟨o.slots, k b o m e⟩⟩
theorem KeptX.of_kept {X fs : List Addr} {h h' : Heap} (x : Kept fs h h') : KeptX X fs h h' := ⟨fun b o e _ f => x.other b o e f, fun b o e _ f => x.frame b o e f⟩
theorem KeptX.kept {X fs : List Addr} {h h' : Heap} (x : KeptX X fs h h') (hX : ∀ b ∈ X, h.get? b = none) : Kept fs h h' :=
  ⟨fun b o e f => x.other b o e (fun q => by rw [hX b q] at e; cases e) f, fun b o e f => x.frame b o e (fun q => by rw [hX b q] at e; cases e) f⟩
theorem KeptX.up {X fs : List Addr} {h h' : Heap} (x : KeptX X fs h h') {b : Addr} {o : Obj} (hb : b ∉ X) (e : h.get? b = some o) : ∃ sl, h'.get? b = some { o with slots := sl } := by
  by_cases m : b ∈ fs
  · exact x.frame b o e hb m
  · exact ⟨o.slots, x.other b o e hb m⟩

section
variable {prog : Program} {w : World} {A : Around} {s : Shared} {E : Value → Shared → Prop} {R : Result → Shared → Prop} {cenv : Env} {elt target iter : Expr} {ifs : List Expr} {scope : Scope} {pos : Pos} {I D : Addr} {fp wr fs : List Addr} {n : Nat} {P : Nat → List (Str × Value) → Prop} {St : Nat → Heap → Prop}

noncomputable abbrev testsOf (ifs : List Expr) (cenv : Env) : Sem Bool := forIn ifs true fun c r => if r = true then do let ok ← isTrue c cenv (eval c cenv); pure (ForInStep.yield ok) else pure (ForInStep.yield r)

theorem comp_loopI (Dr : Drive prog w A cenv target (.ref I) fp wr n P St) (hsz : n ≤ sizeLine) (J Jd : Nat → List Value → Heap → Nat → Prop) {W : Heap → Prop} (hwk : ∀ i h, St i h → W h)
    (hst : St 0 s.heap) (hD : s.heap.PlainList D #[]) (hn : ∃ m, s.heap.Ns cenv.locals m) (hJ : J 0 [] s.heap s.toks)
    (hDf : D ∉ fp) (hCf : cenv.locals ∉ fp) (hDC : D ≠ cenv.locals) (hfs : ∀ c ∈ fp, c ∉ fs) (hDs : D ∉ fs) (hCs : cenv.locals ∉ fs)
    (hJs : ∀ i ys h h' tk tk', J i ys h tk → KeptX (cenv.locals :: D :: wr) fs h h' → tk ≤ tk' → W h' → J i ys h' tk') (hJd : ∀ i ys h h' tk tk', J i ys h tk → KeptX (cenv.locals :: D :: wr) fs h h' → tk ≤ tk' → Jd i ys h' tk')
    (turn : ∀ i bs ys h tk m, i < n → P i bs → J i ys h tk → h.Ns cenv.locals m → h.PlainList D ys.toArray → KeptX (cenv.locals :: D :: wr) fs s.heap h →
      Stores (model prog w) A cenv (fun _ _ => False) bs (fun s₁ => wpAny (model prog w) A (testsOf ifs cenv) (fun ok s₂ =>
        if ok = true then wpAny (model prog w) A (eval elt cenv) (fun y s₃ => ∃ h' tk' m', s₃ = { s with heap := h', toks := tk' } ∧ KeptX [cenv.locals] fs h h' ∧ h'.Ns cenv.locals m' ∧ J (i + 1) (ys ++ [y]) h' tk') (fun _ _ => False) s₂
        else ∃ h' tk' m', s₂ = { s with heap := h', toks := tk' } ∧ KeptX [cenv.locals] fs h h' ∧ h'.Ns cenv.locals m' ∧ J (i + 1) ys h' tk') (fun _ _ => False) s₁) { s with heap := h, toks := tk })
    (done : ∀ h tk ys m, h.PlainList D ys.toArray → h.Ns cenv.locals m → Jd n ys h tk → KeptX (cenv.locals :: D :: wr) fs s.heap h → R (.ok .next) { s with heap := h, toks := tk }) :
    codeAny (model prog w) A (.compLoop (.ListComp elt [⟨target, iter, ifs, 0⟩] scope pos) 0 (.ref I) (.ref D) cenv) R s := by
  obtain ⟨m₀, hn⟩ := hn
  refine codeAny_loop rfl (fun k s' => ∃ i h tk m ys, s' = { s with heap := h, toks := tk } ∧ i ≤ n ∧ k = n + 1 - i ∧ St i h ∧ h.PlainList D ys.toArray ∧ h.Ns cenv.locals m ∧ J i ys h tk ∧ ys.length ≤ i ∧ KeptX (cenv.locals :: D :: wr) fs s.heap h) (fun k s' hI => ?_) (n + 1)
    ⟨0, s.heap, s.toks, m₀, [], rfl, Nat.zero_le _, rfl, hst, hD, hn, hJ, Nat.le_refl _, .refl⟩
  obtain ⟨i, h, tk, m, ys, rfl, hi, rfl, hst', hD', hn', hJ', hys, hk⟩ := hI
  show wpAny _ A ((compTurn (.ListComp elt [⟨target, iter, ifs, 0⟩] scope pos) 0 (.ref I) (.ref D) cenv).onRaise (fun x => do noteFrame x cenv; theTreesLotGoes x)) _ _ _
  refine wpAny_noted ?_
  rw [compTurn_list]
  have hwX : ∀ b, b ∉ cenv.locals :: D :: wr → b ∉ wr := fun b hb q => hb (List.mem_cons_of_mem _ (List.mem_cons_of_mem _ q))
  have hDw : D ∉ wr := fun q => hDf (Dr.sub _ q)
  have hCw : cenv.locals ∉ wr := fun q => hCf (Dr.sub _ q)
  by_cases hlt : i < n
  · refine wpAny_bind (wpAny_standAt (wpAny_bind (wpAny_mono (Dr.item i _ (fun _ => False) (fun s₃ => wpAny (model prog w) A (testsOf ifs cenv) (fun ok s₂ =>
        if ok = true then wpAny (model prog w) A (eval elt cenv) (fun y s₃ => ∃ h₁ h' tk' m', s₃ = { s with heap := h', toks := tk' } ∧ KeptX wr fs h h₁ ∧ St (i + 1) h₁ ∧ KeptX [cenv.locals] fs h₁ h' ∧ h'.Ns cenv.locals m' ∧ J (i + 1) (ys ++ [y]) h' tk') (fun _ _ => False) s₂
        else ∃ h₁ h' tk' m', s₂ = { s with heap := h', toks := tk' } ∧ KeptX wr fs h h₁ ∧ St (i + 1) h₁ ∧ KeptX [cenv.locals] fs h₁ h' ∧ h'.Ns cenv.locals m' ∧ J (i + 1) ys h' tk') (fun _ _ => False) s₃) (fun _ _ => False) hlt hst' fun bs h₁ tk₁ hP hle hst₁ hk₁ => ?_) (fun r s₁ h₁ => ?_) fun _ _ e => e.elim)))
    · have hL₁ : KeptX wr fs h h₁ := .of_keeps fun b o hb e => hk₁ b o hb e
      have hk₂ := hL₁.mono (fun b q => List.mem_cons_of_mem cenv.locals (List.mem_cons_of_mem D q))
      refine Stores.mono (fun _ _ e => e.elim) (fun s₃ z => wpAny_mono z (fun ok s₄ z => ?_) fun _ _ e => e.elim) (turn i bs ys h₁ tk₁ m hlt hP (hJs _ _ _ _ _ _ hJ' hk₂ hle (hwk _ _ hst₁)) (hn'.at' fun o e => hk₁ _ o hCw e) (by obtain ⟨nn, e⟩ := hD'; exact ⟨nn, hk₁ D _ hDw e⟩) (hk.trans hk₂))
      cases ok with
      | true =>
        simp only [if_true] at z ⊢
        refine wpAny_mono z (fun y s₅ z => ?_) fun _ _ e => e.elim
        obtain ⟨h', tk', m', rfl, a1, a2, a3⟩ := z
        exact ⟨h₁, h', tk', m', rfl, hL₁, hst₁, a1, a2, a3⟩
      | false =>
        simp only [Bool.false_eq_true, if_false] at z ⊢
        obtain ⟨h', tk', m', rfl, a1, a2, a3⟩ := z
        exact ⟨h₁, h', tk', m', rfl, hL₁, hst₁, a1, a2, a3⟩
    · cases r with
      | none => exact h₁.elim
      | some v =>
        refine wpAny_bind (wpAny_mono h₁ (fun _ s₂ h₂ => wpAny_bind (wpAny_mono h₂ (fun _ s₃ h₃ => wpAny_bind (wpAny_mono h₃ (fun ok s₄ z => ?_) fun _ _ e => e.elim)) fun _ _ e => e.elim)) fun _ _ e => e.elim)
        have stay : ∀ h₁ h', KeptX wr fs h h₁ → St (i + 1) h₁ → KeptX [cenv.locals] fs h₁ h' → St (i + 1) h' := fun h₁ h' k₁ st k₂ =>
          Dr.frame _ _ _ st fun c hc o e => k₂.other c o e (fun q => hCf (List.mem_singleton.mp q ▸ hc)) (hfs c hc)
        have upD : ∀ h₁ h', KeptX wr fs h h₁ → KeptX [cenv.locals] fs h₁ h' → h'.PlainList D ys.toArray := fun h₁ h' k₁ k₂ => by
          obtain ⟨nn, e⟩ := hD'
          exact ⟨nn, k₂.other D _ (k₁.other D _ e hDw hDs) (fun q => hDC (List.mem_singleton.mp q)) hDs⟩
        have tot : ∀ h₁ h', KeptX wr fs h h₁ → KeptX [cenv.locals] fs h₁ h' → KeptX (cenv.locals :: D :: wr) fs s.heap h' := fun h₁ h' k₁ k₂ =>
          hk.trans ((k₁.mono fun b q => List.mem_cons_of_mem _ (List.mem_cons_of_mem _ q)).trans (k₂.mono fun b q => List.mem_singleton.mp q ▸ List.mem_cons_self))
        cases ok with
        | false =>
          simp only [Bool.false_eq_true, if_false] at z ⊢
          obtain ⟨h₁, h', tk', m', rfl, k₁, st₁, k₂, n', j'⟩ := z
          exact wpAny_pure ⟨rfl, n + 1 - (i + 1), by (first | lia | omega), i + 1, h', tk', m', ys, rfl, hlt, rfl, stay _ _ k₁ st₁ k₂, upD _ _ k₁ k₂, n', j', by (first | lia | omega), tot _ _ k₁ k₂⟩
        | true =>
          simp only [if_true] at z ⊢
          refine wpAny_bind (wpAny_bind (wpAny_mono z (fun y s₅ z => ?_) fun _ _ e => e.elim))
          obtain ⟨h₁, h', tk', m', rfl, k₁, st₁, k₂, n', j'⟩ := z
          refine wpAny_bind (wpAny_list_append_plain (upD _ _ k₁ k₂) (fun h₆ hl₆ hs₆ => ?_) (by show ys.toArray.size ≤ _; rw [List.size_toArray]; (first | lia | omega)))
          replace hs₆ : Heap.SameBut D h' h₆ := hs₆
          have k₆ : KeptX (cenv.locals :: D :: wr) fs h' h₆ := .of_keeps fun b o hb e => hs₆.extBut b o (fun q => hb (by rw [show b = D from q]; exact List.mem_cons_of_mem _ List.mem_cons_self)) e
          have st₆ : St (i + 1) h₆ := Dr.frame _ _ _ (stay _ _ k₁ st₁ k₂) fun c hc o e => hs₆.extBut c o (fun q => hDf ((show c = D from q) ▸ hc)) e
          refine wpAny_pure (wpAny_pure ⟨rfl, n + 1 - (i + 1), by (first | lia | omega), i + 1, h₆, tk', m', ys ++ [y], rfl, hlt, rfl, ?_, ?_, n'.sameBut hs₆ (Ne.symm hDC), hJs _ _ _ _ _ _ j' k₆ (Nat.le_refl _) (hwk _ _ st₆), by rw [List.length_append, List.length_singleton]; (first | lia | omega), (tot _ _ k₁ k₂).trans k₆⟩)
          · exact Dr.frame _ _ _ (stay _ _ k₁ st₁ k₂) fun c hc o e => hs₆.extBut c o (fun q => hDf ((show c = D from q) ▸ hc)) e
          · rw [List.push_toArray] at hl₆; exact hl₆
  · have hin : i = n := by (first | lia | omega)
    subst hin
    refine wpAny_bind (wpAny_standAt (wpAny_bind (wpAny_mono (Dr.done _ (fun s₁ => R (.ok .next) s₁) (fun _ => False) (fun _ _ => False) hst' fun h₁ tk₁ hle hk₁ => ?_) (fun r s₁ h₁ => ?_) fun _ _ e => e.elim)))
    · have hL₁ : KeptX wr fs h h₁ := .of_keeps fun b o hb e => hk₁ b o hb e
      have hk₂ := hL₁.mono (fun b q => List.mem_cons_of_mem cenv.locals (List.mem_cons_of_mem D q))
      refine done h₁ tk₁ ys m ?_ (hn'.at' fun o e => hk₁ _ o hCw e) (hJd _ _ _ _ _ _ hJ' hk₂ hle) (hk.trans hk₂)
      obtain ⟨nn, e⟩ := hD'
      exact ⟨nn, hk₁ D _ hDw e⟩
    · cases r with
      | none => exact wpAny_pure h₁
      | some v => 
        refine wpAny_bind (wpAny_mono h₁ (fun _ s₂ h₂ => wpAny_bind (wpAny_mono h₂ (fun _ s₃ h₃ => h₃.elim) fun _ _ e => e.elim)) fun _ _ e => e.elim)
theorem comp_loop (Dr : Drive prog w A cenv target (.ref I) fp wr n P St) (hsz : n ≤ sizeLine) (J : Nat → List Value → Heap → Nat → Prop)
    (hst : St 0 s.heap) (hD : s.heap.PlainList D #[]) (hn : ∃ m, s.heap.Ns cenv.locals m) (hJ : J 0 [] s.heap s.toks)
    (hDf : D ∉ fp) (hCf : cenv.locals ∉ fp) (hDC : D ≠ cenv.locals) (hfs : ∀ c ∈ fp, c ∉ fs) (hDs : D ∉ fs) (hCs : cenv.locals ∉ fs)
    (hJs : ∀ i ys h h' tk tk', J i ys h tk → KeptX (cenv.locals :: D :: wr) fs h h' → tk ≤ tk' → J i ys h' tk')
    (turn : ∀ i bs ys h tk m, i < n → P i bs → J i ys h tk → h.Ns cenv.locals m → h.PlainList D ys.toArray → KeptX (cenv.locals :: D :: wr) fs s.heap h →
      Stores (model prog w) A cenv (fun _ _ => False) bs (fun s₁ => wpAny (model prog w) A (testsOf ifs cenv) (fun ok s₂ =>
        if ok = true then wpAny (model prog w) A (eval elt cenv) (fun y s₃ => ∃ h' tk' m', s₃ = { s with heap := h', toks := tk' } ∧ KeptX [cenv.locals] fs h h' ∧ h'.Ns cenv.locals m' ∧ J (i + 1) (ys ++ [y]) h' tk') (fun _ _ => False) s₂
        else ∃ h' tk' m', s₂ = { s with heap := h', toks := tk' } ∧ KeptX [cenv.locals] fs h h' ∧ h'.Ns cenv.locals m' ∧ J (i + 1) ys h' tk') (fun _ _ => False) s₁) { s with heap := h, toks := tk })
    (done : ∀ h tk ys m, h.PlainList D ys.toArray → h.Ns cenv.locals m → J n ys h tk → KeptX (cenv.locals :: D :: wr) fs s.heap h → R (.ok .next) { s with heap := h, toks := tk }) :
    codeAny (model prog w) A (.compLoop (.ListComp elt [⟨target, iter, ifs, 0⟩] scope pos) 0 (.ref I) (.ref D) cenv) R s :=
  comp_loopI Dr hsz J J (W := fun _ => True) (fun _ _ _ => trivial) hst hD hn hJ hDf hCf hDC hfs hDs hCs (fun i ys h h' tk tk' j k l _ => hJs i ys h h' tk tk' j k l) hJs turn done
end
end
section
theorem KeptX.lift {X Y fs : List Addr} {h h₁ h' : Heap} (x : KeptX X fs h₁ h') (k : ∀ b o, h.get? b = some o → h₁.get? b = some o) (hX : ∀ b ∈ X, b ∈ Y ∨ h.get? b = none) : KeptX Y fs h h' :=
  ⟨fun b o e m f => x.other b o (k b o e) (fun q => (hX b q).elim m fun z => by rw [z] at e; cases e) f, fun b o e m f => x.frame b o (k b o e) (fun q => (hX b q).elim m fun z => by rw [z] at e; cases e) f⟩

section
variable {prog : Program} {w : World} {A : Around} {s s₂ : Shared} {E : Value → Shared → Prop} {R : Result → Shared → Prop} {env : Env} {elt target iter : Expr} {ifs : List Expr} {scope : Scope} {pos : Pos} {I : Addr} {fp wr fs : List Addr} {n : Nat} {P : Nat → List (Str × Value) → Prop} {St : Nat → Heap → Prop} {cl : List (Str × Addr)}

theorem comp_mid {RR : Value → Addr → Result → Shared → Prop} (Dr : ∀ C, Drive prog w A (compEnvC scope cl C env) target (.ref I) fp wr n P St) (hsz : n ≤ sizeLine) (J : Addr → Addr → Nat → List Value → Heap → Nat → Prop)
    (hcell : ∀ y ∈ scope.names, y.2 ≠ .cell) (hkind : scope.kind = .function)
    (hst : St 0 s₂.heap) (hfp : ∀ c ∈ fp, c < s₂.heap.objs.size ∧ c ∉ fs) (hfs : ∀ c ∈ fs, c < s₂.heap.objs.size)
    (hJ : ∀ C D h, s₂.heap.get? C = none → s₂.heap.get? D = none → C ≠ D → KeptX [] fs s₂.heap h → J C D 0 [] h s₂.toks)
    (hJs : ∀ C D i ys h h' tk tk', J C D i ys h tk → KeptX (C :: D :: wr) fs h h' → tk ≤ tk' → J C D i ys h' tk')
    (turn : ∀ C D i bs ys h tk m, s₂.heap.get? C = none → s₂.heap.get? D = none → C ≠ D → i < n → P i bs → J C D i ys h tk → h.Ns C m → (∃ o, h.get? D = some o) → KeptX wr fs s₂.heap h →
      Stores (model prog w) A (compEnvC scope cl C env) (fun _ _ => False) bs (fun s₁ => wpAny (model prog w) A (testsOf ifs (compEnvC scope cl C env)) (fun ok s₃ =>
        if ok = true then wpAny (model prog w) A (eval elt (compEnvC scope cl C env)) (fun y s₃ => ∃ h' tk' m', s₃ = { s₂ with heap := h', toks := tk' } ∧ KeptX [C] fs h h' ∧ h'.Ns C m' ∧ J C D (i + 1) (ys ++ [y]) h' tk') (fun _ _ => False) s₃
        else ∃ h' tk' m', s₃ = { s₂ with heap := h', toks := tk' } ∧ KeptX [C] fs h h' ∧ h'.Ns C m' ∧ J C D (i + 1) ys h' tk') (fun _ _ => False) s₁) { s₂ with heap := h, toks := tk })
    (done : ∀ C D h tk ys m, s₂.heap.get? C = none → s₂.heap.get? D = none → C ≠ D → h.PlainList D ys.toArray → h.Ns C m → J C D n ys h tk → KeptX wr fs s₂.heap h → RR (.ref D) C (.ok .next) { s₂ with heap := h, toks := tk }) :
    wpAny (model prog w) A (newList []) (fun acc s₃ => wpAny (model prog w) A (newFunctionEnv scope env.globals cl [] env.qual none .none (some env)) (fun cenv s₄ =>
      codeAny (model prog w) A (.compStart (.ListComp elt [⟨target, iter, ifs, 0⟩] scope pos) 0 (.ref I) acc { cenv with scope := relabel scope env }) (RR acc cenv.locals) s₄) E s₃) E s₂ := by
  refine wpAny_newObj_type (wpAny_newFunctionEnv hcell (by intro y hy; simp at hy) (fun h₁ hns₁ hsb₁ => ?_) hkind)
  dsimp only at hns₁ hsb₁ ⊢
  generalize hH2 : s₂.heap.push { cls := .type "list", dict := none, data := .seq ([] : List Value).toArray } = H2 at hns₁ hsb₁ ⊢
  have hC : H2.objs.size = s₂.heap.objs.size + 1 := by rw [← hH2, Heap.size_push]
  have hDC : s₂.heap.objs.size ≠ H2.objs.size := by rw [hC]; exact Nat.ne_of_lt (Nat.lt_succ_self _)
  have below : ∀ b, b < s₂.heap.objs.size → b ≠ H2.objs.size ∧ b ≠ s₂.heap.objs.size := fun b hb => ⟨by rw [hC]; exact Nat.ne_of_lt (Nat.lt_succ_of_lt hb), Nat.ne_of_lt hb⟩
  have hDf : s₂.heap.objs.size ∉ fp := fun hm => Nat.lt_irrefl _ (hfp _ hm).1
  have hCf : H2.objs.size ∉ fp := fun hm => by have := (hfp _ hm).1; rw [hC] at this; exact Nat.lt_irrefl _ (Nat.lt_of_succ_lt this)
  have old : ∀ b o, s₂.heap.get? b = some o → h₁.get? b = some o := fun b o e => hsb₁.extBut b o (below b (Heap.lt_size e)).1 (Heap.get?_push_of_some _ (hH2 ▸ Heap.get?_push_of_some _ e))
  have hacc : h₁.PlainList s₂.heap.objs.size #[] := ⟨_, hsb₁.extBut _ _ hDC (Heap.get?_push_of_some _ (hH2 ▸ Heap.get?_push_size _ rfl))⟩
  have fresh : ∀ a, s₂.heap.objs.size ≤ a → s₂.heap.get? a = none := fun a ha => by
    cases e : s₂.heap.get? a with
    | none => rfl
    | some o' => exact absurd (Heap.lt_size e) (Nat.not_lt.mpr ha)
  have fD := fresh s₂.heap.objs.size (Nat.le_refl _)
  have fC := fresh H2.objs.size (by rw [hC]; exact Nat.le_succ _)
  have hst₁ : St 0 h₁ := (Dr H2.objs.size).frame _ _ _ hst fun b _ o e => old b o e
  have lift : ∀ {h}, KeptX (H2.objs.size :: s₂.heap.objs.size :: wr) fs h₁ h → KeptX wr fs s₂.heap h := fun x => x.lift old fun b hb => by
    rcases List.mem_cons.mp hb with rfl | hb
    · exact .inr fC
    · rcases List.mem_cons.mp hb with rfl | hb
      · exact .inr fD
      · exact .inl hb
  have hDs : s₂.heap.objs.size ∉ fs := fun hm => Nat.lt_irrefl _ (hfs _ hm)
  have loop : codeAny (model prog w) A (.compLoop (.ListComp elt [⟨target, iter, ifs, 0⟩] scope pos) 0 (.ref I) (.ref s₂.heap.objs.size) (compEnvC scope cl H2.objs.size env))
        (RR (.ref s₂.heap.objs.size) H2.objs.size) { s₂ with heap := h₁, toks := s₂.toks + ([] : List (Str × Value)).length } := by
    refine comp_loop (s := { s₂ with heap := h₁, toks := s₂.toks + ([] : List (Str × Value)).length }) (Dr _) hsz (J H2.objs.size s₂.heap.objs.size) hst₁ hacc ⟨_, hns₁⟩ (hJ _ _ _ fC fD (Ne.symm hDC) (.of_keeps fun b o _ e => old b o e)) hDf hCf hDC (fun c hc => (hfp c hc).2)
      hDs (fun hm => by have := hfs _ hm; rw [hC] at this; exact Nat.lt_irrefl _ (Nat.lt_of_succ_lt this)) (hJs _ _) ?_ ?_
    · intro i bs ys h tk m hi hP hJi hn hpl hk
      obtain ⟨nn, e⟩ := hpl
      exact turn H2.objs.size s₂.heap.objs.size i bs ys h tk m fC fD (Ne.symm hDC) hi hP hJi hn ⟨_, e⟩ (lift hk)
    · intro h tk ys m hp hn hJn hk
      exact done _ _ h tk ys m fC fD (Ne.symm hDC) hp hn hJn (lift hk)
  exact codeAny_compStart_list loop ((Dr H2.objs.size).self 0 _ _ _ hst₁ loop)
end
end
section
section
variable {prog : Program} {w : World} {A₀ A : Around} {s : Shared} {b g g₀ h' : Heap} {outs : List Env} {m : Str → Option Value} {L : Addr} {news : List (Addr × Obj)}

theorem after_kept (B : Below A₀ b outs g) (D : KtsDicts (fr outs) g) (TT : KtsTurn (fr outs) g₀ g) (F : Fr g L s.heap m) (N : News g L s.heap news) (hk : Kept (L :: fr outs) s.heap h') :
    ∃ g', Below A₀ b outs g' ∧ KtsDicts (fr outs) g' ∧ KtsTurn (fr outs) g₀ g' ∧ Fr g' L h' m ∧ News g' L h' news ∧ (∀ r o, s.heap.get? r = none → h'.get? r = some o → News g' L h' [(r, o)]) := by
  have hLg := kts_self F
  have hne : ∀ c o, g.get? c = some o → c ≠ L := fun c o e q => by rw [q, hLg] at e; cases e
  obtain ⟨g', T', S', B', D'⟩ := reground (h' := h') B D
    (fun c o e hm => hk.other c o (F.keep c o e) fun hm' => (List.mem_cons.mp hm').elim (hne c o e) hm)
    (fun c o e hm => hk.frame c o (F.keep c o e) (List.mem_cons_of_mem _ hm))
  have nof : ∀ c, g.get? c = none → c ∉ fr outs := fun c e hm => by
    obtain ⟨o, _, _, ho, _⟩ := D c hm
    rw [ho] at e; cases e
  refine ⟨g', B', D', TT.trans T', ⟨hk.ns F.ns, S', by rw [T'.size]; exact F.above⟩, (fun q hq => ?_), (fun r o hr ho => ?_)⟩
  · obtain ⟨n1, n2, n3⟩ := N q hq
    exact ⟨hk.other _ _ n1 fun hm => (List.mem_cons.mp hm).elim n2 (nof _ n3), n2, T'.none_ _ n3⟩
  · intro q hq
    rw [List.mem_singleton.mp hq]
    refine ⟨ho, fun q => ?_, T'.none_ _ ?_⟩
    · obtain ⟨oL, _, _, e, _⟩ := F.ns
      have q' : r = L := q
      rw [q', e] at hr; cases hr
    · cases e : g.get? r with
      | none => rfl
      | some o' => rw [F.keep _ _ e] at hr; cases hr
end
noncomputable abbrev FinC (prog : Program) (w : World) (A : Around) (E : Value → Shared → Prop) (fs : List Addr) (s : Shared) (n : Nat) (J : Addr → Addr → Nat → List Value → Heap → Nat → Prop) (use : Option (Value → Sem Unit)) (Q : Value → Shared → Prop) : Prop :=
  ∀ C D ys h tk m, s.heap.get? C = none → s.heap.get? D = none → C ≠ D → h.Ns C m → h.PlainList D ys.toArray → J C D n ys h tk → Kept fs s.heap h → compPost (model prog w) A E use Q (.ref D) C (.ok .next) { s with heap := h, toks := tk }
noncomputable abbrev TurnC (prog : Program) (w : World) (A : Around) (fs : List Addr) (env : Env) (scope : Scope) (cl : List (Str × Addr)) (elt : Expr) (ifs : List Expr) (s : Shared) (n : Nat) (P : Nat → List (Str × Value) → Prop) (J : Addr → Addr → Nat → List Value → Heap → Nat → Prop) : Prop :=
  ∀ C D i bs ys h tk m, s.heap.get? C = none → s.heap.get? D = none → C ≠ D → i < n → P i bs → J C D i ys h tk → h.Ns C m → (∃ o, h.get? D = some o) → Kept fs s.heap h →
      Stores (model prog w) A (compEnvC scope cl C env) (fun _ _ => False) bs (fun s₁ => wpAny (model prog w) A (testsOf ifs (compEnvC scope cl C env)) (fun ok s₃ =>
        if ok = true then wpAny (model prog w) A (eval elt (compEnvC scope cl C env)) (fun y s₃ => ∃ h' tk' m', s₃ = { s with heap := h', toks := tk' } ∧ KeptX [C] fs h h' ∧ h'.Ns C m' ∧ J C D (i + 1) (ys ++ [y]) h' tk') (fun _ _ => False) s₃
        else ∃ h' tk' m', s₃ = { s with heap := h', toks := tk' } ∧ KeptX [C] fs h h' ∧ h'.Ns C m' ∧ J C D (i + 1) ys h' tk') (fun _ _ => False) s₁) { s with heap := h, toks := tk }

section
variable {prog : Program} {w : World} {A : Around} {s : Shared} {E : Value → Shared → Prop} {R : Result → Shared → Prop} {env : Env} {elt target iter : Expr} {ifs : List Expr} {scope : Scope} {pos : Pos} {I : Addr} {fp wr fs : List Addr} {n : Nat} {P : Nat → List (Str × Value) → Prop} {St : Nat → Heap → Prop} {cl : List (Str × Addr)} {use : Option (Value → Sem Unit)} {Q : Value → Shared → Prop}

noncomputable abbrev CompRun (prog : Program) (w : World) (A : Around) (E : Value → Shared → Prop) (env : Env) (scope : Scope) (cl : List (Str × Addr)) (e : Expr) (use : Option (Value → Sem Unit)) (Q : Value → Shared → Prop) (it : Value) (s₂ : Shared) : Prop :=
  wpAny (model prog w) A (newList []) (fun acc s₃ => wpAny (model prog w) A (newFunctionEnv scope env.globals cl [] env.qual none .none (some env)) (fun cenv s₄ =>
      codeAny (model prog w) A (.compStart e 0 it acc { cenv with scope := relabel scope env }) (compPost (model prog w) A E use Q acc cenv.locals) s₄) E s₃) E s₂

theorem comp_from {s₂ : Shared} {h₂ : Heap} {tk₂ : Nat} (hs₂ : s₂ = { s with heap := h₂, toks := tk₂ }) (htk : s.toks = tk₂) (hold : ∀ c o, s.heap.get? c = some o → h₂.get? c = some o) (hwn : ∀ c ∈ wr, s.heap.get? c = none)
    (Dr : ∀ C, Drive prog w A (compEnvC scope cl C env) target (.ref I) fp wr n P St) (hsz : n ≤ sizeLine) (J : Addr → Addr → Nat → List Value → Heap → Nat → Prop)
    (hcell : ∀ y ∈ scope.names, y.2 ≠ .cell) (hkind : scope.kind = .function)
    (hst : St 0 h₂) (hfp : ∀ c ∈ fp, c < h₂.objs.size ∧ c ∉ fs) (hfs : ∀ c ∈ fs, c < h₂.objs.size)
    (hJ : ∀ C D h, s.heap.get? C = none → s.heap.get? D = none → C ≠ D → Kept fs s.heap h → J C D 0 [] h s.toks)
    (hJs : ∀ C D i ys h h' tk tk', J C D i ys h tk → KeptX (C :: D :: wr) fs h h' → tk ≤ tk' → J C D i ys h' tk')
    (turn : TurnC prog w A fs env scope cl elt ifs s n P J)
    (fin : FinC prog w A E fs s n J use Q) :
    CompRun prog w A E env scope cl (.ListComp elt [⟨target, iter, ifs, 0⟩] scope pos) use Q (.ref I) s₂ := by
  subst hs₂
  subst htk
  have fresh : ∀ c, h₂.get? c = none → s.heap.get? c = none := fun c e => by
    cases q : s.heap.get? c with
    | none => rfl
    | some o => rw [hold c o q] at e; cases e
  have kept : ∀ {h : Heap}, KeptX wr fs h₂ h → Kept fs s.heap h := fun x => (x.lift (Y := []) hold fun c hc => .inr (hwn c hc)).kept fun _ hb => nomatch hb
  refine comp_mid (s₂ := { s with heap := h₂, toks := s.toks }) Dr hsz J hcell hkind hst hfp hfs (fun C D h f1 f2 ne k => hJ C D h (fresh C f1) (fresh D f2) ne (kept (k.mono fun _ hb => nomatch hb))) hJs
    (fun C D i bs ys h tk m f1 f2 ne hi hP hJi hn hD hk => turn C D i bs ys h tk m (fresh C f1) (fresh D f2) ne hi hP hJi hn hD (kept hk))
    (fun C D h tk ys m f1 f2 ne hp hn hJn hk => fin C D ys h tk m (fresh C f1) (fresh D f2) ne hn hp hJn (kept hk))

theorem comp_list {l : Addr} {vs : List Value} {x : Str} {px : Pos} (hl : s.heap.IsList l vs.toArray) (hh : A.handled = none) (hsz : vs.length ≤ sizeLine) (J : Addr → Addr → Nat → List Value → Heap → Nat → Prop)
    (hcell : ∀ y ∈ scope.names, y.2 ≠ .cell) (hkind : scope.kind = .function) (hfs : ∀ c ∈ fs, c < s.heap.objs.size) (hls : l ∉ fs)
    (hJ : ∀ C D h, s.heap.get? C = none → s.heap.get? D = none → C ≠ D → Kept fs s.heap h → J C D 0 [] h s.toks)
    (hJs : ∀ C D I i ys h h' tk tk', J C D i ys h tk → KeptX [C, D, I] fs h h' → tk ≤ tk' → s.heap.get? I = none → J C D i ys h' tk')
    (turn : TurnC prog w A fs env scope cl elt ifs s vs.length (fun i bs => ∃ v, vs[i]? = some v ∧ bs = [(x, v)]) J)
    (fin : FinC prog w A E fs s vs.length J use Q) :
    wpAny (model prog w) A (pyIter (.ref l)) (CompRun prog w A E env scope cl (.ListComp elt [⟨.Name x px, iter, ifs, 0⟩] scope pos) use Q) E s := by
  refine wpAny_pyIter_list hl ?_
  have hlt : l < s.heap.objs.size := by obtain ⟨_, e, _⟩ := hl; exact Heap.lt_size e
  have hsz' : (s.heap.push { cls := .type "list_iterator", data := .fields #[.ref l, .int 0 0] }).objs.size = s.heap.objs.size + 1 := Heap.size_push ..
  have fI : s.heap.get? s.heap.objs.size = none := Heap.get?_none_of_le (Nat.le_refl _)
  have hsize : vs.toArray.size = vs.length := by simp
  refine comp_from (wr := [s.heap.objs.size]) (fp := [s.heap.objs.size, l]) (n := vs.length) rfl rfl (fun c o e => Heap.get?_push_of_some _ e) (fun c hc => by rw [List.mem_singleton.mp hc]; exact fI)
    (fun C => Drive.name (P := fun i v => vs[i]? = some v) ?_) hsz J hcell hkind (St := fun i h => h.IsListIter s.heap.objs.size l i ∧ h.IsList l vs.toArray) ⟨⟨_, Heap.get?_push_size _ rfl, rfl, rfl⟩, hl.push _⟩ (fun c hc => ?_) (fun c hc => by rw [hsz']; exact Nat.lt_succ_of_lt (hfs c hc)) hJ
    (fun C D i ys h h' tk tk' j k hle => hJs C D s.heap.objs.size i ys h h' tk tk' j k hle fI) turn fin
  · have W := Walks.list (prog := prog) (w := w) hh s.heap.objs.size l (Nat.ne_of_lt hlt) vs.toArray
    rw [hsize] at W
    simpa using W
  · rw [hsz']
    rcases List.mem_cons.mp hc with rfl | hc
    · exact ⟨Nat.lt_succ_self _, fun hm => Nat.lt_irrefl _ (hfs _ hm)⟩
    · rw [List.mem_singleton.mp hc]; exact ⟨Nat.lt_succ_of_lt hlt, hls⟩

theorem comp_range {r : Addr} {a b c : Int} {t u v : Tok} {x : Str} {px : Pos}
    (hr : IsRange s.heap r a b c t u v) (hsm : Builtin.Range.small a b c = true) (hn : Builtin.Range.rangeSize a b c = ((n : Nat) : Int)) (hh : A.handled = none) (hsz : n ≤ sizeLine) (J : Addr → Addr → Nat → List Value → Heap → Nat → Prop)
    (hcell : ∀ y ∈ scope.names, y.2 ≠ .cell) (hkind : scope.kind = .function) (hfs : ∀ c ∈ fs, c < s.heap.objs.size)
    (hJ : ∀ C D h, s.heap.get? C = none → s.heap.get? D = none → C ≠ D → Kept fs s.heap h → J C D 0 [] h s.toks)
    (hJs : ∀ C D I i ys h h' tk tk', J C D i ys h tk → KeptX [C, D, I] fs h h' → tk ≤ tk' → s.heap.get? I = none → J C D i ys h' tk')
    (turn : TurnC prog w A fs env scope cl elt ifs s n (fun i bs => ∃ t, bs = [(x, .int (a + (i : Int) * c) t)]) J)
    (fin : FinC prog w A E fs s n J use Q) :
    wpAny (model prog w) A (pyIter (.ref r)) (CompRun prog w A E env scope cl (.ListComp elt [⟨.Name x px, iter, ifs, 0⟩] scope pos) use Q) E s := by
  refine wpAny_pyIter_range hr hsm ?_
  have hsz' : (s.heap.push { cls := .type "range_iterator", data := .fields #[rawInt a, rawInt (Builtin.Range.rangeSize a b c), rawInt c] }).objs.size = s.heap.objs.size + 1 := Heap.size_push ..
  have fI : s.heap.get? s.heap.objs.size = none := Heap.get?_none_of_le (Nat.le_refl _)
  refine comp_from (wr := [s.heap.objs.size]) (fp := [s.heap.objs.size]) (n := n) (s := s) rfl rfl (fun c o e => Heap.get?_push_of_some _ e) (fun c hc => by rw [List.mem_singleton.mp hc]; exact fI)
    (fun C => ?_) hsz J hcell hkind (St := fun i h => IsRangeIter h s.heap.objs.size (a + (i : Nat) * c) ((n : Int) - (i : Nat)) c) (by show IsRangeIter _ _ _ _ _; rw [hn]; simpa using Heap.get?_push_size _ rfl) (fun c hc => ?_) (fun c hc => by rw [hsz']; exact Nat.lt_succ_of_lt (hfs c hc)) hJ
    (fun C D i ys h h' tk tk' j k hle => hJs C D s.heap.objs.size i ys h h' tk tk' j k hle fI) turn fin
  · have Dr := Drive.name (env := compEnvC scope cl C env) (x := x) (pos := px) (Walks.range (prog := prog) (w := w) hh s.heap.objs.size a c n)
    exact { Dr with item := fun i s Kd Ki E hi st hQ => Dr.item i s Kd Ki E hi st fun bs h' tk hP => hQ bs h' tk (by obtain ⟨v, ⟨t, rfl⟩, rfl⟩ := hP; exact ⟨t, rfl⟩) }
  · rw [hsz', List.mem_singleton.mp hc]
    exact ⟨Nat.lt_succ_self _, fun hm => Nat.lt_irrefl _ (hfs _ hm)⟩

theorem comp_zip {l1 l2 : Addr} {xs ys : List Value} {x y : Str} {px py tp : Pos} {tk : Nat} (hl1 : s.heap.IsList l1 xs.toArray) (hl2 : s.heap.IsList l2 ys.toArray) (hn : min xs.length ys.length = n) (hh : A.handled = none) (hsz : n ≤ sizeLine) (J : Addr → Addr → Nat → List Value → Heap → Nat → Prop)
    (hcell : ∀ y ∈ scope.names, y.2 ≠ .cell) (hkind : scope.kind = .function) (hfs : ∀ c ∈ fs, c < s.heap.objs.size) (hls1 : l1 ∉ fs) (hls2 : l2 ∉ fs)
    (hJ : ∀ C D h, s.heap.get? C = none → s.heap.get? D = none → C ≠ D → Kept fs s.heap h → J C D 0 [] h s.toks)
    (hJs : ∀ C D X i ys h h' tk tk', J C D i ys h tk → KeptX (C :: D :: X) fs h h' → tk ≤ tk' → (∀ c ∈ X, s.heap.get? c = none) → J C D i ys h' tk')
    (turn : TurnC prog w A fs env scope cl elt ifs s n (fun i bs => ∃ u v, xs[i]? = some u ∧ ys[i]? = some v ∧ bs = [(x, u), (y, v)]) J)
    (fin : FinC prog w A E fs s n J use Q) :
    wpAny (model prog w) A (call (.type "zip") [.ref l1, .ref l2]) (fun xv s₁ => wpAny (model prog w) A (pyIter xv) (CompRun prog w A E env scope cl (.ListComp elt [⟨.Tuple [.Name x px, .Name y py] tk tp, iter, ifs, 0⟩] scope pos) use Q) E s₁) E s := by
  refine call_zip_2 hl1 hl2 fun h₁ hz hTI hTO hi1 hi2 hsz₁ hk₁ => ?_
  have lt1 : @LT.lt Nat _ l1 s.heap.objs.size := by obtain ⟨_, e, _⟩ := hl1; exact Heap.lt_size e
  have lt2 : @LT.lt Nat _ l2 s.heap.objs.size := by obtain ⟨_, e, _⟩ := hl2; exact Heap.lt_size e
  have fI : ∀ k, s.heap.get? (s.heap.objs.size + k) = none := fun k => Heap.get?_none_of_le (Nat.le_add_right _ _)
  refine wpAny_pyIter_zip (s := { s with heap := h₁ }) hz ?_
  have Ap : ZipApart (s.heap.objs.size + 4) (s.heap.objs.size + 2) (s.heap.objs.size + 3) s.heap.objs.size (s.heap.objs.size + 1) l1 l2 := by
    constructor <;> (intro q; have q' : @Eq Nat _ _ := q; (first | lia | omega))
  have hsx : min xs.toArray.size ys.toArray.size = n := by simpa using hn
  have st0 : (fun i h => IsZip h (s.heap.objs.size + 4) (s.heap.objs.size + 2) (s.heap.objs.size + 3) .none ∧ IsPair h (s.heap.objs.size + 2) (.ref s.heap.objs.size) (.ref (s.heap.objs.size + 1)) ∧ (∃ a b, IsPair h (s.heap.objs.size + 3) a b) ∧ h.IsListIter s.heap.objs.size l1 i ∧ h.IsListIter (s.heap.objs.size + 1) l2 i ∧ h.IsList l1 xs.toArray ∧ h.IsList l2 ys.toArray) 0 h₁ :=
    ⟨hz, hTI, ⟨_, _, hTO⟩, hi1, hi2, hl1.at fun o e => hk₁ _ o e, hl2.at fun o e => hk₁ _ o e⟩
  have W := WalksT.zip2 (prog := prog) (w := w) hh (s.heap.objs.size + 4) (s.heap.objs.size + 2) (s.heap.objs.size + 3) s.heap.objs.size (s.heap.objs.size + 1) l1 l2 Ap xs.toArray ys.toArray
  rw [hsx] at W
  refine comp_from (s := s) (tk₂ := s.toks) rfl rfl hk₁ ?_ (fun C => Drive.pair (P := fun i u v => xs[i]? = some u ∧ ys[i]? = some v) W (fun i vals hv => ?_) hh ?_) hsz J hcell hkind st0 ?_ ?_ hJ ?_ ?_ fin
  · intro c hc
    simp only [List.mem_cons, List.not_mem_nil, or_false] at hc
    rcases hc with rfl | rfl | rfl | rfl
    · exact fI 4
    · exact fI 3
    · exact fI 0
    · exact fI 1
  · obtain ⟨u, v, e1, e2, rfl⟩ := hv
    exact ⟨u, v, ⟨by simpa using e1, by simpa using e2⟩, rfl⟩
  · intro i h st c hc
    obtain ⟨a1, a2, ⟨_, _, a3⟩, ⟨_, a4, _⟩, ⟨_, a5, _⟩, ⟨_, a6, _⟩, ⟨_, a7, _⟩⟩ := st
    simp only [List.mem_cons, List.not_mem_nil, or_false] at hc
    rcases hc with rfl | rfl | rfl | rfl | rfl | rfl | rfl
    · exact ⟨_, a1⟩
    · exact ⟨_, a2⟩
    · exact ⟨_, a3⟩
    · exact ⟨_, a4⟩
    · exact ⟨_, a5⟩
    · exact ⟨_, a6⟩
    · exact ⟨_, a7⟩
  · intro c hc
    rw [hsz₁]
    have lt5 : ∀ k : Nat, k < 5 → @LT.lt Nat _ (s.heap.objs.size + k) (s.heap.objs.size + 5) := fun k hk => by (first | lia | omega)
    have nf : ∀ k : Nat, s.heap.objs.size + k ∉ fs := fun k hm => by have z : @LT.lt Nat _ _ _ := hfs _ hm; (first | lia | omega)
    simp only [List.mem_cons, List.not_mem_nil, or_false] at hc
    rcases hc with rfl | rfl | rfl | rfl | rfl | rfl | rfl
    · exact ⟨lt5 4 (by decide), nf 4⟩
    · exact ⟨lt5 2 (by decide), nf 2⟩
    · exact ⟨lt5 3 (by decide), nf 3⟩
    · exact ⟨lt5 0 (by decide), nf 0⟩
    · exact ⟨lt5 1 (by decide), nf 1⟩
    · exact ⟨Nat.lt_of_lt_of_le lt1 (Nat.le_add_right _ _), hls1⟩
    · exact ⟨Nat.lt_of_lt_of_le lt2 (Nat.le_add_right _ _), hls2⟩
  · intro c hc
    rw [hsz₁]
    have z : @LT.lt Nat _ c _ := hfs c hc
    exact Nat.lt_of_lt_of_le z (Nat.le_add_right _ _)
  · intro C D i ys h h' tk tk' j k hle
    refine hJs C D _ i ys h h' tk tk' j k hle fun c hc => ?_
    simp only [List.mem_cons, List.not_mem_nil, or_false] at hc
    rcases hc with rfl | rfl | rfl | rfl
    · exact fI 4
    · exact fI 3
    · exact fI 0
    · exact fI 1
  · intro C D i bs ys' h tk m f1 f2 ne hi hP
    refine turn C D i bs ys' h tk m f1 f2 ne hi ?_
    obtain ⟨u, v, ⟨e1, e2⟩, rfl⟩ := hP
    exact ⟨u, v, e1, e2, rfl⟩
end
end
section
noncomputable abbrev lst (ys : List Value) (nn : Nat) : Obj := PySem.W.listOf ys.toArray nn
theorem isLst_lst {ys : List Value} {nn : Nat} : IsLst (lst ys nn) := .inl rfl
theorem isLst_cell {o : Obj} {v : Option Value} (h : o.data = .cell v) : IsLst o := .inr ⟨v, h⟩

theorem news_sub {g h : Heap} {L : Addr} {l l' : List (Addr × Obj)} (N : News g L h l) (hs : ∀ p ∈ l', p ∈ l) : News g L h l' := fun p hp => N p (hs p hp)
theorem news_cons {g h : Heap} {L : Addr} {p : Addr × Obj} {l : List (Addr × Obj)} (N₁ : News g L h [p]) (N : News g L h l) : News g L h (p :: l) := fun q hq => (List.mem_cons.mp hq).elim (fun e => N₁ q (e ▸ List.mem_singleton.mpr rfl)) (N q)

section
variable {prog : Program} {w : World} {A₀ A : Around} {s : Shared} {E : Value → Shared → Prop} {env : Env} {b g g₀ : Heap} {outs : List Env} {m : Str → Option Value} {L : Addr} {news : List (Addr × Obj)} {n : Nat} {Q : Value → Shared → Prop} {QF : Flow → Shared → Prop}

theorem fin_expr {J : Addr → Addr → Nat → List Value → Heap → Nat → Prop} (B : Below A₀ b outs g) (D : KtsDicts (fr outs) g) (TT : KtsTurn (fr outs) g₀ g) (F : Fr g L s.heap m) (N : News g L s.heap news)
    (hJC : ∀ C Dd ys h h' tk, J C Dd n ys h tk → Heap.SameBut C h h' → J C Dd n ys h' tk)
    (k : ∀ g' C Dd ys nn h tk, s.heap.get? Dd = none → (∀ q ∈ news, q.1 ≠ Dd) → Below A₀ b outs g' → KtsDicts (fr outs) g' → KtsTurn (fr outs) g₀ g' → Fr g' L h m → News g' L h ((Dd, lst ys nn) :: news) → Kept (L :: fr outs) s.heap h → J C Dd n ys h tk → Q (.ref Dd) { s with heap := h, toks := tk }) :
    FinC prog w A E (L :: fr outs) s n J none Q := by
  intro C Dd ys h tk m' fC fD ne hn hp hJ hk
  refine ⟨m', hn, fun h' hs => ?_⟩
  replace hs : Heap.SameBut C h h' := hs
  have hk' : Kept (L :: fr outs) s.heap h' := ⟨fun c o e f => hs.extBut c o (fun q => by rw [q, fC] at e; cases e) (hk.other c o e f), fun c o e f => by
    obtain ⟨sl, e'⟩ := hk.frame c o e f
    exact ⟨sl, hs.extBut c _ (fun q => by rw [q, fC] at e; cases e) e'⟩⟩
  obtain ⟨g', B', D', TT', F', N', new⟩ := after_kept B D TT F N hk'
  obtain ⟨nn, e⟩ := hp
  exact k g' C Dd ys nn h' tk fD (fun q hq z => by have := (N q hq).1; rw [z, fD] at this; cases this) B' D' TT' F' (news_cons (new Dd _ fD (hs.extBut Dd _ (Ne.symm ne) e)) N') hk' (hJC _ _ _ _ _ _ hJ hs)

theorem fin_assign {J : Addr → Addr → Nat → List Value → Heap → Nat → Prop} {y : Str} {py : Pos} (B : Below A₀ b outs g) (D : KtsDicts (fr outs) g) (TT : KtsTurn (fr outs) g₀ g) (hL : env.locals = L) (F : Fr g L s.heap m) (N : News g L s.heap news)
    (hy : env.kindOf y = some .local) (hp : (env.scope.kind == .class || (env.scope.kind == .module && env.locals != env.globals)) = false)
    (k : ∀ g' C Dd ys nn h₀ h tk₀ tk, s.heap.get? Dd = none → (∀ q ∈ news, q.1 ≠ Dd) → s.heap.get? C = none → Below A₀ b outs g' → KtsDicts (fr outs) g' → KtsTurn (fr outs) g₀ g' → Fr g' L h (fun z => if z = y then some (.ref Dd) else m z) → News g' L h ((Dd, lst ys nn) :: news) →
      J C Dd n ys h₀ tk₀ → tk₀ ≤ tk → Kept (L :: fr outs) s.heap h₀ → (∀ c o, c ≠ L → c ≠ C → h₀.get? c = some o → h.get? c = some o) → ∀ v, Q v { s with heap := h, toks := tk }) :
    FinC prog w A E (L :: fr outs) s n J (some (assign (.Name y py) env)) Q := by
  subst hL
  intro C Dd ys h tk m' fC fD ne hn hpl hJ hk
  obtain ⟨g', B', D', TT', F', N', new⟩ := after_kept B D TT F N hk
  obtain ⟨nn, e⟩ := hpl
  have hCL : C ≠ env.locals := fun q => by obtain ⟨o, _, _, e, _⟩ := F.ns; rw [← q, fC] at e; cases e
  have N₁ := news_cons (new Dd _ fD e) N'
  refine wpAny_assign_Name (wpAny_storeName_local hy F'.ns (fun h₁ hn₁ hs₁ => ?_) hp)
  replace hs₁ : Heap.SameBut env.locals h h₁ := hs₁
  refine ⟨m', hn.sameBut hs₁ hCL, fun h₂ hs₂ => ?_⟩
  replace hs₂ : Heap.SameBut C h₁ h₂ := hs₂
  have F₁ := F'.set hn₁ hs₁
  have N₁' := N₁.set hs₁
  have offC : ∀ q ∈ (Dd, lst ys nn) :: news, q.1 ≠ C := fun q hq z => by
    rcases List.mem_cons.mp hq with rfl | hq
    · exact ne z.symm
    · have := (N q hq).1; rw [z, fC] at this; cases this
  have gC : ∀ c o, g'.get? c = some o → c ≠ C := fun c o e z => by
    have g0 : g.get? C = none := by
      cases q : g.get? C with
      | none => rfl
      | some o' => have := F.keep _ _ q; rw [fC] at this; cases this
    have g00 : g₀.get? C = none := by
      cases q : g₀.get? C with
      | none => rfl
      | some o' => obtain ⟨sl, h⟩ := TT.up q; rw [g0] at h; cases h
    rw [z, TT'.none_ _ g00] at e; cases e
  refine k g' C Dd ys nn h h₂ tk _ fD (fun q hq z => by have := (N q hq).1; rw [z, fD] at this; cases this) fC B' D' TT' ⟨F₁.ns.sameBut hs₂ (Ne.symm hCL), fun c o e => hs₂.extBut c o (gC c o e) (F₁.keep c o e), F₁.above⟩ (fun q hq => ⟨hs₂.extBut _ _ (offC q hq) (N₁' q hq).1, (N₁' q hq).2⟩) hJ (by first | exact Nat.le_refl _ | exact Nat.le_succ _) hk (fun c o hcL hcC e => hs₂.extBut c o hcC (hs₁.extBut c o hcL e)) _
end

section
variable {prog : Program} {w : World} {A₀ A : Around} {s : Shared} {E : Value → Shared → Prop} {env : Env} {scope : Scope} {cl : List (Str × Addr)} {elt target iter : Expr} {ifs : List Expr} {pos spos : Pos} {Q : Value → Shared → Prop} {QF : Flow → Shared → Prop}

theorem comp_eval (hclos : closureFor scope env = pure cl) (hkind : scope.kind = .function) (hnames : ∀ y ∈ scope.names, y.2 = .local → scope.names.lookup y.1 = some .local)
    (h : wpAny (model prog w) A (eval iter env) (fun xv s₁ => wpAny (model prog w) A (pyIter xv) (CompRun prog w A E env scope cl (.ListComp elt [⟨target, iter, ifs, 0⟩] scope pos) none Q) E s₁) E s)
    (hs : ∀ x, foldedSetIterable iter env x = pure x) :
    wpAny (model prog w) A (eval (.ListComp elt [⟨target, iter, ifs, 0⟩] scope pos) env) Q E s := by
  rw [eval_ListComp]
  exact wpAny_comprehension_free (use := none) rfl hs hclos hkind hnames h

theorem comp_assign {y : Str} {py : Pos} (hsw : swapsWith (.ListComp elt [⟨target, iter, ifs, 0⟩] scope pos) (some (.Name y py)) spos.line env = pure true)
    (hclos : closureFor scope env = pure cl) (hkind : scope.kind = .function) (hnames : ∀ y ∈ scope.names, y.2 = .local → scope.names.lookup y.1 = some .local)
    (h : wpAny (model prog w) A (eval iter env) (fun xv s₁ => wpAny (model prog w) A (pyIter xv) (CompRun prog w A E env scope cl (.ListComp elt [⟨target, iter, ifs, 0⟩] scope pos) (some (assign (.Name y py) env)) (fun _ s' => QF .next s')) E s₁) E s)
    (hs : ∀ x, foldedSetIterable iter env x = pure x) :
    wpAny (model prog w) A (exec (.Assign [.Name y py] (.ListComp elt [⟨target, iter, ifs, 0⟩] scope pos) spos) env) QF E s := by
  rw [exec_Assign_Name_used _ _ _ _ hsw]
  refine wpAny_bind (wpAny_standAt (wpAny_bind ?_))
  show wpAny _ A (do let _ ← comprehension (.ListComp elt [⟨target, iter, ifs, 0⟩] scope pos) scope env _ (newList []) false (eval iter env) (some (assign (.Name y py) env))) _ _ s
  exact wpAny_bind (wpAny_mono (wpAny_comprehension_free (use := some (assign (.Name y py) env)) (Q := fun _ s' => QF .next s') rfl hs hclos hkind hnames h) (fun _ s' hq => wpAny_pure (wpAny_pure hq)) fun _ _ e => e)
end
end
section
noncomputable abbrev ForTurn (prog : Program) (w : World) (A₀ A : Around) (b : Heap) (outs : List Env) (g₀ : Heap) (env : Env) (body : List Stmt) (s : Shared) (R : Result → Shared → Prop) (n : Nat) (P : Nat → List (Str × Value) → Prop) (J : Nat → (Str → Option Value) → List (Addr × Obj) → Nat → Prop) : Prop :=
  ∀ i bs g₁ m₁ news₁ own h tk, i < n → P i bs → Below A₀ b outs g₁ → KtsDicts (fr outs) g₁ → KtsTurn (fr outs) g₀ g₁ → J i m₁ news₁ tk → Fr g₁ env.locals h m₁ → News g₁ env.locals h (news₁ ++ own) → (∀ q ∈ own, ¬ IsLst q.2) →
      Stores (model prog w) A env (fun _ _ => False) bs (fun s₁ => wpAny (model prog w) A (execs body env) (fun f s' => match f with
        | .ret v => R (.ok (.ret v)) s'
        | .brk => R (.ok .next) s'
        | _ => Turned A₀ b outs g₀ env.locals s own (J (i + 1)) s') (fun _ _ => False) s₁) { s with heap := h, toks := tk }
noncomputable abbrev ForDone (prog : Program) (w : World) (A₀ A : Around) (b : Heap) (outs : List Env) (g₀ : Heap) (env : Env) (orelse : List Stmt) (s : Shared) (R : Result → Shared → Prop) (n : Nat) (keep : List (Addr × Obj)) (J : Nat → (Str → Option Value) → List (Addr × Obj) → Nat → Prop) : Prop :=
  ∀ g₁ m₁ news₁ h tk, Below A₀ b outs g₁ → KtsDicts (fr outs) g₁ → KtsTurn (fr outs) g₀ g₁ → J n m₁ news₁ tk → Fr g₁ env.locals h m₁ → News g₁ env.locals h (news₁ ++ keep) →
      wpAny (model prog w) A (execs orelse env) (fun f s₃ => R (.ok f) s₃) (notedBy (model prog w) A env fun e s' => R (.error e) s') { s with heap := h, toks := tk }

section
variable {prog : Program} {w : World} {A₀ A : Around} {s : Shared} {E : Value → Shared → Prop} {b g g₀ : Heap} {outs : List Env} {R : Result → Shared → Prop} {m : Str → Option Value}
  {news keep : List (Addr × Obj)} {env : Env} {n : Nat} {body orelse : List Stmt}

theorem list_off {l : Addr} {vs : Array Value} (D : KtsDicts (fr outs) g) (F : Fr g env.locals s.heap m) (hl : s.heap.IsList l vs) : l ∉ env.locals :: fr outs := fun hm => by
  rcases List.mem_cons.mp hm with rfl | hm
  · obtain ⟨o', es, k, e, hd, _⟩ := F.ns
    obtain ⟨o, e', _, _, hd'⟩ := hl
    rw [e] at e'
    cases e'
    rw [hd] at hd'
    cases hd'
  · obtain ⟨o', es, k, e, hd⟩ := D l hm
    obtain ⟨o, e', _, _, hd'⟩ := hl
    rw [F.keep _ _ e] at e'
    cases e'
    rw [hd] at hd'
    cases hd'

theorem fs_lt (D : KtsDicts (fr outs) g) (F : Fr g env.locals s.heap m) : ∀ c ∈ env.locals :: fr outs, c < s.heap.objs.size := fun c hc => by
  rcases List.mem_cons.mp hc with rfl | hc
  · exact F.ns.lt
  · obtain ⟨o, _, _, e, _⟩ := D c hc
    exact Heap.lt_size (F.keep _ _ e)

theorem for_from {target : Expr} {I : Addr} {fp wr : List Addr} {P : Nat → List (Str × Value) → Prop} {St : Nat → Heap → Prop} {h₂ : Heap} {tk₂ : Nat} (hold : ∀ c o, s.heap.get? c = some o → h₂.get? c = some o) (hwn : ∀ c ∈ wr, s.heap.get? c = none)
    (Dr : Drive prog w A env target (.ref I) fp wr n P St) (B : Below A₀ b outs g) (D : KtsDicts (fr outs) g) (TT : KtsTurn (fr outs) g₀ g) (F : Fr g env.locals s.heap m) (N : News g env.locals s.heap (news ++ keep))
    (hst : St 0 h₂) (hwk : ∀ i h, St i h → ∀ c ∈ wr, ∃ o, h.get? c = some o ∧ ¬ IsLst o) (hkeep : ∀ q ∈ keep, ¬ IsLst q.2)
    (J : Nat → (Str → Option Value) → List (Addr × Obj) → Nat → Prop) (hJ : J 0 m news s.toks) (hJl : ∀ i m news tk, J i m news tk → ∀ p ∈ news, IsLst p.2) (hJm : ∀ i m news tk tk', J i m news tk → tk ≤ tk' → J i m news tk')
    (hfp : ∀ c ∈ fp, c ∈ wr ∨ (∃ vs, s.heap.IsList c vs) ∧ ((∃ o, g.get? c = some o) ∨ ∃ o, ∀ i m news tk, J i m news tk → (c, o) ∈ news))
    (turn : ForTurn prog w A₀ A b outs g₀ env body s R n P J) (done : ForDone prog w A₀ A b outs g₀ env orelse s R n keep J) :
    s.toks = tk₂ → codeAny (model prog w) A (.forLoop target (.ref I) body orelse env) R { s with heap := h₂, toks := tk₂ } := by
  rintro rfl
  have hLs : ∀ c, s.heap.get? c = none → c ≠ env.locals := fun c e q => by obtain ⟨o, _, _, e', _⟩ := F.ns; rw [← q, e] at e'; cases e'
  have hg : ∀ c, s.heap.get? c = none → g.get? c = none := fun c e => by
    cases q : g.get? c with
    | none => rfl
    | some o => rw [F.keep _ _ q] at e; cases e
  have hL : env.locals ∉ fp := fun hm => by
    rcases hfp _ hm with hc | ⟨⟨vs, hc⟩, _⟩
    · exact hLs _ (hwn _ hc) rfl
    · exact list_off D F hc (List.mem_cons_self)
  exact for_use (s := { s with heap := h₂, toks := s.toks }) Dr B D TT ⟨F.ns.at' fun o e => hold _ o e, fun c o e => hold _ _ (F.keep c o e), F.above⟩ (fun p hp => ⟨hold _ _ (N p hp).1, (N p hp).2⟩)
    hL hst (fun c hc => ⟨hg c (hwn c hc), fun p hp q => by have := (N p (List.mem_append_right _ hp)).1; rw [q, hwn c hc] at this; cases this⟩)
    (fun i h st c hc o e => by obtain ⟨o', e', hn⟩ := hwk i h st c hc; rw [e] at e'; cases e'; exact hn) hkeep J hJ hJl hJm (fun i h st c hc => by obtain ⟨o', e', _⟩ := hwk i h st c hc; exact ⟨o', e'⟩)
    (fun c hc => by
      rcases hfp c hc with h1 | ⟨⟨vs, h1⟩, h2⟩
      · exact .inl h1
      · rcases h2 with ⟨o, h2⟩ | h2
        · exact .inr (.inl ⟨fun hm => list_off D F h1 (List.mem_cons_of_mem _ hm), o, h2⟩)
        · exact .inr (.inr h2)) turn done

theorem notLst_iter {o : Obj} {n : String} (hn : n ≠ "list") (h : o.cls = .type n) (hd : ∀ v, o.data ≠ .cell v) : ¬ IsLst o := fun x => by
  rcases x with x | ⟨v, x⟩
  · rw [h] at x; cases x; exact hn rfl
  · exact hd v x

theorem Drive.more {target : Expr} {it : Value} {fp wr wr' : List Addr} {P : Nat → List (Str × Value) → Prop} {St : Nat → Heap → Prop} (Dr : Drive prog w A env target it fp wr n P St) (h1 : ∀ c ∈ wr, c ∈ wr') (h2 : ∀ c ∈ wr', c ∈ fp) : Drive prog w A env target it fp wr' n P St where
  sub := h2
  frame := Dr.frame
  item := fun i s Kd Ki E hi st hQ => Dr.item i s Kd Ki E hi st fun bs h' tk hP hle st' hk => hQ bs h' tk hP hle st' fun c o hc e => hk c o (fun q => hc (h1 c q)) e
  done := fun s Kd Ki E st hQ => Dr.done s Kd Ki E st fun h' tk hle hk => hQ h' tk hle fun c o hc e => hk c o (fun q => hc (h1 c q)) e
  self := Dr.self

theorem for_list {l : Addr} {vs : List Value} {x : Str} {px : Pos} (hl : s.heap.IsList l vs.toArray) (hh : A.handled = none) (B : Below A₀ b outs g) (D : KtsDicts (fr outs) g) (TT : KtsTurn (fr outs) g₀ g) (F : Fr g env.locals s.heap m) (N : News g env.locals s.heap (news ++ keep))
    (hkeep : ∀ q ∈ keep, ¬ IsLst q.2) (J : Nat → (Str → Option Value) → List (Addr × Obj) → Nat → Prop) (hJ : J 0 m news s.toks) (hJl : ∀ i m news tk, J i m news tk → ∀ p ∈ news, IsLst p.2) (hJm : ∀ i m news tk tk', J i m news tk → tk ≤ tk' → J i m news tk')
    (hls : (∃ o, g.get? l = some o) ∨ ∃ o, ∀ i m news tk, J i m news tk → (l, o) ∈ news)
    (turn : ForTurn prog w A₀ A b outs g₀ env body s R vs.length (fun i bs => ∃ v, vs[i]? = some v ∧ bs = [(x, v)]) J) (done : ForDone prog w A₀ A b outs g₀ env orelse s R vs.length keep J) :
    wpAny (model prog w) A (pyIter (.ref l)) (fun it s₂ => codeAny (model prog w) A (.forLoop (.Name x px) it body orelse env) R s₂) E s := by
  refine wpAny_pyIter_list hl ?_
  have hlt : l < s.heap.objs.size := by obtain ⟨_, e, _⟩ := hl; exact Heap.lt_size e
  have fI : s.heap.get? s.heap.objs.size = none := Heap.get?_none_of_le (Nat.le_refl _)
  have hsize : vs.toArray.size = vs.length := by simp
  have W := Walks.list (prog := prog) (w := w) hh s.heap.objs.size l (Nat.ne_of_lt hlt) vs.toArray
  rw [hsize] at W
  refine for_from (wr := [s.heap.objs.size]) (fp := [s.heap.objs.size, l]) (St := fun i h => h.IsListIter s.heap.objs.size l i ∧ h.IsList l vs.toArray) (P := fun i bs => ∃ v, vs[i]? = some v ∧ bs = [(x, v)]) (tk₂ := s.toks) (fun c o e => Heap.get?_push_of_some _ e) (fun c hc => by rw [List.mem_singleton.mp hc]; exact fI)
    (Drive.name (P := fun i v => vs[i]? = some v) (by simpa using W)) B D TT F N ⟨⟨_, Heap.get?_push_size _ rfl, rfl, rfl⟩, hl.push _⟩ (fun i h st c hc => ?_) hkeep J hJ hJl hJm (fun c hc => ?_) turn done rfl
  · rw [List.mem_singleton.mp hc]
    obtain ⟨⟨o, e, hc, hd⟩, _⟩ := st
    exact ⟨o, e, notLst_iter (n := "list_iterator") (by decide) hc fun v q => by rw [hd] at q; cases q⟩
  · rcases List.mem_cons.mp hc with rfl | hc
    · exact .inl (List.mem_singleton.mpr rfl)
    · rw [List.mem_singleton.mp hc]; exact .inr ⟨⟨_, hl⟩, hls⟩

theorem for_range {r : Addr} {a bb c : Int} {t u v : Tok} {x : Str} {px : Pos} (hr : IsRange s.heap r a bb c t u v) (hsm : Builtin.Range.small a bb c = true) (hn : Builtin.Range.rangeSize a bb c = ((n : Nat) : Int)) (hh : A.handled = none)
    (B : Below A₀ b outs g) (D : KtsDicts (fr outs) g) (TT : KtsTurn (fr outs) g₀ g) (F : Fr g env.locals s.heap m) (N : News g env.locals s.heap (news ++ keep))
    (hkeep : ∀ q ∈ keep, ¬ IsLst q.2) (J : Nat → (Str → Option Value) → List (Addr × Obj) → Nat → Prop) (hJ : J 0 m news s.toks) (hJl : ∀ i m news tk, J i m news tk → ∀ p ∈ news, IsLst p.2) (hJm : ∀ i m news tk tk', J i m news tk → tk ≤ tk' → J i m news tk')
    (turn : ForTurn prog w A₀ A b outs g₀ env body s R n (fun i bs => ∃ t, bs = [(x, .int (a + (i : Int) * c) t)]) J) (done : ForDone prog w A₀ A b outs g₀ env orelse s R n keep J) :
    wpAny (model prog w) A (pyIter (.ref r)) (fun it s₂ => codeAny (model prog w) A (.forLoop (.Name x px) it body orelse env) R s₂) E s := by
  refine wpAny_pyIter_range hr hsm ?_
  have fI : s.heap.get? s.heap.objs.size = none := Heap.get?_none_of_le (Nat.le_refl _)
  have Dr := Drive.name (env := env) (x := x) (pos := px) (Walks.range (prog := prog) (w := w) hh s.heap.objs.size a c n)
  refine for_from (wr := [s.heap.objs.size]) (fp := [s.heap.objs.size]) (St := fun i h => IsRangeIter h s.heap.objs.size (a + (i : Nat) * c) ((n : Int) - (i : Nat)) c) (P := fun i bs => ∃ t, bs = [(x, .int (a + (i : Int) * c) t)]) (tk₂ := s.toks) (fun c o e => Heap.get?_push_of_some _ e) (fun c hc => by rw [List.mem_singleton.mp hc]; exact fI)
    { Dr with item := fun i s Kd Ki E hi st hQ => Dr.item i s Kd Ki E hi st fun bs h' tk hP => hQ bs h' tk (by obtain ⟨v, ⟨t, rfl⟩, rfl⟩ := hP; exact ⟨t, rfl⟩) }
    B D TT F N (by show IsRangeIter _ _ _ _ _; rw [hn]; simpa using Heap.get?_push_size _ rfl) (fun i h st c hc => ?_) hkeep J hJ hJl hJm (fun c hc => .inl hc) turn done rfl
  rw [List.mem_singleton.mp hc]
  exact ⟨_, st, notLst_iter (n := "range_iterator") (by decide) rfl fun v q => by cases q⟩

theorem for_zip {l1 l2 : Addr} {xs ys : List Value} {x y : Str} {px py tp : Pos} {tk : Nat} (hl1 : s.heap.IsList l1 xs.toArray) (hl2 : s.heap.IsList l2 ys.toArray) (hn : min xs.length ys.length = n) (hh : A.handled = none)
    (B : Below A₀ b outs g) (D : KtsDicts (fr outs) g) (TT : KtsTurn (fr outs) g₀ g) (F : Fr g env.locals s.heap m) (N : News g env.locals s.heap (news ++ keep))
    (hkeep : ∀ q ∈ keep, ¬ IsLst q.2) (J : Nat → (Str → Option Value) → List (Addr × Obj) → Nat → Prop) (hJ : J 0 m news s.toks) (hJl : ∀ i m news tk, J i m news tk → ∀ p ∈ news, IsLst p.2) (hJm : ∀ i m news tk tk', J i m news tk → tk ≤ tk' → J i m news tk')
    (hls1 : (∃ o, g.get? l1 = some o) ∨ ∃ o, ∀ i m news tk, J i m news tk → (l1, o) ∈ news) (hls2 : (∃ o, g.get? l2 = some o) ∨ ∃ o, ∀ i m news tk, J i m news tk → (l2, o) ∈ news)
    (turn : ForTurn prog w A₀ A b outs g₀ env body s R n (fun i bs => ∃ u v, xs[i]? = some u ∧ ys[i]? = some v ∧ bs = [(x, u), (y, v)]) J) (done : ForDone prog w A₀ A b outs g₀ env orelse s R n keep J) :
    wpAny (model prog w) A (call (.type "zip") [.ref l1, .ref l2]) (fun xv s₁ => wpAny (model prog w) A (pyIter xv) (fun it s₂ => codeAny (model prog w) A (.forLoop (.Tuple [.Name x px, .Name y py] tk tp) it body orelse env) R s₂) E s₁) E s := by
  refine call_zip_2 hl1 hl2 fun h₁ hz hTI hTO hi1 hi2 hsz₁ hk₁ => ?_
  have lt1 : @LT.lt Nat _ l1 s.heap.objs.size := by obtain ⟨_, e, _⟩ := hl1; exact Heap.lt_size e
  have lt2 : @LT.lt Nat _ l2 s.heap.objs.size := by obtain ⟨_, e, _⟩ := hl2; exact Heap.lt_size e
  have fI : ∀ k, s.heap.get? (s.heap.objs.size + k) = none := fun k => Heap.get?_none_of_le (Nat.le_add_right _ _)
  refine wpAny_pyIter_zip (s := { s with heap := h₁ }) hz ?_
  have Ap : ZipApart (s.heap.objs.size + 4) (s.heap.objs.size + 2) (s.heap.objs.size + 3) s.heap.objs.size (s.heap.objs.size + 1) l1 l2 := by
    constructor <;> (intro q; have q' : @Eq Nat _ _ := q; (first | lia | omega))
  have hsx : min xs.toArray.size ys.toArray.size = n := by simpa using hn
  have W := WalksT.zip2 (prog := prog) (w := w) hh (s.heap.objs.size + 4) (s.heap.objs.size + 2) (s.heap.objs.size + 3) s.heap.objs.size (s.heap.objs.size + 1) l1 l2 Ap xs.toArray ys.toArray
  rw [hsx] at W
  have st0 : (fun i h => IsZip h (s.heap.objs.size + 4) (s.heap.objs.size + 2) (s.heap.objs.size + 3) .none ∧ IsPair h (s.heap.objs.size + 2) (.ref s.heap.objs.size) (.ref (s.heap.objs.size + 1)) ∧ (∃ a b, IsPair h (s.heap.objs.size + 3) a b) ∧ h.IsListIter s.heap.objs.size l1 i ∧ h.IsListIter (s.heap.objs.size + 1) l2 i ∧ h.IsList l1 xs.toArray ∧ h.IsList l2 ys.toArray) 0 h₁ :=
    ⟨hz, hTI, ⟨_, _, hTO⟩, hi1, hi2, hl1.at fun o e => hk₁ _ o e, hl2.at fun o e => hk₁ _ o e⟩
  have Dr := Drive.pair (env := env) (x := x) (y := y) (px := px) (py := py) (pos := tp) (k := tk) (P := fun i u v => xs[i]? = some u ∧ ys[i]? = some v) W (fun i vals hv => by
    obtain ⟨u, v, e1, e2, rfl⟩ := hv
    exact ⟨u, v, ⟨by simpa using e1, by simpa using e2⟩, rfl⟩) hh (fun i h st c hc => by
    obtain ⟨a1, a2, ⟨_, _, a3⟩, ⟨_, a4, _⟩, ⟨_, a5, _⟩, ⟨_, a6, _⟩, ⟨_, a7, _⟩⟩ := st
    simp only [List.mem_cons, List.not_mem_nil, or_false] at hc
    rcases hc with rfl | rfl | rfl | rfl | rfl | rfl | rfl
    · exact ⟨_, a1⟩
    · exact ⟨_, a2⟩
    · exact ⟨_, a3⟩
    · exact ⟨_, a4⟩
    · exact ⟨_, a5⟩
    · exact ⟨_, a6⟩
    · exact ⟨_, a7⟩)
  have Dr' := Dr.more (wr' := [s.heap.objs.size + 4, s.heap.objs.size + 2, s.heap.objs.size + 3, s.heap.objs.size, s.heap.objs.size + 1]) (fun c hc => by
    simp only [List.mem_cons, List.not_mem_nil, or_false] at hc ⊢
    rcases hc with rfl | rfl | rfl | rfl <;> simp) (fun c hc => by
    simp only [List.mem_cons, List.not_mem_nil, or_false] at hc ⊢
    rcases hc with rfl | rfl | rfl | rfl | rfl <;> simp)
  refine for_from (tk₂ := s.toks) (news := news) (keep := keep) hk₁ ?_ { Dr' with item := fun i s Kd Ki E hi st hQ => Dr'.item i s Kd Ki E hi st fun bs h' tk hP => hQ bs h' tk (by obtain ⟨u, v, ⟨e1, e2⟩, rfl⟩ := hP; exact ⟨u, v, e1, e2, rfl⟩) } B D TT F N st0 ?_ hkeep J hJ hJl hJm ?_ turn done rfl
  · intro c hc
    simp only [List.mem_cons, List.not_mem_nil, or_false] at hc
    rcases hc with rfl | rfl | rfl | rfl | rfl
    · exact fI 4
    · exact fI 2
    · exact fI 3
    · exact fI 0
    · exact fI 1
  · intro i h st c hc
    obtain ⟨a1, a2, ⟨_, _, a3⟩, ⟨o4, a4, c4, d4⟩, ⟨o5, a5, c5, d5⟩, _, _⟩ := st
    simp only [List.mem_cons, List.not_mem_nil, or_false] at hc
    rcases hc with rfl | rfl | rfl | rfl | rfl
    · exact ⟨_, a1, notLst_iter (n := "zip") (by decide) rfl fun v q => by cases q⟩
    · exact ⟨_, a2, notLst_iter (n := "tuple") (by decide) rfl fun v q => by cases q⟩
    · exact ⟨_, a3, notLst_iter (n := "tuple") (by decide) rfl fun v q => by cases q⟩
    · exact ⟨_, a4, notLst_iter (n := "list_iterator") (by decide) c4 fun v q => by rw [d4] at q; cases q⟩
    · exact ⟨_, a5, notLst_iter (n := "list_iterator") (by decide) c5 fun v q => by rw [d5] at q; cases q⟩
  · intro c hc
    simp only [List.mem_cons, List.not_mem_nil, or_false] at hc ⊢
    rcases hc with rfl | rfl | rfl | rfl | rfl | rfl | rfl
    · exact .inl (.inl rfl)
    · exact .inl (.inr (.inl rfl))
    · exact .inl (.inr (.inr (.inl rfl)))
    · exact .inl (.inr (.inr (.inr (.inl rfl))))
    · exact .inl (.inr (.inr (.inr (.inr rfl))))
    · exact .inr ⟨⟨_, hl1⟩, hls1⟩
    · exact .inr ⟨⟨_, hl2⟩, hls2⟩

theorem for_enum {l : Addr} {vs : List Value} {x y : Str} {px py tp : Pos} {tk : Nat} (hl : s.heap.IsList l vs.toArray) (hh : A.handled = none)
    (B : Below A₀ b outs g) (D : KtsDicts (fr outs) g) (TT : KtsTurn (fr outs) g₀ g) (F : Fr g env.locals s.heap m) (N : News g env.locals s.heap (news ++ keep))
    (hkeep : ∀ q ∈ keep, ¬ IsLst q.2) (J : Nat → (Str → Option Value) → List (Addr × Obj) → Nat → Prop) (hJ : J 0 m news s.toks) (hJl : ∀ i m news tk, J i m news tk → ∀ p ∈ news, IsLst p.2) (hJm : ∀ i m news tk tk', J i m news tk → tk ≤ tk' → J i m news tk')
    (hls : (∃ o, g.get? l = some o) ∨ ∃ o, ∀ i m news tk, J i m news tk → (l, o) ∈ news)
    (turn : ForTurn prog w A₀ A b outs g₀ env body s R vs.length (fun i bs => ∃ t v, vs[i]? = some v ∧ bs = [(x, .int (i : Int) t), (y, v)]) J) (done : ForDone prog w A₀ A b outs g₀ env orelse s R vs.length keep J) :
    wpAny (model prog w) A (call (.type "enumerate") [.ref l]) (fun xv s₁ => wpAny (model prog w) A (pyIter xv) (fun it s₂ => codeAny (model prog w) A (.forLoop (.Tuple [.Name x px, .Name y py] tk tp) it body orelse env) R s₂) E s₁) E s := by
  refine call_enumerate_list hl fun h₁ he hi hsz₁ hk₁ => ?_
  have lt1 : @LT.lt Nat _ l s.heap.objs.size := by obtain ⟨_, e, _⟩ := hl; exact Heap.lt_size e
  have fI : ∀ k, s.heap.get? (s.heap.objs.size + k) = none := fun k => Heap.get?_none_of_le (Nat.le_add_right _ _)
  refine wpAny_pyIter_enum (s := { s with heap := h₁ }) he ?_
  have ne1 : s.heap.objs.size + 1 ≠ s.heap.objs.size := Nat.succ_ne_self _
  have ne2 : l ≠ s.heap.objs.size + 1 := fun q => by have q' : @Eq Nat _ _ := q; (first | lia | omega)
  have ne3 : l ≠ s.heap.objs.size := fun q => by have q' : @Eq Nat _ _ := q; (first | lia | omega)
  have W := WalksT.enumerate (prog := prog) (w := w) hh (s.heap.objs.size + 1) s.heap.objs.size l ne1 ne2 ne3 vs.toArray
  have hsize : vs.toArray.size = vs.length := by simp
  rw [hsize] at W
  have st0 : (fun (i : Nat) h => (∃ old, IsEnum h (s.heap.objs.size + 1) s.heap.objs.size i old) ∧ h.IsListIter s.heap.objs.size l i ∧ h.IsList l vs.toArray) 0 h₁ := ⟨⟨_, he⟩, hi, hl.at fun o e => hk₁ _ o e⟩
  have Dr := Drive.pair (env := env) (x := x) (y := y) (px := px) (py := py) (pos := tp) (k := tk) (P := fun i u v => ∃ t, vs[i]? = some v ∧ u = .int (i : Int) t) W (fun i vals hv => by
    obtain ⟨t, v, e1, rfl⟩ := hv
    exact ⟨_, v, ⟨t, by simpa using e1, rfl⟩, rfl⟩) hh (fun i h st c hc => by
    obtain ⟨⟨_, a1⟩, ⟨_, a4, _⟩, ⟨_, a6, _⟩⟩ := st
    simp only [List.mem_cons, List.not_mem_nil, or_false] at hc
    rcases hc with rfl | rfl | rfl
    · exact ⟨_, a1⟩
    · exact ⟨_, a4⟩
    · exact ⟨_, a6⟩)
  refine for_from (tk₂ := s.toks) (news := news) (keep := keep) hk₁ ?_ { Dr with item := fun i s Kd Ki E hi st hQ => Dr.item i s Kd Ki E hi st fun bs h' tk hP => hQ bs h' tk (by obtain ⟨u, v, ⟨t, e1, rfl⟩, rfl⟩ := hP; exact ⟨t, v, e1, rfl⟩) } B D TT F N st0 ?_ hkeep J hJ hJl hJm ?_ turn done rfl
  · intro c hc
    simp only [List.mem_cons, List.not_mem_nil, or_false] at hc
    rcases hc with rfl | rfl
    · exact fI 1
    · exact fI 0
  · intro i h st c hc
    obtain ⟨⟨_, a1⟩, ⟨o4, a4, c4, d4⟩, _⟩ := st
    simp only [List.mem_cons, List.not_mem_nil, or_false] at hc
    rcases hc with rfl | rfl
    · exact ⟨_, a1, notLst_iter (n := "enumerate") (by decide) rfl fun v q => by cases q⟩
    · exact ⟨_, a4, notLst_iter (n := "list_iterator") (by decide) c4 fun v q => by rw [d4] at q; cases q⟩
  · intro c hc
    simp only [List.mem_cons, List.not_mem_nil, or_false] at hc ⊢
    rcases hc with rfl | rfl | rfl
    · exact .inl (.inl rfl)
    · exact .inl (.inr rfl)
    · exact .inr ⟨⟨_, hl⟩, hls⟩
end
end
section
noncomputable def pyIdx (vs : List α) (k : Int) : Option α := if 0 ≤ k then vs[k.toNat]? else if -(vs.length : Int) ≤ k then vs[(k + vs.length).toNat]? else none

section
variable {prog : Program} {w : World} {A : Around} {E : Value → Shared → Prop} {s : Shared}
theorem item_in {l : Addr} {vs : List Value} {k : Int} {u : Tok} {v : Value} {value slice : Expr} {Q : Value → Shared → Prop} (hl : s.heap.IsList l vs.toArray) (hk : -(2 ^ 60) ≤ k ∧ k < 2 ^ 60) (hx : pyIdx vs k = some v) (h : Q v s)
    (hs : subscripted slice false (.ref l) (.int k u) = operate [.ref l, .int k u] (getItem (.ref l) (.int k u))) :
    wpAny (model prog w) A (subscriptTail value slice (.ref l) (.int k u)) Q E s := by
  refine tail_any hl.typeIs slot_list_getitem.lookup ?_ hs
  unfold pyIdx at hx
  have e1 : (2 : Int) ^ 60 < 2 ^ 63 := by decide
  have e2 : -(2 : Int) ^ 63 ≤ -(2 ^ 60) := by decide
  by_cases h0 : 0 ≤ k
  · rw [if_pos h0] at hx
    exact wpAny_getItem_list hl h0 (Int.lt_trans hk.2 e1) (by simpa using hx) h
  · rw [if_neg h0] at hx
    by_cases h1 : -(vs.length : Int) ≤ k
    · rw [if_pos h1] at hx
      exact wpAny_getItem_list_neg hl (by (first | lia | omega)) (by simpa using h1) (Int.le_trans e2 hk.1) (by simpa using hx) h
    · rw [if_neg h1] at hx; cases hx
end
end
section
structure Air (fs : List Addr) (h₀ h : Heap) (e : Addr) (cls c2 : Value) (fl : Option Value) : Prop where
  kept : Kept fs h₀ h
  new : h₀.get? e = none
  there : ∃ oe vs, h.get? e = some oe ∧ oe.cls = cls ∧ oe.data = .fields vs ∧ vs[2]? = some c2 ∧ 5 < vs.size ∧ (match fl with
    | none => vs[1]? = some .none
    | some f => ∃ t oT ts, vs[1]? = some (.ref t) ∧ h₀.get? t = none ∧ t ≠ e ∧ h.get? t = some oT ∧ oT.data = .fields ts ∧ ts[3]? = some f)

section
variable {M : Model} {A : Around} {E : Value → Shared → Prop} {s : Shared} {base h₀ : Heap} {env : Env} {outer : List Env} {L e : Addr} {cls c2 : Value} {fl : Option Value}
theorem entry_new {oe : Obj} {vs : Array Value} {head : Value} {hadNext : Bool} {Q : Unit → Shared → Prop}
    (hfr : A.frames = some (env :: outer)) (hl : s.heap.FunFrames base (env :: outer)) (hf : env.frame = some L)
    (he : s.heap.get? e = some oe) (hd : oe.data = .fields vs) (hsz : 1 < vs.size)
    (h : ∀ h' t oT ts, (∀ b o, b ≠ e → b ∉ fr (env :: outer) → s.heap.get? b = some o → h'.get? b = some o) → (∀ b o, b ∈ fr (env :: outer) → s.heap.get? b = some o → ∃ sl, h'.get? b = some { o with slots := sl }) →
      s.heap.get? t = none → t ≠ e → h'.get? e = some (oe.mapFields (·.setIfInBounds 1 (.ref t))) → h'.get? t = some oT → oT.data = .fields ts → ts[3]? = some (rawInt L) → Q () { s with heap := h' }) :
    wpAny M A (do let a ← frameOf env; let pl ← entryPlaceOf L hadNext; let b ← EntryCells.newEntry head a .none (rawInt L) .none pl; setField (.ref e) 1 b) Q E s := by
  have notFrame : e ∉ fr (env :: outer) := fun hm => by
    obtain ⟨_, o, ho, hnf⟩ := hl.mem hm
    rw [he] at ho; cases ho
    exact hnf vs hd
  refine wpAny_bind (wpAny_frameOf_fun hfr hl hf fun h₁ hs₁ => ?_)
  refine wpAny_bind (wpAny_entryPlaceOf fun pl hpl => ?_)
  unfold EntryCells.newEntry newFields
  refine wpAny_bind (wpAny_newObj_type ?_ (hpl.sizeOk5 _ _ _ _ _))
  have he₁ : h₁.get? e = some oe := (hs₁.2.1 e notFrame).trans he
  generalize hto : ({ cls := .type "traceback", dict := none, data := .fields ([head, .ref L, .none, rawInt L, .none] ++ (if pl.isEmpty then List.replicate 6 Value.none else pl)).toArray } : Obj) = ot
  have he₂ := Heap.get?_push_of_some (h := h₁) ot he₁
  have hot : ot.isFreed = false := by rw [← hto]; rfl
  have hTe : h₁.objs.size ≠ e := Nat.ne_of_gt (Heap.lt_size he₁)
  refine wpAny_setField he₂ hd hsz (h _ h₁.objs.size ot _ (fun b o hb hm e' => ?_) (fun b o hm e' => ?_) ?_ hTe (Heap.get?_update_self _ he₂ (Obj.isFreed_of_fields (Obj.data_mapFields hd _))) ?_ (by rw [← hto]) ?_)
  · exact (Heap.get?_update_other _ _ (Ne.symm hb)).trans (Heap.get?_push_of_some _ ((hs₁.2.1 b hm).trans e'))
  · obtain ⟨sl, q⟩ := hs₁.2.2 b o e'
    exact ⟨sl, (Heap.get?_update_other _ _ (fun z : e = b => notFrame (z ▸ hm))).trans (Heap.get?_push_of_some _ q)⟩
  · exact Heap.get?_none_of_le (Nat.le_of_eq hs₁.1.symm)
  · exact (Heap.get?_update_other _ _ (Ne.symm hTe)).trans (Heap.get?_push_size h₁ hot)
  · simp

theorem air_note {Q : Unit → Shared → Prop} (hfr : A.frames = some (env :: outer)) (hl : h₀.FunFrames base (env :: outer)) (hf : env.frame = some L) (x : Air (fr (env :: outer)) h₀ s.heap e cls c2 fl)
    (h : ∀ h', Air (fr (env :: outer)) h₀ h' e cls c2 (some (rawInt L)) → Q () { s with heap := h' }) : wpAny M A (noteFrame (.ref e) env) Q E s := by
  obtain ⟨hk, hn, oe, vs, he, hc, hd, h2, hsz, ht⟩ := x
  have hl' : s.heap.FunFrames base (env :: outer) := hl.of_keeps fun b o hb _ => by
    obtain ⟨sl, q⟩ := hk.up hb
    exact ⟨_, q, rfl⟩
  unfold noteFrame
  simp only [hf]
  -- the end of a new entry
  have fin : ∀ (s₁ : Shared) (oe₁ : Obj) (vs₁ : Array Value) (head : Value) (hadNext : Bool), (∃ h₁, s₁ = { s with heap := h₁ }) → Kept (fr (env :: outer)) h₀ s₁.heap → s₁.heap.FunFrames base (env :: outer) → s₁.heap.get? e = some oe₁ → oe₁.cls = cls → oe₁.data = .fields vs₁ → vs₁[2]? = some c2 → 5 < vs₁.size →
      wpAny M A (do let a ← frameOf env; let pl ← entryPlaceOf L hadNext; let b ← EntryCells.newEntry head a .none (rawInt L) .none pl; setField (.ref e) 1 b) Q E s₁ := by
    rintro s₁ oe₁ vs₁ head hadNext ⟨h₁, rfl⟩ hk₁ hl₁ he₁ hc₁ hd₁ h2₁ hz₁
    refine entry_new (s := { s with heap := h₁ }) hfr hl₁ hf he₁ hd₁ (by (first | lia | omega)) fun h' t oT ts k1 k2 t1 t2 e1 T1 T2 T3 => h h' ⟨⟨fun b o q m => ?_, fun b o q m => ?_⟩, hn, _, _, e1, (Obj.cls_mapFields _ _).trans hc₁, Obj.data_mapFields hd₁ _, ?_, ?_, t, oT, ts, ?_, ?_, t2, T1, T2, T3⟩
    · exact k1 b o (fun z => by rw [z, hn] at q; cases q) m (hk₁.other b o q m)
    · obtain ⟨sl, q'⟩ := hk₁.frame b o q m
      obtain ⟨sl', q''⟩ := k2 b _ m q'
      exact ⟨sl', q''⟩
    · rw [Array.getElem?_setIfInBounds_ne (by decide)]; exact h2₁
    · simpa using hz₁
    · have : 1 < vs₁.size := by (first | lia | omega)
      simp [this]
    · cases q : h₀.get? t with
      | none => rfl
      | some o => obtain ⟨sl, q'⟩ := hk₁.up q; rw [t1] at q'; cases q'
  cases fl with
  | none =>
    refine wpAny_bind (wpAny_field he hd ht ?_)
    rw [if_neg (by decide)]
    exact fin s oe vs _ _ ⟨s.heap, rfl⟩ hk hl' he hc hd h2 hsz
  | some f =>
    obtain ⟨t, oT, ts, h1, tn, te, hT, hdT, h3⟩ := ht
    refine wpAny_bind (wpAny_field he hd h1 ?_)
    rw [if_pos (show (Value.ref t != Value.none) = true from by simp)]
    refine wpAny_bind (wpAny_field hT hdT h3 ?_)
    by_cases q : (f == rawInt L) = true
    · rw [if_pos q]
      have q' : f = rawInt L := beq_iff_eq.mp q
      subst q'
      exact wpAny_pure (h _ ⟨hk, hn, oe, vs, he, hc, hd, h2, hsz, t, oT, ts, h1, tn, te, hT, hdT, h3⟩)
    · rw [if_neg q]
      refine wpAny_bind (wpAny_setField hT hdT (Array.getElem?_eq_some_iff.mp h3).1 ?_)
      have other : ∀ b, b ≠ t → (s.heap.update t (Obj.mapFields (·.setIfInBounds 3 Value.none))).get? b = s.heap.get? b := fun b hb => Heap.get?_update_other _ _ (Ne.symm hb)
      have notF : t ∉ fr (env :: outer) := fun hm => by
        obtain ⟨_, o, ho, _⟩ := hl.mem hm
        rw [tn] at ho; cases ho
      have hk' : Kept (fr (env :: outer)) h₀ (s.heap.update t (Obj.mapFields (·.setIfInBounds 3 Value.none))) := ⟨fun b o z m => (other b (fun y => by rw [y, tn] at z; cases z)).trans (hk.other b o z m), fun b o z m => by
        obtain ⟨sl, y⟩ := hk.frame b o z m
        exact ⟨sl, (other b (fun y => notF (y ▸ m))).trans y⟩⟩
      exact fin { s with heap := s.heap.update t (Obj.mapFields (·.setIfInBounds 3 Value.none)) } oe vs _ _ ⟨_, rfl⟩ hk' (hl.of_keeps fun b o hb _ => by
        obtain ⟨sl, q⟩ := hk'.up hb
        exact ⟨_, q, rfl⟩) ((other e (Ne.symm te)).trans he) hc hd h2 hsz

theorem air_flight {f : Value} {fo : Option Addr} {Q : Unit → Shared → Prop} {fs : List Addr} (hnf : ∀ c ∈ fs, ∃ o, h₀.get? c = some o) (x : Air fs h₀ s.heap e cls c2 (some f))
    (h : ∀ h', Air fs h₀ h' e cls c2 (some (fo.elim .none fun f => rawInt f)) → Q () { s with heap := h' }) : wpAny M A (setFlight (.ref e) fo) Q E s := by
  obtain ⟨hk, hn, oe, vs, he, hc, hd, h2, hsz, t, oT, ts, h1, tn, te, hT, hdT, h3⟩ := x
  have z3 := (Array.getElem?_eq_some_iff.mp h3).1
  unfold setFlight
  refine wpAny_bind (wpAny_field he hd h1 ?_)
  rw [if_pos (show (Value.ref t != Value.none) = true from by simp)]
  refine wpAny_setField hT hdT z3 (h _ ?_)
  have other : ∀ b, b ≠ t → (s.heap.update t (Obj.mapFields (·.setIfInBounds 3 (fo.elim Value.none fun f => rawInt f)))).get? b = s.heap.get? b := fun b hb => Heap.get?_update_other _ _ (Ne.symm hb)
  refine ⟨⟨fun b o z m => (other b (fun y => by rw [y, tn] at z; cases z)).trans (hk.other b o z m), fun b o z m => ?_⟩, hn, oe, vs, (other e (Ne.symm te)).trans he, hc, hd, h2, hsz, t, _, _, h1, tn, te, Heap.get?_update_self _ hT (Obj.isFreed_of_fields (Obj.data_mapFields hdT _)), Obj.data_mapFields hdT _, by simp [z3]⟩
  obtain ⟨sl, y⟩ := hk.frame b o z m
  exact ⟨sl, (other b (fun y => by obtain ⟨o, z⟩ := hnf b m; rw [y, tn] at z; cases z)).trans y⟩
theorem air_through {A' : Around} (hfr : A.frames = some (env :: outer)) (hfr' : A'.frames = some (env :: outer)) (hl : h₀.FunFrames base (env :: outer)) (hf : env.frame = some L) (x : Air (fr (env :: outer)) h₀ s.heap e cls c2 fl)
    (hE : ∀ h', Air (fr (env :: outer)) h₀ h' e cls c2 (some (rawInt L)) → E (.ref e) { s with heap := h' }) : notedBy M A' env (cameBackBy M A env E) (.ref e) s := by
  refine air_note hfr' hl hf x fun h₁ x₁ => ?_
  have hnf : ∀ c ∈ fr (env :: outer), ∃ o, h₀.get? c = some o := fun c hc => let ⟨_, o, ho, _⟩ := hl.mem hc; ⟨o, ho⟩
  obtain ⟨oe, vs, he, hc, hd, h2, hsz, t, oT, ts, h1, _⟩ := id x₁.there
  unfold cameBackBy
  refine wpAny_bind (wpAny_field (s := { s with heap := h₁ }) he hd h1 ?_)
  rw [if_neg (show ¬ (Value.ref t == Value.none) = true from by simp)]
  rw [hf]
  exact air_flight (s := { s with heap := h₁ }) hnf x₁ fun h₂ x₂ => hE h₂ x₂
end
end
section
theorem entry_unchain : entryFor table "proto.unchain" = some Builtin.«proto.unchain» := entryFor_of_tree (by kernel_rfl)
theorem plain_unchain : plainId "proto.unchain" = true := by decide +kernel

section
variable {prog : Program} {w : World} {A : Around} {E : Value → Shared → Prop} {s : Shared} {fs : List Addr}

theorem raise_handled {α : Type} {cls msg : String} {e0 : Addr} {oe0 : Obj} {vs0 : Array Value} {Q : α → Shared → Prop} (hp : PlainExc cls) (hh : A.handled = some (.ref e0)) (h0 : s.heap.get? e0 = some oe0) (hd0 : oe0.data = .fields vs0) (h2 : vs0[2]? = some .none)
    (h : ∀ h' tk e, Air fs s.heap h' e (.type cls) (.ref e0) none → E (.ref e) { s with heap := h', toks := tk }) :
    wpAny (model prog w) A (raiseErrorWords cls msg : Sem α) Q E s := by
  unfold raiseErrorWords
  refine wpAny_bind (wpAny_mkText (wpAny_bind ?_))
  unfold newExc newTuple
  refine wpAny_bind (wpAny_newObj_type ?_)
  refine wpAny_bind (m := firstArgMember _ _) (wpAny_of_eq (a := Value.none) (by simp only [firstArgMember, hp.first]; rfl) ?_)
  rw [hp.own]
  refine wpAny_newObj_type ?_
  unfold raiseNew
  refine wpAny_bind (wpAny_handled ?_)
  rw [hh]
  generalize hh1 : s.heap.push _ = h1
  generalize hh2 : h1.push _ = h2'
  have k1 : ∀ b o, s.heap.get? b = some o → h2'.get? b = some o := fun b o q => hh2 ▸ Heap.get?_push_of_some _ (hh1 ▸ Heap.get?_push_of_some _ q)
  have fe : s.heap.get? h1.objs.size = none := Heap.get?_none_of_le (by rw [← hh1, Heap.size_push]; exact Nat.le_succ _)
  have hne : (Value.ref e0 != Value.ref h1.objs.size) = true := by
    have : e0 ≠ h1.objs.size := fun q => by rw [q, fe] at h0; cases h0
    simpa using this
  show wpAny (model prog w) A (if (Value.ref e0 != Value.ref h1.objs.size) = true then (do
      let _ ← holding [Value.ref h1.objs.size] (runValue (.builtin "proto.unchain" ⟨[.ref h1.objs.size, .ref e0, .ref e0, .bool false], []⟩))
      updateField h1.objs.size 2 (.ref e0)
      throw (Value.ref h1.objs.size) : Sem α) else _) _ _ _
  rw [if_pos hne]
  have he : h2'.get? h1.objs.size = some _ := hh2 ▸ Heap.get?_push_size _ rfl
  refine wpAny_bind (wpAny_holding (wpAny_runValue (codeAny_builtin entry_unchain ?_)))
  show wpAny _ _ (field (.ref e0) 2 >>= _) _ _ _
  refine wpAny_bind (wpAny_field (k1 _ _ h0) hd0 h2 ?_)
  show wpAny _ _ (ret .none) _ _ _
  refine wpAny_pure ?_
  show wpAny _ _ (updateField h1.objs.size 2 (.ref e0) >>= _) _ _ _
  refine wpAny_bind ?_
  show wpAny _ _ (setField (.ref h1.objs.size) 2 (.ref e0)) _ _ _
  refine wpAny_setField he rfl (by simp) (wpAny_throw (h _ _ _ ⟨.of_keeps fun b o q => ?_, fe, _, _, Heap.get?_update_self _ he rfl, Obj.cls_mapFields _ _, Obj.data_mapFields rfl _, by simp, by simp, by simp⟩))
  exact (Heap.get?_update_other _ _ (fun z : h1.objs.size = b => by rw [← z, fe] at q; cases q)).trans (k1 b o q)
noncomputable def HandledOk (A : Around) (h : Heap) (c2 : Value) : Prop := (A.handled = none ∧ c2 = .none) ∨ ∃ e0 oe0 vs0, A.handled = some (.ref e0) ∧ c2 = .ref e0 ∧ h.get? e0 = some oe0 ∧ oe0.data = .fields vs0 ∧ vs0[2]? = some .none

theorem air_of_new {h' : Heap} {e : Addr} {cls : String} (x : Heap.NewExc s.heap h' e cls) : Air fs s.heap h' e (.type cls) .none none := by
  obtain ⟨ob, t, he, hc, hd⟩ := x.there
  exact ⟨.of_keeps x.keeps, x.new, ob, _, he, hc, hd, by simp, by simp, by simp⟩

theorem raise_words {α : Type} {cls msg : String} {c2 : Value} {Q : α → Shared → Prop} (hp : PlainExc cls) (hh : HandledOk A s.heap c2)
    (h : ∀ h' tk e, Air fs s.heap h' e (.type cls) c2 none → E (.ref e) { s with heap := h', toks := tk }) :
    wpAny (model prog w) A (raiseErrorWords cls msg : Sem α) Q E s := by
  rcases hh with ⟨hh, rfl⟩ | ⟨e0, oe0, vs0, hh, rfl, h0, hd0, h2⟩
  · exact wpAny_raiseErrorWords hp hh fun h' tk e x => h h' tk e (air_of_new x)
  · exact raise_handled hp hh h0 hd0 h2 h

theorem item_raise {l : Addr} {vs : List Value} {k : Int} {u : Tok} {value slice : Expr} {c2 : Value} {Q : Value → Shared → Prop} (hA : HandledOk A s.heap c2) (hl : s.heap.IsList l vs.toArray) (hk : -(2 ^ 60) ≤ k ∧ k < 2 ^ 60) (hx : (vs.length : Int) ≤ k)
    (hE : ∀ h' tk e, Air fs s.heap h' e (.type "IndexError") c2 none → E (.ref e) { s with heap := h', toks := tk })
    (hs : subscripted slice false (.ref l) (.int k u) = operate [.ref l, .int k u] (getItem (.ref l) (.int k u))) :
    wpAny (model prog w) A (subscriptTail value slice (.ref l) (.int k u)) Q E s := by
  refine tail_any hl.typeIs slot_list_getitem.lookup ?_ hs
  have e1 : (2 : Int) ^ 60 < 2 ^ 63 := by decide
  have e2 : -(2 : Int) ^ 63 ≤ -(2 ^ 60) := by decide
  obtain ⟨o, ho, hc, ne, hd⟩ := id hl
  have hfit := fitsIndex_both (Int.le_trans e2 hk.1) (Int.lt_trans hk.2 e1)
  clear e1 e2 hk
  unfold getItem
  try with_reducible refine wpAny_holding ?_
  first | refine wpAny_bind (wpAny_pure ?_) | skip
  refine wpAny_bind (wpAny_sequenceKey hl.typeIs (by decide) ?_)
  refine wpAny_bind (wpAny_callSpecial?_slot (name := Str.ofString "__getitem__") hl.typeIs slot_list_getitem
    (wpAny_call_entry slot_list_getitem hl.typeIs entry_list_getitem ?_ (args_list_getitem _ _)))
  show wpAny _ _ (Builtin.List.listSubscript? (.int k u) >>= _) _ _ s
  refine wpAny_bind (wpAny_listSubscript_int hfit ?_)
  obtain ⟨j, rfl⟩ : ∃ j : Nat, k = Int.ofNat j := ⟨k.toNat, by
    have : 0 ≤ k := Int.le_trans (Int.natCast_nonneg _) hx
    rw [Int.ofNat_eq_natCast]; (first | lia | omega)⟩
  have hx' : vs.toArray[j]? = none := by
    rw [List.getElem?_toArray]
    exact List.getElem?_eq_none (by rw [Int.ofNat_eq_natCast] at hx; (first | lia | omega))
  show wpAny _ _ ((seqItemAt l j >>= fun r => pure (r.map (j, ·))) >>= _) _ _ s
  refine wpAny_bind (wpAny_bind (wpAny_seqItemAt ho hd (wpAny_pure ?_)))
  rw [hx']
  first
    | exact wpAny_bind (wpAny_rule (raise_words plainExc_IndexError hA hE))
    | exact wpAny_rule (raise_words plainExc_IndexError hA hE)
    | exact wpAny_bind (wpAny_rule (wpAny_bind (raise_words plainExc_IndexError hA hE)))
    | exact wpAny_bind (wpAny_bind (wpAny_rule (raise_words plainExc_IndexError hA hE)))
end
end
section
theorem isExc_IndexError : isSubtype (.type "IndexError") (.type "BaseException") = pure true := by rw [isSubtype_type]; kernel_rfl
theorem notTuple_IndexError : isSubtype (.type ((Manifest.find? "IndexError").elim "type" fun x => x.metatype)) (.type "tuple") = pure false := by
  rw [show ((Manifest.find? "IndexError").elim "type" fun x => x.metatype) = "type" from by kernel_rfl, isSubtype_type]; kernel_rfl
theorem self_IndexError : isSubtype (.type "IndexError") (.type "IndexError") = pure true := by rw [isSubtype_type]; kernel_rfl
theorem isExc_ValueError : isSubtype (.type "ValueError") (.type "BaseException") = pure true := by rw [isSubtype_type]; kernel_rfl
theorem notTuple_ValueError : isSubtype (.type ((Manifest.find? "ValueError").elim "type" fun x => x.metatype)) (.type "tuple") = pure false := by
  rw [show ((Manifest.find? "ValueError").elim "type" fun x => x.metatype) = "type" from by kernel_rfl, isSubtype_type]; kernel_rfl
theorem self_ValueError : isSubtype (.type "ValueError") (.type "ValueError") = pure true := by rw [isSubtype_type]; kernel_rfl

section
variable {prog : Program} {w : World} {A₀ : Around} {s : Shared} {K : Frag} {b g g₀ h₀ : Heap} {outs : List Env} {mg mb : Str → Option Value} {p : Program} {loose : List Str} {mean : ExcName → Option Value}
  {m : Str → Option Value} {L a e : Addr} {news : List (Addr × Obj)} {name : Str} {scope : Scope} {cd : Value} {E : Value → Shared → Prop} {Q : Flow → Shared → Prop} {c2 : Value} {fl : Option Value} {b₀ : Stmt} {suite : List Stmt} {pos np : Pos} {X x : Str} {C : String}
theorem raise_frames (B : Below A₀ b outs g) (F : Fr g L h₀ m) (hk : scope.kind = .function) : (A₀.deeper (envOf name scope L a cd)).frames = some (envOf name scope L a cd :: outs) ∧ h₀.FunFrames b (envOf name scope L a cd :: outs) :=
  let Y := pushX (env := envOf name scope L a cd) B F rfl hk
  ⟨Around.frames_deeper B.stack, Y.frames⟩

theorem caught (B : Below A₀ b outs g) (D : KtsDicts (fr outs) g) (TT : KtsTurn (fr outs) g₀ g) (F : Fr g L h₀ m) (N : News g L h₀ news) (XK : K.In b) (T : Top p loose mean mg mb b)
    (ex : nsIn K mainGlobals x = some none) (hv : bootBuiltins x = some (.type C)) (hn' : x ≠ "__name__")
    (hexc : isSubtype (.type C) (.type "BaseException") = pure true) (hnt : isSubtype (.type ((Manifest.find? C).elim "type" fun y => y.metatype)) (.type "tuple") = pure false) (hsub : isSubtype (.type C) (.type C) = pure true)
    (hA : Air (L :: fr outs) h₀ s.heap e (.type C) c2 fl)
    (k : ∀ g' h', Below A₀ b outs g' → KtsDicts (fr outs) g' → KtsTurn (fr outs) g₀ g' → Fr g' L h' m → News g' L h' news →
      wpAny (model prog w) ((A₀.deeper (envOf name scope L a cd)).mark (some (.ref e))) (execs (b₀ :: suite) (envOf name scope L a cd)) Q (fun _ _ => False) { s with heap := h' })
    (hk : scope.kind = .function) (hx : (envOf name scope L a cd).kindOf x = some .globalImplicit) (hd : (x == ("__debug__" : Str)) = false) :
    wpAny (model prog w) (A₀.deeper (envOf name scope L a cd)) (noteFrame (.ref e) (envOf name scope L a cd))
      (fun _ s₂ => wpAny (model prog w) (A₀.deeper (envOf name scope L a cd)) (setFlight (.ref e) none) (fun _ s₃ =>
        wpAny (model prog w) (A₀.deeper (envOf name scope L a cd)) (handleBy (.ref e) (envOf name scope L a cd) [.ExceptHandler (some (.Name x np)) none (b₀ :: suite) pos]) Q E s₃) E s₂) E s := by
  obtain ⟨hfr, hl⟩ := raise_frames (name := name) (a := a) (cd := cd) (scope := scope) B F hk
  have hnf : ∀ c ∈ L :: fr outs, ∃ o, h₀.get? c = some o := fun c hc => let ⟨_, o, ho, _⟩ := hl.mem (l := envOf name scope L a cd :: outs) (b := c) hc; ⟨o, ho⟩
  refine air_note (fl := fl) (h₀ := h₀) (L := L) hfr hl rfl hA fun h₁ x₁ => ?_
  refine air_flight (s := { s with heap := h₁ }) (fs := L :: fr outs) (h₀ := h₀) hnf x₁ fun h₂ x₂ => ?_
  obtain ⟨g₂, B₂, D₂, TT₂, F₂, N₂, _⟩ := after_kept (s := { s with heap := h₀ }) B D TT F N x₂.kept
  have there : ∃ o, h₂.get? e = some o ∧ o.cls = .type C := let ⟨o, vs, a1, a2, _⟩ := x₂.there; ⟨o, a1, a2⟩
  obtain ⟨ob, hob, hobc⟩ := there
  refine wpAny_handleBy_builtin (X := C) (T := C) (b := true) hexc hnt hsub (name_B (s := { s with heap := h₂ }) F₂ (XK.keeps B₂.stays) (topRead_of (T.keeps B₂.stays)) ex hv hn' ⟨rfl, ⟨ob, hob, hobc⟩, ?_⟩ hk hx hd)
  rw [if_pos rfl]
  refine air_flight (s := { s with heap := h₂ }) (fs := L :: fr outs) (h₀ := h₀) hnf x₂ fun h₃ x₃ => ?_
  obtain ⟨g₃, B₃, D₃, TT₃, F₃, N₃, _⟩ := after_kept (s := { s with heap := h₀ }) B D TT F N x₃.kept
  exact wpAny_mono (k g₃ h₃ B₃ D₃ TT₃ F₃ N₃) (fun _ _ q => q) fun _ _ q => q.elim
noncomputable def Lies (e t : Addr) (oe ot : Obj) (cls c2 fl : Value) : Prop := t ≠ e ∧ oe.cls = cls ∧ ∃ vs ts, oe.data = .fields vs ∧ vs[2]? = some c2 ∧ 5 < vs.size ∧ vs[1]? = some (.ref t) ∧ ot.data = .fields ts ∧ ts[3]? = some fl

theorem fin_raised {final : List Stmt} {f₀ : Stmt} {E' : Value → Shared → Prop} (B : Below A₀ b outs g) (D : KtsDicts (fr outs) g) (TT : KtsTurn (fr outs) g₀ g) (F : Fr g L h₀ m) (N : News g L h₀ news) {cls : Value}
    (hA : Air (L :: fr outs) h₀ s.heap e cls c2 fl)
    (k : ∀ g' h' t oe ot, Below A₀ b outs g' → KtsDicts (fr outs) g' → KtsTurn (fr outs) g₀ g' → Fr g' L h' m → News g' L h' ((e, oe) :: (t, ot) :: news) → Lies e t oe ot cls c2 .none →
      wpAny (model prog w) ((A₀.deeper (envOf name scope L a cd)).mark (some (.ref e))) (execs (f₀ :: final) (envOf name scope L a cd))
        (fun g s₂ => match g with | .next => wpAny (model prog w) (A₀.deeper (envOf name scope L a cd)) (PySem.passOn "try.finally" (.ref e) (envOf name scope L a cd)) Q E s₂ | g => wpAny (model prog w) (A₀.deeper (envOf name scope L a cd)) (setFlight (.ref e) none) (fun _ s₃ => Q g s₃) E s₂)
        (notedBy (model prog w) ((A₀.deeper (envOf name scope L a cd)).mark (some (.ref e))) (envOf name scope L a cd) (cameBackBy (model prog w) (A₀.deeper (envOf name scope L a cd)) (envOf name scope L a cd) E)) { s with heap := h' })
    (hk : scope.kind = .function) :
    wpAny (model prog w) (A₀.deeper (envOf name scope L a cd)) (noteFrame (.ref e) (envOf name scope L a cd)) (fun _ s₂ => FinallyRaised prog w (A₀.deeper (envOf name scope L a cd)) E (envOf name scope L a cd) (f₀ :: final) Q (.ref e) s₂) E' s := by
  obtain ⟨hfr, hl⟩ := raise_frames (name := name) (a := a) (cd := cd) (scope := scope) B F hk
  have hnf : ∀ c ∈ L :: fr outs, ∃ o, h₀.get? c = some o := fun c hc => let ⟨_, o, ho, _⟩ := hl.mem (l := envOf name scope L a cd :: outs) (b := c) hc; ⟨o, ho⟩
  refine air_note (fl := fl) (h₀ := h₀) (L := L) hfr hl rfl hA fun h₁ x₁ => ⟨ref_ne_byPass _, ?_⟩
  refine air_note (s := { s with heap := h₁ }) (h₀ := h₀) (L := L) hfr hl rfl x₁ fun h₂ x₂ => ?_
  refine air_flight (s := { s with heap := h₂ }) (fs := L :: fr outs) (h₀ := h₀) hnf x₂ fun h₃ x₃ => ?_
  obtain ⟨g₃, B₃, D₃, TT₃, F₃, N₃, new⟩ := after_kept (s := { s with heap := h₀ }) B D TT F N x₃.kept
  obtain ⟨oe, vs, he, hc, hd, h2, hsz, t, oT, ts, h1, tn, te, hT, hdT, h3⟩ := x₃.there
  exact k g₃ h₃ t oe oT B₃ D₃ TT₃ F₃ (news_cons (new e oe x₃.new he) (news_cons (new t oT tn hT) N₃)) ⟨te, hc, vs, ts, hd, h2, hsz, h1, hdT, h3⟩

theorem pass_on {what : String} {t : Addr} {oe ot : Obj} {cls fl : Value} (B : Below A₀ b outs g) (D : KtsDicts (fr outs) g) (F : Fr g L s.heap m) (N : News g L s.heap ((e, oe) :: (t, ot) :: news)) (hnl : ∀ q ∈ news, ∀ ws, q.2.data ≠ .fields ws) (y : Lies e t oe ot cls c2 fl)
    (hE : ∀ h₀ h', Fr g L h₀ m → News g L h₀ news → Air (L :: fr outs) h₀ h' e cls c2 (some (rawInt L)) → E (.ref e) { s with heap := h' })
    (hk : scope.kind = .function) :
    wpAny (model prog w) (A₀.deeper (envOf name scope L a cd)) (PySem.passOn what (.ref e) (envOf name scope L a cd)) Q E s := by
  obtain ⟨te, hc, vs, ts, hd, h2, hsz, h1, hdT, h3⟩ := y
  have he := N (e, oe) List.mem_cons_self
  have ht := N (t, ot) (List.mem_cons_of_mem _ List.mem_cons_self)
  have hne : ∀ c ∈ [e, t], c ≠ L := fun c hc => by
    rcases List.mem_cons.mp hc with rfl | hc
    · exact he.2.1
    · rw [List.mem_singleton.mp hc]; exact ht.2.1
  have hng : ∀ c ∈ [e, t], g.get? c = none := fun c hc => by
    rcases List.mem_cons.mp hc with rfl | hc
    · exact he.2.2
    · rw [List.mem_singleton.mp hc]; exact ht.2.2
  have F₀ : Fr g L (hideAll s.heap [e, t]) m := ⟨F.ns.at' (fun o q => hideAll_get _ q fun hm => hne _ hm rfl), (fun c o q => hideAll_get _ (F.keep c o q) fun hm => by rw [hng c hm] at q; cases q), F.above⟩
  have N₀ : News g L (hideAll s.heap [e, t]) news := fun q hq => by
    have z := N q (List.mem_cons_of_mem _ (List.mem_cons_of_mem _ hq))
    refine ⟨hideAll_get _ z.1 fun hm => ?_, z.2⟩
    rcases List.mem_cons.mp hm with hm | hm
    · rw [hm, he.1] at z; exact hnl q hq vs (Option.some.inj z.1 ▸ hd)
    · rw [List.mem_singleton.mp hm, ht.1] at z; exact hnl q hq ts (Option.some.inj z.1 ▸ hdT)
  obtain ⟨hfr, hl⟩ := raise_frames (name := name) (a := a) (cd := cd) (scope := scope) B F₀ hk
  have hnf : ∀ c ∈ L :: fr outs, ∃ o, (hideAll s.heap [e, t]).get? c = some o := fun c hc => let ⟨_, o, ho, _⟩ := hl.mem (l := envOf name scope L a cd :: outs) (b := c) hc; ⟨o, ho⟩
  have x₀ : Air (L :: fr outs) (hideAll s.heap [e, t]) s.heap e cls c2 (some fl) := ⟨.of_keeps fun c o q => of_hideAll _ q, hideAll_none _ List.mem_cons_self, oe, vs, he.1, hc, hd, h2, hsz, t, ot, ts, h1, hideAll_none _ (List.mem_cons_of_mem _ List.mem_cons_self), te, ht.1, hdT, h3⟩
  unfold PySem.passOn
  refine wpAny_bind (wpAny_field he.1 hd h1 ?_)
  rw [if_neg (show ¬ (Value.ref t == Value.none) = true from by simp)]
  refine wpAny_bind (air_flight (fs := L :: fr outs) (h₀ := hideAll s.heap [e, t]) hnf x₀ fun h' x' => ?_)
  exact wpAny_throw (hE _ h' F₀ N₀ x')
end
end
section
theorem drop_while_step {xs : List Int} {v : Int} {k : Nat} (h : xs[k]? = some v) : (xs.drop k).dropWhile (· == v) = (xs.drop (k + 1)).dropWhile (· == v) := by
  obtain ⟨hk, e⟩ := List.getElem?_eq_some_iff.mp h
  rw [List.drop_eq_getElem_cons hk, e]
  simp [List.dropWhile]
theorem drop_while_stop {xs : List Int} {v y : Int} {k : Nat} (h : xs[k]? = some y) (hne : y ≠ v) : (xs.drop k).dropWhile (· == v) = xs.drop k := by
  obtain ⟨hk, e⟩ := List.getElem?_eq_some_iff.mp h
  rw [List.drop_eq_getElem_cons hk, e]
  have q : (y == v) = false := by simpa using hne
  simp [List.dropWhile, q]

section
variable {prog : Program} {w : World} {A₀ Ax : Around} {s : Shared} {b g : Heap} {outs : List Env}
  {m : Str → Option Value} {L a l : Addr} {news : List (Addr × Obj)} {name : Str} {scope : Scope} {cd : Value} {E : Value → Shared → Prop} {Q : Flow → Shared → Prop} {c2 : Value} {lx kx vx : Str} {xs : List Int} {vs : List Value} {v : Int} {u t : Tok}

theorem inner_while {p1 p2 p3 p4 p5 p6 p7 p8 p9 : Pos} {kk : Nat} {k : Nat} (B : Below A₀ b outs g) (hAf : Ax.frames = some (envOf name scope L a cd :: outs)) (F : Fr g L s.heap (fun z => if z = kx then some (.int (k : Int) t) else m z)) (N : News g L s.heap news)
    (hk : scope.kind = .function) (h1 : (envOf name scope L a cd).kindOf lx = some .local) (h2 : (envOf name scope L a cd).kindOf kx = some .local) (h3 : (envOf name scope L a cd).kindOf vx = some .local)
    (hlk : lx ≠ kx) (hvk : vx ≠ kx) (hd1 : (lx == ("__debug__" : Str)) = false) (hd2 : (kx == ("__debug__" : Str)) = false) (hd3 : (vx == ("__debug__" : Str)) = false)
    (ml : m lx = some (.ref l)) (mv : m vx = some (.int v u)) (hl : g.IsList l vs.toArray) (hi : IntsAre vs xs) (hkl : k ≤ xs.length) (hsz : xs.length < 2 ^ 50)
    (hH : ∀ h, News g L h news → HandledOk Ax h c2)
    (done : ∀ (k' : Nat) t' h' tk, k ≤ k' → k' < xs.length → xs.drop k' = (xs.drop k).dropWhile (· == v) → Fr g L h' (fun z => if z = kx then some (.int (k' : Int) t') else m z) → News g L h' news → Q .next { s with heap := h', toks := tk })
    (raised : ∀ t' h' h'' tk e, (xs.drop k).dropWhile (· == v) = [] → Fr g L h' (fun z => if z = kx then some (.int (xs.length : Int) t') else m z) → News g L h' news → Air (L :: fr outs) h' h'' e (.type "IndexError") c2 (some (rawInt L)) → E (.ref e) { s with heap := h'', toks := tk }) :
    wpAny (model prog w) Ax (exec (.While (.Compare (.Subscript (.Name lx p1) (.Name kx p2) p3) [.Eq] [.Name vx p4] p5) [.AugAssign (.Name kx p6) .Add (.Constant (.int 1) kk p7) p8] [] p9) (envOf name scope L a cd)) Q E s := by
  refine wpAny_While (codeAny_whileLoop (fun n s' => ∃ (k' : Nat) (t' : Tok) (h' : Heap) (tk : Nat), s' = { s with heap := h', toks := tk } ∧ n = xs.length - k' ∧ k ≤ k' ∧ k' ≤ xs.length ∧ (xs.drop k').dropWhile (· == v) = (xs.drop k).dropWhile (· == v) ∧ Fr g L h' (fun z => if z = kx then some (.int (k' : Int) t') else m z) ∧ News g L h' news) ?_ (xs.length - k) ⟨k, t, s.heap, s.toks, rfl, rfl, Nat.le_refl _, hkl, rfl, F, N⟩)
  rintro n s' ⟨k', t', h', tk, rfl, rfl, hkk, hkl', hdw, F', N'⟩
  have nm : ∀ {x : Str} {val : Value} {ps : Pos} {QQ : Value → Shared → Prop} {EE : Value → Shared → Prop} {tk : Nat}, (envOf name scope L a cd).kindOf x = some .local → (x == ("__debug__" : Str)) = false → (fun z => if z = kx then some (.int (k' : Int) t') else m z) x = some val → QQ val { s with heap := h', toks := tk } →
      wpAny (model prog w) Ax (eval (.Name x ps) (envOf name scope L a cd)) QQ EE { s with heap := h', toks := tk } := fun hx hd hv hQ => wpAny_Name (wpAny_loadName_local (s := { s with heap := h', toks := _ }) hk hx F'.ns hv hQ) hd
  refine wpAny_isTrue_Compare1 (Subscript_ (nm h1 hd1 (val := .ref l) (by simp [hlk, ml]) (nm h2 hd2 (val := .int (k' : Int) t') (by simp) ?_)))
  have hls : h'.IsList l vs.toArray := hl.at fun o e => F'.keep _ _ e
  have hb : -(2 ^ 60) ≤ (k' : Int) ∧ (k' : Int) < 2 ^ 60 := by (first | lia | omega)
  by_cases hlt : k' < xs.length
  · obtain ⟨tx, hx⟩ := hi.get k' xs[k'] (by simp [hlt])
    refine item_in (hs := by with_unfolding_all rfl) (s := { s with heap := h', toks := tk }) hls hb (v := .int xs[k'] tx) (by unfold pyIdx; rw [if_pos (by (first | lia | omega))]; simpa using hx) ?_
    refine nm h3 hd3 (val := .int v u) (by simp [hvk, mv]) ?_
    refine eq_int (wpAny_truthy_bool ?_)
    by_cases heq : xs[k'] = v
    · rw [if_pos (by simp [heq])]
      refine wpAny_execs_cons (wpAny_AugAssign_Name (wpAny_loadName_local (s := { s with heap := h', toks := tk }) hk h2 F'.ns (v := .int (k' : Int) t') (by simp) (wpAny_Constant_int (iadd_int ?_))))
      refine wpAny_storeName_local (s := { s with heap := h', toks := _ }) h2 F'.ns (fun h₂ hn hs => ?_) (by show (scope.kind == .class || (scope.kind == .module && L != mainGlobals)) = false; rw [hk]; rfl)
      refine wpAny_execs_nil ⟨xs.length - (k' + 1), by (first | lia | omega), k' + 1, tk + 1, h₂, _, rfl, rfl, by (first | lia | omega), hlt, ?_, ?_, N'.set hs⟩
      · rw [← hdw, drop_while_step (k := k') (by simp [hlt, heq])]
      · have F₂ := F'.set hn hs
        have e : (fun z => if z = kx then some (Value.int ((k' : Int) + 1) (tk + 1)) else if z = kx then some (.int (k' : Int) t') else m z) = (fun z => if z = kx then some (Value.int ((k' + 1 : Nat) : Int) (tk + 1)) else m z) := by
          funext z; by_cases hz : z = kx <;> simp [hz]
        rw [← e]; exact F₂
    · rw [if_neg (by simp [heq])]
      refine wpAny_execs_nil (done k' t' h' tk hkk hlt ?_ F' N')
      rw [← hdw, drop_while_stop (k := k') (by simp [hlt]) heq]
  · have hke : k' = xs.length := by (first | lia | omega)
    subst hke
    refine item_raise (hs := by with_unfolding_all rfl) (s := { s with heap := h', toks := tk }) (fs := L :: fr outs) (hH h' N') hls hb (by rw [hi.length]; exact Int.le_refl _) fun h'' tk'' e hA => ?_
    have hY := raise_frames (name := name) (a := a) (cd := cd) (scope := scope) B F' hk
    refine air_through (s := { s with heap := h'', toks := tk'' }) (h₀ := h') (L := L) hAf hAf hY.2 rfl hA fun h₃ x₃ => ?_
    exact raised t' h' h₃ tk'' e (by rw [← hdw]; simp) F' N' x₃
end
end
section
noncomputable def sld : Nat → List Int → List Int → List Int × List Int
  | 0, xs, ys => (xs, ys)
  | _ + 1, [], ys => ([], ys)
  | _ + 1, x :: xs, [] => (x :: xs, [])
  | n + 1, x :: xs, y :: ys =>
    if x < y then let r := sld n (xs.dropWhile (· == x)) (y :: ys); (x :: r.1, r.2)
    else if x > y then let r := sld n (x :: xs) (ys.dropWhile (· == y)); (r.1, y :: r.2)
    else sld n (xs.dropWhile (· == x)) (ys.dropWhile (· == y))
noncomputable def sldM (xs ys : List Int) : List Int × List Int := sld (xs.length + ys.length) xs ys
theorem sld_nil_left : ∀ (n : Nat) (ys : List Int), sld n [] ys = ([], ys)
  | 0, _ => rfl
  | _ + 1, _ => rfl
theorem sld_nil_right : ∀ (n : Nat) (xs : List Int), sld n xs [] = (xs, [])
  | 0, _ => rfl
  | _ + 1, [] => rfl
  | _ + 1, _ :: _ => rfl
noncomputable abbrev sldN (l1 l2 lm lu : Addr) (i j : Nat) (ti tj : Tok) (mx : Str → Option Value) : Str → Option Value := fun z =>
  if z = "i" then some (.int (i : Int) ti) else if z = "j" then some (.int (j : Int) tj) else if z = "expected" then some (.ref l1) else if z = "actual" then some (.ref l2)
  else if z = "missing" then some (.ref lm) else if z = "unexpected" then some (.ref lu) else mx z
theorem sldN_of {m : Str → Option Value} {l1 l2 lm lu : Addr} {i j : Nat} {ti tj : Tok} (h1 : m "i" = some (.int (i : Int) ti)) (h2 : m "j" = some (.int (j : Int) tj)) (h3 : m "expected" = some (.ref l1)) (h4 : m "actual" = some (.ref l2)) (h5 : m "missing" = some (.ref lm)) (h6 : m "unexpected" = some (.ref lu)) :
    m = sldN l1 l2 lm lu i j ti tj m := by
  funext z
  by_cases e1 : z = "i"
  · subst e1; simp [sldN, h1]
  by_cases e2 : z = "j"
  · subst e2; simp [sldN, h2, e1]
  by_cases e3 : z = "expected"
  · subst e3; simp [sldN, h3, e1, e2]
  by_cases e4 : z = "actual"
  · subst e4; simp [sldN, h4, e1, e2, e3]
  by_cases e5 : z = "missing"
  · subst e5; simp [sldN, h5, e1, e2, e3, e4]
  by_cases e6 : z = "unexpected"
  · subst e6; simp [sldN, h6, e1, e2, e3, e4, e5]
  simp [sldN, e1, e2, e3, e4, e5, e6]
theorem drop_cons {xs : List Int} {i : Nat} {x : Int} (h : xs[i]? = some x) : xs.drop i = x :: xs.drop (i + 1) := by
  obtain ⟨hk, e⟩ := List.getElem?_eq_some_iff.mp h
  rw [List.drop_eq_getElem_cons hk, e]
theorem sld_lt {n : Nat} {xs ys : List Int} {i j : Nat} {x y : Int} (hx : xs[i]? = some x) (hy : ys[j]? = some y) (h : x < y) :
    sld (n + 1) (xs.drop i) (ys.drop j) = (x :: (sld n ((xs.drop (i + 1)).dropWhile (· == x)) (ys.drop j)).1, (sld n ((xs.drop (i + 1)).dropWhile (· == x)) (ys.drop j)).2) := by
  rw [drop_cons hx, drop_cons hy, sld, if_pos h]
theorem sld_gt {n : Nat} {xs ys : List Int} {i j : Nat} {x y : Int} (hx : xs[i]? = some x) (hy : ys[j]? = some y) (h : y < x) :
    sld (n + 1) (xs.drop i) (ys.drop j) = ((sld n (xs.drop i) ((ys.drop (j + 1)).dropWhile (· == y))).1, y :: (sld n (xs.drop i) ((ys.drop (j + 1)).dropWhile (· == y))).2) := by
  rw [drop_cons hx, drop_cons hy, sld, if_neg (by (first | lia | omega)), if_pos h]
theorem sld_eq {n : Nat} {xs ys : List Int} {i j : Nat} {x y : Int} (hx : xs[i]? = some x) (hy : ys[j]? = some y) (h : x = y) :
    sld (n + 1) (xs.drop i) (ys.drop j) = sld n ((xs.drop (i + 1)).dropWhile (· == x)) ((ys.drop (j + 1)).dropWhile (· == y)) := by
  rw [drop_cons hx, drop_cons hy, sld, if_neg (by (first | lia | omega)), if_neg (by (first | lia | omega))]
end
section
open_top hd0 for PySem.Challenge.rw_tr0008_01
theorem top_off : True := by
  w_top off
  trivial
end
section
noncomputable abbrev PG := PySem.Challenge.rw_tr0008_01.row.toRowW.prog
noncomputable abbrev AmbW (w : World) (mean : ExcName → Option Value) (mg mb : Str → Option Value) := Amb (Mine.hd0.heap_39 w.params) Mine.hd0.view_39 (looseW Mine.hd0.view_39 []) mean mg mb
noncomputable abbrev loc (l : List (Str × Value)) : Str → Option Value := fun y => l.lookup y

theorem fill0 : (PySem.Challenge.rw_tr0008_01 = PySem.Challenge.rw_tr0008_01) → ∀ P h, (Mine.hd0.heap_39 P).In h → True := by
  k_fill
  intros; trivial


section
variable {w : World} {A : Around} {s : Shared} {outs : List Env} {mg mb : Str → Option Value} {mean : ExcName → Option Value}
theorem sub_c {x y : Int} {t u : Tok} (a : AmbW w mean mg mb A outs s.heap) (hd : A.depth < recursionLimit) :
    codeAny (model PG w) A (.call (.ref 35) ⟨[.int x t, .int y u], []⟩) (Ends outs s fun v h' tk => ∃ t, v = .int (x - y) t ∧ s.toks ≤ t ∧ t < tk) s := by
  refine' enter (m := loc [("b", .int y u), ("a", .int x t)]) a ?k6 ?k7 hd ?k9 ?km ?kB ?_ ?c2 ?c3 ?c4 ?c5
  ((case k6 => k_dflt k_is); (case k7 => k_dflt k_is); (case k9 => exact BindsTo.of_eq rfl); (try (case km => exact rfl)); (try (case c5 => decide)); (try (case kB => exact locs rfl)); (try (case kk => (intro n; (repeat (refine List.forall_mem_cons.mpr ⟨by first | exact .inl rfl | exact .inr ⟨rfl, rfl⟩, ?_⟩)); exact fun _ h => nomatch h))); (try (case knd => decide)); (case c2 => exact rfl); (case c3 => exact rfl); (case c4 => exact rfl))
  intro L' h₁ tk htk B X X' T D F N
  k_fold
  k_steps
  exact ends_of KtsTurn.refl F ⟨_, rfl, htk, Nat.lt_succ_self _⟩
theorem add_c {x y : Int} {t u : Tok} (a : AmbW w mean mg mb A outs s.heap) (hd : A.depth < recursionLimit) :
    codeAny (model PG w) A (.call (.ref 21) ⟨[.int x t, .int y u], []⟩) (Ends outs s fun v h' _ => ∃ t, v = .int (x + y) t) s := by
  refine' enter (m := loc [("b", .int y u), ("a", .int x t)]) a ?k6 ?k7 hd ?k9 ?km ?kB ?_ ?c2 ?c3 ?c4 ?c5
  ((case k6 => k_dflt k_is); (case k7 => k_dflt k_is); (case k9 => exact BindsTo.of_eq rfl); (try (case km => exact rfl)); (try (case c5 => decide)); (try (case kB => exact locs rfl)); (try (case kk => (intro n; (repeat (refine List.forall_mem_cons.mpr ⟨by first | exact .inl rfl | exact .inr ⟨rfl, rfl⟩, ?_⟩)); exact fun _ h => nomatch h))); (try (case knd => decide)); (case c2 => exact rfl); (case c3 => exact rfl); (case c4 => exact rfl))
  intro L' h₁ tk htk B X X' T D F N
  k_fold
  k_steps
  exact ends_of KtsTurn.refl F ⟨_, rfl⟩
theorem mul_c {x y : Int} {t u : Tok} (hy : y.natAbs < 2 ^ 60) (a : AmbW w mean mg mb A outs s.heap) (hd : A.depth < recursionLimit) :
    codeAny (model PG w) A (.call (.ref 28) ⟨[.int x t, .int y u], []⟩) (Ends outs s fun v h' _ => ∃ t, v = .int (x * y) t) s := by
  refine' enter (m := loc [("b", .int y u), ("a", .int x t)]) a ?k6 ?k7 hd ?k9 ?km ?kB ?_ ?c2 ?c3 ?c4 ?c5
  ((case k6 => k_dflt k_is); (case k7 => k_dflt k_is); (case k9 => exact BindsTo.of_eq rfl); (try (case km => exact rfl)); (try (case c5 => decide)); (try (case kB => exact locs rfl)); (try (case kk => (intro n; (repeat (refine List.forall_mem_cons.mpr ⟨by first | exact .inl rfl | exact .inr ⟨rfl, rfl⟩, ?_⟩)); exact fun _ h => nomatch h))); (try (case knd => decide)); (case c2 => exact rfl); (case c3 => exact rfl); (case c4 => exact rfl))
  intro L' h₁ tk htk B X X' T D F N
  k_fold
  k_steps
  exact ends_of KtsTurn.refl F ⟨_, rfl⟩
theorem ipow_c {x y : Int} {t u : Tok} (hx : 0 ≤ x ∧ x ≤ 16) (hy : 0 ≤ y ∧ y ≤ 2) (a : AmbW w mean mg mb A outs s.heap) (hd : A.depth < recursionLimit) :
    codeAny (model PG w) A (.call (.ref 56) ⟨[.int x t, .int y u], []⟩) (Ends outs s fun v h' _ => ∃ t, v = .int (x ^ y.toNat) t) s := by
  refine' enter (m := loc [("b", .int y u), ("a", .int x t)]) a ?k6 ?k7 hd ?k9 ?km ?kB ?_ ?c2 ?c3 ?c4 ?c5
  ((case k6 => k_dflt k_is); (case k7 => k_dflt k_is); (case k9 => exact BindsTo.of_eq rfl); (try (case km => exact rfl)); (try (case c5 => decide)); (try (case kB => exact locs rfl)); (try (case kk => (intro n; (repeat (refine List.forall_mem_cons.mpr ⟨by first | exact .inl rfl | exact .inr ⟨rfl, rfl⟩, ?_⟩)); exact fun _ h => nomatch h))); (try (case knd => decide)); (case c2 => exact rfl); (case c3 => exact rfl); (case c4 => exact rfl))
  intro L' h₁ tk htk B X X' T D F N
  k_fold
  k_steps
  rename_i F' _
  exact ends_of KtsTurn.refl F' ⟨_, rfl⟩
theorem getitem_c {l : Addr} {vs : List Value} {y : Int} {u : Tok} {v : Value} (hl : s.heap.IsList l vs.toArray) (hy : -(2 ^ 60) ≤ y ∧ y < 2 ^ 60) (hv : pyIdx vs y = some v) (a : AmbW w mean mg mb A outs s.heap) (hd : A.depth < recursionLimit) :
    codeAny (model PG w) A (.call (.ref 42) ⟨[.ref l, .int y u], []⟩) (Ends outs s fun v' h' _ => v' = v) s := by
  refine' enter (m := loc [("b", .int y u), ("a", .ref l)]) a ?k6 ?k7 hd ?k9 ?km ?kB ?_ ?c2 ?c3 ?c4 ?c5
  ((case k6 => k_dflt k_is); (case k7 => k_dflt k_is); (case k9 => exact BindsTo.of_eq rfl); (try (case km => exact rfl)); (try (case c5 => decide)); (try (case kB => exact locs rfl)); (try (case kk => (intro n; (repeat (refine List.forall_mem_cons.mpr ⟨by first | exact .inl rfl | exact .inr ⟨rfl, rfl⟩, ?_⟩)); exact fun _ h => nomatch h))); (try (case knd => decide)); (case c2 => exact rfl); (case c3 => exact rfl); (case c4 => exact rfl))
  intro L' h₁ tk htk B X X' T D F N
  k_fold
  k_steps
  refine item_in (hs := by with_unfolding_all rfl) (hl.at fun o e => F.keep _ _ e) hy hv ?_
  exact ends_of KtsTurn.refl F rfl
end
end
section
section
variable {prog : Program} {w : World} {A : Around} {E : Value → Shared → Prop} {s : Shared} {g : Heap} {L D b : Addr} {m : Str → Option Value} {news : List (Addr × Obj)} {news' : Nat → List (Addr × Obj)} {ys zs : List Value} {n n2 : Nat} {Q : Value → Shared → Prop}

theorem upd_list {f : Array Value → Array Value} (N : News g L s.heap news) (he : f ys.toArray = zs.toArray) (U : ∀ n', Upd D (lst ys n) (lst zs n') news (news' n')) :
    ∃ n', News g L (s.heap.update D (Obj.mapSeq f)) (news' n') ∧ (D, lst ys n) ∈ news := by
  let n' := if (f ys.toArray).size == ys.toArray.size then n else n + 1
  obtain ⟨pre, post, rfl, e2, a, c⟩ := (U n').split
  refine ⟨n', e2 ▸ news_set N a c (Heap.SameBut.update ..) ?_, List.mem_append.mpr (.inr (.head _))⟩
  have q := PySem.IsL.update (N (D, lst ys n) (List.mem_append.mpr (.inr (.head _)))).1 f
  have q' : PySem.IsL (s.heap.update D (Obj.mapSeq f)) D (f ys.toArray) n' := q
  rw [he] at q'
  exact q'

theorem my_append {v : Value} (F : Fr g L s.heap m) (N : News g L s.heap news) (U : ∀ n', Upd D (lst ys n) (lst (ys ++ [v]) n') news (news' n')) (hz : ys.length ≤ 2 ^ 23)
    (h : ∀ n' h', Fr g L h' m → News g L h' (news' n') → Q .none { s with heap := h' }) : wpAny (model prog w) A (call (.builtin "list.append") [.ref D, v]) Q E s := by
  obtain ⟨n', N', hm⟩ := upd_list (f := (·.push v)) (zs := ys ++ [v]) N (by simp) U
  have z := N _ hm
  refine wpAny_call_entry slot_list_append ⟨_, z.1, rfl⟩ entry_list_append ?_ (args_list_append _ _)
  show wpAny _ _ (updateSeq D (·.push v) >>= fun _ => ret .none) _ _ s
  have e1 : ys.toArray.size ≤ sizeLine := by rw [List.size_toArray, sizeLine_eq]; (first | lia | omega)
  have e2 : (ys.toArray.push v).size ≤ sizeLine + 1 := by rw [Array.size_push, List.size_toArray, sizeLine_eq]; (first | lia | omega)
  exact wpAny_bind (wpAny_updateSeq z.1 rfl (hz := e1) (_hz' := e2) (wpAny_pure ⟨_, rfl, h n' _ (F.change (Heap.SameBut.update ..) z.2.1 z.2.2) N'⟩))

theorem my_extend (F : Fr g L s.heap m) (N : News g L s.heap news) (hb : s.heap.get? b = some (lst zs n2)) (U : ∀ n', Upd D (lst ys n) (lst (ys ++ zs) n') news (news' n')) (hz : ys.length ≤ 2 ^ 22 ∧ zs.length ≤ 2 ^ 22)
    (h : ∀ n' h', Fr g L h' m → News g L h' (news' n') → Q .none { s with heap := h' }) : wpAny (model prog w) A (call (.builtin "list.extend") [.ref D, .ref b]) Q E s := by
  obtain ⟨n', N', hm⟩ := upd_list (f := (· ++ zs.toArray)) (zs := ys ++ zs) N (by simp) U
  have z := N _ hm
  refine call_meets PySem.F.slot_list_extend ⟨_, z.1, rfl⟩ PySem.F.entry_list_extend (PySem.F.args_list_extend_2 _ _) (PySem.AutoSeq1.list_extend_list_list_0 D ys.toArray n b zs.toArray n2 ?_ ?_ ?_) ⟨z.1, hb, h n' _ (F.change (Heap.SameBut.update ..) z.2.1 z.2.2) N'⟩
  · have : Builtin.List.listTooLong (ys.toArray.size + zs.toArray.size) = false := by
      unfold Builtin.List.listTooLong
      rw [List.size_toArray, List.size_toArray, sizeLine_eq]
      simp only [decide_eq_false_iff_not]; (first | lia | omega)
    rw [this]; simp
  · rw [List.size_toArray, sizeLine_eq]; (first | lia | omega)
  · rw [List.size_toArray, List.size_toArray, sizeLine_eq]; (first | lia | omega)

theorem pick_from {vs : List Value} {k : Nat} : (slicePick vs.toArray (some (k : Int)) none none).toList = vs.drop k := by
  have e : sliceBounds (some (k : Int)) none none vs.toArray.size = (((min k vs.toArray.size : Nat) : Int), ((vs.toArray.size : Nat) : Int), 1) := by
    simp only [sliceBounds, Option.getD_none, show (1 : Int) > 0 by decide, if_true, if_neg (show ¬ ((k : Int) < 0) by (first | lia | omega))]
    congr 1
    (first | lia | omega)
  rw [kmk_pick_nat _ e]
  show (vs.drop (min k vs.length)).take (vs.length - min k vs.length) = _
  rw [kmk_drop_min]
  by_cases h : k ≤ vs.length
  · rw [Nat.min_eq_left h, List.take_of_length_le (by simp)]
  · rw [List.drop_eq_nil_of_le (by (first | lia | omega))]; simp
theorem pick_to {vs : List Value} {k : Nat} : (slicePick vs.toArray none (some (k : Int)) none).toList = vs.take k := by
  have e : sliceBounds none (some (k : Int)) none vs.toArray.size = (((0 : Nat) : Int), ((min k vs.toArray.size : Nat) : Int), 1) := by
    simp only [sliceBounds, Option.getD_none, show (1 : Int) > 0 by decide, if_true, if_neg (show ¬ ((k : Int) < 0) by (first | lia | omega))]
    congr 1
    congr 1
    (first | lia | omega)
  rw [kmk_pick_nat _ e]
  show (vs.drop 0).take (min k vs.length - 0) = _
  rw [List.drop_zero, Nat.sub_zero, kmk_take_min]
theorem ints_drop : ∀ {vs : List Value} {xs : List Int} {k : Nat}, IntsAre vs xs → IntsAre (vs.drop k) (xs.drop k)
  | _, _, 0, h => h
  | _, _, _ + 1, .nil => .nil
  | _, _, k + 1, .cons n t r => ints_drop (k := k) r
theorem ints_take : ∀ {vs : List Value} {xs : List Int} {k : Nat}, IntsAre vs xs → IntsAre (vs.take k) (xs.take k)
  | _, _, 0, h => .nil
  | _, _, _ + 1, .nil => .nil
  | _, _, k + 1, .cons n t r => .cons n t (ints_take (k := k) r)
theorem my_slice_from {l : Addr} {vs : List Value} {k : Nat} {t : Tok} {value slice : Expr} (F : Fr g L s.heap m) (N : News g L s.heap news) (hl : s.heap.IsList l vs.toArray) (hz : vs.length ≤ 2 ^ 22)
    (h : ∀ D h', Fr g L h' m → News g L h' ((D, lst (vs.drop k) 0) :: news) → AllLt D news → Q (.ref D) { s with heap := h' })
    (hs : subscripted slice false (.ref l) (.ref s.heap.objs.size) = operate [.ref s.heap.objs.size, .ref l] (getItem (.ref l) (.ref s.heap.objs.size))) (ht : ∀ r, letTemporaryGo value (.ref l) r = pure ()) :
    wpAny (model prog w) A (subscriptTail value slice (.ref l) (.ref s.heap.objs.size)) Q E { s with heap := s.heap.push { cls := .type "slice", data := .fields #[.int (k : Int) t, .none, .none] } } :=
  kmk_slice_lit F N hl (.int _ _) .none pick_from (fun D h' F' N' lt => h D h' F' N' (allLt_of lt)) hs ht (by rw [List.size_toArray, sizeLine_eq]; (first | lia | omega))
end
end
section
noncomputable def Stop (P : Prop) : Prop := P
theorem stop {P : Prop} (h : Stop P) : P := h
theorem Stop.go {P : Prop} (h : P) : Stop P := h
local macro_rules | `(tactic| walk_at "exec While") => `(tactic| refine stop ?_)
local macro_rules | `(tactic| walk_at "exec While Compare cons nil") => `(tactic| refine stop ?_)
local macro_rules | `(tactic| walk_at "exec Try") => `(tactic| refine stop ?_)
local macro_rules | `(tactic| walk_at "exec Try cons nil") => `(tactic| refine stop ?_)
local macro_rules | `(tactic| walk_at "exec Try cons cons") => `(tactic| refine stop ?_)
local macro_rules | `(tactic| walk_at "subscriptTail") => `(tactic| refine stop ?_)
local macro_rules | `(tactic| walk_at "subscriptTail Name Name ref int") => `(tactic| refine stop ?_)
local macro_rules | `(tactic| walk_at "call builtin:list.append") => `(tactic| refine stop ?_)
local macro_rules | `(tactic| walk_at "call builtin:list.extend") => `(tactic| refine stop ?_)
local macro_rules | `(tactic| walk_at "subscriptTail Name Slice ref ref") => `(tactic| refine stop ?_)
local macro_rules | `(tactic| walk_at "Exists") => `(tactic| refine stop ?_)
theorem with_E {M : Model} {A : Around} {α : Type} {t : Sem α} {Q : α → Shared → Prop} {E : Value → Shared → Prop} {s : Shared} (HOK : Addr → Shared → Prop) (hH : ∀ e s₁, HOK e s₁ → E (.ref e) s₁) (main : (∀ e s₁, HOK e s₁ → E (.ref e) s₁) → wpAny M A t Q E s) : wpAny M A t Q E s := main hH

inductive SldI (A : Around) (outs : List Env) (s : Shared) (l1 l2 lm lu L : Addr) (xs ys : List Int) (v1 v2 : List Value) (n : Nat) (s' : Shared) : Prop
  | mk : ∀ (i j : Nat) (ti tj : Tok) (mx : Str → Option Value) (g h : Heap) (tk : Nat) (ms us : List Value) (n1 n2 : Nat) (msI usI : List Int), s' = { s with heap := h, toks := tk } → Below A (hideAll s.heap (fr outs)) outs g → KtsDicts (fr outs) g → KtsTurn (fr outs) s.heap g → Fr g L h (sldN l1 l2 lm lu i j ti tj mx) → News g L h [(lu, lst us n2), (lm, lst ms n1)] → IntsAre ms msI → IntsAre us usI → (∀ v ∈ ms, v ∈ v1) → (∀ v ∈ us, v ∈ v2) → i ≤ xs.length → j ≤ ys.length → xs.length - i + (ys.length - j) ≤ n → msI.length ≤ i → usI.length ≤ j → sldM xs ys = (msI ++ (sld n (xs.drop i) (ys.drop j)).1, usI ++ (sld n (xs.drop i) (ys.drop j)).2) → SldI A outs s l1 l2 lm lu L xs ys v1 v2 n s'
inductive SldH (A : Around) (outs : List Env) (s : Shared) (l1 l2 lm lu L : Addr) (xs ys : List Int) (v1 v2 : List Value) (e : Addr) (s' : Shared) : Prop
  | mk : ∀ (i j : Nat) (ti tj : Tok) (mx : Str → Option Value) (g h₀ h : Heap) (tk : Nat) (ms us : List Value) (n1 n2 : Nat) (msI usI : List Int) (c2 : Value) (fl : Option Value), s' = { s with heap := h, toks := tk } → Below A (hideAll s.heap (fr outs)) outs g → KtsDicts (fr outs) g → KtsTurn (fr outs) s.heap g → Fr g L h₀ (sldN l1 l2 lm lu i j ti tj mx) → News g L h₀ [(lu, lst us n2), (lm, lst ms n1)] → IntsAre ms msI → IntsAre us usI → (∀ v ∈ ms, v ∈ v1) → (∀ v ∈ us, v ∈ v2) → i ≤ xs.length → j ≤ ys.length → msI.length ≤ i → usI.length ≤ j → sldM xs ys = (msI ++ xs.drop i, usI ++ ys.drop j) → Air (L :: fr outs) h₀ h e (.type "IndexError") c2 fl → SldH A outs s l1 l2 lm lu L xs ys v1 v2 e s'
inductive PairPostI (s : Shared) (v1 v2 : List Value) (r : List Int × List Int) (v : Value) (h' : Heap) : Prop
  | mk : ∀ t lm lu n ms us n1 n2, v = .ref t → s.heap.get? t = none → s.heap.get? lm = none → s.heap.get? lu = none → lm ≠ lu → t ≠ lm → t ≠ lu → h'.get? t = some { cls := .type "tuple", data := .seq #[.ref lm, .ref lu] n } → h'.get? lm = some (lst ms n1) → h'.get? lu = some (lst us n2) → IntsAre ms r.1 → IntsAre us r.2 → (∀ v ∈ ms, v ∈ v1) → (∀ v ∈ us, v ∈ v2) → PairPostI s v1 v2 r v h'
noncomputable def PairPost (s : Shared) (v1 v2 : List Value) (r : List Int × List Int) (v : Value) (h' : Heap) (_ : Nat) : Prop := PairPostI s v1 v2 r v h'

theorem Fr_sldN {g h : Heap} {L : Addr} {m : Str → Option Value} {l1 l2 lm lu : Addr} {i j : Nat} {ti tj : Tok} (F : Fr g L h m) (h1 : m "i" = some (.int (i : Int) ti)) (h2 : m "j" = some (.int (j : Int) tj)) (h3 : m "expected" = some (.ref l1)) (h4 : m "actual" = some (.ref l2)) (h5 : m "missing" = some (.ref lm)) (h6 : m "unexpected" = some (.ref lu)) :
    Fr g L h (sldN l1 l2 lm lu i j ti tj m) := (sldN_of h1 h2 h3 h4 h5 h6) ▸ F
theorem mem_app1 {ms v1 : List Value} {x : Value} (h : ∀ v ∈ ms, v ∈ v1) (hx : x ∈ v1) : ∀ v ∈ ms ++ [x], v ∈ v1 := fun v hv => by
  rcases List.mem_append.mp hv with hv | hv
  · exact h v hv
  · exact List.mem_singleton.mp hv ▸ hx
theorem mem_app2 {ms ns v1 : List Value} (h : ∀ v ∈ ms, v ∈ v1) (hx : ∀ v ∈ ns, v ∈ v1) : ∀ v ∈ ms ++ ns, v ∈ v1 := fun v hv => (List.mem_append.mp hv).elim (h v) (hx v)
theorem mem_get {v1 : List Value} {i : Nat} {x : Value} (h : v1[i]? = some x) : x ∈ v1 := List.mem_of_getElem? h
theorem turn_none {fs : List Addr} {g₀ g : Heap} (TT : KtsTurn fs g₀ g) {c : Addr} (e : g.get? c = none) : g₀.get? c = none := by
  cases q : g₀.get? c with
  | none => rfl
  | some o => obtain ⟨sl, h⟩ := TT.up q; rw [e] at h; cases h
theorem ints_app : ∀ {vs ws : List Value} {xs ys : List Int}, IntsAre vs xs → IntsAre ws ys → IntsAre (vs ++ ws) (xs ++ ys)
  | _, _, _, _, .nil, h => h
  | _, _, _, _, .cons n t r, h => .cons n t (ints_app r h)
noncomputable abbrev sldA (l1 l2 lm lu : Addr) (i j : Nat) (ti tj : Tok) (va : Value) (mx : Str → Option Value) : Str → Option Value := fun z => if z = "a" then some va else sldN l1 l2 lm lu i j ti tj mx z
theorem Fr_sldA {g h : Heap} {L : Addr} {m : Str → Option Value} {l1 l2 lm lu : Addr} {i j : Nat} {ti tj : Tok} {va : Value} (F : Fr g L h m) (h1 : m "i" = some (.int (i : Int) ti)) (h2 : m "j" = some (.int (j : Int) tj)) (h3 : m "expected" = some (.ref l1)) (h4 : m "actual" = some (.ref l2)) (h5 : m "missing" = some (.ref lm)) (h6 : m "unexpected" = some (.ref lu)) (h7 : m "a" = some va) :
    Fr g L h (sldA l1 l2 lm lu i j ti tj va m) := by
  have e : m = sldA l1 l2 lm lu i j ti tj va m := by
    funext z
    by_cases q : z = "a"
    · subst q; simp [sldA, h7]
    · simp only [sldA, if_neg q]
      exact congrFun (sldN_of h1 h2 h3 h4 h5 h6) z
  exact e ▸ F
inductive SldF (s : Shared) (l1 l2 lm lu L : Addr) (xs : List Int) (outs : List Env) (g : Heap) (j : Nat) (tj : Tok) (va : Value) (i : Nat) (x : Int) (news : List (Addr × Obj)) (e : Addr) (s' : Shared) : Prop
  | mk : ∀ t' h₀ h tk mx', s' = { s with heap := h, toks := tk } → (xs.drop (i + 1)).dropWhile (· == x) = [] → Fr g L h₀ (sldA l1 l2 lm lu xs.length j t' tj va mx') → News g L h₀ news → Air (L :: fr outs) h₀ h e (.type "IndexError") .none (some (rawInt L)) → SldF s l1 l2 lm lu L xs outs g j tj va i x news e s'
section
variable {w : World} {A : Around} {s : Shared} {outs : List Env} {mg mb : Str → Option Value} {mean : ExcName → Option Value}
theorem sld_c {l1 l2 : Addr} {v1 v2 : List Value} {xs ys : List Int} (h1 : s.heap.IsList l1 v1.toArray) (h2 : s.heap.IsList l2 v2.toArray) (i1 : IntsAre v1 xs) (i2 : IntsAre v2 ys) (z1 : xs.length < 2 ^ 20) (z2 : ys.length < 2 ^ 20) (a : AmbW w mean mg mb A outs s.heap) (hd : A.depth < recursionLimit) :
    codeAny (model PG w) A (.call (.ref 63) ⟨[.ref l1, .ref l2], []⟩) (Ends outs s (PairPost s v1 v2 (sldM xs ys))) s := by
  have hh := a.hh
  have hb1 : (hideAll s.heap (fr outs)).IsList l1 v1.toArray := let ⟨o, e, c, n, d⟩ := h1; ⟨o, a.get e (fun es k q => by rw [d] at q; cases q), c, n, d⟩
  have hb2 : (hideAll s.heap (fr outs)).IsList l2 v2.toArray := let ⟨o, e, c, n, d⟩ := h2; ⟨o, a.get e (fun es k q => by rw [d] at q; cases q), c, n, d⟩
  refine' enter (m := loc [("actual", .ref l2), ("expected", .ref l1)]) a ?k6 ?k7 hd ?k9 ?km ?kB ?_ ?c2 ?c3 ?c4 ?c5
  ((case k6 => k_dflt k_is); (case k7 => k_dflt k_is); (case k9 => exact BindsTo.of_eq rfl); (try (case km => exact rfl)); (try (case c5 => decide)); (try (case kB => exact locs rfl)); (try (case kk => (intro n; (repeat (refine List.forall_mem_cons.mpr ⟨by first | exact .inl rfl | exact .inr ⟨rfl, rfl⟩, ?_⟩)); exact fun _ h => nomatch h))); (try (case knd => decide)); (case c2 => exact rfl); (case c3 => exact rfl); (case c4 => exact rfl))
  intro L' h₁ tk htk B X X' T D F N
  k_fold
  k_steps
  rename_i lm _ _ _ _ lu _ llt h₂ F N
  refine Stop.go (wpAny_While (codeAny_whileLoop (SldI A outs s l1 l2 lm lu L' xs ys v1 v2) (fun n s' hI => ?_) (xs.length + ys.length) ?init))
  case init =>
    exact ⟨0, 0, _, _, _, s.heap, _, _, [], [], 0, 0, [], [], rfl, B, D, .refl, Fr_sldN F rfl rfl rfl rfl rfl rfl, N, .nil, .nil, (fun _ h => nomatch h), (fun _ h => nomatch h), Nat.zero_le _, Nat.zero_le _, by (first | lia | omega), Nat.le_refl _, Nat.le_refl _, by simp [sldM]⟩
  obtain ⟨i, j, ti, tj, mx, g, h, tk, ms, us, n1, n2, msI, usI, rfl, B, D, TT, F, N, hms, hus, hmv, huv, hi, hj, hn, hmi, huj, hres⟩ := hI
  have Xg := X.keeps B.stays
  clear X' T
  have T : Top Mine.hd0.view_39 (looseW Mine.hd0.view_39 []) mean mg mb g := (a.open.2.2).keeps B.stays
  show wpAny _ _ _ _ _ _
  k_fold
  k_steps
  refine Stop.go (wpAny_Try_except (with_E (SldH A outs s l1 l2 lm lu L' xs ys v1 v2) ?hH ?main))
  case hH =>
    rintro e s₁ ⟨i, j, ti, tj, mx, g, h₀, h, tk, ms, us, n1, n2, msI, usI, c2, fl, rfl, B, D, TT, F, N, hms, hus, hmv, huv, hi, hj, hmi, huj, hres, hA⟩
    refine caught (hk := by rfl) (hx := by rfl) (hd := by decide) (K := Mine.hd0.heap_39 w.params) (p := Mine.hd0.view_39) (loose := looseW Mine.hd0.view_39 []) (mean := mean) (mg := mg) (mb := mb) (C := "IndexError") (c2 := c2) (fl := fl) (h₀ := h₀) B D TT F N X a.open.2.2 ?ex PyProof.Rows.Boot.«IndexError» (by decide) isExc_IndexError notTuple_IndexError self_IndexError hA fun g' h' B D TT F N => ?_
    case ex => k_dflt k_is
    have Xg := X.keeps B.stays
    have T : Top Mine.hd0.view_39 (looseW Mine.hd0.view_39 []) mean mg mb g' := (a.open.2.2).keeps B.stays
    have h1' : g'.IsList l1 v1.toArray := hb1.at fun o e => B.stays _ _ e
    have h2' : g'.IsList l2 v2.toArray := hb2.at fun o e => B.stays _ _ e
    have lms := hms.length
    have lus := hus.length
    have li1 := i1.length
    have li2 := i2.length
    have ld1 : (v1.drop i).length ≤ v1.length := by simp
    have ld2 : (v2.drop j).length ≤ v2.length := by simp
    show wpAny _ _ _ _ _ _
    k_fold
    k_steps
    refine Stop.go (my_slice_from (hs := by with_unfolding_all rfl) (ht := by (intro _; with_unfolding_all rfl)) F N (h1'.at fun o e => F.keep _ _ e) (by (first | lia | omega)) fun D1 h1' F N lt1 => ?_)
    simp only [AllLt, and_true] at lt1
    k_steps
    refine' Stop.go (my_extend F N (News.get N (by k_mem)) ?U ?hz ?_)
    case U => intro n'; k_upd
    case hz => exact ⟨by (first | lia | omega), by (first | lia | omega)⟩
    intro n1' h1' F N
    k_steps
    refine Stop.go (my_slice_from (hs := by with_unfolding_all rfl) (ht := by (intro _; with_unfolding_all rfl)) F N (h2'.at fun o e => F.keep _ _ e) (by (first | lia | omega)) fun D2 h2' F N lt2 => ?_)
    simp only [AllLt, and_true] at lt2
    k_steps
    refine' Stop.go (my_extend F N (News.get N (by k_mem)) ?U ?hz ?_)
    case U => intro n'; k_upd
    case hz => exact ⟨by (first | lia | omega), by (first | lia | omega)⟩
    intro n2' h2' F N
    k_steps
    rename_i D3 _ F N lt3
    have nw : ∀ c, g'.get? c = none → s.heap.get? c = none := fun c e => turn_none TT e
    refine ends_of TT F ⟨D3, lm, lu, 0, _, _, _, _, rfl, nw _ (N _ (by k_mem)).2.2, nw _ (N (lm, _) (by k_mem)).2.2, nw _ (N (lu, _) (by k_mem)).2.2, ?_, ?_, ?_, (N _ (by k_mem)).1, (N (lm, _) (by k_mem)).1, (N (lu, _) (by k_mem)).1, ?_, ?_, mem_app2 hmv fun v h => List.mem_of_mem_drop h, mem_app2 huv fun v h => List.mem_of_mem_drop h⟩
    · intro q; have q' : @Eq Nat _ _ := q; (first | lia | omega)
    · intro q; have q' : @Eq Nat _ _ := q; (first | lia | omega)
    · intro q; have q' : @Eq Nat _ _ := q; (first | lia | omega)
    · rw [hres]; exact ints_app hms (ints_drop i1)
    · rw [hres]; exact ints_app hus (ints_drop i2)
  case main =>
    intro hE
    have h1' : g.IsList l1 v1.toArray := hb1.at fun o e => B.stays _ _ e
    have h2' : g.IsList l2 v2.toArray := hb2.at fun o e => B.stays _ _ e
    have lms := hms.length
    have lus := hus.length
    show wpAny _ _ _ _ _ _
    k_fold
    k_steps
    by_cases hil : i < xs.length
    case neg =>
      refine Stop.go (item_raise (hs := by with_unfolding_all rfl) (fs := L' :: fr outs) (.inl ⟨hh, rfl⟩) (h1'.at fun o e => F.keep _ _ e) (by (first | lia | omega)) (by have := i1.length; (first | lia | omega)) fun h' tk e hA => hE _ _ ⟨i, j, _, _, _, g, _, _, _, ms, us, n1, n2, msI, usI, _, _, rfl, B, D, TT, F, N, hms, hus, hmv, huv, hi, hj, hmi, huj, ?_, hA⟩)
      rw [hres, List.drop_eq_nil_of_le (by (first | lia | omega)), sld_nil_left]
    obtain ⟨tx, hx⟩ := i1.get i xs[i] (by simp [hil])
    refine Stop.go (item_in (hs := by with_unfolding_all rfl) (h1'.at fun o e => F.keep _ _ e) (by (first | lia | omega)) (v := .int xs[i] tx) (by unfold pyIdx; rw [if_pos (by (first | lia | omega))]; simpa using hx) ?_)
    have hxv : v1[i]? = some (.int xs[i] tx) := by simpa using hx
    generalize hxe : xs[i] = x at *
    k_steps
    by_cases hjl : j < ys.length
    case neg =>
      rename_i F N
      refine Stop.go (item_raise (hs := by with_unfolding_all rfl) (fs := L' :: fr outs) (.inl ⟨hh, rfl⟩) (h2'.at fun o e => F.keep _ _ e) (by (first | lia | omega)) (by have := i2.length; (first | lia | omega)) fun h' tk e hA => hE _ _ ⟨i, j, _, _, _, g, _, _, _, ms, us, n1, n2, msI, usI, _, _, rfl, B, D, TT, Fr_sldN F rfl rfl rfl rfl rfl rfl, N, hms, hus, hmv, huv, hi, hj, hmi, huj, ?_, hA⟩)
      rw [hres, List.drop_eq_nil_of_le (as := ys) (by (first | lia | omega)), sld_nil_right]
    obtain ⟨ty, hy⟩ := i2.get j ys[j] (by simp [hjl])
    rename_i F N
    refine Stop.go (item_in (hs := by with_unfolding_all rfl) (h2'.at fun o e => F.keep _ _ e) (by (first | lia | omega)) (v := .int ys[j] ty) (by unfold pyIdx; rw [if_pos (by (first | lia | omega))]; simpa using hy) ?_)
    have hyv : v2[j]? = some (.int ys[j] ty) := by simpa using hy
    generalize hye : ys[j] = y at *
    have ex : xs[i]? = some x := by rw [List.getElem?_eq_getElem hil, hxe]
    have ey : ys[j]? = some y := by rw [List.getElem?_eq_getElem hjl, hye]
    obtain ⟨n', rfl⟩ : ∃ n', n = n' + 1 := ⟨n - 1, by (first | lia | omega)⟩
    k_steps
    · skip
      refine Stop.go ?_
      k_dflt (refine' my_append (by k_asm) (by k_asm) ?U ?hz ?_; (case U => intro n'; k_upd); (case hz => lia))
      intro _ _ _ _
      try k_sweep
      k_steps
      rename_i F N
      have hxy : x < y := by assumption
      refine Stop.go (inner_while (A₀ := A) (xs := xs) (c2 := .none) (k := i + 1) (Ax := A.deeper _) B (Around.frames_deeper B.stack) F N rfl rfl rfl rfl (by decide) (by decide) (by decide) (by decide) (by decide) rfl rfl h1' i1 (by (first | lia | omega)) (by (first | lia | omega)) (fun _ _ => .inl ⟨hh, rfl⟩) ?done ?raised)
      case done =>
        intro k' t' h'' tk' hk1 hk2 hk3 F N
        k_steps
        refine Stop.go ⟨n', by (first | lia | omega), k', j, _, _, _, g, _, _, _, us, _, n2, msI ++ [x], usI, rfl, B, D, TT, Fr_sldN F rfl rfl rfl rfl rfl rfl, N, ints_app hms (.cons x tx .nil), hus, mem_app1 hmv (mem_get hxv), huv, by (first | lia | omega), hj, by (first | lia | omega), by simp; (first | lia | omega), huj, ?_⟩
        rw [hres, sld_lt ex ey hxy, hk3]; simp
      case raised =>
        intro t' h' h'' tk' e hk3 F N hA
        refine hE _ _ ⟨xs.length, j, _, _, _, g, _, _, _, _, us, _, n2, msI ++ [x], usI, _, _, rfl, B, D, TT, Fr_sldN F rfl rfl rfl rfl rfl rfl, N, ints_app hms (.cons x tx .nil), hus, mem_app1 hmv (mem_get hxv), huv, by (first | lia | omega), hj, by simp; (first | lia | omega), huj, ?_, hA⟩
        rw [hres, sld_lt ex ey hxy, hk3]; simp [sld_nil_left]
    · skip
      refine Stop.go ?_
      k_dflt (refine' my_append (by k_asm) (by k_asm) ?U ?hz ?_; (case U => intro n'; k_upd); (case hz => lia))
      intro _ _ _ _
      try k_sweep
      k_steps
      rename_i F N
      have hyx : y < x := by assumption
      refine Stop.go (inner_while (A₀ := A) (xs := ys) (c2 := .none) (k := j + 1) (Ax := A.deeper _) B (Around.frames_deeper B.stack) F N rfl rfl rfl rfl (by decide) (by decide) (by decide) (by decide) (by decide) rfl rfl h2' i2 (by (first | lia | omega)) (by (first | lia | omega)) (fun _ _ => .inl ⟨hh, rfl⟩) ?done ?raised)
      case done =>
        intro k' t' h'' tk' hk1 hk2 hk3 F N
        k_steps
        refine Stop.go ⟨n', by (first | lia | omega), i, k', _, _, _, g, _, _, ms, _, n1, _, msI, usI ++ [y], rfl, B, D, TT, Fr_sldN F rfl rfl rfl rfl rfl rfl, N, hms, ints_app hus (.cons y ty .nil), hmv, mem_app1 huv (mem_get hyv), hi, by (first | lia | omega), by (first | lia | omega), hmi, by simp; (first | lia | omega), ?_⟩
        rw [hres, sld_gt ex ey hyx, hk3]; simp
      case raised =>
        intro t' h' h'' tk' e hk3 F N hA
        refine hE _ _ ⟨i, ys.length, _, _, _, g, _, _, _, ms, _, n1, _, msI, usI ++ [y], _, _, rfl, B, D, TT, Fr_sldN F rfl rfl rfl rfl rfl rfl, N, hms, ints_app hus (.cons y ty .nil), hmv, mem_app1 huv (mem_get hyv), hi, by (first | lia | omega), hmi, by simp; (first | lia | omega), ?_, hA⟩
        rw [hres, sld_gt ex ey hyx, hk3]; simp [sld_nil_right]
    · rename_i F N
      have hxye : x = y := by (first | lia | omega)
      refine Stop.go (wpAny_Try_finally (with_E (SldF s l1 l2 lm lu L' xs outs g j tj (.int y ty) i x [(lu, lst us n2), (lm, lst ms n1)]) ?hH2 ?main2))
      case main2 =>
        intro hE2
        refine wpAny_execs_cons (inner_while (A₀ := A) (xs := xs) (c2 := .none) (k := i + 1) (Ax := A.deeper _) B (Around.frames_deeper B.stack) F N rfl rfl rfl rfl (by decide) (by decide) (by decide) (by decide) (by decide) rfl rfl h1' i1 (by (first | lia | omega)) (by (first | lia | omega)) (fun _ _ => .inl ⟨hh, rfl⟩) ?done ?raised)
        case done =>
          intro k' t' h'' tk' hk1 hk2 hk3 F N
          k_steps
          rename_i F N
          refine Stop.go (inner_while (A₀ := A) (xs := ys) (c2 := .none) (k := j + 1) (Ax := A.deeper _) B (Around.frames_deeper B.stack) F N rfl rfl rfl rfl (by decide) (by decide) (by decide) (by decide) (by decide) rfl rfl h2' i2 (by (first | lia | omega)) (by (first | lia | omega)) (fun _ _ => .inl ⟨hh, rfl⟩) ?done3 ?raised3)
          case done3 =>
            intro k2' t2' h2'' tk2' hk21 hk22 hk23 F N
            k_steps
            refine Stop.go ⟨n', by (first | lia | omega), k', k2', _, _, _, g, _, _, ms, us, n1, n2, msI, usI, rfl, B, D, TT, Fr_sldN F rfl rfl rfl rfl rfl rfl, N, hms, hus, hmv, huv, by (first | lia | omega), by (first | lia | omega), by (first | lia | omega), by (first | lia | omega), by (first | lia | omega), ?_⟩
            rw [hres, sld_eq ex ey hxye, hk3, hk23]
          case raised3 =>
            intro t2' h2'' h3'' tk2' e hk23 F N hA
            refine air_through (s := { s with heap := h3'', toks := tk2' }) (h₀ := h2'') (L := L') (Around.frames_deeper B.stack) (Around.frames_deeper B.stack) (raise_frames B F rfl).2 rfl hA fun h₃ x₃ => ?_
            refine hE _ _ ⟨k', ys.length, _, _, _, g, _, _, _, ms, us, n1, n2, msI, usI, _, _, rfl, B, D, TT, Fr_sldN F rfl rfl rfl rfl rfl rfl, N, hms, hus, hmv, huv, by (first | lia | omega), by (first | lia | omega), by (first | lia | omega), by (first | lia | omega), ?_, x₃⟩
            rw [hres, sld_eq ex ey hxye, hk3, hk23]; simp [sld_nil_right]
        case raised =>
          intro t' h' h'' tk' e hk3 F N hA
          exact hE2 _ _ ⟨t', h', h'', tk', _, rfl, hk3, Fr_sldA F rfl rfl rfl rfl rfl rfl rfl, N, hA⟩
      case hH2 =>
        rintro e s₁ ⟨t', h₀, h, tk, mx', rfl, hk3, F, N, hA⟩
        refine fin_raised (hk := by rfl) (h₀ := h₀) B D TT F N hA fun g' h' t oe ot B D TT F N hL => ?_
        have Xg := X.keeps B.stays
        have T : Top Mine.hd0.view_39 (looseW Mine.hd0.view_39 []) mean mg mb g' := (a.open.2.2).keeps B.stays
        have h1' : g'.IsList l1 v1.toArray := hb1.at fun o e => B.stays _ _ e
        have h2' : g'.IsList l2 v2.toArray := hb2.at fun o e => B.stays _ _ e
        show wpAny _ _ _ _ _ _
        k_fold
        k_steps
        rename_i F N
        obtain ⟨hte, hoc, vs0, ts0, hod, ho2, hsz, ho1, hdT, ht3⟩ := id hL
        refine Stop.go (inner_while (A₀ := A) (xs := ys) (c2 := .ref e) (k := j + 1) (Ax := (A.deeper _).mark _) B (Around.frames_deeper B.stack) F N rfl rfl rfl rfl (by decide) (by decide) (by decide) (by decide) (by decide) rfl rfl h2' i2 (by (first | lia | omega)) (by (first | lia | omega)) (fun h N => .inr ⟨e, oe, vs0, rfl, rfl, (N _ List.mem_cons_self).1, hod, ho2⟩) ?done ?raised)
        case done =>
          intro k2' t2' h2'' tk2' hk21 hk22 hk23 F N
          refine wpAny_execs_nil ?_
          refine pass_on (hk := by rfl) (s := { s with heap := h2'', toks := tk2' }) B D F N ?hnl hL fun h₀ h' F N hA => hE _ _ ⟨xs.length, k2', _, _, _, g', h₀, h', _, ms, us, n1, n2, msI, usI, _, _, rfl, B, D, TT, Fr_sldN F rfl rfl rfl rfl rfl rfl, N, hms, hus, hmv, huv, by (first | lia | omega), by (first | lia | omega), by (first | lia | omega), by (first | lia | omega), ?_, hA⟩
          case hnl =>
            intro q hq ws
            rcases List.mem_cons.mp hq with rfl | hq
            · exact fun z => by cases z
            · rw [List.mem_singleton.mp hq]; exact fun z => by cases z
          rw [hres, sld_eq ex ey hxye, hk3, hk23]; simp [sld_nil_left]
        case raised =>
          intro t2' h2'' h3'' tk2' e' hk23 F N hA
          refine air_through (s := { s with heap := h3'', toks := tk2' }) (h₀ := h2'') (L := L') (Around.frames_deeper B.stack) (Around.frames_deeper B.stack) (raise_frames B F rfl).2 rfl hA fun h₃ x₃ => ?_
          refine hE _ _ ⟨xs.length, ys.length, _, _, _, g', _, _, _, ms, us, n1, n2, msI, usI, _, _, rfl, B, D, TT, Fr_sldN F rfl rfl rfl rfl rfl rfl, ?_, hms, hus, hmv, huv, by (first | lia | omega), by (first | lia | omega), by (first | lia | omega), by (first | lia | omega), ?_, x₃⟩
          · exact fun q hq => N q (List.mem_cons_of_mem _ (List.mem_cons_of_mem _ hq))
          rw [hres, sld_eq ex ey hxye, hk3, hk23]; simp [sld_nil_left]
end
end
section
local macro_rules | `(tactic| walk_at "exec For") => `(tactic| refine stop ?_)
local macro_rules | `(tactic| walk_at "exec For Tuple Call nil") => `(tactic| refine stop ?_)
local macro_rules | `(tactic| walk_at "exec For Tuple Call cons") => `(tactic| refine stop ?_)
local macro_rules | `(tactic| walk_at "compareOp Is int int") => `(tactic| refine stop ?_)
local macro_rules | `(tactic| walk_at "call type:enumerate") => `(tactic| refine stop ?_)
local macro_rules | `(tactic| walk_at "exec Raise some none") => `(tactic| refine stop ?_)
local macro_rules | `(tactic| walk_at "call type:ValueError") => `(tactic| refine stop ?_)
local macro_rules | `(tactic| walk_at "exec Raise") => `(tactic| refine stop ?_)
local macro_rules | `(tactic| walk_at "Exists") => `(tactic| refine stop ?_)
theorem stores1 {M : Model} {A : Around} {env : Env} {E : Value → Shared → Prop} {x : Str} {a : Value} {K : Shared → Prop} {s : Shared} (h : wpAny M A (storeName env x a) (fun _ s' => K s') E s) : Stores M A env E [(x, a)] K s := h
theorem stores2 {M : Model} {A : Around} {env : Env} {E : Value → Shared → Prop} {x y : Str} {a b : Value} {K : Shared → Prop} {s : Shared} (h : wpAny M A (storeName env x a) (fun _ s' => wpAny M A (storeName env y b) (fun _ s'' => K s'') E s') E s) : Stores M A env E [(x, a), (y, b)] K s := h
section
variable {w : World} {A : Around} {s : Shared} {outs : List Env} {mg mb : Str → Option Value} {mean : ExcName → Option Value}
noncomputable def IdxR (outs : List Env) (s : Shared) (xs : List Int) (y : Int) (r : Result) (s' : Shared) : Prop :=
  match r with
  | .ok (.ret v) => ∃ h' tk, s' = { s with heap := h', toks := tk } ∧ Kept (fr outs) s.heap h' ∧ ∃ k t, v = .int ((k : Nat) : Int) t ∧ xs[k]? = some y ∧ ∀ i, i < k → xs[i]? ≠ some y
  | .error (.ref e) => ∃ h' tk, s' = { s with heap := h', toks := tk } ∧ (y ∉ xs) ∧ Air (fr outs) s.heap h' e (.type "ValueError") .none (some .none)
  | _ => False
noncomputable abbrev idxN (l : Addr) (y : Int) (u : Tok) (mx : Str → Option Value) : Str → Option Value := fun z => if z = "a" then some (.ref l) else if z = "b" then some (.int y u) else mx z
theorem idxN_of {m : Str → Option Value} {l : Addr} {y : Int} {u : Tok} (h1 : m "a" = some (.ref l)) (h2 : m "b" = some (.int y u)) : m = idxN l y u m := by
  funext z
  by_cases e1 : z = "a"
  · subst e1; simp [idxN, h1]
  by_cases e2 : z = "b"
  · subst e2; simp [idxN, h2, e1]
  simp [idxN, e1, e2]
noncomputable def Apart (vs : List Value) (y : Int) (u : Tok) : Prop := u ≠ 0 ∧ ∀ v ∈ vs, ∀ x t, v = .int x t → t ≠ 0 ∧ (t = u → x = y)
theorem booked {P : Params} {h : Heap} (X : (Mine.hd0.heap_39 P).In h) {loose : List Str} {mean : ExcName → Option Value} {mg mb : Str → Option Value} {p : Program} (T : Top p loose mean mg mb h) (e : nsIn (Mine.hd0.heap_39 P) cStatics sharingNotToldKey = some none) : NoneBooked h := by
  obtain ⟨mc, h1, _⟩ := T.nolimit
  exact ⟨mc, h1, ns_none_of X h1 e⟩
theorem is_ints {M : Model} {A : Around} {E : Value → Shared → Prop} {s : Shared} {Q : Value → Shared → Prop} {x y : Int} {t u : Tok} (ht : t ≠ 0) (hu : u ≠ 0) (htu : t = u → x = y) (hb : NoneBooked s.heap) (hQ : ∀ b, (b = true → x = y) → Q (.bool b) s) :
    wpAny M A (compareOp .Is (.int x t) (.int y u)) Q E s := by
  have h0 : (t == 0 || u == 0) = false := by simp [ht, hu]
  show wpAny M A (isSame (.int x t) (.int y u) >>= fun b => pure (.bool b)) Q E s
  refine wpAny_bind ?_
  show wpAny M A (if (x == y && smallInt x) = true then isSame.cachedInt t u else isSame.created (x == y) t u) _ _ _
  by_cases hs : (x == y && smallInt x) = true
  · rw [if_pos hs]
    have hxy : x = y := by simp at hs; exact hs.1
    unfold isSame.cachedInt
    rw [h0]
    exact wpAny_bind (wpAny_rule (wpAny_pure (wpAny_pure (hQ true fun _ => hxy))))
  · rw [if_neg hs]
    unfold isSame.created
    rw [h0]
    refine wpAny_ite ?_
    rw [if_neg Bool.false_ne_true]
    refine wpAny_ite ?_
    split
    · rename_i htu'
      exact wpAny_pure (wpAny_pure (hQ true fun _ => htu (by simpa using htu')))
    refine wpAny_ite ?_
    split
    · exact wpAny_pure (wpAny_pure (hQ false fun h => nomatch h))
    · rename_i hxy
      have hxy' : x = y := by simpa using hxy
      refine wpAny_bind (wpAny_sharingNotTold_none hb ?_)
      rw [if_neg Bool.false_ne_true]
      refine wpAny_bind (wpAny_sharingNotTold_none hb ?_)
      rw [if_neg Bool.false_ne_true]
      exact wpAny_bind (wpAny_rule (wpAny_bind (wpAny_askSetting (wpAny_pure (wpAny_pure (hQ _ fun _ => hxy'))))))
noncomputable def IdxJ (l : Addr) (xs : List Int) (y : Int) (u : Tok) (i : Nat) (m : Str → Option Value) (news : List (Addr × Obj)) (_ : Nat) : Prop := news = [] ∧ (∃ mx, m = idxN l y u mx) ∧ ∀ k, k < i → xs[k]? ≠ some y
theorem air_outer {L e : Addr} {fs : List Addr} {h₀ h₁ h' : Heap} {cls c2 : Value} {fl : Option Value} (x : Air (L :: fs) h₁ h' e cls c2 fl) (k : Kept fs h₀ h₁) (hL : h₀.get? L = none) : Air fs h₀ h' e cls c2 fl := by
  obtain ⟨hk, hn, oe, vs, he, hc, hd, h2, hsz, ht⟩ := x
  have nn : ∀ c, h₁.get? c = none → h₀.get? c = none := fun c e => by
    cases q : h₀.get? c with
    | none => rfl
    | some o => obtain ⟨sl, z⟩ := k.up q; rw [e] at z; cases z
  have ne : ∀ b o, h₀.get? b = some o → b ≠ L := fun b o q z => by rw [z, hL] at q; cases q
  refine ⟨⟨fun b o q m => hk.other b o (k.other b o q m) fun hm => (List.mem_cons.mp hm).elim (ne b o q) m, fun b o q m => ?_⟩, nn _ hn, oe, vs, he, hc, hd, h2, hsz, ?_⟩
  · obtain ⟨s1, h1⟩ := k.frame b o q m
    obtain ⟨s2, h2⟩ := hk.frame b _ h1 (List.mem_cons_of_mem _ m)
    exact ⟨s2, h2⟩
  · cases fl with
    | none => exact ht
    | some f => obtain ⟨t, oT, ts, a1, a2, a3⟩ := ht; exact ⟨t, oT, ts, a1, nn _ a2, a3⟩
theorem indexOf_c {l : Addr} {vs : List Value} {xs : List Int} {y : Int} {u : Tok} (hl : s.heap.IsList l vs.toArray) (hi : IntsAre vs xs) (hz : xs.length < 2 ^ 20) (hap : Apart vs y u) (a : AmbW w mean mg mb A outs s.heap) (hd : A.depth < recursionLimit) :
    codeAny (model PG w) A (.call (.ref 49) ⟨[.ref l, .int y u], []⟩) (IdxR outs s xs y) s := by
  have hh := a.hh
  have hlb : (hideAll s.heap (fr outs)).IsList l vs.toArray := let ⟨o, e, c, n, d⟩ := hl; ⟨o, a.get e (fun es k q => by rw [d] at q; cases q), c, n, d⟩
  refine' enter (m := loc [("b", .int y u), ("a", .ref l)]) a ?k6 ?k7 hd ?k9 ?km ?kB ?_ ?c2 ?c3 ?c4 ?c5
  ((case k6 => k_dflt k_is); (case k7 => k_dflt k_is); (case k9 => exact BindsTo.of_eq rfl); (try (case km => exact rfl)); (try (case c5 => decide)); (try (case kB => exact locs rfl)); (try (case kk => (intro n; (repeat (refine List.forall_mem_cons.mpr ⟨by first | exact .inl rfl | exact .inr ⟨rfl, rfl⟩, ?_⟩)); exact fun _ h => nomatch h))); (try (case knd => decide)); (case c2 => exact rfl); (case c3 => exact rfl); (case c4 => exact rfl))
  intro L' h₁ tk htk B X X' T D F N
  k_fold
  k_steps
  refine Stop.go (wpAny_For ?_)
  k_steps
  refine Stop.go (for_enum (news := []) (keep := []) (hl.at fun o e => F.keep _ _ e) hh B D .refl F N (fun _ h => nomatch h) (IdxJ l xs y u) ⟨rfl, ⟨_, idxN_of rfl rfl⟩, fun k hk => absurd hk (Nat.not_lt_zero _)⟩ (fun i m news tk hJ p hp => by obtain ⟨rfl, _⟩ := hJ; exact nomatch hp) (fun i m news tk tk' hJ _ => hJ)
    (.inl (let ⟨o, e, _⟩ := hl; ⟨o, e⟩)) ?turn ?done)
  case turn =>
    rintro i bs g m₁ news₁ own h tk hin ⟨t, v, hv, rfl⟩ B D TT ⟨rfl, ⟨mx, rfl⟩, hJ⟩ F N hown
    have Xg := X.keeps B.stays
    clear X' T
    have T : Top Mine.hd0.view_39 (looseW Mine.hd0.view_39 []) mean mg mb g := (a.open.2.2).keeps B.stays
    have hil : i < xs.length := by rw [← hi.length]; exact hin
    obtain ⟨tx, hx⟩ := hi.get i xs[i] (by simp [hil])
    rw [hx] at hv
    cases hv
    obtain ⟨hu0, hsep⟩ := hap
    obtain ⟨ht0, htu⟩ := hsep _ (mem_get hx) _ _ rfl
    have exi : xs[i]? = some xs[i] := by simp [hil]
    generalize xs[i] = x at *
    have nb : NoneBooked g := booked Xg T (by k_is)
    refine stores2 ?_
    k_fold
    k_steps
    rename_i F N
    refine Stop.go (is_ints (s := { s with heap := _, toks := _ }) ht0 hu0 htu ⟨_, nb.choose_spec.1.keeps F.keep, nb.choose_spec.2⟩ fun b hb => ?_)
    cases b with
    | true =>
      k_steps
      show IdxR outs s xs y (Except.ok (Flow.ret (Value.int (i : Int) t))) _
      exact ⟨_, _, rfl, kept_of TT F, i, t, rfl, by rw [exi, hb rfl], fun k hk => hJ k hk⟩
    | false =>
      k_steps
      · show IdxR outs s xs y (Except.ok (Flow.ret (Value.int (i : Int) t))) _
        have exy : x = y := by assumption
        exact ⟨_, _, rfl, kept_of TT F, i, t, rfl, by rw [exi, exy], fun k hk => hJ k hk⟩
      · have exy : x ≠ y := by assumption
        exact Turned.mk [] B D TT F N (fun p hp => nomatch hp) (fun p hp => List.mem_append_right _ hp) ⟨rfl, ⟨_, idxN_of rfl rfl⟩, fun k hk => by
          rcases Nat.lt_succ_iff_lt_or_eq.mp hk with hk | rfl
          · exact hJ k hk
          · rw [exi]; exact fun q => exy (Option.some.inj q)⟩
  case done =>
    rintro g m₁ news₁ h tk B D TT ⟨rfl, ⟨mx, rfl⟩, hJ⟩ F N
    have Xg := X.keeps B.stays
    clear X' T
    have T : Top Mine.hd0.view_39 (looseW Mine.hd0.view_39 []) mean mg mb g := (a.open.2.2).keeps B.stays
    show wpAny _ _ _ _ _ _
    k_fold
    k_steps
    refine Stop.go (Raise_new hh ?_)
    k_steps
    refine Stop.go (call_exc_raise excClass_ValueError fun h' e hx => ?_)
    refine air_through (s := { s with heap := h', toks := _ }) (h₀ := h) (L := L') (Around.frames_deeper B.stack) (Around.frames_deeper B.stack) (raise_frames B F rfl).2 rfl (air_of_new hx) fun h₃ x₃ => ?_
    show wpAny _ _ (noteFrame _ _ >>= fun _ => setFlight _ _) _ _ _
    have hFF := (raise_frames (name := "indexOf") (a := (49 : Addr)) (cd := Value.ref 48) (scope := { kind := .function, names := [], isGenerator := false, isCoroutine := false }) B F rfl).2
    refine wpAny_bind (air_note (s := { s with heap := h₃, toks := _ }) (h₀ := h) (L := L') (Around.frames_deeper B.stack) (raise_frames B F rfl).2 rfl x₃ fun h₄ x₄ => ?_)
    refine air_flight (s := { s with heap := h₄, toks := _ }) (fs := L' :: fr outs) (h₀ := h) (fun c hc => let ⟨_, o, ho, _⟩ := hFF.mem (l := _ :: outs) (b := c) hc; ⟨o, ho⟩) x₄ fun h₅ x₅ => ?_
    show IdxR outs s xs y (Except.error (Value.ref e)) _
    refine ⟨h₅, _, rfl, fun hm => ?_, air_outer x₅ (kept_of TT F) (turn_none TT (kts_self F))⟩
    obtain ⟨k, hk, e⟩ := List.getElem_of_mem hm
    exact hJ k (by rw [hi.length]; exact hk) (by simp [hk, e])
end
end
section
local macro_rules | `(tactic| walk_at "exec Try") => `(tactic| refine stop ?_)
local macro_rules | `(tactic| walk_at "exec Try cons cons") => `(tactic| refine stop ?_)
local macro_rules | `(tactic| walk_at "call ref") => `(tactic| refine stop ?_)
local macro_rules | `(tactic| walk_at "call") => `(tactic| refine stop ?_)
local macro_rules | `(tactic| walk_at "Exists") => `(tactic| refine stop ?_)
section
variable {w : World} {A : Around} {s : Shared} {outs : List Env} {mg mb : Str → Option Value} {mean : ExcName → Option Value}
theorem indexOf_found {l : Addr} {vs : List Value} {xs : List Int} {y : Int} {u : Tok} (hl : s.heap.IsList l vs.toArray) (hi : IntsAre vs xs) (hz : xs.length < 2 ^ 20) (hap : Apart vs y u) (hm : y ∈ xs) (a : AmbW w mean mg mb A outs s.heap) (hd : A.depth < recursionLimit) :
    codeAny (model PG w) A (.call (.ref 49) ⟨[.ref l, .int y u], []⟩) (Ends outs s fun v h' tk => ∃ k t, v = .int ((k : Nat) : Int) t ∧ xs[k]? = some y ∧ ∀ i, i < k → xs[i]? ≠ some y) s := by
  refine codeAny_mono (indexOf_c hl hi hz hap a hd) fun r s' hr => ?_
  unfold IdxR at hr
  split at hr
  · obtain ⟨h', tk, rfl, hk, hp⟩ := hr
    exact ⟨h', tk, rfl, hk, hp⟩
  · obtain ⟨h', tk, rfl, hn, _⟩ := hr
    exact (hn hm).elim
  · exact hr.elim
theorem spot_c {l : Addr} {vs : List Value} {xs : List Int} {y : Int} {u : Tok} (hl : s.heap.IsList l vs.toArray) (hi : IntsAre vs xs) (hz : xs.length < 2 ^ 20) (hap : Apart vs y u) (hm : y ∉ xs) (a : AmbW w mean mg mb A outs s.heap) (hd : A.depth + 1 < recursionLimit) :
    codeAny (model PG w) A (.call (.ref 82) ⟨[.ref l, .int y u], []⟩) (Ends outs s fun v h' tk => ∃ t, v = .str "refused" t) s := by
  have hh := a.hh
  refine' enter (m := loc [("thing", .int y u), ("row", .ref l)]) a ?k6 ?k7 (by (first | lia | omega)) ?k9 ?km ?kB ?_ ?c2 ?c3 ?c4 ?c5
  ((case k6 => k_dflt k_is); (case k7 => k_dflt k_is); (case k9 => exact BindsTo.of_eq rfl); (try (case km => exact rfl)); (try (case c5 => decide)); (try (case kB => exact locs rfl)); (try (case kk => (intro n; (repeat (refine List.forall_mem_cons.mpr ⟨by first | exact .inl rfl | exact .inr ⟨rfl, rfl⟩, ?_⟩)); exact fun _ h => nomatch h))); (try (case knd => decide)); (case c2 => exact rfl); (case c3 => exact rfl); (case c4 => exact rfl))
  intro L' h₁ tk htk B X X' T D F N
  k_fold
  k_steps
  refine Stop.go (wpAny_Try_except ?_)
  k_steps
  refine Stop.go (wpAny_call (codeAny_mono (indexOf_c (hl.at fun o e => F.keep _ _ e) hi hz hap (amb_in B D F X a.open.2.2 hh rfl rfl) (by show A.depth + 1 < _; (first | lia | omega))) fun r s' hr => ?_))
  unfold IdxR at hr
  split at hr
  · obtain ⟨h', tk, rfl, hk, k, t, _, hx, _⟩ := hr
    exact (hm (List.mem_of_getElem? hx)).elim
  · obtain ⟨h', tk', rfl, _, hA⟩ := hr
    refine caught (hk := by rfl) (hx := by rfl) (hd := by decide) (s := { s with heap := h', toks := tk' }) (K := Mine.hd0.heap_39 w.params) (p := Mine.hd0.view_39) (loose := looseW Mine.hd0.view_39 []) (mean := mean) (mg := mg) (mb := mb) (C := "ValueError") (c2 := .none) (fl := some .none) (h₀ := h₁) B D .refl F N X a.open.2.2 ?ex PyProof.Rows.Boot.«ValueError» (by decide) isExc_ValueError notTuple_ValueError self_ValueError hA fun g' h' B D TT F N => ?_
    case ex => k_dflt k_is
    show wpAny _ _ _ _ _ _
    k_fold
    k_steps
    exact ends_of TT F ⟨_, rfl⟩
  · exact hr.elim
end
end
section
section
variable {prog : Program} {w : World} {A₀ A : Around} {s : Shared} {K : Frag} {base b g g₀ : Heap} {outs : List Env} {mg mb : Str → Option Value} {p : Program} {loose : List Str} {mean : ExcName → Option Value}
  {R : Result → Shared → Prop} {name qual : Str} {params : Arguments} {body : List Stmt} {scope : Scope} {dV kV doc pm cdv ct oc : Value} {an od : Option Addr} {osl : Array (Option Value)} {f : Addr} {args : Args} {binds : List (Str × Value)} {m : Str → Option Value}

theorem fs_lt' {h : Heap} {L : Addr} (D : KtsDicts (fr outs) g) (F : Fr g L h m) : ∀ c ∈ L :: fr outs, c < h.objs.size := fun c hc => by
  rcases List.mem_cons.mp hc with rfl | hc
  · exact F.ns.lt
  · obtain ⟨o, _, _, e, _⟩ := D c hc
    exact Heap.lt_size (F.keep _ _ e)
theorem list_off' {h : Heap} {L l : Addr} {vs : Array Value} (D : KtsDicts (fr outs) g) (F : Fr g L h m) (hl : h.IsList l vs) : l ∉ L :: fr outs := fun hm => by
  rcases List.mem_cons.mp hm with rfl | hm
  · obtain ⟨o', es, k, e, hd, _⟩ := F.ns
    obtain ⟨o, e', _, _, hd'⟩ := hl
    rw [e] at e'
    cases e'
    rw [hd] at hd'
    cases hd'
  · obtain ⟨o', es, k, e, hd⟩ := D l hm
    obtain ⟨o, e', _, _, hd'⟩ := hl
    rw [F.keep _ _ e] at e'
    cases e'
    rw [hd] at hd'
    cases hd'
theorem enterC (x : Amb K p loose mean mg mb A outs s.heap)
    (ho : K.lookup f = some ⟨oc, od, .func (fnX name qual params body scope [] dV kV doc pm an cdv ct), osl⟩) (hcd : codeIn K cdv qual = true) (hroom : A.depth < recursionLimit)
    (hbind : BindsTo s (fnX name qual params body scope [] dV kV doc pm an cdv ct) args binds)
    (hkind : ∀ n, ∀ x ∈ binds, scope.names.lookup x.1 = some .local ∨ (scope.names.lookup x.1 = some .cell ∧ ((cellsFrom n scope.names []).lookup x.1).isSome = true))
    (hnd : ((cellsFrom 0 scope.names []).map (·.1)).Nodup)
    (h : ∀ L' h₁ tk cells, s.toks ≤ tk → Below A (hideAll s.heap (fr outs)) outs s.heap → K.In (hideAll s.heap (fr outs)) → K.In s.heap → Top p loose mean mg mb s.heap → KtsDicts (fr outs) s.heap →
      Fr s.heap L' h₁ (bindL (envOfC qual scope L' f cdv).kindOf binds fun _ => none) → News s.heap L' h₁ cells → CellsAre (bindC (envOfC qual scope L' f cdv).kindOf binds fun _ => none) (cellsFrom (L' + 1) scope.names []) cells →
      wpAny (model prog w) (A.deeper (envOfC qual scope L' f cdv)) (execs body (envOfC qual scope L' f cdv))
        (fun fl s' => R (.ok (.ret (match fl with | .ret v => v | _ => .none))) s')
        (fun e s' => wpAny (model prog w) (A.deeper (envOfC qual scope L' f cdv)) (leaving (envOfC qual scope L' f cdv) e) (fun _ s'' => R (.error e) s'') (fun e' s'' => R (.error e') s'') s')
        { s with heap := h₁, toks := tk })
    (hco : scope.isCoroutine = false) (hgen : scope.isGenerator = false) (hk : scope.kind = .function) : codeAny (model prog w) A (.call (.ref f) args) R s := by
  obtain ⟨B, X, T⟩ := x.open
  have X' := X.keeps B.stays
  have T' := T.keeps B.stays
  refine codeAny_call_function (fd := fnX name qual params body scope [] dV kV doc pm an cdv ct) (body := body) hroom (X' _ _ ho) rfl hco hgen rfl (codeRec_of X' hcd) (hbind _ _ _ _ ?_)
  refine wpAny_up (wpAny_newFunctionEnv_cells hk (hkind _) fun env' he s' y hle => ?_)
  subst he
  refine ⟨T'.nolimit.keeps y.toInCall.keep, codeAny_func ?_⟩
  obtain ⟨h₁, tk, rfl, _⟩ := y.done
  have hk₁ := y.toInCall.keep
  obtain ⟨cells, NC, Y⟩ := Cl.news (h₀ := s.heap) (Nat.le_refl _) fun n c hm => ⟨y.cell n c (lookup_of_mem_nodup (cellsFrom_names scope.names 0 (s.heap.objs.size + 1) [] [] rfl ▸ hnd) hm), y.above n c hm⟩
  exact h s.heap.objs.size h₁ tk cells hle B X X' T' x.D ⟨y.toInCall.ns, fun b o e => hk₁ b o e, Nat.le_refl _⟩ NC Y
end
end
section
noncomputable abbrev two (elt t1 i1 t2 i2 : Expr) (scope : Scope) (pos : Pos) : Expr := .ListComp elt [⟨t1, i1, [], 0⟩, ⟨t2, i2, [], 0⟩] scope pos
theorem compTurn_two0 (elt t1 i1 t2 i2 : Expr) (scope : Scope) (pos : Pos) (it acc : Value) (env : Env) :
    compTurn (two elt t1 i1 t2 i2 scope pos) 0 it acc env = (do
      standAt i1.pos
      match ← pyNext it with
      | none => pure (.done .next)
      | some v =>
        letOwnedTupleGo t1 it v
        assign t1 env v
        let x ← eval i2 env
        standAt i2.pos
        let x ← foldedSetIterable i2 env x
        let _ ← runOwn (.compStart (two elt t1 i1 t2 i2 scope pos) 1 (← holding [x] (pyIter x)) acc env) env
        again (.compLoop (two elt t1 i1 t2 i2 scope pos) 0 it acc env)) := by rfl
theorem compTurn_two1 (elt t1 i1 t2 i2 : Expr) (scope : Scope) (pos : Pos) (it acc : Value) (env : Env) :
    compTurn (two elt t1 i1 t2 i2 scope pos) 1 it acc env = (do
      standAt i2.pos
      match ← pyNext it with
      | none => pure (.done .next)
      | some v =>
        letOwnedTupleGo t2 it v
        assign t2 env v
        (do let _ ← call (.builtin "list.append") [acc, ← eval elt env])
        again (.compLoop (two elt t1 i1 t2 i2 scope pos) 1 it acc env)) := by rfl
section
variable {prog : Program} {w : World} {A : Around} {s : Shared} {E : Value → Shared → Prop} {R : Result → Shared → Prop} {cenv env : Env} {i1 i2 : Expr} {scope : Scope} {pos : Pos} {I D l : Addr} {fs : List Addr} {n : Nat} {x y : Str} {px py pz : Pos}
theorem codeAny_compStart_two1 {elt t1 i1 t2 i2 : Expr} {it acc : Value}
    (h0 : codeAny (model prog w) A (.compLoop (two elt t1 i1 t2 i2 scope pos) 1 it acc env) R s)
    (h : wpAny (model prog w) A (pyIter it) (fun it' s' => codeAny (model prog w) A (.compLoop (two elt t1 i1 t2 i2 scope pos) 1 it' acc env) R s')
      (notedBy (model prog w) A env fun x s' => R (.error x) s') s) :
    codeAny (model prog w) A (.compStart (two elt t1 i1 t2 i2 scope pos) 1 it acc env) R s := by
  refine codeAny_of_tree ?_
  show wpAny _ _ ((compStart (two elt t1 i1 t2 i2 scope pos) 1 it acc env).onRaise (fun x => do noteFrame x env; standAt theWindowsPlace)) _ _ s
  refine wpAny_notedAt ?_
  unfold compStart
  show wpAny _ _ (ask >>= _) _ _ s
  refine wpAny_bind (wpAny_askSetting (wpAny_ite ?_))
  split
  · first
      | exact wpAny_bind (wpAny_pure (wpAny_pure (And.intro rfl h0)))
      | exact wpAny_pure (And.intro rfl h0)
  · first
      | exact wpAny_bind (wpAny_rule (wpAny_bind (wpAny_standAt (wpAny_bind (wpAny_mono h (fun it' s' h' => wpAny_pure (And.intro rfl h')) fun _ _ x => x)))))
      | (refine wpAny_bind (wpAny_rule ?_); show wpAny _ _ (standAt i2.pos >>= _) _ _ s; exact wpAny_bind (wpAny_standAt (wpAny_bind (wpAny_mono h (fun it' s' h' => wpAny_pure (And.intro rfl h')) fun _ _ x => x))))
theorem two_inner {t1 : Expr} {ys : List Value} {v : Value} (hh : A.handled = none) (hk : cenv.scope.kind = .function) (hx : cenv.kindOf x = some .local) (hy : cenv.kindOf y = some .local) (hxy : x ≠ y) (hdx : (x == ("__debug__" : Str)) = false)
    (hst : IsRangeIter s.heap I 0 (n : Int) 1) (hD : s.heap.PlainList D ys.toArray) (hn : ∃ m, s.heap.Ns cenv.locals m ∧ m x = some v) (hID : I ≠ D) (hIC : I ≠ cenv.locals) (hDC : D ≠ cenv.locals) (hsz : ys.length + n ≤ sizeLine)
    (done : ∀ h tk m, h.PlainList D (ys ++ List.replicate n v).toArray → h.Ns cenv.locals m → KeptX [cenv.locals, D, I] fs s.heap h → R (.ok .next) { s with heap := h, toks := tk }) :
    codeAny (model prog w) A (.compLoop (two (.Name x pz) t1 i1 (.Name y py) i2 scope pos) 1 (.ref I) (.ref D) cenv) R s := by
  have Dr := Drive.name (env := cenv) (x := y) (pos := py) (Walks.range (prog := prog) (w := w) hh I 0 1 n)
  refine codeAny_loop rfl (fun k s' => ∃ i h tk m, s' = { s with heap := h, toks := tk } ∧ i ≤ n ∧ k = n + 1 - i ∧ IsRangeIter h I (0 + (i : Int) * 1) ((n : Int) - (i : Int)) 1 ∧ h.PlainList D (ys ++ List.replicate i v).toArray ∧ h.Ns cenv.locals m ∧ m x = some v ∧ KeptX [cenv.locals, D, I] fs s.heap h) (fun k s' hI => ?_) (n + 1) ?_
  · obtain ⟨i, h, tk, m, rfl, hi, rfl, hit, hpl, hns, hmx, hkx⟩ := hI
    show wpAny _ A ((compTurn (two (.Name x pz) t1 i1 (.Name y py) i2 scope pos) 1 (.ref I) (.ref D) cenv).onRaise (fun x => do noteFrame x cenv; theTreesLotGoes x)) _ _ _
    refine wpAny_noted ?_
    rw [compTurn_two1]
    by_cases hlt : i < n
    · refine wpAny_bind (wpAny_standAt (wpAny_bind (wpAny_mono (Dr.item i _ (fun _ => False) (fun s₃ => ∃ h₁ m', s₃.gens = s.gens ∧ s₃.drawn = s.drawn ∧ s₃.os = s.os ∧ s₃.heap = h₁ ∧ IsRangeIter h₁ I (0 + ((i + 1 : Nat) : Int) * 1) ((n : Int) - ((i + 1 : Nat) : Int)) 1 ∧ h₁.PlainList D (ys ++ List.replicate i v).toArray ∧ h₁.Ns cenv.locals m' ∧ m' x = some v ∧ KeptX [cenv.locals, D, I] fs s.heap h₁) (fun _ _ => False) hlt hit fun bs h₁ tk₁ hP hle hst₁ hk₁ => ?_) (fun r s₁ h₁ => ?_) fun _ _ e => e.elim)))
      · obtain ⟨u, _, rfl⟩ := hP
        have hIC' : cenv.locals ∉ [I] := fun q => hIC (List.mem_singleton.mp q).symm
        have hns₁ : h₁.Ns cenv.locals m := hns.at' fun o e => hk₁ _ o hIC' e
        obtain ⟨nn, hpl'⟩ := hpl
        have hpl₁ := hk₁ D _ (fun q => hID (List.mem_singleton.mp q).symm) hpl'
        refine stores1 (wpAny_storeName_local (s := { s with heap := h₁, toks := tk₁ }) hy hns₁ (fun h₂ hn₂ hs₂ => ?_) (by show (cenv.scope.kind == .class || (cenv.scope.kind == .module && cenv.locals != cenv.globals)) = false; rw [hk]; rfl))
        replace hs₂ : Heap.SameBut cenv.locals h₁ h₂ := hs₂
        refine ⟨h₂, _, rfl, rfl, rfl, rfl, hs₂.extBut _ _ hIC hst₁, ⟨nn, hs₂.extBut _ _ hDC hpl₁⟩, hn₂, by simp [hxy, hmx], hkx.trans ?_⟩
        exact .of_keeps fun b o hb e => hs₂.extBut b o (fun q => hb (q ▸ List.mem_cons_self)) (hk₁ b o (fun q => hb (by rw [List.mem_singleton.mp q]; simp)) e)
      · cases r with
        | none => exact h₁.elim
        | some u =>
          refine wpAny_bind (wpAny_mono h₁ (fun _ s₂ h₂ => wpAny_bind (wpAny_mono h₂ (fun _ s₃ h₃ => ?_) fun _ _ e => e.elim)) fun _ _ e => e.elim)
          obtain ⟨h₁, m', e1, e2, e3, e4, hit', hpl', hns', hmx', hkx'⟩ := h₃
          subst e4
          refine wpAny_bind (wpAny_bind (wpAny_Name (wpAny_loadName_local hk hx hns' hmx' (wpAny_bind (wpAny_list_append_plain hpl' (fun h₆ hl₆ hs₆ => ?_) (by rw [List.size_toArray, List.length_append, List.length_replicate]; (first | lia | omega))))) hdx))
          replace hs₆ : Heap.SameBut D s₃.heap h₆ := hs₆
          refine wpAny_pure (wpAny_pure ⟨rfl, n + 1 - (i + 1), by (first | lia | omega), i + 1, h₆, s₃.toks, m', by cases s₃; cases s; simp_all, hlt, rfl, hs₆.extBut _ _ hID hit', ?_, hns'.sameBut hs₆ (Ne.symm hDC), hmx', hkx'.trans ?_⟩)
          · rw [List.push_toArray] at hl₆
            rw [List.replicate_succ', ← List.append_assoc]; exact hl₆
          · exact .of_keeps fun b o hb e => hs₆.extBut b o (fun q => hb (by rw [show b = D from q]; simp)) e
    · have hin : i = n := by (first | lia | omega)
      subst hin
      refine wpAny_bind (wpAny_standAt (wpAny_bind (wpAny_mono (Dr.done _ (fun s₁ => R (.ok .next) s₁) (fun _ => False) (fun _ _ => False) hit fun h₁ tk₁ hle hk₁ => ?_) (fun r s₁ h₁ => ?_) fun _ _ e => e.elim)))
      · obtain ⟨nn, hpl'⟩ := hpl
        refine done h₁ tk₁ m ⟨nn, hk₁ D _ (fun q => hID (List.mem_singleton.mp q).symm) hpl'⟩ (hns.at' fun o e => hk₁ _ o (fun q => hIC (List.mem_singleton.mp q).symm) e) (hkx.trans (.of_keeps fun b o hb e => hk₁ b o (fun q => hb (by rw [List.mem_singleton.mp q]; simp)) e))
      · cases r with
        | none => exact wpAny_pure h₁
        | some v => exact wpAny_bind (wpAny_mono h₁ (fun _ s₂ h₂ => wpAny_bind (wpAny_mono h₂ (fun _ s₃ h₃ => h₃.elim) fun _ _ e => e.elim)) fun _ _ e => e.elim)
  · obtain ⟨m, hns, hmx⟩ := hn
    exact ⟨0, s.heap, s.toks, m, rfl, Nat.zero_le _, rfl, by simpa using hst, by simpa using hD, hns, hmx, .refl⟩

theorem range_start {r : Addr} {a b c : Int} {t u v : Tok} {Q : Value → Shared → Prop} (hr : IsRange s.heap r a b c t u v) (hsm : Builtin.Range.small a b c = true) (hn : Builtin.Range.rangeSize a b c = ((n : Nat) : Int))
    (h : ∀ h', IsRangeIter h' s.heap.objs.size a (n : Int) c → (∀ b o, s.heap.get? b = some o → h'.get? b = some o) → Q (.ref s.heap.objs.size) { s with heap := h' }) : wpAny (model prog w) A (pyIter (.ref r)) Q E s := by
  refine wpAny_pyIter_range hr hsm (h _ ?_ fun b o e => Heap.get?_push_of_some _ e)
  show IsRangeIter _ _ _ _ _
  rw [hn]
  exact Heap.get?_push_size _ rfl

theorem comp_two {vs : List Value} {k : Nat} {cl : List (Str × Addr)} {use : Option (Value → Sem Unit)} {Q : Value → Shared → Prop} (hl : s.heap.IsList l vs.toArray) (hh : A.handled = none) (hsz : (vs.length + 1) * k ≤ sizeLine)
    (hcell : ∀ y ∈ scope.names, y.2 ≠ .cell) (hkind : scope.kind = .function) (hfs : ∀ c ∈ fs, c < s.heap.objs.size) (hls : l ∉ fs)
    (hx : ∀ C, (compEnvC scope cl C env).kindOf x = some .local) (hy : ∀ C, (compEnvC scope cl C env).kindOf y = some .local) (hxy : x ≠ y) (hdx : (x == ("__debug__" : Str)) = false) (hf2 : ∀ C v, foldedSetIterable i2 (compEnvC scope cl C env) v = pure v)
    (h2 : ∀ C h tk Q', Kept fs s.heap h → (∀ r h' tk' a b c t u v, Builtin.Range.small a b c = true → Builtin.Range.rangeSize a b c = ((k : Nat) : Int) → a = 0 → c = 1 → IsRange h' r a b c t u v → (∀ b o, h.get? b = some o → h'.get? b = some o) → Q' (.ref r) { s with heap := h', toks := tk' }) → wpAny (model prog w) A (eval i2 (compEnvC scope cl C env)) Q' (fun _ _ => False) { s with heap := h, toks := tk })
    (fin : ∀ C D h tk m, s.heap.get? C = none → s.heap.get? D = none → C ≠ D → h.Ns C m → h.PlainList D (vs.flatMap fun v => List.replicate k v).toArray → Kept fs s.heap h → compPost (model prog w) A E use Q (.ref D) C (.ok .next) { s with heap := h, toks := tk }) :
    wpAny (model prog w) A (pyIter (.ref l)) (CompRun prog w A E env scope cl (two (.Name x pz) (.Name x px) i1 (.Name y py) i2 scope pos) use Q) E s := by
  refine wpAny_pyIter_list hl ?_
  have hlt : l < s.heap.objs.size := by obtain ⟨_, e, _⟩ := hl; exact Heap.lt_size e
  have fI : s.heap.get? s.heap.objs.size = none := Heap.get?_none_of_le (Nat.le_refl _)
  generalize hH1 : s.heap.push { cls := .type "list_iterator", data := .fields #[.ref l, .int 0 0] } = H1
  have z1 : H1.objs.size = s.heap.objs.size + 1 := by rw [← hH1, Heap.size_push]
  refine wpAny_newObj_type (wpAny_newFunctionEnv (s := { s with heap := _, toks := _ }) hcell (by intro y hy; simp at hy) (fun h₁ hns₁ hsb₁ => ?_) hkind)
  dsimp only at hns₁ hsb₁ ⊢
  generalize hH2 : H1.push { cls := .type "list", dict := none, data := .seq ([] : List Value).toArray } = H2 at hns₁ hsb₁ ⊢
  have z2 : H2.objs.size = s.heap.objs.size + 2 := by rw [← hH2, Heap.size_push, z1]
  have fD : s.heap.get? H1.objs.size = none := Heap.get?_none_of_le (by rw [z1]; exact Nat.le_succ _)
  have fC : s.heap.get? H2.objs.size = none := Heap.get?_none_of_le (by rw [z2]; exact Nat.le_add_right _ _)
  generalize hCe : H2.objs.size = C at *
  generalize hDe : H1.objs.size = D at *
  generalize hIe : s.heap.objs.size = I at *
  have hDC : D ≠ C := fun q => by have q' : @Eq Nat _ _ := q; have z1' : @Eq Nat _ _ := z1; have z2' : @Eq Nat _ _ := z2; (first | lia | omega)
  have hIC : I ≠ C := fun q => by have q' : @Eq Nat _ _ := q; have z2' : @Eq Nat _ _ := z2; (first | lia | omega)
  have hID : I ≠ D := fun q => by have q' : @Eq Nat _ _ := q; have z1' : @Eq Nat _ _ := z1; (first | lia | omega)
  have old : ∀ b o, s.heap.get? b = some o → h₁.get? b = some o := fun b o e => hsb₁.extBut b o (fun q => by rw [show b = C from q, fC] at e; cases e) (Heap.get?_push_of_some _ (hH2 ▸ Heap.get?_push_of_some _ (hH1 ▸ Heap.get?_push_of_some _ e)))
  have hIt : h₁.IsListIter I l 0 := ⟨_, hsb₁.extBut I _ hIC (Heap.get?_push_of_some _ (hH2 ▸ Heap.get?_push_of_some _ (hH1 ▸ hIe ▸ Heap.get?_push_size _ rfl))), rfl, rfl⟩
  have hacc : h₁.PlainList D #[] := ⟨_, hsb₁.extBut D _ hDC (Heap.get?_push_of_some _ (hH2 ▸ hDe ▸ Heap.get?_push_size _ rfl))⟩
  have Dr := Drive.name (env := compEnvC scope cl C env) (x := x) (pos := px) (Walks.list (prog := prog) (w := w) hh I l (fun q => Nat.ne_of_lt hlt q) vs.toArray)
  have hsize : vs.toArray.size = vs.length := by simp
  rw [hsize] at Dr
  have hkf : (compEnvC scope cl C env).scope.kind = .function := hkind
  have loop : codeAny (model prog w) A (.compLoop (two (.Name x pz) (.Name x px) i1 (.Name y py) i2 scope pos) 0 (.ref I) (.ref D) (compEnvC scope cl C env)) (compPost (model prog w) A E use Q (.ref D) C) { s with heap := h₁, toks := s.toks + ([] : List (Str × Value)).length } := by
    refine codeAny_loop rfl (fun kk s' => ∃ i h tk m, s' = { s with heap := h, toks := tk } ∧ i ≤ vs.length ∧ kk = vs.length + 1 - i ∧ (h.IsListIter I l i ∧ h.IsList l vs.toArray) ∧ h.PlainList D ((vs.take i).flatMap fun v => List.replicate k v).toArray ∧ h.Ns C m ∧ Kept fs s.heap h) (fun kk s' hI => ?_) (vs.length + 1)
      ⟨0, h₁, _, _, rfl, Nat.zero_le _, rfl, ⟨hIt, hl.at fun o e => old _ o e⟩, by simpa using hacc, hns₁, .of_keeps old⟩
    obtain ⟨i, h, tk, m, rfl, hi, rfl, hit, hpl, hns, hkp⟩ := hI
    have hIfs : I ∉ fs := fun hm => by have z : @LT.lt Nat _ _ _ := hfs _ hm; exact Nat.lt_irrefl _ z
    have hDfs : D ∉ fs := fun hm => by have z : @LT.lt Nat _ _ _ := hfs _ hm; have z1' : @Eq Nat _ _ := z1; (first | lia | omega)
    have hCfs : C ∉ fs := fun hm => by have z : @LT.lt Nat _ _ _ := hfs _ hm; have z2' : @Eq Nat _ _ := z2; (first | lia | omega)
    have hlC : l ≠ C := fun q => by obtain ⟨_, e, _⟩ := hl; rw [q, fC] at e; cases e
    have hlD : l ≠ D := fun q => by obtain ⟨_, e, _⟩ := hl; rw [q, fD] at e; cases e
    show wpAny _ A ((compTurn (two (.Name x pz) (.Name x px) i1 (.Name y py) i2 scope pos) 0 (.ref I) (.ref D) (compEnvC scope cl C env)).onRaise (fun x => do noteFrame x (compEnvC scope cl C env); theTreesLotGoes x)) _ _ _
    refine wpAny_noted ?_
    rw [compTurn_two0]
    by_cases hlt' : i < vs.length
    · refine wpAny_bind (wpAny_standAt (wpAny_bind (wpAny_mono (Dr.item i _ (fun _ => False) (fun s₃ => ∃ h₂ tk₂ m₂ v, s₃ = { s with heap := h₂, toks := tk₂ } ∧ vs[i]? = some v ∧ (h₂.IsListIter I l (i + 1) ∧ h₂.IsList l vs.toArray) ∧ h₂.PlainList D ((vs.take i).flatMap fun v => List.replicate k v).toArray ∧ h₂.Ns C m₂ ∧ m₂ x = some v ∧ Kept fs s.heap h₂) (fun _ _ => False) hlt' hit fun bs h₂ tk₂ hP hle hst₂ hk₂ => ?_) (fun r s₁ h₁ => ?_) fun _ _ e => e.elim)))
      · obtain ⟨v, hv, rfl⟩ := hP
        have hCI : C ∉ [I] := fun q => hIC (List.mem_singleton.mp q).symm
        obtain ⟨nn, hpl'⟩ := hpl
        have hpl₂ := hk₂ D _ (fun q => hID (List.mem_singleton.mp q).symm) hpl'
        refine stores1 (wpAny_storeName_local (s := { s with heap := h₂, toks := tk₂ }) (hx C) (hns.at' fun o e => hk₂ _ o hCI e) (fun h₃ hn₃ hs₃ => ?_) (by show (scope.kind == .class || (scope.kind == .module && _)) = false; rw [hkind]; rfl))
        replace hs₃ : Heap.SameBut C h₂ h₃ := hs₃
        refine ⟨h₃, _, _, v, rfl, by simpa using hv, ⟨hst₂.1.at fun o e => hs₃.extBut _ _ hIC e, hst₂.2.at fun o e => hs₃.extBut _ _ hlC e⟩, ⟨nn, hs₃.extBut _ _ hDC hpl₂⟩, hn₃, by simp, ?_⟩
        refine (KeptX.kept (X := [C, I]) (h := s.heap) ((KeptX.of_kept hkp).trans (.of_keeps fun b o hb e => hs₃.extBut b o (fun q => hb (by rw [show b = C from q]; simp)) (hk₂ b o (fun q => hb (by rw [List.mem_singleton.mp q]; simp)) e))) fun b hb => ?_)
        rcases List.mem_cons.mp hb with rfl | hb
        · exact fC
        · rw [List.mem_singleton.mp hb]; exact fI
      · cases r with
        | none => exact h₁.elim
        | some u =>
          refine wpAny_bind (wpAny_mono h₁ (fun _ s₂ h₂ => wpAny_bind (wpAny_mono h₂ (fun _ s₃ h₃ => ?_) fun _ _ e => e.elim)) fun _ _ e => e.elim)
          obtain ⟨h₂, tk₂, m₂, v, rfl, hv, hit₂, hpl₂, hns₂, hmx₂, hkp₂⟩ := h₃
          refine wpAny_bind (wpAny_mono (h2 C h₂ tk₂ _ hkp₂ fun r h₃ tk₃ a b c t u v' hsm hrs ha hc hr hk₃ => ?_) (fun _ _ q => q) fun _ _ e => e.elim)
          subst ha hc
          refine wpAny_bind (wpAny_standAt (wpAny_bind (wpAny_of_eq (hf2 C _) (wpAny_bind (wpAny_holding (range_start (s := { s with heap := h₃, toks := tk₃ }) hr hsm hrs fun h₄ hit₄ hk₄ => ?_))))))
          dsimp only at hit₄ hk₄
          generalize hI2 : h₃.objs.size = I2 at hit₄ ⊢
          have up : ∀ b o, h₂.get? b = some o → h₄.get? b = some o := fun b o e => hk₄ b o (hk₃ b o e)
          have neI2 : ∀ b o, h₂.get? b = some o → I2 ≠ b := fun b o e q => by
            have z := Heap.lt_size (hk₃ b o e)
            rw [hI2, q] at z; exact Nat.lt_irrefl _ z
          obtain ⟨nn, hpl'⟩ := hpl₂
          obtain ⟨oC, esC, epC, eC, _⟩ := id hns₂
          obtain ⟨oI, eI, _⟩ := id hit₂.1
          obtain ⟨ol, el, _⟩ := id hit₂.2
          have inner := two_inner (prog := prog) (w := w) (x := x) (y := y) (pz := pz) (py := py) (i1 := i1) (i2 := i2) (t1 := .Name x px) (scope := scope) (pos := pos) (s := { s with heap := h₄, toks := tk₃ }) (cenv := compEnvC scope cl C env) (I := I2) (D := D) (fs := fs) (v := v)
            (R := fun r s' => match r with | .ok f => wpAny (model prog w) A (again (.compLoop (two (.Name x pz) (.Name x px) i1 (.Name y py) i2 scope pos) 0 (.ref I) (.ref D) (compEnvC scope cl C env)) : Sem Fin) (fun fin s' => match fin with | .done f => compPost (model prog w) A E use Q (.ref D) C (.ok f) s' | .again c' => c' = .compLoop (two (.Name x pz) (.Name x px) i1 (.Name y py) i2 scope pos) 0 (.ref I) (.ref D) (compEnvC scope cl C env) ∧ ∃ m_1, m_1 < vs.length + 1 - i ∧ (∃ i h tk m, s' = { s with heap := h, toks := tk } ∧ i ≤ vs.length ∧ m_1 = vs.length + 1 - i ∧ (h.IsListIter I l i ∧ h.IsList l vs.toArray) ∧ h.PlainList D ((vs.take i).flatMap fun v => List.replicate k v).toArray ∧ h.Ns C m ∧ Kept fs s.heap h)) (fun _ _ => False) s' | .error e => False)
            hh hkf (hx C) (hy C) hxy hdx hit₄ ⟨nn, up _ _ hpl'⟩ ⟨m₂, hns₂.at' fun o e => up _ o e, hmx₂⟩ (neI2 _ _ hpl') (neI2 _ _ eC) hDC ?_ ?_
          · refine wpAny_bind (wpAny_runOwn (codeAny_mono (codeAny_compStart_two1 inner ?_) fun r s' hr => ?_))
            · exact (Drive.name (env := compEnvC scope cl C env) (x := y) (pos := py) (Walks.range (prog := prog) (w := w) hh I2 0 1 k)).self 0 _ _ _ (by simpa using hit₄) inner
            · cases r with
              | ok f => exact wpAny_mono hr (fun _ _ q => q) fun _ _ e => e.elim
              | error e => exact hr.elim
          · have hle1 : ((vs.take i).flatMap fun v => List.replicate k v).length = i * k := by
              rw [List.length_flatMap]; simp [List.map_const', Nat.min_eq_left hi]
            rw [hle1]
            refine Nat.le_trans ?_ hsz
            rw [← Nat.succ_mul]
            exact Nat.mul_le_mul_right _ (by (first | lia | omega))
          · intro h₅ tk₅ m₅ hpl₅ hns₅ hk₅
            have off : ∀ b o, b ≠ C → b ≠ D → b ∉ fs → h₂.get? b = some o → h₅.get? b = some o := fun b o b1 b2 b3 e => hk₅.other b o (up b o e) (fun hm => by
              simp only [List.mem_cons, List.not_mem_nil, or_false] at hm
              rcases hm with hm | hm | hm
              · exact b1 hm
              · exact b2 hm
              · exact neI2 b o e hm.symm) b3
            refine wpAny_pure ⟨rfl, vs.length + 1 - (i + 1), by (first | lia | omega), i + 1, h₅, tk₅, m₅, rfl, hlt', rfl, ⟨hit₂.1.at fun o e => off I o hIC hID hIfs e, hit₂.2.at fun o e => off l o hlC hlD hls e⟩, ?_, hns₅, ?_⟩
            · have e1 : (vs.take (i + 1)).flatMap (fun v => List.replicate k v) = (vs.take i).flatMap (fun v => List.replicate k v) ++ List.replicate k v := by
                rw [List.take_succ, hv]; simp
              rw [e1]; exact hpl₅
            · refine (KeptX.kept (X := [C, D, I2]) ((KeptX.of_kept hkp₂).trans ((KeptX.of_keeps fun b o _ e => up b o e).trans hk₅)) fun b hb => ?_)
              simp only [List.mem_cons, List.not_mem_nil, or_false] at hb
              rcases hb with rfl | rfl | rfl
              · exact fC
              · exact fD
              · cases q : s.heap.get? b with
                | none => rfl
                | some o =>
                  obtain ⟨sl, z⟩ := hkp₂.up q
                  exact absurd rfl (neI2 _ _ z)
    · have hin : i = vs.length := by (first | lia | omega)
      subst hin
      refine wpAny_bind (wpAny_standAt (wpAny_bind (wpAny_mono (Dr.done _ (fun s₁ => compPost (model prog w) A E use Q (.ref D) C (.ok .next) s₁) (fun _ => False) (fun _ _ => False) hit fun h₁ tk₁ hle hk₁ => ?_) (fun r s₁ h₁ => ?_) fun _ _ e => e.elim)))
      · obtain ⟨nn, hpl'⟩ := hpl
        rw [List.take_length] at hpl'
        refine fin C D h₁ tk₁ m fC fD (Ne.symm hDC) (hns.at' fun o e => hk₁ _ o (fun q => hIC (List.mem_singleton.mp q).symm) e) ⟨nn, hk₁ D _ (fun q => hID (List.mem_singleton.mp q).symm) hpl'⟩ ?_
        refine (KeptX.kept (X := [I]) ((KeptX.of_kept hkp).trans (.of_keeps fun b o hb e => hk₁ b o hb e)) fun b hb => ?_)
        rw [List.mem_singleton.mp hb]; exact fI
      · cases r with
        | none => exact wpAny_pure h₁
        | some v => exact wpAny_bind (wpAny_mono h₁ (fun _ s₂ h₂ => wpAny_bind (wpAny_mono h₂ (fun _ s₃ h₃ => h₃.elim) fun _ _ e => e.elim)) fun _ _ e => e.elim)
  exact codeAny_compStart_list loop (Dr.self 0 _ _ _ ⟨hIt, hl.at fun o e => old _ o e⟩ loop)
end
end
section
section
variable {M : Model} {A : Around} {E : Value → Shared → Prop} {s : Shared} {K : Frag} {h₀ : Heap} {L : Addr} {m mg mb mc : Str → Option Value} {p : Program} {loose : List Str} {mean : ExcName → Option Value} {x : Str} {pos : Pos} {v : Value} {Q : Value → Shared → Prop} {scope : Scope} {cl : List (Str × Addr)} {C c : Addr} {env : Env}
theorem cnL (hk : scope.kind = .function) (hx : (compEnvC scope cl C env).kindOf x = some .local) (hd : (x == ("__debug__" : Str)) = false) (hn : s.heap.Ns C mc) (hv : mc x = some v) (h : Q v s) :
    wpAny M A (eval (.Name x pos) (compEnvC scope cl C env)) Q E s := wpAny_Name (wpAny_loadName_local (env := compEnvC scope cl C env) hk hx hn hv h) hd
theorem cnC (hk : scope.kind = .function) (hx : (compEnvC scope cl C env).kindOf x = some .cell) (hd : (x == ("__debug__" : Str)) = false) (hc : cl.lookup x = some c) (hI : s.heap.IsCell c (some v)) (h : Q v s) :
    wpAny M A (eval (.Name x pos) (compEnvC scope cl C env)) Q E s := wpAny_Name (wpAny_loadName_cell (env := compEnvC scope cl C env) hk hx hc hI h) hd
theorem cnK (hg : env.globals = mainGlobals) (hk : scope.kind = .function) (hx : (compEnvC scope cl C env).kindOf x = some .globalImplicit) (hd : (x == ("__debug__" : Str)) = false) (F : Fr h₀ L s.heap m) (X : K.In h₀) (T : Top p loose mean mg mb h₀) (e : nsIn K mainGlobals x = some (some v)) (h : Q v s) :
    wpAny M A (eval (.Name x pos) (compEnvC scope cl C env)) Q E s := Name_function_global (env := compEnvC scope cl C env) hk hx (loadGlobal_global (env := compEnvC scope cl C env) (by show Heap.Ns _ env.globals _; rw [hg]; exact T.g.keeps F.keep) (mg_of X T.g e) h) hd
theorem cnB (hg : env.globals = mainGlobals) (hb : env.builtins = builtinsNs) (hk : scope.kind = .function) (hx : (compEnvC scope cl C env).kindOf x = some .globalImplicit) (hd : (x == ("__debug__" : Str)) = false) (F : Fr h₀ L s.heap m) (X : K.In h₀) (T : Top p loose mean mg mb h₀) (e : nsIn K mainGlobals x = some none) (hv : bootBuiltins x = some v) (hn : x ≠ "__name__") (h : Q v s) :
    wpAny M A (eval (.Name x pos) (compEnvC scope cl C env)) Q E s := Name_function_global (env := compEnvC scope cl C env) hk hx (loadGlobal_builtin (env := compEnvC scope cl C env) (by show Heap.Ns _ env.globals _; rw [hg]; exact T.g.keeps F.keep) (mg_none_of X T.g e) (by show Heap.Ns _ env.builtins _; rw [hb]; exact T.b.keeps F.keep) ((T.builtins x hn).trans hv) h) hd
end
section
variable {prog : Program} {w : World} {A : Around} {E : Value → Shared → Prop} {s : Shared} {h : Heap} {tk : Nat} {fs : List Addr} {C : Addr} {m : Str → Option Value} {scope : Scope} {cl : List (Str × Addr)} {env : Env} {K : Shared → Prop}
theorem keptX_same {h h' : Heap} (hs : Heap.SameBut C h h') : KeptX [C] fs h h' := .of_keeps fun b o hb e => hs.extBut b o (fun q => hb (by rw [show b = C from q]; exact List.mem_cons_self)) e
theorem kept_same {h₀ h h' : Heap} (hk : Kept fs h₀ h) (hs : Heap.SameBut C h h') (fC : h₀.get? C = none) : Kept fs h₀ h' :=
  (KeptX.kept (X := [C]) ((KeptX.of_kept hk).trans (keptX_same hs)) fun b hb => by rw [List.mem_singleton.mp hb]; exact fC)
theorem turn1 {x : Str} {v : Value} (hx : (compEnvC scope cl C env).kindOf x = some .local) (hkind : scope.kind = .function) (hn : h.Ns C m) (fC : s.heap.get? C = none) (hk : Kept fs s.heap h)
    (k : ∀ h₁ tk₁, tk ≤ tk₁ → h₁.Ns C (fun y => if y = x then some v else m y) → Kept fs s.heap h₁ → Heap.SameBut C h h₁ → K { s with heap := h₁, toks := tk₁ }) :
    Stores (model prog w) A (compEnvC scope cl C env) E [(x, v)] K { s with heap := h, toks := tk } := by
  refine stores1 (wpAny_up (wpAny_storeName_local (s := { s with heap := h, toks := tk }) hx hn (fun h₁ hn₁ hs₁ => ?_) (by show (scope.kind == .class || (scope.kind == .module && _)) = false; rw [hkind]; rfl)))
  intro hle
  replace hs₁ : Heap.SameBut C h h₁ := hs₁
  exact k h₁ _ hle hn₁ (kept_same hk hs₁ fC) hs₁
theorem sameBut_trans {h h₁ h₂ : Heap} (x : Heap.SameBut C h h₁) (y : Heap.SameBut C h₁ h₂) : Heap.SameBut C h h₂ := ⟨y.1.trans x.1, fun b hb => (y.2 b hb).trans (x.2 b hb)⟩
theorem turn2 {x y : Str} {v u : Value} (hx : (compEnvC scope cl C env).kindOf x = some .local) (hy : (compEnvC scope cl C env).kindOf y = some .local) (hkind : scope.kind = .function) (hn : h.Ns C m) (fC : s.heap.get? C = none) (hk : Kept fs s.heap h)
    (k : ∀ h₁ tk₁, tk ≤ tk₁ → h₁.Ns C (fun z => if z = y then some u else if z = x then some v else m z) → Kept fs s.heap h₁ → Heap.SameBut C h h₁ → K { s with heap := h₁, toks := tk₁ }) :
    Stores (model prog w) A (compEnvC scope cl C env) E [(x, v), (y, u)] K { s with heap := h, toks := tk } := by
  refine stores2 (wpAny_up (wpAny_storeName_local (s := { s with heap := h, toks := tk }) hx hn (fun h₁ hn₁ hs₁ => ?_) (by show (scope.kind == .class || (scope.kind == .module && _)) = false; rw [hkind]; rfl)))
  intro hle
  replace hs₁ : Heap.SameBut C h h₁ := hs₁
  refine wpAny_up (wpAny_storeName_local hy hn₁ (fun h₂ hn₂ hs₂ => ?_) (by show (scope.kind == .class || (scope.kind == .module && _)) = false; rw [hkind]; rfl))
  intro hle2
  replace hs₂ : Heap.SameBut C h₁ h₂ := hs₂
  exact k h₂ _ (Nat.le_trans hle hle2) hn₂ (kept_same (kept_same hk hs₁ fC) hs₂ fC) (sameBut_trans hs₁ hs₂)
end
theorem lst_at {g h : Heap} {L l : Addr} {o : Obj} {vs : Array Value} {led : List (Addr × Obj)} (N : News g L h led) (hm : (l, o) ∈ led) (hc : o.cls = .type "list") (hd : ∃ n, o.data = .seq vs n) : h.IsList l vs := ⟨o, (N _ hm).1, hc, hd⟩
theorem lst_off {fs : List Addr} {g h : Heap} {L l : Addr} {o : Obj} {m : Str → Option Value} {outs : List Env} {led : List (Addr × Obj)} (D : KtsDicts (fr outs) g) (F : Fr g L h m) (N : News g L h led) (hm : (l, o) ∈ led) : l ∉ L :: fr outs := fun hl => by
  have z := N _ hm
  rcases List.mem_cons.mp hl with e | hl
  · exact z.2.1 e
  · obtain ⟨o', _, _, e, _⟩ := D l hl
    have := z.2.2
    rw [e] at this; cases this
theorem sub1 {α : Type} {a : α} {l : List α} (ha : a ∈ l) : ∀ p ∈ [a], p ∈ l := fun p hp => List.mem_singleton.mp hp ▸ ha
theorem sub2 {α : Type} {a b : α} {l : List α} (ha : a ∈ l) (hb : b ∈ l) : ∀ p ∈ [a, b], p ∈ l := fun p hp => (List.mem_cons.mp hp).elim (fun e => e ▸ ha) (sub1 hb p)
theorem sub3 {α : Type} {a b c : α} {l : List α} (ha : a ∈ l) (hb : b ∈ l) (hc : c ∈ l) : ∀ p ∈ [a, b, c], p ∈ l := fun p hp => (List.mem_cons.mp hp).elim (fun e => e ▸ ha) (sub2 hb hc p)
theorem sub4 {α : Type} {a b c d : α} {l : List α} (ha : a ∈ l) (hb : b ∈ l) (hc : c ∈ l) (hd : d ∈ l) : ∀ p ∈ [a, b, c, d], p ∈ l := fun p hp => (List.mem_cons.mp hp).elim (fun e => e ▸ ha) (sub3 hb hc hd p)
noncomputable abbrev nm (l : List (Str × Value)) (mx : Str → Option Value) : Str → Option Value := fun z => match l.lookup z with
  | some v => some v
  | none => mx z
theorem lookup_memS : ∀ {l : List (Str × Value)} {z : Str} {v : Value}, l.lookup z = some v → (z, v) ∈ l
  | [], _, _, h => nomatch h
  | (k, w) :: r, z, v, h => by
    rw [List.lookup_cons] at h
    by_cases q : (z == k) = true
    · rw [q] at h
      have e : z = k := by simpa using q
      cases h; rw [e]; exact List.mem_cons_self
    · rw [Bool.not_eq_true] at q
      rw [q] at h
      exact List.mem_cons_of_mem _ (lookup_memS h)
noncomputable def Nms (m : Str → Option Value) (l : List (Str × Value)) : Prop := ∀ p ∈ l, m p.1 = some p.2
theorem nm_of {m : Str → Option Value} (l : List (Str × Value)) (h : Nms m l) : m = nm l m := by
  funext z
  show m z = match l.lookup z with | some v => some v | none => m z
  cases q : l.lookup z with
  | none => rfl
  | some v => exact h (z, v) (lookup_memS q)
theorem Fr_nm {g h : Heap} {L : Addr} {m : Str → Option Value} (F : Fr g L h m) (l : List (Str × Value)) (hl : Nms m l) : Fr g L h (nm l m) := (nm_of l hl) ▸ F
theorem nms_nil {m : Str → Option Value} : Nms m [] := fun _ h => nomatch h
theorem nms_cons {m : Str → Option Value} {x : Str} {v : Value} {l : List (Str × Value)} (e : m x = some v) (h : Nms m l) : Nms m ((x, v) :: l) := fun p hp => by
  rcases List.mem_cons.mp hp with rfl | hp
  · exact e
  · exact h p hp
theorem nms1 {m : Str → Option Value} {x1 : Str} {v1 : Value} (e1 : m x1 = some v1) : Nms m [(x1, v1)] := nms_cons e1 nms_nil
theorem nms2 {m : Str → Option Value} {x1 x2 : Str} {v1 v2 : Value} (e1 : m x1 = some v1) (e2 : m x2 = some v2) : Nms m [(x1, v1), (x2, v2)] := nms_cons e1 (nms1 e2)
theorem nms3 {m : Str → Option Value} {x1 x2 x3 : Str} {v1 v2 v3 : Value} (e1 : m x1 = some v1) (e2 : m x2 = some v2) (e3 : m x3 = some v3) : Nms m [(x1, v1), (x2, v2), (x3, v3)] := nms_cons e1 (nms2 e2 e3)
theorem nms4 {m : Str → Option Value} {x1 x2 x3 x4 : Str} {v1 v2 v3 v4 : Value} (e1 : m x1 = some v1) (e2 : m x2 = some v2) (e3 : m x3 = some v3) (e4 : m x4 = some v4) : Nms m [(x1, v1), (x2, v2), (x3, v3), (x4, v4)] := nms_cons e1 (nms3 e2 e3 e4)
end
local macro_rules | `(tactic| walk_at "eval Name") => `(tactic| (k_here; first | k_dflt (apply cnL; exact rfl; exact rfl; decide; assumption; first | assumption | exact rfl) | k_dflt (apply cnC; exact rfl; exact rfl; decide; exact rfl; assumption) | k_dflt (apply cnB; exact rfl; exact rfl; exact rfl; exact rfl; decide; assumption; k_asm; k_asm; k_is; boot_by_name; decide) | k_dflt (apply cnK; exact rfl; exact rfl; exact rfl; decide; assumption; k_asm; k_asm; k_is)))
local macro_rules | `(tactic| k_all) => `(tactic| assumption)
section
local macro_rules | `(tactic| walk_at "eval ListComp") => `(tactic| refine stop ?_)
local macro_rules | `(tactic| walk_at "eval ListComp Name Name") => `(tactic| refine stop ?_)
local macro_rules | `(tactic| walk_at "eval Call") => `(tactic| (k_here; refine Call_Name rfl ?_))
noncomputable def ListPost (s : Shared) (ys : List Value) (v : Value) (h' : Heap) (_ : Nat) : Prop := ∃ D n, v = .ref D ∧ s.heap.get? D = none ∧ h'.get? D = some (lst ys n)
section
variable {w : World} {A : Around} {s : Shared} {outs : List Env} {mg mb : Str → Option Value} {mean : ExcName → Option Value}
theorem often_c {l : Addr} {vs : List Value} {k : Nat} {u : Tok} (hl : s.heap.IsList l vs.toArray) (hz : vs.length < 2 ^ 18) (hk : k ≤ 4) (a : AmbW w mean mg mb A outs s.heap) (hd : A.depth < recursionLimit) :
    codeAny (model PG w) A (.call (.ref 75) ⟨[.ref l, .int (k : Int) u], []⟩) (Ends outs s (ListPost s (vs.flatMap fun v => List.replicate k v))) s := by
  have hh := a.hh
  refine' enterC (binds := [("row", .ref l), ("times", .int (k : Int) u)]) a ?k6 ?k7 hd ?k9 ?kk ?knd ?_ ?c2 ?c3 ?c4
  ((case k6 => k_dflt k_is); (case k7 => k_dflt k_is); (case k9 => exact BindsTo.of_eq rfl); (try (case km => exact rfl)); (try (case c5 => decide)); (try (case kB => exact locs rfl)); (try (case kk => (intro n; (repeat (refine List.forall_mem_cons.mpr ⟨by first | exact .inl rfl | exact .inr ⟨rfl, rfl⟩, ?_⟩)); exact fun _ h => nomatch h))); (try (case knd => decide)); (case c2 => exact rfl); (case c3 => exact rfl); (case c4 => exact rfl))
  intro L' h₁ tk cells htk B X X' T D F N CA
  obtain ⟨oc, rfl, hoc⟩ := CA.one
  k_fold
  k_steps
  refine Stop.go ?_
  rw [eval_ListComp]
  refine wpAny_comprehension_free (use := none) (cl := [("times", L' + 1)]) rfl (fun _ => rfl) ?hclos rfl ?hnames ?_
  case hclos => rfl
  case hnames => decide
  refine wpAny_Name (wpAny_loadName_local (v := .ref l) rfl rfl F.ns (by rfl) ?_) (by decide)
  have hl₁ := hl.at fun o e => F.keep _ _ e
  have hcell := News.get N (List.mem_cons_self)
  refine comp_two (s := { s with heap := h₁, toks := tk }) (fs := L' :: fr outs) (k := k) hl₁ hh (by rw [sizeLine_eq]; have := Nat.mul_le_mul_left (vs.length + 1) hk; (first | lia | omega)) (by decide) rfl (fs_lt' D F) (list_off' D F hl₁) (fun _ => rfl) (fun _ => rfl) (by decide) (by decide) (fun _ _ => rfl) ?h2 ?fin
  case h2 =>
    intro C h tk Q' hk hQ
    obtain ⟨g', B', D', TT', F', N', _⟩ := after_kept (s := { s with heap := h₁, toks := tk }) B D .refl F N hk
    have Xg := X.keeps B'.stays
    clear X' T
    have T : Top Mine.hd0.view_39 (looseW Mine.hd0.view_39 []) mean mg mb g' := (a.open.2.2).keeps B'.stays
    have hcl : h.IsCell (L' + 1) (some (.int (k : Int) u)) := ⟨oc, (N' _ List.mem_cons_self).1, hoc⟩
    clear F N B D
    show wpAny _ _ _ _ _ _
    try k_fold
    k_steps
    rename_i h3 tk3 t1 u1 v1 hr3 F3 N3 hk3
    exact hQ _ h3 tk3 0 k 1 t1 u1 v1 (small_one (by (first | lia | omega)) (by (first | lia | omega)) (by (first | lia | omega)) (by (first | lia | omega))) (by rw [rangeSize_one]; split <;> (first | lia | omega)) rfl rfl hr3 hk3
  case fin =>
    intro C Dd h tk' m' fC fD ne hns hpl hk
    refine fin_expr (n := 0) (J := fun C Dd n ys h tk => ys = vs.flatMap fun v => List.replicate k v) B D .refl F N (fun _ _ _ _ _ _ e _ => e) (fun g' C Dd ys nn h tk fD off B' D' TT' F' N' hk hJ => ?_) C Dd _ h tk' m' fC fD ne hns hpl rfl hk
    subst hJ
    refine ends_of TT' F' ⟨Dd, nn, rfl, ?_, (N' _ List.mem_cons_self).1⟩
    cases q : s.heap.get? Dd with
    | none => rfl
    | some o => have := F.keep _ _ q; rw [fD] at this; cases this
end
end
section
local macro_rules | `(tactic| walk_at "eval ListComp") => `(tactic| refine stop ?_)
local macro_rules | `(tactic| walk_at "eval ListComp Name Name") => `(tactic| refine stop ?_)
local macro_rules | `(tactic| walk_at "pyIter ref") => `(tactic| refine stop ?_)
local macro_rules | `(tactic| walk_at "call builtin:list.extend") => `(tactic| refine stop ?_)
local macro_rules | `(tactic| walk_at "exec For") => `(tactic| refine stop ?_)
local macro_rules | `(tactic| walk_at "exec For Tuple Call nil") => `(tactic| refine stop ?_)
local macro_rules | `(tactic| walk_at "call type:zip") => `(tactic| refine stop ?_)
local macro_rules | `(tactic| walk_at "Exists") => `(tactic| refine stop ?_)
noncomputable def stayOne (e z t : Int) : List Int := (List.range (z - 1 - t).toNat).map fun (i : Nat) => e - (z - 1 + (i : Int) * -1)
noncomputable def stayM (es zs : List Int) (t : Int) : List Int := (es.zip zs).flatMap fun p => stayOne p.1 p.2 t
section
variable {w : World} {A : Around} {s : Shared} {outs : List Env} {mg mb : Str → Option Value} {mean : ExcName → Option Value}
inductive IntsPostI (s : Shared) (xs : List Int) (v : Value) (h' : Heap) : Prop
  | mk : ∀ D ys n, v = .ref D → s.heap.get? D = none → h'.get? D = some (lst ys n) → IntsAre ys xs → IntsPostI s xs v h'
noncomputable def IntsPost (s : Shared) (xs : List Int) (v : Value) (h' : Heap) (_ : Nat) : Prop := IntsPostI s xs v h'
inductive StayJI (c D : Addr) (t : Int) (u : Tok) (es zs : List Int) (i : Nat) (m : Str → Option Value) (news : List (Addr × Obj)) : Prop
  | mk : ∀ mx oc co ys n ms, m = nm [("stay", .ref D), ("turn", .int t u)] mx → news = [(D, lst ys n), (c, oc)] → oc.data = .cell co → IntsAre ys ms → ms = ((es.zip zs).take i).flatMap (fun p => stayOne p.1 p.2 t) → ys.length ≤ 32 * i → StayJI c D t u es zs i m news
noncomputable def StayJ (c D : Addr) (t : Int) (u : Tok) (es zs : List Int) (i : Nat) (m : Str → Option Value) (news : List (Addr × Obj)) (_ : Nat) : Prop := StayJI c D t u es zs i m news
theorem stay_c {l1 l2 : Addr} {v1 v2 : List Value} {es zs : List Int} {t : Int} {u : Tok} (h1 : s.heap.IsList l1 v1.toArray) (h2 : s.heap.IsList l2 v2.toArray) (i1 : IntsAre v1 es) (i2 : IntsAre v2 zs) (z1 : es.length < 2 ^ 10) (z2 : zs.length < 2 ^ 10) (hzs : ∀ z ∈ zs, 0 ≤ z ∧ z ≤ 16) (ht : 0 ≤ t ∧ t ≤ 16) (a : AmbW w mean mg mb A outs s.heap) (hd : A.depth < recursionLimit) :
    codeAny (model PG w) A (.call (.ref 87) ⟨[.ref l1, .ref l2, .int t u], []⟩) (Ends outs s (IntsPost s (stayM es zs t))) s := by
  have hh := a.hh
  refine' enterC (binds := [("ends", .ref l1), ("sizes", .ref l2), ("turn", .int t u)]) a ?k6 ?k7 hd ?k9 ?kk ?knd ?_ ?c2 ?c3 ?c4
  ((case k6 => k_dflt k_is); (case k7 => k_dflt k_is); (case k9 => exact BindsTo.of_eq rfl); (try (case km => exact rfl)); (try (case c5 => decide)); (try (case kB => exact locs rfl)); (try (case kk => (intro n; (repeat (refine List.forall_mem_cons.mpr ⟨by first | exact .inl rfl | exact .inr ⟨rfl, rfl⟩, ?_⟩)); exact fun _ h => nomatch h))); (try (case knd => decide)); (case c2 => exact rfl); (case c3 => exact rfl); (case c4 => exact rfl))
  intro L' h₁ tk cells htk B X X' T D F N CA
  obtain ⟨oc, rfl, hoc⟩ := CA.one
  k_fold
  k_steps
  refine Stop.go (wpAny_For ?_)
  k_steps
  rename Fr _ _ _ _ => F
  rename News _ _ _ _ => N
  refine Stop.go (for_zip (n := (es.zip zs).length) (news := [(_, lst [] 0), (L' + 1, oc)]) (keep := []) (h1.at fun o e => F.keep _ _ e) (h2.at fun o e => F.keep _ _ e) (by rw [i1.length, i2.length, List.length_zip]) hh B D .refl F N (fun _ h => nomatch h) (StayJ (L' + 1) _ t u es zs)
    ⟨_, _, _, [], 0, [], nm_of _ (nms2 rfl rfl), rfl, hoc, .nil, by simp, by simp⟩ ?hJl (fun i m news tk tk' hJ _ => hJ) (.inl (let ⟨o, e, _⟩ := h1; ⟨o, e⟩)) (.inl (let ⟨o, e, _⟩ := h2; ⟨o, e⟩)) ?turn ?done)
  case hJl =>
    rintro i m news tk ⟨mx, oc, co, ys, n, ms, _, rfl, hoc, _⟩ p hp
    rcases List.mem_cons.mp hp with rfl | hp
    · exact isLst_lst
    · rw [List.mem_singleton.mp hp]; exact isLst_cell hoc
  case turn =>
    rintro i bs g m₁ news₁ own h tk hin ⟨v, v', hv, hv', rfl⟩ B D TT ⟨mx, oc, co, ys, n, ms, rfl, rfl, hoc, hys, hms, hlen⟩ F N hown
    have Xg := X.keeps B.stays
    clear X' T
    have T : Top Mine.hd0.view_39 (looseW Mine.hd0.view_39 []) mean mg mb g := (a.open.2.2).keeps B.stays
    have hi1 : i < es.length := by rw [List.length_zip] at hin; (first | lia | omega)
    have hi2 : i < zs.length := by rw [List.length_zip] at hin; (first | lia | omega)
    obtain ⟨te, he⟩ := i1.get i es[i] (by simp [hi1])
    obtain ⟨tz, hz⟩ := i2.get i zs[i] (by simp [hi2])
    rw [he] at hv; cases hv
    rw [hz] at hv'; cases hv'
    have hzb := hzs zs[i] (List.getElem_mem hi2)
    have hzip : (es.zip zs)[i]? = some (es[i], zs[i]) := by simp [List.getElem?_zip_eq_some, hi1, hi2]
    generalize es[i] = e at *
    generalize zs[i] = z at *
    replace F : Fr g L' h _ := F
    replace N : News g L' h ((_, lst ys n) :: (L' + 1, oc) :: own) := N
    have oD := own_off N List.mem_cons_self isLst_lst (fun p hp => List.mem_cons_of_mem _ (List.mem_cons_of_mem _ hp)) hown
    have oC := own_off N (List.mem_cons_of_mem _ List.mem_cons_self) (isLst_cell hoc) (fun p hp => List.mem_cons_of_mem _ (List.mem_cons_of_mem _ hp)) hown
    refine stores2 ?_
    k_fold
    k_steps
    refine Stop.go (comp_eval (hs := by intro _; rfl) (cl := [("end", L' + 1)]) (by rfl) rfl (by decide) ?_)
    k_steps
    rename Fr _ _ _ _ => F
    rename News _ _ _ _ => N
    rename IsRange _ _ _ _ _ _ _ _ => hr
    rename (Obj.data _ = Data.cell (some (Value.int e te))) => hoc'
    refine Stop.go (comp_range (fs := L' :: fr outs) (n := (z - 1 - t).toNat) hr (small_down (by (first | lia | omega)) (by (first | lia | omega)) (by (first | lia | omega)) (by (first | lia | omega))) (rangeSize_downNat _ _) hh (by rw [sizeLine_eq]; (first | lia | omega)) (fun C D i ys h tk => IntsAre ys ((List.range i).map fun (k : Nat) => e - (z - 1 + (k : Int) * -1))) (by decide) rfl (fs_lt' D F) (fun _ _ _ _ _ _ _ => .nil) (fun _ _ _ _ _ _ _ _ _ hJ _ _ _ => hJ) ?turn2 ?fin2)
    case turn2 =>
      rintro C Dd j bs ys1 h1 tk1 m1 fC fD ne hj ⟨tb, rfl⟩ hJ hns hDd hk
      refine turn1 rfl rfl hns fC hk fun h2 tk2 hle hns2 hk2 hs2 => ?_
      refine wpAny_tests_nil ?_
      rw [if_pos rfl]
      obtain ⟨g', B', D', TT', F', N', _⟩ := after_kept (s := { s with heap := _, toks := 0 }) B D TT F N hk2
      have Xg := X.keeps B'.stays
      have T : Top Mine.hd0.view_39 (looseW Mine.hd0.view_39 []) mean mg mb g' := (a.open.2.2).keeps B'.stays
      have hcl : h2.IsCell (L' + 1) (some (.int e te)) := ⟨_, (N' (L' + 1, _) (by k_mem)).1, hoc'⟩
      show wpAny _ _ _ _ _ _
      k_fold
      k_steps
      refine Stop.go ⟨h2, _, _, rfl, keptX_same hs2, hns2, ?_⟩
      rw [List.range_succ, List.map_append]
      exact ints_app hJ (.cons _ _ .nil)
    case fin2 =>
      refine fin_expr B D TT F N (fun _ _ _ _ _ _ e _ => e) fun g' C Dd ys nn h tk fD off B D TT F N hk hJ => ?_
      have Xg := X.keeps B.stays
      have T : Top Mine.hd0.view_39 (looseW Mine.hd0.view_39 []) mean mg mb g' := (a.open.2.2).keeps B.stays
      show wpAny _ _ _ _ _ _
      k_fold
      k_steps
      have lys := hJ.length
      rw [List.length_map, List.length_range] at lys
      have ne1 : @Ne Nat _ Dd := off _ List.mem_cons_self
      have ne2 : @Ne Nat _ Dd := off _ (List.mem_cons_of_mem _ List.mem_cons_self)
      have oD2 : ∀ p ∈ own, p.1 ≠ Dd := fun p hp => off p (List.mem_cons_of_mem _ (List.mem_cons_of_mem _ hp))
      refine' Stop.go (my_extend F N (N _ List.mem_cons_self).1 ?U ?hz ?_)
      case U => intro n'; k_upd
      case hz => exact ⟨by (first | lia | omega), by (first | lia | omega)⟩
      intro n1' h1' F N
      k_steps
      refine Turned.mk [(_, lst _ n1'), (L' + 1, _)] B D TT F N ?hs ?ho ⟨_, _, _, _, _, _, nm_of _ (nms2 rfl rfl), rfl, hoc', ints_app hys hJ, ?heq, ?hlen⟩
      case hs => exact sub2 (by k_mem) (by k_mem)
      case ho => exact fun p hp => List.mem_cons_of_mem _ (List.mem_cons_of_mem _ (List.mem_cons_of_mem _ hp))
      case heq => rw [hms, List.take_add_one, hzip]; simp [stayOne]
      case hlen => rw [List.length_append, lys]; (first | lia | omega)
  case done =>
    rintro g m₁ news₁ h tk B D TT ⟨mx, oc, co, ys, n, ms, rfl, rfl, hoc, hys, hms, hlen⟩ F N
    have Xg := X.keeps B.stays
    clear X' T
    have T : Top Mine.hd0.view_39 (looseW Mine.hd0.view_39 []) mean mg mb g := (a.open.2.2).keeps B.stays
    replace F : Fr g L' h _ := F
    replace N : News g L' h [(_, lst ys n), (L' + 1, oc)] := N
    show wpAny _ _ _ _ _ _
    k_fold
    k_steps
    refine ends_of TT F ⟨_, ys, n, rfl, turn_none TT (N _ List.mem_cons_self).2.2, (N _ List.mem_cons_self).1, ?_⟩
    rw [List.take_length] at hms
    rw [stayM, ← hms]; exact hys
end
end
section
local macro_rules | `(tactic| walk_at "eval ListComp") => `(tactic| refine stop ?_)
local macro_rules | `(tactic| walk_at "eval ListComp Name Name") => `(tactic| refine stop ?_)
local macro_rules | `(tactic| walk_at "pyIter ref") => `(tactic| refine stop ?_)
local macro_rules | `(tactic| walk_at "call builtin:list.extend") => `(tactic| refine stop ?_)
local macro_rules | `(tactic| walk_at "exec For Name Call cons nil") => `(tactic| refine stop ?_)
local macro_rules | `(tactic| walk_at "exec For Name Call cons cons") => `(tactic| refine stop ?_)
local macro_rules | `(tactic| walk_at "exec For Name Name nil") => `(tactic| refine stop ?_)
local macro_rules | `(tactic| walk_at "exec For Name Name cons") => `(tactic| refine stop ?_)
local macro_rules | `(tactic| walk_at "exec For") => `(tactic| refine stop ?_)
local macro_rules | `(tactic| walk_at "exec For Tuple Call nil") => `(tactic| refine stop ?_)
local macro_rules | `(tactic| walk_at "call type:zip") => `(tactic| refine stop ?_)
local macro_rules | `(tactic| walk_at "exec If") => `(tactic| refine stop ?_)
local macro_rules | `(tactic| walk_at "exec For Name Call nil") => `(tactic| refine stop ?_)
local macro_rules | `(tactic| walk_at "subscriptTail Name Slice ref ref") => `(tactic| refine stop ?_)
local macro_rules | `(tactic| walk_at "subscriptTail Name BinOp ref int") => `(tactic| refine stop ?_)
local macro_rules | `(tactic| walk_at "Exists") => `(tactic| refine stop ?_)
local macro_rules | `(tactic| walk_at "compareOp Eq ref ref") => `(tactic| refine stop ?_)
local macro_rules | `(tactic| walk_at "compareOp NotEq ref ref") => `(tactic| refine stop ?_)
local macro_rules | `(tactic| walk_at "call ref") => `(tactic| refine stop ?_)
local macro_rules | `(tactic| walk_at "subscriptTail Name UnaryOp ref int") => `(tactic| refine stop ?_)
local macro_rules | `(tactic| walk_at "call builtin:sum") => `(tactic| refine stop ?_)
local macro_rules | `(tactic| walk_at "call builtin:list.append") => `(tactic| refine stop ?_)
local macro_rules | `(tactic| walk_at "exec For Name Subscript cons nil") => `(tactic| refine stop ?_)
local macro_rules | `(tactic| walk_at "exec For Name Subscript cons cons") => `(tactic| refine stop ?_)
local macro_rules | `(tactic| walk_at "execs nil") => `(tactic| with_reducible refine wpAny_execs_nil ?_)
section
local macro_rules | `(tactic| walk_at "exec Assign cons ListComp") => `(tactic| refine stop ?_)
local macro_rules | `(tactic| walk_at "exec Assign Name ListComp") => `(tactic| refine stop ?_)
section
local macro_rules | `(tactic| walk_at "subscriptTail") => `(tactic| refine stop ?_)
section
local macro_rules | `(tactic| walk_at "And") => `(tactic| refine stop ?_)
noncomputable def dueStep (k : Int) (due : List Int) : List Int := ((due ++ [0]).zip (0 :: due)).map fun (p : Int × Int) => p.1 + k * p.2
noncomputable def dueTurns (k : Int) : Nat → List Int → List Int
  | 0, d => d
  | n + 1, d => dueStep k (dueTurns k n d)
noncomputable def turnsOf (gs : List Int) (group k : Nat) : Int := if k = group then gs.getD (group - k) 0 - 1 else gs.getD (group - k) 0
noncomputable def dueLoop (gs : List Int) (group : Nat) : Nat → List Int → List Int
  | 0, d => d
  | i + 1, d => dueTurns ((i + 1 : Nat) : Int) (turnsOf gs group (i + 1)).toNat (dueLoop gs group i d)
noncomputable def dueM (gs : List Int) (first step : Int) (group : Nat) : List Int := (dueLoop gs group group [step, first + ((group : Int) - 1) * step]).drop 1
inductive DueInI (c lg : Addr) (group : Nat) (tg : Tok) (k : Int) (d : Nat → List Int) (lim : Nat) (i : Nat) (m : Str → Option Value) (news : List (Addr × Obj)) : Prop
  | mk : ∀ mx oc ys n D t, m = nm [("growth", .ref lg), ("group", .int (group : Int) tg), ("due", .ref D)] mx → news = [(D, lst ys n), (c, oc)] → oc.data = .cell (some (.int k t)) → IntsAre ys (d i) → ys.length ≤ lim + i → D ≠ c → DueInI c lg group tg k d lim i m news
noncomputable def DueIn (c lg : Addr) (group : Nat) (tg : Tok) (k : Int) (d : Nat → List Int) (lim : Nat) (i : Nat) (m : Str → Option Value) (news : List (Addr × Obj)) (_ : Nat) : Prop := DueInI c lg group tg k d lim i m news
section
variable {w : World} {A : Around} {s : Shared} {outs : List Env} {mg mb : Str → Option Value} {mean : ExcName → Option Value}
inductive DueJI (c lg : Addr) (group : Nat) (tg : Tok) (d : Nat → List Int) (lim : Nat) (i : Nat) (m : Str → Option Value) (news : List (Addr × Obj)) : Prop
  | mk : ∀ mx oc co ys n D, m = nm [("growth", .ref lg), ("group", .int (group : Int) tg), ("due", .ref D)] mx → news = [(D, lst ys n), (c, oc)] → oc.data = .cell co → IntsAre ys (d i) → ys.length ≤ lim + 8 * i → D ≠ c → DueJI c lg group tg d lim i m news
noncomputable def DueJ (c lg : Addr) (group : Nat) (tg : Tok) (d : Nat → List Int) (lim : Nat) (i : Nat) (m : Str → Option Value) (news : List (Addr × Obj)) (_ : Nat) : Prop := DueJI c lg group tg d lim i m news
theorem due_c {lg : Addr} {vg : List Value} {gs : List Int} {first step : Int} {group : Nat} {t1 t2 t3 : Tok} (h1 : s.heap.IsList lg vg.toArray) (i1 : IntsAre vg gs) (z1 : gs.length = 4) (hgs : ∀ z ∈ gs, 0 ≤ z ∧ z ≤ 4) (hg : 1 ≤ group ∧ group ≤ 4) (a : AmbW w mean mg mb A outs s.heap) (hd : A.depth < recursionLimit) :
    codeAny (model PG w) A (.call (.ref 97) ⟨[.ref lg, .int first t1, .int step t2, .int (group : Int) t3], []⟩) (Ends outs s (IntsPost s (dueM gs first step group))) s := by
  have hh := a.hh
  refine' enterC (binds := [("growth", .ref lg), ("first", .int first t1), ("step", .int step t2), ("group", .int (group : Int) t3)]) a ?k6 ?k7 hd ?k9 ?kk ?knd ?_ ?c2 ?c3 ?c4
  ((case k6 => k_dflt k_is); (case k7 => k_dflt k_is); (case k9 => exact BindsTo.of_eq rfl); (try (case km => exact rfl)); (try (case c5 => decide)); (try (case kB => exact locs rfl)); (try (case kk => (intro n; (repeat (refine List.forall_mem_cons.mpr ⟨by first | exact .inl rfl | exact .inr ⟨rfl, rfl⟩, ?_⟩)); exact fun _ h => nomatch h))); (try (case knd => decide)); (case c2 => exact rfl); (case c3 => exact rfl); (case c4 => exact rfl))
  intro L' h₁ tk cells htk B X X' T D F N CA
  obtain ⟨oc, rfl, hoc⟩ := CA.one
  k_fold
  k_steps
  rename Fr _ _ _ _ => F
  rename News _ _ _ _ => N
  refine Stop.go (wpAny_For ?_)
  k_steps
  rename Fr _ _ _ _ => F
  rename News _ _ _ _ => N
  rename IsRange _ _ _ _ _ _ _ _ => hr
  refine Stop.go (for_range (n := group) (news := [(_, lst [.int step t2, .int (first + ((group : Int) - 1) * step) _] 0), (L' + 1, oc)]) (keep := []) hr (small_one (by (first | lia | omega)) (by (first | lia | omega)) (by (first | lia | omega)) (by (first | lia | omega))) (by rw [rangeSize_nat]; congr 1; (first | lia | omega)) hh B D .refl F N (fun _ h => nomatch h) (DueJ (L' + 1) lg group t3 (fun i => dueLoop gs group i [step, first + ((group : Int) - 1) * step]) 2)
    ⟨_, _, _, _, 0, _, nm_of _ (nms3 rfl rfl rfl), rfl, hoc, .cons _ _ (.cons _ _ .nil), by simp, ?hne⟩ ?hJl (fun i m news tk tk' hJ _ => hJ) ?turn ?done)
  case hne => intro q; have q' : @Eq Nat _ _ := q; (first | lia | omega)
  case hJl =>
    rintro i m news tk ⟨mx, oc, co, ys, n, D, _, rfl, hoc, _⟩ p hp
    rcases List.mem_cons.mp hp with rfl | hp
    · exact isLst_lst
    · rw [List.mem_singleton.mp hp]; exact isLst_cell hoc
  case turn =>
    rintro i bs g m₁ news₁ own h tk hin ⟨t, rfl⟩ B D TT ⟨mx, oc, co, ys, n, D1, rfl, rfl, hoc, hys, hlen, hne⟩ F N hown
    have Xg := X.keeps B.stays
    clear X' T
    have T : Top Mine.hd0.view_39 (looseW Mine.hd0.view_39 []) mean mg mb g := (a.open.2.2).keeps B.stays
    replace F : Fr g L' h _ := F
    replace N : News g L' h ((_, lst ys n) :: (L' + 1, oc) :: own) := N
    have oD := own_off N List.mem_cons_self isLst_lst (fun p hp => List.mem_cons_of_mem _ (List.mem_cons_of_mem _ hp)) hown
    have oC := own_off N (List.mem_cons_of_mem _ List.mem_cons_self) (isLst_cell hoc) (fun p hp => List.mem_cons_of_mem _ (List.mem_cons_of_mem _ hp)) hown
    have hgi : group - (i + 1) < gs.length := by (first | lia | omega)
    obtain ⟨tv, hv⟩ := i1.get (group - (i + 1)) gs[group - (i + 1)] (by simp [hgi])
    have hgv : gs.getD (group - (i + 1)) 0 = gs[group - (i + 1)] := by simp [List.getD, hgi]
    have hgb := hgs _ (List.getElem_mem hgi)
    generalize gs[group - (i + 1)] = gv at *
    rw [show (1 : Int) + (i : Int) * 1 = ((i + 1 : Nat) : Int) by (first | lia | omega)]
    have hne' : @Ne Nat D1 (L' + 1) := hne
    refine stores1 ?_
    k_fold
    k_steps
    rename Fr _ _ _ _ => F
    rename News _ _ _ _ => N
    refine Stop.go (item_in (hs := by with_unfolding_all rfl) ((kept_of TT F).list h1) (by (first | lia | omega)) (v := .int gv tv) (by unfold pyIdx; rw [if_pos (by (first | lia | omega)), show ((group : Int) - ((i + 1 : Nat) : Int)).toNat = group - (i + 1) by (first | lia | omega)]; exact hv) ?_)
    k_steps
    rename Fr _ _ _ _ => F
    rename News _ _ _ _ => N
    rename Obj => o2
    rename (Obj.data _ = Data.cell (some (Value.int _ _))) => hoc'
    refine Stop.go (wpAny_mono (Q := fun f s' => f = Flow.next ∧ ∃ h' tk' mx' tt, s' = { s with heap := h', toks := tk' } ∧ Fr g L' h' (nm [("growth", .ref lg), ("group", .int (group : Int) t3), ("due", .ref D1), ("turns", .int (turnsOf gs group (i + 1)) tt)] mx') ∧ News g L' h' ((D1, lst ys n) :: (L' + 1, o2) :: own)) ?cut (fun f s' hf => ?cont) (fun _ _ e => e))
    case cut =>
      refine wpAny_If ?_
      k_fold
      k_steps
      · rename Fr _ _ _ _ => F
        rename News _ _ _ _ => N
        have e1 : ((i + 1 : Nat) : Int) = (group : Int) := by assumption
        have hT : turnsOf gs group (i + 1) = gv - 1 := by unfold turnsOf; rw [if_pos (by (first | lia | omega)), hgv]
        rw [hT]
        exact Stop.go ⟨rfl, _, _, _, _, rfl, Fr_nm F _ (nms4 rfl rfl rfl rfl), N⟩
      · rename Fr _ _ _ _ => F
        rename News _ _ _ _ => N
        have e1 : ((i + 1 : Nat) : Int) ≠ (group : Int) := by assumption
        have hT : turnsOf gs group (i + 1) = gv := by unfold turnsOf; rw [if_neg (by (first | lia | omega)), hgv]
        rw [hT]
        exact Stop.go ⟨rfl, _, _, _, _, rfl, Fr_nm F _ (nms4 rfl rfl rfl rfl), N⟩
    case cont =>
      obtain ⟨rfl, h', tk', mx', tt, rfl, F, N⟩ := hf
      have hTb : -1 ≤ turnsOf gs group (i + 1) ∧ turnsOf gs group (i + 1) ≤ 4 := by
        unfold turnsOf
        split <;> rw [hgv] <;> (first | lia | omega)
      have hde : dueLoop gs group (i + 1) [step, first + ((group : Int) - 1) * step] = dueTurns ((i + 1 : Nat) : Int) (turnsOf gs group (i + 1)).toNat (dueLoop gs group i [step, first + ((group : Int) - 1) * step]) := rfl
      generalize turnsOf gs group (i + 1) = T0 at *
      show wpAny _ _ (execs _ _) _ _ _
      k_fold
      k_steps
      refine Stop.go (wpAny_For ?_)
      k_steps
      rename Fr _ _ _ _ => F
      rename News _ _ _ _ => N
      rename IsRange _ _ _ _ _ _ _ _ => hr
      refine Stop.go (for_range (n := T0.toNat) (news := [(_, lst ys n), (L' + 1, o2)]) (keep := own) hr (small_one (by (first | lia | omega)) (by (first | lia | omega)) (by (first | lia | omega)) (by (first | lia | omega))) (by rw [rangeSize_nat]; congr 1; (first | lia | omega)) hh B D TT F N hown (DueIn (L' + 1) lg group t3 ((i + 1 : Nat) : Int) (fun j => dueTurns ((i + 1 : Nat) : Int) j (dueLoop gs group i [step, first + ((group : Int) - 1) * step])) (2 + 8 * i))
        ⟨_, _, _, _, _, _, nm_of _ (nms3 rfl rfl rfl), rfl, hoc', hys, hlen, hne⟩ ?hJl2 (fun i m news tk tk' hJ _ => hJ) ?turn2 ?done2)
      case hJl2 =>
        rintro i m news tk ⟨mx, oc, ys, n, D, t, _, rfl, hoc, _⟩ p hp
        rcases List.mem_cons.mp hp with rfl | hp
        · exact isLst_lst
        · rw [List.mem_singleton.mp hp]; exact isLst_cell hoc
      case turn2 =>
        rintro j bs g m₁ news₁ own h tk hjn ⟨t, rfl⟩ B D TT ⟨mx, oc, ys, n, D1, tkk, rfl, rfl, hoc, hys, hlen, hne⟩ F N hown
        have Xg := X.keeps B.stays
        clear T
        have T : Top Mine.hd0.view_39 (looseW Mine.hd0.view_39 []) mean mg mb g := (a.open.2.2).keeps B.stays
        replace F : Fr g L' h _ := F
        replace N : News g L' h ((_, lst ys n) :: (L' + 1, oc) :: own) := N
        refine stores1 ?_
        k_fold
        k_steps
        refine Stop.go (comp_assign (hs := by intro _; rfl) (cl := [("k", L' + 1)]) ?hsw (by rfl) rfl (by decide) ?_)
        case hsw => rfl
        k_steps
        rename Fr _ _ _ _ => F
        rename News _ _ _ _ => N
        obtain ⟨dd, hdd⟩ : ∃ dd, dd = dueTurns ((i + 1 : Nat) : Int) j (dueLoop gs group i [step, first + ((group : Int) - 1) * step]) := ⟨_, rfl⟩
        replace hys : IntsAre ys dd := by rw [hdd]; exact hys
        have lys := hys.length
        have hA := fun t => ints_app hys (.cons 0 t .nil : IntsAre [.int 0 t] [0])
        have hB := fun t => ints_app (.cons 0 t .nil : IntsAre [.int 0 t] [0]) hys
        refine Stop.go (comp_zip (fs := L' :: fr outs) (n := ys.length + 1) (xs := ys ++ [.int 0 _]) (ys := [.int 0 _] ++ ys) (by apply lst_at N; k_mem; exact rfl; exact ⟨_, rfl⟩) (by apply lst_at N; k_mem; exact rfl; exact ⟨_, rfl⟩) (by simp) hh (by rw [sizeLine_eq]; (first | lia | omega))
          (fun C D q zs h tk => IntsAre zs ((dueStep ((i + 1 : Nat) : Int) dd).take q)) (by decide) rfl (fs_lt' D F) (lst_off (fs := []) D F N (by k_mem)) (lst_off (fs := []) D F N (by k_mem)) (fun _ _ _ _ _ _ _ => .nil) (fun _ _ _ _ _ _ _ _ _ hJ _ _ _ => hJ) ?turn3 ?fin3)
        case turn3 =>
          rintro C Dd q bs zs h1 tk1 m1 fC fD ne hq ⟨u, v, hu, hv, rfl⟩ hJ hns hDd hk
          have hqd : q < dd.length + 1 := by rw [← lys]; exact hq
          have hq1 : q < (dd ++ [0]).length := by simpa using hqd
          have hq2 : q < ([0] ++ dd).length := by simpa [Nat.add_comm] using hqd
          obtain ⟨tu, hu'⟩ := (hA _).get q (dd ++ [0])[q] (by simp [hq1])
          obtain ⟨tv, hv'⟩ := (hB _).get q ([0] ++ dd)[q] (by simp [hq2])
          rw [hu'] at hu; cases hu
          rw [hv'] at hv; cases hv
          have hst : (dueStep ((i + 1 : Nat) : Int) dd)[q]? = some ((dd ++ [0])[q] + ((i + 1 : Nat) : Int) * ([0] ++ dd)[q]) := by
            show ((((dd ++ [0]).zip ([0] ++ dd)).map fun (p : Int × Int) => p.1 + ((i + 1 : Nat) : Int) * p.2))[q]? = _
            have z : ((dd ++ [0]).zip ([0] ++ dd))[q]? = some ((dd ++ [0])[q], ([0] ++ dd)[q]) := List.getElem?_zip_eq_some.mpr ⟨List.getElem?_eq_getElem hq1, List.getElem?_eq_getElem hq2⟩
            rw [List.getElem?_map, z]; rfl
          generalize (dd ++ [0])[q] = xl at *
          generalize ([0] ++ dd)[q] = xh at *
          refine turn2 rfl rfl rfl hns fC hk fun h2 tk2 hle hns2 hk2 hs2 => ?_
          refine wpAny_tests_nil ?_
          rw [if_pos rfl]
          obtain ⟨g', B', D', TT', F', N', _⟩ := after_kept (s := { s with heap := _, toks := 0 }) B D TT F N hk2
          have Xg := X.keeps B'.stays
          have T : Top Mine.hd0.view_39 (looseW Mine.hd0.view_39 []) mean mg mb g' := (a.open.2.2).keeps B'.stays
          have hcl : h2.IsCell (L' + 1) (some (.int ((i + 1 : Nat) : Int) tkk)) := ⟨_, (N' (L' + 1, _) (by k_mem)).1, hoc⟩
          clear F N B D TT
          show wpAny _ _ _ _ _ _
          k_fold
          k_steps
          refine Stop.go ⟨h2, _, _, rfl, keptX_same hs2, hns2, ?_⟩
          rw [List.take_add_one, hst]
          exact ints_app hJ (.cons _ _ .nil)
        case fin3 =>
          refine' fin_assign B D TT ?hL F N ?hy ?hp ?k
          case hL => exact rfl
          case hy => exact rfl
          case hp => exact rfl
          intro g' C Dd zs nn h₀ h tk₀ tk fD off fC B D TT F N hJ hle hk hoth _
          have Xg := X.keeps B.stays
          have T : Top Mine.hd0.view_39 (looseW Mine.hd0.view_39 []) mean mg mb g' := (a.open.2.2).keeps B.stays
          show wpAny _ _ _ _ _ _
          k_fold
          k_steps
          have ldd : (dueStep ((i + 1 : Nat) : Int) dd).length = ys.length + 1 := by unfold dueStep; simp [lys]
          rw [← ldd, List.take_length] at hJ
          have lzs := hJ.length
          refine Turned.mk [(_, lst zs nn), (L' + 1, oc)] B D TT F N ?hs3 ?ho3 ⟨_, _, _, _, _, _, nm_of _ (nms3 rfl rfl rfl), rfl, hoc, ?hi3, by (first | lia | omega), ?hn3⟩
          case hs3 => exact sub2 (by k_mem) (by k_mem)
          case ho3 => exact fun p hp => List.mem_cons_of_mem _ (List.mem_cons_of_mem _ (List.mem_cons_of_mem _ (List.mem_cons_of_mem _ (List.mem_cons_of_mem _ (List.mem_cons_of_mem _ (List.mem_cons_of_mem _ hp))))))
          case hi3 => show IntsAre zs (dueStep ((i + 1 : Nat) : Int) (dueTurns _ j _)); rw [← hdd]; exact hJ
          case hn3 => exact fun q => off (L' + 1, oc) (by k_mem) q.symm
      case done2 =>
        rintro g m₁ news₁ h tk B D TT ⟨mx, oc, ys, n, D1, tkk, rfl, rfl, hoc, hys, hlen, hne⟩ F N
        have Xg := X.keeps B.stays
        clear T
        have T : Top Mine.hd0.view_39 (looseW Mine.hd0.view_39 []) mean mg mb g := (a.open.2.2).keeps B.stays
        replace F : Fr g L' h _ := F
        replace N : News g L' h ((_, lst ys n) :: (L' + 1, oc) :: own) := N
        show wpAny _ _ _ _ _ _
        k_fold
        k_steps
        refine Turned.mk [(_, lst ys n), (L' + 1, oc)] B D TT F N ?hs3 ?ho3 ⟨_, _, _, _, _, _, nm_of _ (nms3 rfl rfl rfl), rfl, hoc, ?hi3, by (first | lia | omega), hne⟩
        case hs3 => exact sub2 (by k_mem) (by k_mem)
        case ho3 => exact fun p hp => List.mem_cons_of_mem _ (List.mem_cons_of_mem _ hp)
        case hi3 => show IntsAre ys (dueLoop gs group (i + 1) _); rw [hde]; exact hys
  case done =>
    rintro g m₁ news₁ h tk B D TT ⟨mx, oc, co, ys, n, D1, rfl, rfl, hoc, hys, hlen, hne⟩ F N
    have Xg := X.keeps B.stays
    clear X' T
    have T : Top Mine.hd0.view_39 (looseW Mine.hd0.view_39 []) mean mg mb g := (a.open.2.2).keeps B.stays
    replace F : Fr g L' h _ := F
    replace N : News g L' h [(_, lst ys n), (L' + 1, oc)] := N
    show wpAny _ _ _ _ _ _
    k_fold
    k_steps
    refine Stop.go (my_slice_from (hs := by with_unfolding_all rfl) (ht := by (intro _; with_unfolding_all rfl)) F N ⟨_, (N _ List.mem_cons_self).1, rfl, _, rfl⟩ (by (first | lia | omega)) fun D h' F N lt => ?_)
    k_steps
    refine ends_of TT F ⟨_, _, 0, rfl, turn_none TT (N _ List.mem_cons_self).2.2, (N _ List.mem_cons_self).1, ints_drop hys⟩
end
end
section
noncomputable def lastLoop (gs : List Int) (group : Nat) : Nat → Int → Int
  | 0, l => l
  | i + 1, l => lastLoop gs group i l * ((i + 1 : Nat) : Int) ^ (turnsOf gs group (i + 1)).toNat
noncomputable def lastM (gs : List Int) (first step : Int) (group : Nat) : Int := lastLoop gs group group (first + (0 - step) * (1 - (group : Int)))
section
variable {w : World} {A : Around} {s : Shared} {outs : List Env} {mg mb : Str → Option Value} {mean : ExcName → Option Value}
noncomputable def LastJ (lg : Addr) (group : Nat) (tg : Tok) (d : Nat → Int) (i : Nat) (m : Str → Option Value) (news : List (Addr × Obj)) (_ : Nat) : Prop :=
  ∃ mx tl, m = nm [("growth", .ref lg), ("group", .int (group : Int) tg), ("last", .int (d i) tl)] mx ∧ news = []
theorem last_c {lg : Addr} {vg : List Value} {gs : List Int} {first step : Int} {group : Nat} {t1 t2 t3 : Tok} (h1 : s.heap.IsList lg vg.toArray) (i1 : IntsAre vg gs) (z1 : gs.length = 4) (hgs : ∀ k, 1 ≤ k → k ≤ group → 0 ≤ turnsOf gs group k ∧ turnsOf gs group k ≤ 2) (hg : 1 ≤ group ∧ group ≤ 4) (a : AmbW w mean mg mb A outs s.heap) (hd : A.depth + 1 < recursionLimit) :
    codeAny (model PG w) A (.call (.ref 104) ⟨[.ref lg, .int first t1, .int step t2, .int (group : Int) t3], []⟩) (Ends outs s fun v h' tk => ∃ t, v = .int (lastM gs first step group) t) s := by
  have hh := a.hh
  refine' enter (m := loc [("group", .int (group : Int) t3), ("step", .int step t2), ("first", .int first t1), ("growth", .ref lg)]) a ?k6 ?k7 (by (first | lia | omega)) ?k9 ?km ?kB ?_ ?c2 ?c3 ?c4 ?c5
  ((case k6 => k_dflt k_is); (case k7 => k_dflt k_is); (case k9 => exact BindsTo.of_eq rfl); (try (case km => exact rfl)); (try (case c5 => decide)); (try (case kB => exact locs rfl)); (try (case kk => (intro n; (repeat (refine List.forall_mem_cons.mpr ⟨by first | exact .inl rfl | exact .inr ⟨rfl, rfl⟩, ?_⟩)); exact fun _ h => nomatch h))); (try (case knd => decide)); (case c2 => exact rfl); (case c3 => exact rfl); (case c4 => exact rfl))
  intro L' h₁ tk htk B X X' T D F N
  have Xb := X
  have Tb := a.open.2.2
  have hd1 : ∀ env : Env, (A.deeper env).depth < recursionLimit := hd2_of hd
  show wpAny _ _ _ _ _ _
  k_fold
  k_steps
  refine Stop.go (call_use B D .refl F N rfl (sub_c (amb_in B D F Xb Tb hh rfl rfl) (hd1 _)) fun v g h tk hle B D TT F N _ _ hpt => ?_)
  obtain ⟨t, hv, _⟩ := hpt
  subst hv
  have Xg := X.keeps B.stays
  clear X' T
  have T : Top Mine.hd0.view_39 (looseW Mine.hd0.view_39 []) mean mg mb g := Tb.keeps B.stays
  k_steps
  refine Stop.go (call_use B D TT F N rfl (mul_c (by (first | lia | omega)) (amb_in B D F Xb Tb hh rfl rfl) (hd1 _)) fun v g h tk hle B D TT F N _ _ hpt => ?_)
  obtain ⟨t, hv⟩ := hpt
  subst hv
  have Xg := Xb.keeps B.stays
  have T : Top Mine.hd0.view_39 (looseW Mine.hd0.view_39 []) mean mg mb g := Tb.keeps B.stays
  k_steps
  refine Stop.go (call_use B D TT F N rfl (add_c (amb_in B D F Xb Tb hh rfl rfl) (hd1 _)) fun v g h tk hle B D TT F N _ _ hpt => ?_)
  obtain ⟨t, hv⟩ := hpt
  subst hv
  have Xg := Xb.keeps B.stays
  have T : Top Mine.hd0.view_39 (looseW Mine.hd0.view_39 []) mean mg mb g := Tb.keeps B.stays
  k_steps
  refine Stop.go (wpAny_For ?_)
  k_steps
  rename Fr _ _ _ _ => F
  rename News _ _ _ _ => N
  rename IsRange _ _ _ _ _ _ _ _ => hr
  refine Stop.go (for_range (n := group) (news := []) (keep := []) hr (small_one (by (first | lia | omega)) (by (first | lia | omega)) (by (first | lia | omega)) (by (first | lia | omega))) (by rw [rangeSize_nat]; congr 1; (first | lia | omega)) hh B D TT F N (fun _ h => nomatch h) (LastJ lg group t3 (fun i => lastLoop gs group i (first + (0 - step) * (1 - (group : Int)))))
    ⟨_, _, nm_of _ (nms3 rfl rfl rfl), rfl⟩ ?hJl (fun i m news tk tk' hJ _ => hJ) ?turn ?done)
  case hJl =>
    rintro i m news tk ⟨mx, tl, _, rfl⟩ p hp
    exact nomatch hp
  case turn =>
    rintro i bs g m₁ news₁ own h tk hin ⟨t, rfl⟩ B D TT ⟨mx, tl, rfl, rfl⟩ F N hown
    have Xg := Xb.keeps B.stays
    clear T
    have T : Top Mine.hd0.view_39 (looseW Mine.hd0.view_39 []) mean mg mb g := Tb.keeps B.stays
    replace F : Fr g L' h (nm [("growth", .ref lg), ("group", .int (group : Int) t3), ("last", .int (lastLoop gs group i (first + (0 - step) * (1 - (group : Int)))) tl)] mx) := F
    replace N : News g L' h own := N
    have hgi : group - (i + 1) < gs.length := by (first | lia | omega)
    obtain ⟨tv, hv⟩ := i1.get (group - (i + 1)) gs[group - (i + 1)] (by simp [hgi])
    have hgv : gs.getD (group - (i + 1)) 0 = gs[group - (i + 1)] := by simp [List.getD, hgi]
    have hTb := hgs (i + 1) (by (first | lia | omega)) (by (first | lia | omega))
    generalize gs[group - (i + 1)] = gv at *
    rw [show (1 : Int) + (i : Int) * 1 = ((i + 1 : Nat) : Int) by (first | lia | omega)]
    generalize hll : lastLoop gs group i (first + (0 - step) * (1 - (group : Int))) = ll at *
    have hde : lastLoop gs group (i + 1) (first + (0 - step) * (1 - (group : Int))) = ll * ((i + 1 : Nat) : Int) ^ (turnsOf gs group (i + 1)).toNat := by rw [← hll]; rfl
    refine stores1 ?_
    k_fold
    k_steps
    rename Fr _ _ _ _ => F
    rename News _ _ _ _ => N
    refine Stop.go (item_in (hs := by with_unfolding_all rfl) ((kept_of TT F).list h1) (by (first | lia | omega)) (v := .int gv tv) (by unfold pyIdx; rw [if_pos (by (first | lia | omega)), show ((group : Int) - ((i + 1 : Nat) : Int)).toNat = group - (i + 1) by (first | lia | omega)]; exact hv) ?_)
    k_steps
    rename Fr _ _ _ _ => F
    rename News _ _ _ _ => N
    refine Stop.go (wpAny_mono (Q := fun f s' => f = Flow.next ∧ ∃ h' tk' mx' tt, s' = { s with heap := h', toks := tk' } ∧ Fr g L' h' (nm [("growth", .ref lg), ("group", .int (group : Int) t3), ("last", .int ll tl), ("turns", .int (turnsOf gs group (i + 1)) tt), ("k", .int ((i + 1 : Nat) : Int) t)] mx') ∧ News g L' h' own) ?cut (fun f s' hf => ?cont) (fun _ _ e => e))
    case cut =>
      refine wpAny_If ?_
      k_fold
      k_steps
      · rename Fr _ _ _ _ => F
        rename News _ _ _ _ => N
        have e1 : ((i + 1 : Nat) : Int) = (group : Int) := by assumption
        have hT : turnsOf gs group (i + 1) = gv - 1 := by unfold turnsOf; rw [if_pos (by (first | lia | omega)), hgv]
        rw [hT]
        exact Stop.go ⟨_, _, _, _, rfl, Fr_nm F _ (nms_cons rfl (nms4 rfl rfl rfl rfl)), N⟩
      · rename Fr _ _ _ _ => F
        rename News _ _ _ _ => N
        have e1 : ((i + 1 : Nat) : Int) ≠ (group : Int) := by assumption
        have hT : turnsOf gs group (i + 1) = gv := by unfold turnsOf; rw [if_neg (by (first | lia | omega)), hgv]
        rw [hT]
        exact Stop.go ⟨_, _, _, _, rfl, Fr_nm F _ (nms_cons rfl (nms4 rfl rfl rfl rfl)), N⟩
    case cont =>
      obtain ⟨rfl, h', tk', mx', tt, rfl, F, N⟩ := hf
      generalize turnsOf gs group (i + 1) = T0 at *
      show wpAny _ _ (execs _ _) _ _ _
      k_fold
      k_steps
      refine Stop.go (call_use B D TT F N rfl (ipow_c (by (first | lia | omega)) (by (first | lia | omega)) (amb_in B D F Xb Tb hh rfl rfl) (hd1 _)) fun v g h tk hle B D TT F N _ _ hpt => ?_)
      obtain ⟨t, hv⟩ := hpt
      subst hv
      have Xg := Xb.keeps B.stays
      have T : Top Mine.hd0.view_39 (looseW Mine.hd0.view_39 []) mean mg mb g := Tb.keeps B.stays
      k_steps
      have hp : (((i + 1 : Nat) : Int) ^ T0.toNat).natAbs < 2 ^ 60 := by
        have hi4 : i = 0 ∨ i = 1 ∨ i = 2 ∨ i = 3 := by (first | lia | omega)
        have hT3 : T0.toNat = 0 ∨ T0.toNat = 1 ∨ T0.toNat = 2 := by (first | lia | omega)
        rcases hT3 with e | e | e <;> rw [e] <;> rcases hi4 with e | e | e | e <;> rw [e] <;> decide
      refine Stop.go (call_use B D TT F N rfl (mul_c hp (amb_in B D F Xb Tb hh rfl rfl) (hd1 _)) fun v g h tk hle B D TT F N _ _ hpt => ?_)
      obtain ⟨t, hv⟩ := hpt
      subst hv
      have Xg := Xb.keeps B.stays
      have T : Top Mine.hd0.view_39 (looseW Mine.hd0.view_39 []) mean mg mb g := Tb.keeps B.stays
      k_steps
      rename Fr _ _ _ _ => F
      rename News _ _ _ _ => N
      exact Turned.mk [] B D TT F N (fun p hp => nomatch hp) (fun p hp => hp) ⟨_, _, nm_of _ (nms3 rfl rfl (by show _ = some (Value.int (lastLoop gs group (i + 1) _) _); rw [hde]; rfl)), rfl⟩
  case done =>
    rintro g m₁ news₁ h tk B D TT ⟨mx, tl, rfl, rfl⟩ F N
    have Xg := Xb.keeps B.stays
    clear T
    have T : Top Mine.hd0.view_39 (looseW Mine.hd0.view_39 []) mean mg mb g := Tb.keeps B.stays
    replace F : Fr g L' h _ := F
    replace N : News g L' h [] := N
    show wpAny _ _ _ _ _ _
    k_fold
    k_steps
    exact ends_of TT F ⟨_, rfl⟩
end
end
section
section
variable {w : World} {A : Around} {s : Shared} {outs : List Env} {mg mb : Str → Option Value} {mean : ExcName → Option Value}
inductive CellsJI (ls : Addr) (D : Addr) (i : Nat) (m : Str → Option Value) (news : List (Addr × Obj)) : Prop
  | mk : ∀ mx ys n cs, m = nm [("script", .ref ls), ("cells", .ref D)] mx → news = [(D, lst ys n)] → IntsAre ys cs → cs.length = 7 → CellsJI ls D i m news
noncomputable def CellsJ (ls : Addr) (D : Addr) (i : Nat) (m : Str → Option Value) (news : List (Addr × Obj)) (_ : Nat) : Prop := CellsJI ls D i m news
theorem cells_c {ls : Addr} {vs : List Value} {xs : List Int} (h1 : s.heap.IsList ls vs.toArray) (i1 : IntsAre vs xs) (z1 : xs.length ≤ 63) (a : AmbW w mean mg mb A outs s.heap) (hd : A.depth < recursionLimit) :
    codeAny (model PG w) A (.call (.ref 70) ⟨[.ref ls], []⟩) (Ends outs s fun v h' tk => ∃ cs, cs.length = 7 ∧ IntsPost s cs v h' tk) s := by
  have hh := a.hh
  refine' enter (m := loc [("script", .ref ls)]) a ?k6 ?k7 (by (first | lia | omega)) ?k9 ?km ?kB ?_ ?c2 ?c3 ?c4 ?c5
  ((case k6 => k_dflt k_is); (case k7 => k_dflt k_is); (case k9 => exact BindsTo.of_eq rfl); (try (case km => exact rfl)); (try (case c5 => decide)); (try (case kB => exact locs rfl)); (try (case kk => (intro n; (repeat (refine List.forall_mem_cons.mpr ⟨by first | exact .inl rfl | exact .inr ⟨rfl, rfl⟩, ?_⟩)); exact fun _ h => nomatch h))); (try (case knd => decide)); (case c2 => exact rfl); (case c3 => exact rfl); (case c4 => exact rfl))
  intro L' h₁ tk htk B X X' T D F N
  have Xb := X
  have Tb := a.open.2.2
  have lvs := i1.length
  have h1' := h1.at fun o e => F.keep _ _ e
  show wpAny _ _ _ _ _ _
  k_fold
  k_steps
  refine Stop.go (wpAny_For ?_)
  k_steps
  rename Fr _ _ _ _ => F
  rename News _ _ _ _ => N
  rename IsRange _ _ _ _ _ _ _ _ => hr
  refine Stop.go (for_range (n := xs.length) (news := [(_, lst [.int 0 _, .int 1 _, .int 1 _, .int 1 _, .int 1 _, .int 1 _, .int 0 _] 0)]) (keep := []) hr (small_one (by (first | lia | omega)) (by (first | lia | omega)) (by (first | lia | omega)) (by (first | lia | omega))) (by rw [rangeSize_nat]; congr 1) hh B D .refl F N (fun _ h => nomatch h) (CellsJ ls _)
    ⟨_, _, _, _, nm_of _ (nms2 rfl rfl), rfl, .cons _ _ (.cons _ _ (.cons _ _ (.cons _ _ (.cons _ _ (.cons _ _ (.cons _ _ .nil)))))), rfl⟩ ?hJl (fun i m news tk tk' hJ _ => hJ) ?turn ?done)
  case hJl =>
    rintro i m news tk ⟨mx, ys, n, cs, _, rfl, _⟩ p hp
    rw [List.mem_singleton.mp hp]; exact isLst_lst
  case turn =>
    rintro i bs g m₁ news₁ own h tk hin ⟨t, rfl⟩ B D TT ⟨mx, ys, n, cs, rfl, rfl, hys, hcs⟩ F N hown
    have Xg := Xb.keeps B.stays
    clear T
    have T : Top Mine.hd0.view_39 (looseW Mine.hd0.view_39 []) mean mg mb g := Tb.keeps B.stays
    replace F : Fr g L' h (nm [("script", .ref ls), ("cells", .ref _)] mx) := F
    replace N : News g L' h ((_, lst ys n) :: own) := N
    have oD := own_off N List.mem_cons_self isLst_lst (fun p hp => List.mem_cons_of_mem _ hp) hown
    rw [show (0 : Int) + (i : Int) * 1 = (i : Int) by (first | lia | omega)]
    refine stores1 ?_
    k_fold
    k_steps
    rename Fr _ _ _ _ => F
    rename News _ _ _ _ => N
    obtain ⟨tx, hx⟩ := i1.get i xs[i] (by simp [hin])
    refine Stop.go (item_in (hs := by with_unfolding_all rfl) ((kept_of TT F).list h1) (by (first | lia | omega)) (v := .int xs[i] tx) (by unfold pyIdx; rw [if_pos (by (first | lia | omega))]; simpa using hx) ?_)
    generalize xs[i] = x at *
    k_steps
    rename Fr _ _ _ _ => F
    rename News _ _ _ _ => N
    rename IntsAre _ _ => hi
    rename (List.length _ = List.length _) => hl
    refine Turned.mk [(_, lst _ n)] B D TT F N ?hs ?ho ⟨_, _, n, _, nm_of _ (nms2 rfl rfl), rfl, hi, hl.trans hcs⟩
    case hs => exact sub1 (by k_mem)
    case ho => exact fun p hp => List.mem_cons_of_mem _ hp
  case done =>
    rintro g m₁ news₁ h tk B D TT ⟨mx, ys, n, cs, rfl, rfl, hys, hcs⟩ F N
    have Xg := Xb.keeps B.stays
    clear T
    have T : Top Mine.hd0.view_39 (looseW Mine.hd0.view_39 []) mean mg mb g := Tb.keeps B.stays
    replace F : Fr g L' h (nm [("script", .ref ls), ("cells", .ref _)] mx) := F
    replace N : News g L' h [(_, lst ys n)] := N
    show wpAny _ _ _ _ _ _
    k_fold
    k_steps
    exact ends_of TT F ⟨cs, hcs, _, ys, n, rfl, turn_none TT (N _ List.mem_cons_self).2.2, (N _ List.mem_cons_self).1, hys⟩
end
end
section
noncomputable def fnAt (P : Params) (f : Addr) : Option FuncData := match (Mine.hd0.heap_39 P).lookup f with
  | some ⟨_, _, .func fd, _⟩ => some fd
  | _ => none
noncomputable def stmtsOf (P : Params) (f : Addr) : List Stmt := match fnAt P f with
  | some fd => (match fd.body with | .stmts b => b | _ => [])
  | none => []
noncomputable def scopeOf (P : Params) (f : Addr) : Scope := match fnAt P f with
  | some fd => fd.scope
  | none => default
noncomputable def forBody : Stmt → List Stmt
  | .For _ _ b _ _ => b
  | _ => []
noncomputable def tBody (P : Params) : List Stmt := forBody (((stmtsOf P 92).drop 7).headD default)
noncomputable abbrev envS (P : Params) (L : Addr) : Env := envOfC "_law_struck" (scopeOf P 92) L 92 (.ref 91)
noncomputable def Tk (τ : Nat → Int) (tk : Nat) (vs : List Value) : Prop := ∀ v ∈ vs, ∃ x t, v = .int x t ∧ 0 < t ∧ t < tk ∧ τ t = x
noncomputable def Agree (τ τ' : Nat → Int) (tk : Nat) : Prop := ∀ t, t < tk → τ' t = τ t
theorem Agree.refl {τ : Nat → Int} {tk : Nat} : Agree τ τ tk := fun _ _ => rfl
theorem Agree.trans {τ τ' τ'' : Nat → Int} {tk tk' : Nat} (x : Agree τ τ' tk) (y : Agree τ' τ'' tk') (h : tk ≤ tk') : Agree τ τ'' tk := fun t ht => (y t (Nat.lt_of_lt_of_le ht h)).trans (x t ht)
theorem Tk.mono {τ τ' : Nat → Int} {tk tk' : Nat} {vs : List Value} (x : Tk τ tk vs) (y : Agree τ τ' tk) (h : tk ≤ tk') : Tk τ' tk' vs := fun v hv => by
  obtain ⟨a, t, e, h0, h1, h2⟩ := x v hv
  exact ⟨a, t, e, h0, Nat.lt_of_lt_of_le h1 h, (y t h1).trans h2⟩
theorem Tk.le {τ : Nat → Int} {tk tk' : Nat} {vs : List Value} (x : Tk τ tk vs) (h : tk ≤ tk') : Tk τ tk' vs := x.mono .refl h
theorem Tk.nil {τ : Nat → Int} {tk : Nat} : Tk τ tk [] := fun _ h => nomatch h
theorem Tk.sub {τ : Nat → Int} {tk : Nat} {vs ws : List Value} (x : Tk τ tk vs) (h : ∀ v ∈ ws, v ∈ vs) : Tk τ tk ws := fun v hv => x v (h v hv)
theorem Tk.app {τ : Nat → Int} {tk : Nat} {vs ws : List Value} (x : Tk τ tk vs) (y : Tk τ tk ws) : Tk τ tk (vs ++ ws) := fun v hv => (List.mem_append.mp hv).elim (x v) (y v)
theorem Tk.snoc {τ : Nat → Int} {tk tk' : Nat} {vs : List Value} {x : Int} (h : Tk τ tk vs) (hle : tk ≤ tk') (h0 : 0 < tk') : ∃ τ', Agree τ τ' tk' ∧ Tk τ' (tk' + 1) (vs ++ [.int x tk']) := by
  refine ⟨fun t => if t = tk' then x else τ t, fun t ht => if_neg (Nat.ne_of_lt ht), (h.mono (fun t ht => if_neg (Nat.ne_of_lt (Nat.lt_of_lt_of_le ht hle))) (Nat.le_succ_of_le hle)).app fun v hv => ?_⟩
  rw [List.mem_singleton.mp hv]
  exact ⟨x, tk', rfl, h0, Nat.lt_succ_self _, if_pos rfl⟩
theorem Tk.apart {τ : Nat → Int} {tk : Nat} {vs : List Value} {y : Int} {u : Tok} (h : Tk τ tk vs) (hu : Tk τ tk [.int y u]) : Apart vs y u := by
  obtain ⟨y', u', e, u0, u1, u2⟩ := hu _ List.mem_cons_self
  cases e
  refine ⟨Nat.ne_of_gt u0, fun v hv x t e => ?_⟩
  obtain ⟨x', t', e', t0, t1, t2⟩ := h v hv
  rw [e] at e'; cases e'
  exact ⟨Nat.ne_of_gt t0, fun q => by rw [← t2, ← u2, q]⟩
theorem append_sem {prog : Program} {w : World} {A : Around} {E : Value → Shared → Prop} {s : Shared} {g : Heap} {L D : Addr} {m : Str → Option Value} {news : List (Addr × Obj)} {ys : List Value} {n : Nat} {v : Value} {Q : Value → Shared → Prop}
    (F : Fr g L s.heap m) (N : News g L s.heap news) (hm : (D, lst ys n) ∈ news) (hz : ys.length ≤ 2 ^ 23)
    (h : ∀ n' h', Fr g L h' m → (∀ led, (∀ p ∈ led, p = (D, lst (ys ++ [v]) n') ∨ (p ∈ news ∧ p.1 ≠ D)) → News g L h' led) → Q .none { s with heap := h' }) : wpAny (model prog w) A (call (.builtin "list.append") [.ref D, v]) Q E s := by
  have z := N _ hm
  refine wpAny_call_entry slot_list_append ⟨_, z.1, rfl⟩ entry_list_append ?_ (args_list_append _ _)
  show wpAny _ _ (updateSeq D (·.push v) >>= fun _ => ret .none) _ _ s
  have e1 : ys.toArray.size ≤ sizeLine := by rw [List.size_toArray, sizeLine_eq]; (first | lia | omega)
  have e2 : (ys.toArray.push v).size ≤ sizeLine + 1 := by rw [Array.size_push, List.size_toArray, sizeLine_eq]; (first | lia | omega)
  refine wpAny_bind (wpAny_updateSeq z.1 rfl (hz := e1) (_hz' := e2) (wpAny_pure ⟨_, rfl, h (if (ys ++ [v]).toArray.size == ys.toArray.size then n else n + 1) _ (F.change (Heap.SameBut.update ..) z.2.1 z.2.2) fun led hl p hp => ?_⟩))
  rcases hl p hp with rfl | ⟨hp', hne⟩
  · refine ⟨?_, z.2⟩
    have q := PySem.IsL.update z.1 (·.push v)
    have q' : PySem.IsL (s.heap.update D (Obj.mapSeq (·.push v))) D (ys.toArray.push v) _ := q
    rw [List.push_toArray] at q'
    exact q'
  · exact ⟨(Heap.get?_update_other _ _ (Ne.symm hne)).trans (N p hp').1, (N p hp').2⟩
noncomputable def goneM (es zs : List Int) (t : Int) : List Int := ((es.zip zs).filter fun p => decide (p.2 = t)).map fun p => p.1 - t
noncomputable def hereM (es zs : List Int) (t : Int) : List Int := ((es.zip zs).filter fun p => decide (p.2 > t)).map fun p => p.1 - t
noncomputable def gone3M (es zs : List Int) (t : Int) : List Int := if t = zs.getLastD 0 then (goneM es zs t).flatMap fun x => List.replicate 3 x else goneM es zs t
theorem goneM_len {es zs : List Int} {t : Int} : (goneM es zs t).length ≤ es.length := by
  unfold goneM
  rw [List.length_map]
  refine Nat.le_trans (List.length_filter_le _ _) ?_
  rw [List.length_zip]; exact Nat.min_le_left _ _
theorem hereM_len {es zs : List Int} {t : Int} : (hereM es zs t).length ≤ es.length := by
  unfold hereM
  rw [List.length_map]
  refine Nat.le_trans (List.length_filter_le _ _) ?_
  rw [List.length_zip]; exact Nat.min_le_left _ _
theorem last4 {zs : List Int} (h : zs.length = 4) : zs[3]? = some (zs.getLastD 0) := by
  match zs, h with
  | [_, _, _, _], _ => rfl
theorem sub_cons {α : Type} {a : α} {r l : List α} (ha : a ∈ l) (h : ∀ p ∈ r, p ∈ l) : ∀ p ∈ a :: r, p ∈ l := fun p hp => (List.mem_cons.mp hp).elim (fun e => e ▸ ha) (h p)
theorem ints_rep {k : Nat} : ∀ {vs : List Value} {xs : List Int}, IntsAre vs xs → IntsAre (vs.flatMap fun v => List.replicate k v) (xs.flatMap fun x => List.replicate k x)
  | _, _, .nil => .nil
  | _, _, .cons n t r => by
    have rep : ∀ k, IntsAre (List.replicate k (Value.int n t)) (List.replicate k n) := fun k => by
      induction k with
      | zero => exact .nil
      | succ k ih => exact .cons n t ih
    simp only [List.flatMap_cons]
    exact ints_app (rep k) (ints_rep r)
theorem rep_mem {k : Nat} {vs : List Value} : ∀ v ∈ (vs.flatMap fun v => List.replicate k v), v ∈ vs := fun v hv => by
  obtain ⟨u, hu, hm⟩ := List.mem_flatMap.mp hv
  rw [List.eq_of_mem_replicate hm]; exact hu
end
section
section
variable {prog : Program} {w : World} {A : Around} {E : Value → Shared → Prop} {s : Shared} {a b a1 a2 b1 b2 : Addr} {Q : Value → Shared → Prop} {u1 u2 w1 w2 : List Value} {xs ys : List Int} {oa ob : Obj} {na nb : Nat}
theorem rep_len {α : Type} {k : Nat} : ∀ {xs : List α}, (xs.flatMap fun x => List.replicate k x).length = xs.length * k
  | [] => by simp
  | x :: r => by rw [List.flatMap_cons, List.length_append, List.length_replicate, rep_len, List.length_cons, Nat.succ_mul, Nat.add_comm]
theorem gone3M_len {es zs : List Int} {t : Int} : (gone3M es zs t).length ≤ 3 * es.length := by
  unfold gone3M
  split
  · rw [rep_len]; have := goneM_len (es := es) (zs := zs) (t := t); (first | lia | omega)
  · have := goneM_len (es := es) (zs := zs) (t := t); (first | lia | omega)
theorem eqv_ints (xs : List Int) : PyData.eqvAll (xs.map PyData.int) (xs.map PyData.int) = true := by rw [ked_eqvAll]; simp
theorem ne_pair (ha : s.heap.get? a = some oa) (ca : oa.cls = .type "tuple") (da : oa.data = .seq #[.ref a1, .ref a2] na) (hb : s.heap.get? b = some ob) (cb : ob.cls = .type "tuple") (db : ob.data = .seq #[.ref b1, .ref b2] nb)
    (l1 : s.heap.IsList a1 u1.toArray) (l2 : s.heap.IsList a2 u2.toArray) (l3 : s.heap.IsList b1 w1.toArray) (l4 : s.heap.IsList b2 w2.toArray) (i1 : IntsAre u1 xs) (i2 : IntsAre u2 ys) (i3 : IntsAre w1 xs) (i4 : IntsAre w2 ys)
    (hu : A.units + 64 < cLine) (h : Q (.bool false) s) : wpAny (model prog w) A (compareOp .NotEq (.ref a) (.ref b)) Q E s := by
  have hs : SeqAt.shaped (.tuple [.list (xs.map PyData.int), .list (ys.map PyData.int)]) = true := by
    simp [SeqAt.shaped, PyData.canLay0, PyData.canLayAll0, PyData.depth, PyData.depthAll, ke_canLayAll0, ke_depthAll]
  refine ne_dataH (reads_tuple_at ha ca da (.cons (reads_newData l1 (ke_carried i1)) (.cons (reads_newData l2 (ke_carried i2)) .nil))) (reads_tuple_at hb cb db (.cons (reads_newData l3 (ke_carried i3)) (.cons (reads_newData l4 (ke_carried i4)) .nil))) hs hs hu ?_
  simp only [PyData.eqv, PyData.eqvAll, eqv_ints, Bool.and_true, Bool.not_true]
  exact h
theorem ne_list (l1 : s.heap.IsList a u1.toArray) (l2 : s.heap.IsList b u2.toArray) (i1 : IntsAre u1 xs) (i2 : IntsAre u2 xs) (hu : A.units + 64 < cLine) (h : Q (.bool false) s) : wpAny (model prog w) A (compareOp .NotEq (.ref a) (.ref b)) Q E s :=
  ke_ne_ints l1 l2 i1 i2 hu (by simpa using h)
end
theorem cell_sem {M : Model} {A : Around} {E : Value → Shared → Prop} {s : Shared} {g : Heap} {L c : Addr} {m : Str → Option Value} {news : List (Addr × Obj)} {oc : Obj} {v0 : Option Value} {v : Value} {x : Str} {env : Env} {Q : Unit → Shared → Prop}
    (F : Fr g L s.heap m) (N : News g L s.heap news) (hm : (c, oc) ∈ news) (hd : oc.data = .cell v0) (hk : env.scope.kind = .function) (hx : env.kindOf x = some .cell) (hc : env.cells.lookup x = some c)
    (h : ∀ h' o', Fr g L h' m → o'.data = .cell (some v) → (∀ led, (∀ p ∈ led, p = (c, o') ∨ (p ∈ news ∧ p.1 ≠ c)) → News g L h' led) → Q () { s with heap := h' }) : wpAny M A (storeName env x v) Q E s := by
  have z := N _ hm
  refine wpAny_storeName_cell hk hx hc ⟨oc, z.1, hd⟩ fun h' hv hs => ?_
  obtain ⟨o', ho', hd'⟩ := hv
  refine h h' o' (F.change hs z.2.1 z.2.2) hd' fun led hl p hp => ?_
  rcases hl p hp with rfl | ⟨hp', hne⟩
  · exact ⟨ho', z.2⟩
  · exact ⟨hs.extBut _ _ hne (N p hp').1, (N p hp').2⟩
theorem my_add {prog : Program} {w : World} {A : Around} {E : Value → Shared → Prop} {s : Shared} {g : Heap} {L l b : Addr} {m : Str → Option Value} {news : List (Addr × Obj)} {vs ws : List Value} {Q : Value → Shared → Prop}
    (F : Fr g L s.heap m) (N : News g L s.heap news) (hl : s.heap.IsList l vs.toArray) (hb : s.heap.IsList b ws.toArray) (hz : vs.length + ws.length ≤ sizeLine)
    (h : ∀ D h', Fr g L h' m → News g L h' ((D, lst (vs ++ ws) 0) :: news) → (∀ p ∈ news, p.1 ≠ D) → Q (.ref D) { s with heap := h' }) : wpAny (model prog w) A (binaryOp .Add (.ref l) (.ref b)) Q E s :=
  add_lists (hsz := hz) F N hl hb fun h' F' N' => h _ h' F' N' fun p hp q => Nat.ne_of_lt (Heap.lt_size (N p hp).1) q
theorem keep_p {g h : Heap} {L c : Addr} {oc o' : Obj} {v0 : Option Value} {p : Addr × Obj} {news : List (Addr × Obj)} (N : News g L h news) (hp : p ∈ news) (hc : (c, oc) ∈ news) (hd : oc.data = .cell v0) (ho : ∀ v, p.2.data ≠ .cell v) : p = (c, o') ∨ (p ∈ news ∧ p.1 ≠ c) :=
  .inr ⟨hp, fun q => by
    have h1 := (N _ hp).1
    have h2 := (N _ hc).1
    rw [q, h2] at h1
    cases h1
    exact ho _ hd⟩
theorem keep_c {c : Addr} {o' : Obj} {p : Addr × Obj} {news : List (Addr × Obj)} (hp : p ∈ news) (hn : p.1 ≠ c) : p = (c, o') ∨ (p ∈ news ∧ p.1 ≠ c) := .inr ⟨hp, hn⟩
theorem ns_kept {fs : List Addr} {h h' : Heap} {C : Addr} {m : Str → Option Value} (n : h.Ns C m) (k : Kept fs h h') (_ : C ∉ fs) : h'.Ns C m := k.ns n
theorem idx_eq : ∀ {xs : List Int} {y : Int} {k : Nat}, xs[k]? = some y → (∀ i, i < k → xs[i]? ≠ some y) → k = xs.idxOf y
  | [], y, k, h, _ => by simp at h
  | x :: r, y, 0, h, _ => by
    have e : x = y := by simpa using h
    rw [List.idxOf_cons, e]; simp
  | x :: r, y, k + 1, h, hn => by
    have e : x ≠ y := fun e => hn 0 (Nat.succ_pos _) (by simp [e])
    have ih := idx_eq (xs := r) (y := y) (k := k) (by simpa using h) fun i hi => by
      have := hn (i + 1) (by (first | lia | omega))
      simpa using this
    rw [List.idxOf_cons]
    have e' : (x == y) = false := by simpa using e
    rw [e', cond_false, ← ih]
theorem or_cons {p : Addr × Obj} {r : List (Addr × Obj)} {X : Addr × Obj → Prop} (ha : X p) (h : ∀ q ∈ r, X q) : ∀ q ∈ p :: r, X q := fun q hq => (List.mem_cons.mp hq).elim (fun e => e ▸ ha) (h q)
open Sem in
theorem execs_split {M : Model} {A : Around} {env : Env} {l1 l2 : List Stmt} {Q : Flow → Shared → Prop} {E : Value → Shared → Prop} {s : Shared}
    (h : wpAny M A (execs l1 env) (fun f s' => match f with | .next => wpAny M A (execs l2 env) Q E s' | f => Q f s') E s) : wpAny M A (execs (l1 ++ l2) env) Q E s := fun Γ p hΓ => by
  have go : ∀ (l1 : List Stmt) (p : Pos) (s : Shared), wp M Γ (execs l1 env) (fun f _ s' => match f with | .next => wpAny M A (execs l2 env) Q E s' | f => Q f s') (fun e _ s' => E e s') p s → wp M Γ (execs (l1 ++ l2) env) (fun f _ s' => Q f s') (fun e _ s' => E e s') p s := by
    intro l1
    induction l1 with
    | nil => intro p s h; exact h Γ p hΓ
    | cons st r ih =>
      intro p s h
      rw [List.cons_append, execs_cons, Sem.wp_bind'] at *
      refine Sem.wp_mono M Γ _ (fun f p' s' h' => ?_) (fun _ _ _ h' => h') _ _ h
      cases f <;> first | exact ih _ _ h' | exact h'
  exact go l1 p s (h Γ p hΓ)
theorem piece {M : Model} {A : Around} {env : Env} {bd : List Stmt} (n : Nat) {Q : Flow → Shared → Prop} {E : Value → Shared → Prop} {R : Shared → Prop} {s : Shared} (hR : ∀ s', R s' → wpAny M A (execs (bd.drop n) env) Q E s')
    (h : wpAny M A (execs (bd.take n) env) (fun f s' => f = .next ∧ (s.toks ≤ s'.toks → R s')) (fun _ _ => False) s) : wpAny M A (execs bd env) Q E s := by
  have e := List.take_append_drop n bd
  rw [← e]
  refine execs_split (wpAny_up (wpAny_mono h (fun f s' hf hle => ?_) fun _ _ x => x.elim))
  obtain ⟨rfl, hr⟩ := hf
  exact hR _ (hr hle)
end
section
section
variable {prog : Program} {w : World} {A : Around} {s s₂ : Shared} {E : Value → Shared → Prop} {R : Result → Shared → Prop} {env : Env} {elt target iter : Expr} {ifs : List Expr} {scope : Scope} {pos : Pos} {I : Addr} {fp wr fs : List Addr} {n : Nat} {P : Nat → List (Str × Value) → Prop} {St : Nat → Heap → Prop} {cl : List (Str × Addr)}

theorem comp_midS {RR : Value → Addr → Result → Shared → Prop} (Dr : ∀ C, Drive prog w A (compEnvC scope cl C env) target (.ref I) fp wr n P St) (hsz : n ≤ sizeLine) (J : Addr → Addr → Nat → List Value → Heap → Nat → Prop)
    (hcell : ∀ y ∈ scope.names, y.2 ≠ .cell) (hkind : scope.kind = .function)
    (hst : St 0 s₂.heap) (hfp : ∀ c ∈ fp, c < s₂.heap.objs.size ∧ c ∉ fs) (hfs : ∀ c ∈ fs, c < s₂.heap.objs.size)
    (hJ : ∀ C D h, s₂.heap.get? C = none → s₂.heap.get? D = none → C ≠ D → KeptX [] fs s₂.heap h → D = s₂.heap.objs.size → C = s₂.heap.objs.size + 1 → J C D 0 [] h s₂.toks)
    (hJs : ∀ C D i ys h h' tk tk', J C D i ys h tk → KeptX (C :: D :: wr) fs h h' → tk ≤ tk' → J C D i ys h' tk')
    (turn : ∀ C D i bs ys h tk m, s₂.heap.get? C = none → s₂.heap.get? D = none → C ≠ D → i < n → P i bs → J C D i ys h tk → h.Ns C m → (∃ o, h.get? D = some o) → KeptX wr fs s₂.heap h →
      Stores (model prog w) A (compEnvC scope cl C env) (fun _ _ => False) bs (fun s₁ => wpAny (model prog w) A (testsOf ifs (compEnvC scope cl C env)) (fun ok s₃ =>
        if ok = true then wpAny (model prog w) A (eval elt (compEnvC scope cl C env)) (fun y s₃ => ∃ h' tk' m', s₃ = { s₂ with heap := h', toks := tk' } ∧ KeptX [C] fs h h' ∧ h'.Ns C m' ∧ J C D (i + 1) (ys ++ [y]) h' tk') (fun _ _ => False) s₃
        else ∃ h' tk' m', s₃ = { s₂ with heap := h', toks := tk' } ∧ KeptX [C] fs h h' ∧ h'.Ns C m' ∧ J C D (i + 1) ys h' tk') (fun _ _ => False) s₁) { s₂ with heap := h, toks := tk })
    (done : ∀ C D h tk ys m, s₂.heap.get? C = none → s₂.heap.get? D = none → C ≠ D → h.PlainList D ys.toArray → h.Ns C m → J C D n ys h tk → KeptX wr fs s₂.heap h → RR (.ref D) C (.ok .next) { s₂ with heap := h, toks := tk }) :
    wpAny (model prog w) A (newList []) (fun acc s₃ => wpAny (model prog w) A (newFunctionEnv scope env.globals cl [] env.qual none .none (some env)) (fun cenv s₄ =>
      codeAny (model prog w) A (.compStart (.ListComp elt [⟨target, iter, ifs, 0⟩] scope pos) 0 (.ref I) acc { cenv with scope := relabel scope env }) (RR acc cenv.locals) s₄) E s₃) E s₂ := by
  refine wpAny_newObj_type (wpAny_newFunctionEnv hcell (by intro y hy; simp at hy) (fun h₁ hns₁ hsb₁ => ?_) hkind)
  dsimp only at hns₁ hsb₁ ⊢
  generalize hH2 : s₂.heap.push { cls := .type "list", dict := none, data := .seq ([] : List Value).toArray } = H2 at hns₁ hsb₁ ⊢
  have hC : H2.objs.size = s₂.heap.objs.size + 1 := by rw [← hH2, Heap.size_push]
  have hDC : s₂.heap.objs.size ≠ H2.objs.size := by rw [hC]; exact Nat.ne_of_lt (Nat.lt_succ_self _)
  have below : ∀ b, b < s₂.heap.objs.size → b ≠ H2.objs.size ∧ b ≠ s₂.heap.objs.size := fun b hb => ⟨by rw [hC]; exact Nat.ne_of_lt (Nat.lt_succ_of_lt hb), Nat.ne_of_lt hb⟩
  have hDf : s₂.heap.objs.size ∉ fp := fun hm => Nat.lt_irrefl _ (hfp _ hm).1
  have hCf : H2.objs.size ∉ fp := fun hm => by have := (hfp _ hm).1; rw [hC] at this; exact Nat.lt_irrefl _ (Nat.lt_of_succ_lt this)
  have old : ∀ b o, s₂.heap.get? b = some o → h₁.get? b = some o := fun b o e => hsb₁.extBut b o (below b (Heap.lt_size e)).1 (Heap.get?_push_of_some _ (hH2 ▸ Heap.get?_push_of_some _ e))
  have hacc : h₁.PlainList s₂.heap.objs.size #[] := ⟨_, hsb₁.extBut _ _ hDC (Heap.get?_push_of_some _ (hH2 ▸ Heap.get?_push_size _ rfl))⟩
  have fresh : ∀ a, s₂.heap.objs.size ≤ a → s₂.heap.get? a = none := fun a ha => by
    cases e : s₂.heap.get? a with
    | none => rfl
    | some o' => exact absurd (Heap.lt_size e) (Nat.not_lt.mpr ha)
  have fD := fresh s₂.heap.objs.size (Nat.le_refl _)
  have fC := fresh H2.objs.size (by rw [hC]; exact Nat.le_succ _)
  have hst₁ : St 0 h₁ := (Dr H2.objs.size).frame _ _ _ hst fun b _ o e => old b o e
  have lift : ∀ {h}, KeptX (H2.objs.size :: s₂.heap.objs.size :: wr) fs h₁ h → KeptX wr fs s₂.heap h := fun x => x.lift old fun b hb => by
    rcases List.mem_cons.mp hb with rfl | hb
    · exact .inr fC
    · rcases List.mem_cons.mp hb with rfl | hb
      · exact .inr fD
      · exact .inl hb
  have hDs : s₂.heap.objs.size ∉ fs := fun hm => Nat.lt_irrefl _ (hfs _ hm)
  have loop : codeAny (model prog w) A (.compLoop (.ListComp elt [⟨target, iter, ifs, 0⟩] scope pos) 0 (.ref I) (.ref s₂.heap.objs.size) (compEnvC scope cl H2.objs.size env))
        (RR (.ref s₂.heap.objs.size) H2.objs.size) { s₂ with heap := h₁, toks := s₂.toks + ([] : List (Str × Value)).length } := by
    refine comp_loop (s := { s₂ with heap := h₁, toks := s₂.toks + ([] : List (Str × Value)).length }) (Dr _) hsz (J H2.objs.size s₂.heap.objs.size) hst₁ hacc ⟨_, hns₁⟩ (hJ _ _ _ fC fD (Ne.symm hDC) (.of_keeps fun b o _ e => old b o e) rfl hC) hDf hCf hDC (fun c hc => (hfp c hc).2)
      hDs (fun hm => by have := hfs _ hm; rw [hC] at this; exact Nat.lt_irrefl _ (Nat.lt_of_succ_lt this)) (hJs _ _) ?_ ?_
    · intro i bs ys h tk m hi hP hJi hn hpl hk
      obtain ⟨nn, e⟩ := hpl
      exact turn H2.objs.size s₂.heap.objs.size i bs ys h tk m fC fD (Ne.symm hDC) hi hP hJi hn ⟨_, e⟩ (lift hk)
    · intro h tk ys m hp hn hJn hk
      exact done _ _ h tk ys m fC fD (Ne.symm hDC) hp hn hJn (lift hk)
  exact codeAny_compStart_list loop ((Dr H2.objs.size).self 0 _ _ _ hst₁ loop)
end
section
variable {prog : Program} {w : World} {A : Around} {s : Shared} {E : Value → Shared → Prop} {R : Result → Shared → Prop} {env : Env} {elt target iter : Expr} {ifs : List Expr} {scope : Scope} {pos : Pos} {I : Addr} {fp wr fs : List Addr} {n : Nat} {P : Nat → List (Str × Value) → Prop} {St : Nat → Heap → Prop} {cl : List (Str × Addr)} {use : Option (Value → Sem Unit)} {Q : Value → Shared → Prop}
theorem comp_fromS {s₂ : Shared} {h₂ : Heap} {tk₂ : Nat} (hs₂ : s₂ = { s with heap := h₂, toks := tk₂ }) (htk : s.toks = tk₂) (hold : ∀ c o, s.heap.get? c = some o → h₂.get? c = some o) (hwn : ∀ c ∈ wr, s.heap.get? c = none)
    (Dr : ∀ C, Drive prog w A (compEnvC scope cl C env) target (.ref I) fp wr n P St) (hsz : n ≤ sizeLine) (J : Addr → Addr → Nat → List Value → Heap → Nat → Prop)
    (hcell : ∀ y ∈ scope.names, y.2 ≠ .cell) (hkind : scope.kind = .function)
    (hst : St 0 h₂) (hfp : ∀ c ∈ fp, c < h₂.objs.size ∧ c ∉ fs) (hfs : ∀ c ∈ fs, c < h₂.objs.size)
    (hJ : ∀ C D h, s.heap.get? C = none → s.heap.get? D = none → C ≠ D → Kept fs s.heap h → D = h₂.objs.size → C = h₂.objs.size + 1 → J C D 0 [] h s.toks)
    (hJs : ∀ C D i ys h h' tk tk', J C D i ys h tk → KeptX (C :: D :: wr) fs h h' → tk ≤ tk' → J C D i ys h' tk')
    (turn : TurnC prog w A fs env scope cl elt ifs s n P J)
    (fin : FinC prog w A E fs s n J use Q) :
    CompRun prog w A E env scope cl (.ListComp elt [⟨target, iter, ifs, 0⟩] scope pos) use Q (.ref I) s₂ := by
  subst hs₂
  subst htk
  have fresh : ∀ c, h₂.get? c = none → s.heap.get? c = none := fun c e => by
    cases q : s.heap.get? c with
    | none => rfl
    | some o => rw [hold c o q] at e; cases e
  have kept : ∀ {h : Heap}, KeptX wr fs h₂ h → Kept fs s.heap h := fun x => (x.lift (Y := []) hold fun c hc => .inr (hwn c hc)).kept fun _ hb => nomatch hb
  refine comp_midS (s₂ := { s with heap := h₂, toks := s.toks }) Dr hsz J hcell hkind hst hfp hfs (fun C D h f1 f2 ne k e1 e2 => hJ C D h (fresh C f1) (fresh D f2) ne (kept (k.mono fun _ hb => nomatch hb)) e1 e2) hJs
    (fun C D i bs ys h tk m f1 f2 ne hi hP hJi hn hD hk => turn C D i bs ys h tk m (fresh C f1) (fresh D f2) ne hi hP hJi hn hD (kept hk))
    (fun C D h tk ys m f1 f2 ne hp hn hJn hk => fin C D ys h tk m (fresh C f1) (fresh D f2) ne hn hp hJn (kept hk))

end
section
variable {prog : Program} {w : World} {A : Around} {s : Shared} {E : Value → Shared → Prop} {R : Result → Shared → Prop} {env : Env} {elt target iter : Expr} {ifs : List Expr} {scope : Scope} {pos : Pos} {fs : List Addr} {cl : List (Str × Addr)} {use : Option (Value → Sem Unit)} {Q : Value → Shared → Prop}
theorem comp_listS {l : Addr} {vs : List Value} {x : Str} {px : Pos} (hl : s.heap.IsList l vs.toArray) (hh : A.handled = none) (hsz : vs.length ≤ sizeLine) (J : Addr → Addr → Nat → List Value → Heap → Nat → Prop)
    (hcell : ∀ y ∈ scope.names, y.2 ≠ .cell) (hkind : scope.kind = .function) (hfs : ∀ c ∈ fs, c < s.heap.objs.size) (hls : l ∉ fs)
    (hJ : ∀ C D h, s.heap.get? C = none → s.heap.get? D = none → C ≠ D → Kept fs s.heap h → @LT.lt Nat _ s.heap.objs.size C → @LT.lt Nat _ s.heap.objs.size D → J C D 0 [] h s.toks)
    (hJs : ∀ C D i ys h h' tk tk', J C D i ys h tk → KeptX [C, D, s.heap.objs.size] fs h h' → tk ≤ tk' → J C D i ys h' tk')
    (turn : TurnC prog w A fs env scope cl elt ifs s vs.length (fun i bs => ∃ v, vs[i]? = some v ∧ bs = [(x, v)]) J)
    (fin : FinC prog w A E fs s vs.length J use Q) :
    wpAny (model prog w) A (pyIter (.ref l)) (CompRun prog w A E env scope cl (.ListComp elt [⟨.Name x px, iter, ifs, 0⟩] scope pos) use Q) E s := by
  refine wpAny_pyIter_list hl ?_
  have hlt : l < s.heap.objs.size := by obtain ⟨_, e, _⟩ := hl; exact Heap.lt_size e
  have hsz' : (s.heap.push { cls := .type "list_iterator", data := .fields #[.ref l, .int 0 0] }).objs.size = s.heap.objs.size + 1 := Heap.size_push ..
  have fI : s.heap.get? s.heap.objs.size = none := Heap.get?_none_of_le (Nat.le_refl _)
  have hsize : vs.toArray.size = vs.length := by simp
  refine comp_fromS (wr := [s.heap.objs.size]) (fp := [s.heap.objs.size, l]) (n := vs.length) rfl rfl (fun c o e => Heap.get?_push_of_some _ e) (fun c hc => by rw [List.mem_singleton.mp hc]; exact fI)
    (fun C => Drive.name (P := fun i v => vs[i]? = some v) ?_) hsz J hcell hkind (St := fun i h => h.IsListIter s.heap.objs.size l i ∧ h.IsList l vs.toArray) ⟨⟨_, Heap.get?_push_size _ rfl, rfl, rfl⟩, hl.push _⟩ (fun c hc => ?_) (fun c hc => by rw [hsz']; exact Nat.lt_succ_of_lt (hfs c hc)) (fun C D h f1 f2 ne k e1 e2 => hJ C D h f1 f2 ne k (by rw [e2, hsz']; exact Nat.lt_succ_of_lt (Nat.lt_succ_self _)) (by rw [e1, hsz']; exact Nat.lt_succ_self _))
    hJs turn fin
  · have W := Walks.list (prog := prog) (w := w) hh s.heap.objs.size l (Nat.ne_of_lt hlt) vs.toArray
    rw [hsize] at W
    simpa using W
  · rw [hsz']
    rcases List.mem_cons.mp hc with rfl | hc
    · exact ⟨Nat.lt_succ_self _, fun hm => Nat.lt_irrefl _ (hfs _ hm)⟩
    · rw [List.mem_singleton.mp hc]; exact ⟨Nat.lt_succ_of_lt hlt, hls⟩
end
end
section
inductive KsR (c : Nat) : List Addr → List (List Int) → List (Addr × Obj) → Prop
  | nil : KsR c [] [] []
  | cons {k : Addr} {y : List Value} {n : Nat} {S : List Int} {ks : List Addr} {Ss : List (List Int)} {kl : List (Addr × Obj)} : IntsAre y S → y.length ≤ c → KsR c ks Ss kl → KsR c (k :: ks) (S :: Ss) ((k, lst y n) :: kl)
theorem KsR.le {c c' : Nat} (hc : c ≤ c') {ks : List Addr} {S : List (List Int)} {kl : List (Addr × Obj)} (h : KsR c ks S kl) : KsR c' ks S kl := by
  induction h with
  | nil => exact .nil
  | cons i l r ih => exact .cons i (Nat.le_trans l hc) ih
theorem KsR.addr {c : Nat} {ks : List Addr} {S : List (List Int)} {kl : List (Addr × Obj)} (h : KsR c ks S kl) : ∀ p ∈ kl, p.1 ∈ ks ∧ IsLst p.2 := by
  induction h with
  | nil => exact fun _ h => nomatch h
  | cons i l r ih =>
    intro p h
    rcases List.mem_cons.mp h with rfl | h
    · exact ⟨List.mem_cons_self, isLst_lst⟩
    · exact ⟨List.mem_cons_of_mem _ (ih p h).1, (ih p h).2⟩
noncomputable def pushAt {α : Type} (n : Nat) (x : α) (S : List (List α)) : List (List α) := S.set n (S.getD n [] ++ [x])
theorem KsR.app {c : Nat} {ks : List Addr} {S : List (List Int)} {kl : List (Addr × Obj)} (h : KsR c ks S kl) : ks.Nodup → ∀ q, q < ks.length → ∃ k y n, ks[q]? = some k ∧ k ∈ ks ∧ (k, lst y n) ∈ kl ∧ y.length ≤ c ∧
    ∀ x t n', ∃ kl', KsR (c + 1) ks (pushAt q x S) kl' ∧ ∀ p ∈ kl', p = (k, lst (y ++ [.int x t]) n') ∨ (p ∈ kl ∧ p.1 ≠ k) := by
  induction h with
  | nil => exact fun _ _ h => absurd h (Nat.not_lt_zero _)
  | @cons k0 y0 n0 S0 ks Ss kl i l r ih =>
    intro nd q hq
    cases q with
    | zero =>
      refine ⟨k0, y0, n0, rfl, List.mem_cons_self, List.mem_cons_self, l, fun x t n' => ⟨_, .cons (n := n') (y := y0 ++ [.int x t]) (ints_app i (.cons _ _ .nil)) (by rw [List.length_append]; exact Nat.succ_le_succ l) (r.le (Nat.le_succ c)), fun p hp => ?_⟩⟩
      rcases List.mem_cons.mp hp with rfl | hp
      · exact .inl rfl
      · exact .inr ⟨List.mem_cons_of_mem _ hp, fun e => (List.nodup_cons.mp nd).1 (e ▸ (r.addr p hp).1)⟩
    | succ q =>
      obtain ⟨k, y, n, h1, h0, h2, h3, h4⟩ := ih (List.nodup_cons.mp nd).2 q (Nat.lt_of_succ_lt_succ hq)
      refine ⟨k, y, n, h1, List.mem_cons_of_mem _ h0, List.mem_cons_of_mem _ h2, h3, fun x t n' => ?_⟩
      obtain ⟨kl', h5, h6⟩ := h4 x t n'
      refine ⟨(k0, lst y0 n0) :: kl', .cons i (Nat.le_succ_of_le l) h5, fun p hp => ?_⟩
      rcases List.mem_cons.mp hp with rfl | hp
      · exact .inr ⟨List.mem_cons_self, fun e => (List.nodup_cons.mp nd).1 (by rw [show k0 = k from e]; exact h0)⟩
      · rcases h6 p hp with h | ⟨h, h'⟩
        · exact .inl h
        · exact .inr ⟨List.mem_cons_of_mem _ h, h'⟩
theorem KsR.has {c : Nat} {ks : List Addr} {S : List (List Int)} {kl : List (Addr × Obj)} (h : KsR c ks S kl) : ∀ k ∈ ks, ∃ y n, (k, lst y n) ∈ kl := by
  induction h with
  | nil => exact fun _ h => nomatch h
  | cons i l r ih =>
    intro k h
    rcases List.mem_cons.mp h with rfl | h
    · exact ⟨_, _, List.mem_cons_self⟩
    · obtain ⟨y, n, h⟩ := ih k h
      exact ⟨y, n, List.mem_cons_of_mem _ h⟩
noncomputable def strike {α : Type} (d : α) (N : List α) (P H : List Int) : Nat → List (List α) → List (List α)
  | 0, S => S
  | i + 1, S => pushAt (4 - H.length + i) (N.getD ((P ++ P).idxOf (H.getD i 0)) d) (strike d N P H i S)
end
section
noncomputable def sumsG {α : Type} (add : α → α → α) (r : α) : List α → List α
  | [] => []
  | x :: xs => add r x :: sumsG add (add r x) xs
theorem sumsG_len {α : Type} {add : α → α → α} : ∀ {xs : List α} {r : α}, (sumsG add r xs).length = xs.length
  | [], _ => rfl
  | _ :: xs, _ => congrArg (· + 1) (sumsG_len (xs := xs))
theorem sumsG_snoc {α : Type} {add : α → α → α} {x : α} : ∀ {xs : List α} {r : α}, sumsG add r (xs ++ [x]) = sumsG add r xs ++ [add (xs.foldl add r) x]
  | [], _ => rfl
  | _ :: xs, _ => congrArg (_ :: ·) (sumsG_snoc (xs := xs))
noncomputable def nextN {α : Type} (add : α → α → α) (z : α) (N : List α) (P St : List Int) : List α := sumsG add z (St.map fun p => N.getD ((P ++ P).idxOf p) z)
theorem Tk.snoc2 {τ : Nat → Int} {tk tk' : Nat} {vs : List Value} {x : Int} {u : Nat} (h : Tk τ tk vs) (h0 : 0 < tk) (hle : tk ≤ u) (hu : u < tk') : ∃ τ', Agree τ τ' tk ∧ Tk τ' tk' (vs ++ [.int x u]) := by
  refine ⟨fun t => if t = u then x else τ t, fun t ht => if_neg (Nat.ne_of_lt (Nat.lt_of_lt_of_le ht hle)), (h.mono (fun t ht => if_neg (Nat.ne_of_lt (Nat.lt_of_lt_of_le ht hle))) (Nat.le_of_lt (Nat.lt_of_le_of_lt hle hu))).app fun v hv => ?_⟩
  rw [List.mem_singleton.mp hv]
  exact ⟨x, u, rfl, Nat.lt_of_lt_of_le h0 hle, hu, if_pos rfl⟩
theorem idx_lt {xs : List Int} {y : Int} (h : y ∈ xs) : (xs ++ xs).idxOf y < xs.length := by
  rw [List.idxOf_append, if_pos h]; exact List.idxOf_lt_length_iff.mpr h
end
section
noncomputable def placesAt (es zs : List Int) : Nat → List Int
  | 0 => (List.range zs.sum.toNat).map fun (i : Nat) => (es.getLastD 0 + 1) - (zs.sum + (i : Int) * -1)
  | t + 1 => stayM es zs (t : Int)
noncomputable def marksAt (es zs : List Int) : Nat → List Int
  | 0 => es ++ [es.getLastD 0 + 1]
  | t + 1 => (hereM es zs (t : Int)).map (fun x => x - 1) ++ [es.getLastD 0 + 1]
noncomputable def numsG {α : Type} (add : α → α → α) (z r0 st : α) (es zs : List Int) : Nat → List α
  | 0 => sumsG add r0 (List.replicate zs.sum.toNat st)
  | t + 1 => nextN add z (numsG add z r0 st es zs t) (placesAt es zs t) (stayM es zs (t : Int))
noncomputable def struckG {α : Type} (add : α → α → α) (z r0 st : α) (es zs : List Int) : Nat → List (List α)
  | 0 => [[], [], [], []]
  | t + 1 => strike z (numsG add z r0 st es zs t) (placesAt es zs t) (hereM es zs (t : Int)) (hereM es zs (t : Int)).length (struckG add z r0 st es zs t)
end
end
end
section
local macro_rules | `(tactic| walk_at "subscriptTail") => `(tactic| refine stop ?_)
section
theorem stop_beyond {M : Model} {A : Around} {v : Value} {env : Env} {Q : Unit → Shared → Prop} {E : Value → Shared → Prop} {s : Shared} (h : Stop (wpAny M A (storeName env (PySem.Str.ofString "beyond") v) Q E s)) : wpAny M A (storeName env (PySem.Str.ofString "beyond") v) Q E s := h
local macro_rules | `(tactic| walk_at "storeName") => `(tactic| with_reducible refine stop_beyond ?_)
section
variable {w : World} {A : Around} {s : Shared} {outs : List Env} {mg mb : Str → Option Value} {mean : ExcName → Option Value} {Q : Flow → Shared → Prop} {E : Value → Shared → Prop}
noncomputable def sBody (P : Params) : List Stmt := stmtsOf P 92
theorem seg0a {sc : Scope} {bd : List Stmt} (hsc : sc = scopeOf w.params 92) (hbd : bd = sBody w.params)
    {le lz L' : Addr} {v1 v2 : List Value} {es zs : List Int} {first step : Int} {tf ts : Tok} {oB oP oT oLd : Obj} {vB vP vT vLd : Option Value} {τ : Nat → Int} {g h : Heap} {tk : Nat} {mx : Str → Option Value}
    (a : AmbW w mean mg mb A outs s.heap) (hd : A.depth + 2 < recursionLimit) (hu : A.units + 70 < cLine) (B : Below A (hideAll s.heap (fr outs)) outs g) (D : KtsDicts (fr outs) g) (TT : KtsTurn (fr outs) s.heap g)
    (hB : oB.data = .cell vB) (hP : oP.data = .cell vP) (hT : oT.data = .cell vT) (hLd : oLd.data = .cell vLd)
    (h1 : s.heap.IsList le v1.toArray) (h2 : s.heap.IsList lz v2.toArray) (i1 : IntsAre v1 es) (i2 : IntsAre v2 zs) (z1 : es.length = 4) (z2 : zs.length = 4) (htk : 0 < tk) (hsum : 0 ≤ zs.sum ∧ zs.sum ≤ 64) (hzs : ∀ z ∈ zs, 0 ≤ z ∧ z ≤ 16)
    (F : Fr g L' h (nm [("ends", .ref le), ("sizes", .ref lz), ("first", .int first tf), ("step", .int step ts)] mx)) (N : News g L' h ((L' + 1, oB) :: (L' + 2, oP) :: (L' + 3, oT) :: (L' + 4, oLd) :: []))
    {R : Shared → Prop} (hR : ∀ s', R s' → wpAny (model PG w) (A.deeper (envOfC "_law_struck" sc L' 92 (.ref 91))) (execs (bd.drop 2) (envOfC "_law_struck" sc L' 92 (.ref 91))) Q E s')
    (k : ∀ g h tk' mx lp vp np oB2 oP2 tb τ', tk ≤ tk' → Agree τ τ' tk → Below A (hideAll s.heap (fr outs)) outs g → KtsDicts (fr outs) g → KtsTurn (fr outs) s.heap g → Fr g L' h (nm [("ends", .ref le), ("sizes", .ref lz), ("first", .int first tf), ("step", .int step ts)] mx) →
      News g L' h ((lp, lst vp np) :: (L' + 1, oB2) :: (L' + 2, oP2) :: (L' + 3, oT) :: (L' + 4, oLd) :: []) → oB2.data = .cell (some (.int (es.getLastD 0 + 1) tb)) → oP2.data = .cell (some (.ref lp)) → IntsAre vp (placesAt es zs 0) → Tk τ' tk' vp → Tk τ' tk' [.int (es.getLastD 0 + 1) tb] → R { s with heap := h, toks := tk' }) :
    wpAny (model PG w) (A.deeper (envOfC "_law_struck" sc L' 92 (.ref 91))) (execs bd (envOfC "_law_struck" sc L' 92 (.ref 91))) Q E { s with heap := h, toks := tk } := by
  have hh := a.hh
  obtain ⟨_, Xb, Tb⟩ := a.open
  conv at hsc => rhs; whnf
  conv at hbd => rhs; whnf
  subst hsc hbd
  have Xg := Xb.keeps B.stays
  have T : Top Mine.hd0.view_39 (looseW Mine.hd0.view_39 []) mean mg mb g := Tb.keeps B.stays
  have hd1 : ∀ env : Env, (A.deeper env).depth + 1 < recursionLimit := hd1_of hd
  have hd2 : ∀ env : Env, (A.deeper env).depth < recursionLimit := hd2_of hd
  have hu1 : ∀ env : Env, (A.deeper env).units + 64 < cLine := hu1_of hu
  refine piece 2 hR ?_
  simp only [List.take_succ_cons, List.take_zero]
  show wpAny _ _ _ _ _ _
  have lz2 := i2.length
  have le1 := i1.length
  have hzg : g.IsList lz v2.toArray := (Kept.of_turn TT).list h2
  obtain ⟨te, he⟩ := i1.get 3 (es.getLastD 0) (last4 z1)
  obtain ⟨e0, he0⟩ : ∃ e0, e0 = es.getLastD 0 := ⟨_, rfl⟩
  rw [← he0] at he k
  obtain ⟨tk0, htk0⟩ : ∃ t, tk = t := ⟨_, rfl⟩
  refine piece 1 (R := fun s' => ∃ g h tk' mx oB2 tb, tk ≤ tb ∧ tb < tk' ∧ Below A (hideAll s.heap (fr outs)) outs g ∧ KtsDicts (fr outs) g ∧ KtsTurn (fr outs) s.heap g ∧ Fr g L' h (nm [("ends", .ref le), ("sizes", .ref lz), ("first", .int first tf), ("step", .int step ts)] mx) ∧
    News g L' h ((L' + 1, oB2) :: (L' + 2, oP) :: (L' + 3, oT) :: (L' + 4, oLd) :: []) ∧ oB2.data = .cell (some (.int (e0 + 1) tb)) ∧ s' = { s with heap := h, toks := tk' }) ?second ?first
  case first =>
    simp only [List.take_succ_cons, List.take_zero]
    show wpAny _ _ _ _ _ _
    clear k hR
    k_steps
    rename Fr _ _ _ _ => F
    rename News _ _ _ _ => N
    refine Stop.go (item_in (hs := by with_unfolding_all rfl) ((kept_of TT F).list h1) (by (first | lia | omega)) (v := .int e0 te) (by unfold pyIdx; rw [if_neg (by (first | lia | omega)), if_pos (by (first | lia | omega)), show ((-1 : Int) + (v1.length : Int)).toNat = 3 by (first | lia | omega)]; exact he) ?_)
    k_steps
    rename Fr _ _ _ _ => F
    rename News _ _ _ _ => N
    refine Stop.go (cell_sem (x := "beyond") (c := L' + 1) (oc := oB) F N (by k_mem) hB rfl rfl rfl fun h oB2 F hB2 N2 => ?_)
    replace N2 := N2 ((L' + 1, oB2) :: (L' + 2, oP) :: (L' + 3, oT) :: (L' + 4, oLd) :: []) (or_cons (.inl rfl) (or_cons (keep_c (by k_mem) (by k_ne)) (or_cons (keep_c (by k_mem) (by k_ne)) (or_cons (keep_c (by k_mem) (by k_ne)) (fun p hp => nomatch hp)))))
    replace N := N2
    clear N2
    k_steps
    refine ⟨g, _, _, _, oB2, _, ?_, ?_, B, D, TT, Fr_nm F _ (nms4 rfl rfl rfl rfl), N, hB2, rfl⟩
    · dsimp only; (first | lia | omega)
    · dsimp only; (first | lia | omega)
  case second =>
  rintro s' ⟨g, h, tk2, mx, oB2, tb, hle1, hle2, B, D, TT, F, N, hB2, rfl⟩
  rw [htk0] at hle1 k
  replace htk : 0 < tk0 := htk0 ▸ htk
  have Xg := Xb.keeps B.stays
  have T : Top Mine.hd0.view_39 (looseW Mine.hd0.view_39 []) mean mg mb g := Tb.keeps B.stays
  have hzg : g.IsList lz v2.toArray := (Kept.of_turn TT).list h2
  obtain ⟨τ1, ag1, tb1⟩ := (Tk.nil (τ := τ) (tk := tk0)).snoc2 (x := e0 + 1) htk hle1 hle2
  simp only [List.drop_succ_cons, List.drop_zero]
  show wpAny _ _ _ _ _ _
  k_steps
  refine Stop.go (comp_eval (hs := by intro _; rfl) (cl := [("beyond", L' + 1)]) (by rfl) rfl (by decide) ?_)
  refine wpAny_up ?_
  k_steps
  rename Fr _ _ _ _ => F
  rename News _ _ _ _ => N
  refine Stop.go (LSm.sum_ints F N hh ((kept_of TT F).list h2) i2 fun h tkS tS F N => ?_)
  k_steps
  rename Fr _ _ _ _ => F
  rename News _ _ _ _ => N
  rename IsRange _ _ _ _ _ _ _ _ => hr
  rename (@LE.le Nat _ _ _) => hleA
  replace hleA : tk2 ≤ _ := hleA
  obtain ⟨n0, hn0⟩ : ∃ n0, n0 = zs.sum := ⟨_, rfl⟩
  rw [← hn0] at hr hsum
  refine Stop.go (comp_range (fs := L' :: fr outs) (n := n0.toNat) hr (small_down (by (first | lia | omega)) (by (first | lia | omega)) (by (first | lia | omega)) (by (first | lia | omega))) (by rw [rangeSize_downNat]; congr 2; (first | lia | omega)) hh (by rw [sizeLine_eq]; (first | lia | omega))
    (fun C D q ys h tkq => ∃ τ', Agree τ τ' tk0 ∧ tk0 ≤ tkq ∧ Tk τ' tkq ys ∧ Tk τ' tkq [.int (e0 + 1) tb] ∧ IntsAre ys ((List.range q).map fun (i : Nat) => (e0 + 1) - (n0 + (i : Int) * -1))) (by decide) rfl (fs_lt' D F)
    (fun _ _ _ _ _ _ _ => ⟨τ1, ag1, ?hle0, .nil, tb1.le ?hle00, .nil⟩) (fun _ _ _ _ _ _ _ _ _ ⟨τ', b1, b2, b3, b5, b4⟩ _ hle _ => ⟨τ', b1, Nat.le_trans b2 hle, b3.le hle, b5.le hle, b4⟩) ?turn ?fin)
  case hle0 => exact Nat.le_trans (Nat.le_trans hle1 (Nat.le_of_lt hle2)) hleA
  case hle00 => exact hleA
  case turn =>
    rintro C Dc q bs zz hA tk1 m1 fC fD ne hq ⟨tq, rfl⟩ ⟨τ', b1, b2, b3, b5, b4⟩ hns hDd hk
    refine turn1 rfl rfl hns fC hk fun hX tk3 hle hns2 hk2 hs2 => ?_
    refine wpAny_tests_nil ?_
    rw [if_pos rfl]
    obtain ⟨g', B', D', TT', F', N', _⟩ := after_kept (s := { s with heap := _, toks := 0 }) B D TT F N hk2
    have Xg := Xb.keeps B'.stays
    have T : Top Mine.hd0.view_39 (looseW Mine.hd0.view_39 []) mean mg mb g' := Tb.keeps B'.stays
    have hcl : hX.IsCell (L' + 1) (some (.int (e0 + 1) tb)) := ⟨_, (N' (L' + 1, oB2) (by k_mem)).1, hB2⟩
    clear F N B D TT
    show wpAny _ _ _ _ _ _
    k_steps
    obtain ⟨τ2, c1, c2⟩ := b3.snoc hle (by (first | lia | omega)) (x := e0 + 1 - (n0 + (q : Int) * -1))
    refine Stop.go ⟨hX, _, _, rfl, keptX_same hs2, hns2, τ2, b1.trans c1 (by (first | lia | omega)), Nat.le_succ_of_le (Nat.le_trans b2 hle), c2, b5.mono (fun t ht => c1 t (Nat.lt_of_lt_of_le ht hle)) (Nat.le_succ_of_le hle), ?_⟩
    rw [List.range_succ, List.map_append]
    exact ints_app b4 (.cons _ _ .nil)
  case fin =>
    refine fin_expr B D TT F N (fun _ _ _ _ _ _ e _ => e) fun g C Dc ys nn h tk1 fD off B D TT F N hk hpt => ?_
    obtain ⟨τ', b1, b2, b3, b5, b4⟩ := hpt
    have Xg := Xb.keeps B.stays
    have T : Top Mine.hd0.view_39 (looseW Mine.hd0.view_39 []) mean mg mb g := Tb.keeps B.stays
    show wpAny _ _ _ _ _ _
    refine cell_sem (x := "places") (c := L' + 2) (oc := oP) F N (by k_mem) hP rfl rfl rfl fun h oP2 F hP2 N2 => ?_
    replace N2 := N2 ((Dc, lst ys nn) :: (L' + 1, oB2) :: (L' + 2, oP2) :: (L' + 3, oT) :: (L' + 4, oLd) :: []) (or_cons (keep_p N (by k_mem) (by k_mem) hP (by intro v e; cases e)) (or_cons (keep_c (by k_mem) (by k_ne)) (or_cons (.inl rfl) (or_cons (keep_c (by k_mem) (by k_ne)) (or_cons (keep_c (by k_mem) (by k_ne)) (fun p hp => nomatch hp))))))
    refine wpAny_execs_nil ⟨rfl, fun _ => ?_⟩
    refine k g _ _ _ Dc ys nn oB2 oP2 tb τ' b2 b1 B D TT F N2 hB2 hP2 ?hv b3 b5
    case hv =>
      show IntsAre ys ((List.range zs.sum.toNat).map fun (i : Nat) => (es.getLastD 0 + 1) - (zs.sum + (i : Int) * -1))
      rw [← hn0, ← he0]
      exact b4
end
end
end
section
local macro_rules | `(tactic| walk_at "exec Assign cons ListComp") => `(tactic| refine stop ?_)
local macro_rules | `(tactic| walk_at "exec Assign Name ListComp") => `(tactic| refine stop ?_)
section
local macro_rules | `(tactic| walk_at "subscriptTail") => `(tactic| refine stop ?_)
section
section
variable {w : World} {A : Around} {s : Shared} {outs : List Env} {mg mb : Str → Option Value} {mean : ExcName → Option Value} {Q : Flow → Shared → Prop} {E : Value → Shared → Prop}
inductive NumJI (nms : List (Str × Value)) (Dd : Addr) (r0 step : Int) (fixed : List (Addr × Obj)) (i : Nat) (m : Str → Option Value) (news : List (Addr × Obj)) : Prop
  | mk : ∀ mx ys n rt, m = nm (("numbers", .ref Dd) :: ("running", .int ((List.replicate i step).foldl (· + ·) r0) rt) :: nms) mx → news = (Dd, lst ys n) :: fixed → IntsAre ys (sumsG (· + ·) r0 (List.replicate i step)) → NumJI nms Dd r0 step fixed i m news
noncomputable def NumJ (nms : List (Str × Value)) (Dd : Addr) (r0 step : Int) (fixed : List (Addr × Obj)) (i : Nat) (m : Str → Option Value) (news : List (Addr × Obj)) (_ : Nat) : Prop := NumJI nms Dd r0 step fixed i m news
theorem seg0b {sc : Scope} {bd : List Stmt} (hsc : sc = scopeOf w.params 92) (hbd : bd = (sBody w.params).drop 2)
    {le lz lp L' : Addr} {vp : List Value} {np : Nat} {first step : Int} {tf ts : Tok} {oB oP oT oLd : Obj} {vB vT vLd : Option Value} {g h : Heap} {tk : Nat} {mx : Str → Option Value}
    (a : AmbW w mean mg mb A outs s.heap) (hd : A.depth + 2 < recursionLimit) (hu : A.units + 70 < cLine) (B : Below A (hideAll s.heap (fr outs)) outs g) (D : KtsDicts (fr outs) g) (TT : KtsTurn (fr outs) s.heap g)
    (hB : oB.data = .cell vB) (hP : oP.data = .cell (some (.ref lp))) (hT : oT.data = .cell vT) (hLd : oLd.data = .cell vLd)
    (F : Fr g L' h (nm [("ends", .ref le), ("sizes", .ref lz), ("first", .int first tf), ("step", .int step ts)] mx)) (N : News g L' h ((lp, lst vp np) :: (L' + 1, oB) :: (L' + 2, oP) :: (L' + 3, oT) :: (L' + 4, oLd) :: [])) (zp : vp.length < 2 ^ 10)
    {R : Shared → Prop} (hR : ∀ s', R s' → wpAny (model PG w) (A.deeper (envOfC "_law_struck" sc L' 92 (.ref 91))) (execs (bd.drop 3) (envOfC "_law_struck" sc L' 92 (.ref 91))) Q E s')
    (k : ∀ g h tk' mx ln vn nn, tk ≤ tk' → Below A (hideAll s.heap (fr outs)) outs g → KtsDicts (fr outs) g → KtsTurn (fr outs) s.heap g → Fr g L' h (nm [("numbers", .ref ln), ("ends", .ref le), ("sizes", .ref lz), ("first", .int first tf), ("step", .int step ts)] mx) →
      News g L' h ((ln, lst vn nn) :: (lp, lst vp np) :: (L' + 1, oB) :: (L' + 2, oP) :: (L' + 3, oT) :: (L' + 4, oLd) :: []) → IntsAre vn (sumsG (· + ·) (first - step) (List.replicate vp.length step)) → R { s with heap := h, toks := tk' }) :
    wpAny (model PG w) (A.deeper (envOfC "_law_struck" sc L' 92 (.ref 91))) (execs bd (envOfC "_law_struck" sc L' 92 (.ref 91))) Q E { s with heap := h, toks := tk } := by
  have hh := a.hh
  obtain ⟨_, Xb, Tb⟩ := a.open
  conv at hsc => rhs; whnf
  conv at hbd => rhs; whnf
  subst hsc hbd
  have Xg := Xb.keeps B.stays
  have T : Top Mine.hd0.view_39 (looseW Mine.hd0.view_39 []) mean mg mb g := Tb.keeps B.stays
  have hd1 : ∀ env : Env, (A.deeper env).depth + 1 < recursionLimit := hd1_of hd
  have hd2 : ∀ env : Env, (A.deeper env).depth < recursionLimit := hd2_of hd
  have hu1 : ∀ env : Env, (A.deeper env).units + 64 < cLine := hu1_of hu
  refine piece 3 hR ?_
  simp only [List.take_succ_cons, List.take_zero]
  show wpAny _ _ _ _ _ _
  k_steps
  rename Fr _ _ _ _ => F
  rename News _ _ _ _ => N
  rename (_ < _ ∧ _) => hl1
  rename_i Dd _ _
  have nl1 : ∀ p ∈ [(lp, lst vp np), (L' + 1, oB), (L' + 2, oP), (L' + 3, oT), (L' + 4, oLd)], p.1 ≠ Dd := by
    obtain ⟨q1, q2, q3, q4, q5⟩ := hl1
    intro p hp
    simp only [List.mem_cons, List.not_mem_nil, or_false] at hp
    rcases hp with rfl | rfl | rfl | rfl | rfl <;> exact Nat.ne_of_lt (by assumption)
  refine Stop.go (call_use B D TT F N rfl (sub_c (amb_in B D F Xb Tb hh rfl rfl) (hd2 _)) fun v g h tk4 hle4 B D TT F N new hk4 hpt => ?_)
  obtain ⟨ts2, hv, _, _⟩ := hpt
  subst hv
  have Xg := Xb.keeps B.stays
  have T : Top Mine.hd0.view_39 (looseW Mine.hd0.view_39 []) mean mg mb g := Tb.keeps B.stays
  k_steps
  rename Fr _ _ _ _ => F
  rename News _ _ _ _ => N
  refine Stop.go (wpAny_For ?_)
  k_steps
  rename Fr _ _ _ _ => F
  rename News _ _ _ _ => N
  refine Stop.go (for_list (vs := vp) (news := (Dd, lst [] 0) :: [(lp, lst vp np), (L' + 1, oB), (L' + 2, oP), (L' + 3, oT), (L' + 4, oLd)]) (keep := []) (lst_at N (by k_mem) rfl ⟨_, rfl⟩) hh B D TT F N (fun _ h => nomatch h) (NumJ [("ends", .ref le), ("sizes", .ref lz), ("first", .int first tf), ("step", .int step ts)] Dd (first - step) step [(lp, lst vp np), (L' + 1, oB), (L' + 2, oP), (L' + 3, oT), (L' + 4, oLd)])
    ⟨_, [], 0, _, nm_of _ (nms_cons rfl (nms_cons rfl (nms4 rfl rfl rfl rfl))), rfl, .nil⟩ ?hJl (fun i m news tk tk' hJ _ => hJ) (.inr ⟨lst vp np, ?hin⟩) ?turn ?done)
  case hJl =>
    rintro i m news tk ⟨mx, ys, n, rt, _, rfl, _⟩ p hp
    simp only [List.mem_cons, List.not_mem_nil, or_false] at hp
    rcases hp with rfl | rfl | rfl | rfl | rfl | rfl
    · exact isLst_lst
    · exact isLst_lst
    · exact isLst_cell hB
    · exact isLst_cell hP
    · exact isLst_cell hT
    · exact isLst_cell hLd
  case hin =>
    rintro i m news tk ⟨mx, ys, n, rt, _, rfl, _⟩
    k_mem
  case turn =>
    rintro i bs g m₁ news₁ own h tk1 hin ⟨v, hv, rfl⟩ B D TT ⟨mx, ys, n, rt, rfl, rfl, hys⟩ F N hown
    have Xg := Xb.keeps B.stays
    have T : Top Mine.hd0.view_39 (looseW Mine.hd0.view_39 []) mean mg mb g := Tb.keeps B.stays
    replace F : Fr g L' h _ := F
    have oD2 := own_off N (a := Dd) (o := lst ys n) (List.mem_append_left _ List.mem_cons_self) isLst_lst (fun p hp => List.mem_append_right _ hp) hown
    replace N : News g L' h ((Dd, lst ys n) :: (lp, lst vp np) :: (L' + 1, oB) :: (L' + 2, oP) :: (L' + 3, oT) :: (L' + 4, oLd) :: own) := N
    refine stores1 ?_
    k_steps
    rename Fr _ _ _ _ => F
    rename News _ _ _ _ => N
    refine Stop.go (call_use B D TT F N rfl (add_c (amb_in B D F Xb Tb hh rfl rfl) (hd2 _)) fun v g h tk6 hle6 B D TT F N new hk6 hpt => ?_)
    obtain ⟨ts3, hv⟩ := hpt
    subst hv
    have Xg := Xb.keeps B.stays
    have T : Top Mine.hd0.view_39 (looseW Mine.hd0.view_39 []) mean mg mb g := Tb.keeps B.stays
    k_steps
    rename Fr _ _ _ _ => F
    rename News _ _ _ _ => N
    have lys := hys.length
    rw [sumsG_len, List.length_replicate] at lys
    refine Stop.go (append_sem (D := Dd) (ys := ys) (n := n) F N (by k_mem) (by (first | lia | omega)) fun n' h' F N2 => ?_)
    have N3 := N2 (((Dd, lst (ys ++ [.int ((List.replicate i step).foldl (· + ·) (first - step) + step) ts3]) n') :: [(lp, lst vp np), (L' + 1, oB), (L' + 2, oP), (L' + 3, oT), (L' + 4, oLd)]) ++ own) ?hN3
    case hN3 =>
      intro p hp
      rcases List.mem_cons.mp hp with rfl | hp
      · exact .inl rfl
      · refine .inr ⟨List.mem_cons_of_mem _ hp, ?_⟩
        rcases List.mem_append.mp hp with hp | hp
        · exact nl1 p hp
        · exact oD2 p hp
    k_steps
    refine Turned.mk ((Dd, lst (ys ++ [.int ((List.replicate i step).foldl (· + ·) (first - step) + step) ts3]) n') :: [(lp, lst vp np), (L' + 1, oB), (L' + 2, oP), (L' + 3, oT), (L' + 4, oLd)]) B D TT F N3 ?hs1 ?hs2 ⟨_, _, n', ts3, nm_of _ (nms_cons rfl (nms_cons ?hrun (nms4 rfl rfl rfl rfl))), rfl, ?hsum⟩
    case hs1 => exact fun p hp => List.mem_append_left own hp
    case hs2 => exact fun p hp => List.mem_cons_of_mem _ (List.mem_append_right [(lp, lst vp np), (L' + 1, oB), (L' + 2, oP), (L' + 3, oT), (L' + 4, oLd)] hp)
    case hrun =>
      rw [List.replicate_succ', List.foldl_append]
      rfl
    case hsum =>
      rw [List.replicate_succ', sumsG_snoc]
      exact ints_app hys (.cons _ _ .nil)
  case done =>
    rintro g m₁ news₁ h tk1 B D TT ⟨mx, ys, n, rt, rfl, rfl, hys⟩ F N
    have Xg := Xb.keeps B.stays
    have T : Top Mine.hd0.view_39 (looseW Mine.hd0.view_39 []) mean mg mb g := Tb.keeps B.stays
    replace F : Fr g L' h _ := F
    replace N : News g L' h _ := N
    show wpAny _ _ _ _ _ _
    k_steps
    rename (@LE.le Nat _ _ _) => hleU
    exact k g _ _ _ Dd ys n hleU B D TT (Fr_nm F _ (nms_cons rfl (nms4 rfl rfl rfl rfl))) N hys
end
end
section
local macro_rules | `(tactic| walk_at "binaryOp Add ref ref") => `(tactic| refine stop ?_)
local macro_rules | `(tactic| walk_at "And") => `(tactic| refine stop ?_)
section
variable {w : World} {A : Around} {s : Shared} {outs : List Env} {mg mb : Str → Option Value} {mean : ExcName → Option Value} {Q : Flow → Shared → Prop} {E : Value → Shared → Prop}
theorem KsR.snoc {k : Addr} {n : Nat} {ks : List Addr} {S : List (List Int)} {kl : List (Addr × Obj)} (h : KsR 0 ks S kl) : KsR 0 (ks ++ [k]) (S ++ [[]]) (kl ++ [(k, lst [] n)]) := by
  induction h with
  | nil => exact .cons .nil (Nat.le_refl _) .nil
  | cons i l r ih => exact .cons i l ih
theorem none_above {g₀ g h : Heap} {L : Addr} {m : Str → Option Value} {fs : List Addr} (F : Fr g L h m) (TT : KtsTurn fs g₀ g) : ∀ c, h.objs.size ≤ c → g₀.get? c = none := fun c hc => by
  cases q : g₀.get? c with
  | none => rfl
  | some o =>
    obtain ⟨sl, e⟩ := TT.up q
    exact absurd (Heap.lt_size (F.keep _ _ e)) (Nat.not_lt.mpr hc)
theorem size_of {g h : Heap} {L : Addr} {m : Str → Option Value} (F : Fr g L h m) : ∃ s0 : Nat, s0 = h.objs.size ∧ @LT.lt Nat _ L s0 := ⟨_, rfl, by obtain ⟨o, _, _, e, _⟩ := F.ns; exact Heap.lt_size e⟩
theorem seg0c {sc : Scope} {bd : List Stmt} (hsc : sc = scopeOf w.params 92) (hbd : bd = (sBody w.params).drop 5)
    {le lz lp ln L' : Addr} {v1 vp vn : List Value} {es : List Int} {np nn : Nat} {first step beyond : Int} {tf ts tb : Tok} {oB oP oT oLd : Obj} {vP vT vLd : Option Value} {g h : Heap} {tk : Nat} {mx : Str → Option Value}
    (a : AmbW w mean mg mb A outs s.heap) (hd : A.depth + 2 < recursionLimit) (hu : A.units + 70 < cLine) (B : Below A (hideAll s.heap (fr outs)) outs g) (D : KtsDicts (fr outs) g) (TT : KtsTurn (fr outs) s.heap g)
    (hB : oB.data = .cell (some (.int beyond tb))) (hP : oP.data = .cell vP) (hT : oT.data = .cell vT) (hLd : oLd.data = .cell vLd)
    (h1 : s.heap.IsList le v1.toArray) (i1 : IntsAre v1 es) (z1 : es.length = 4)
    (F : Fr g L' h (nm [("numbers", .ref ln), ("ends", .ref le), ("sizes", .ref lz), ("first", .int first tf), ("step", .int step ts)] mx)) (N : News g L' h ((ln, lst vn nn) :: (lp, lst vp np) :: (L' + 1, oB) :: (L' + 2, oP) :: (L' + 3, oT) :: (L' + 4, oLd) :: []))
    {R : Shared → Prop} (hR : ∀ s', R s' → wpAny (model PG w) (A.deeper (envOfC "_law_struck" sc L' 92 (.ref 91))) (execs (bd.drop 2) (envOfC "_law_struck" sc L' 92 (.ref 91))) Q E s')
    (k : ∀ g h tk' mx lm nm_ lk nk ks kl, tk ≤ tk' → Below A (hideAll s.heap (fr outs)) outs g → KtsDicts (fr outs) g → KtsTurn (fr outs) s.heap g → Fr g L' h (nm [("ends", .ref le), ("sizes", .ref lz), ("numbers", .ref ln), ("marks", .ref lm), ("struck", .ref lk)] mx) →
      News g L' h ((L' + 1, oB) :: (L' + 2, oP) :: (L' + 3, oT) :: (L' + 4, oLd) :: (lp, lst vp np) :: (ln, lst vn nn) :: (lm, lst (v1 ++ [.int beyond tb]) nm_) :: (lk, lst (ks.map Value.ref) nk) :: (kl ++ [])) → KsR 0 ks [[], [], [], []] kl → ks.Nodup → ks.length = 4 → lp ∉ ks → ln ∉ ks → lk ∉ ks → R { s with heap := h, toks := tk' }) :
    wpAny (model PG w) (A.deeper (envOfC "_law_struck" sc L' 92 (.ref 91))) (execs bd (envOfC "_law_struck" sc L' 92 (.ref 91))) Q E { s with heap := h, toks := tk } := by
  have hh := a.hh
  obtain ⟨_, Xb, Tb⟩ := a.open
  conv at hsc => rhs; whnf
  conv at hbd => rhs; whnf
  subst hsc hbd
  have Xg := Xb.keeps B.stays
  have T : Top Mine.hd0.view_39 (looseW Mine.hd0.view_39 []) mean mg mb g := Tb.keeps B.stays
  have hd1 : ∀ env : Env, (A.deeper env).depth + 1 < recursionLimit := hd1_of hd
  have hd2 : ∀ env : Env, (A.deeper env).depth < recursionLimit := hd2_of hd
  have hu1 : ∀ env : Env, (A.deeper env).units + 64 < cLine := hu1_of hu
  refine piece 2 hR ?_
  simp only [List.take_succ_cons, List.take_zero]
  show wpAny _ _ _ _ _ _
  have lv1 := i1.length
  k_steps
  rename Fr _ _ _ _ => F
  rename News _ _ _ _ => N
  refine Stop.go (my_add (vs := v1) (ws := [.int beyond tb]) F N ((kept_of TT F).list h1) (lst_at N (by k_mem) rfl ⟨_, rfl⟩) (by rw [sizeLine_eq, List.length_singleton]; (first | lia | omega)) fun lm h F N offl => ?_)
  k_steps
  refine Stop.go (comp_assign (hs := by intro _; rfl) (cl := []) ?hsw1 (by rfl) rfl (by decide) ?_)
  case hsw1 => rfl
  refine wpAny_up ?_
  k_steps
  rename Fr _ _ _ _ => F
  rename News _ _ _ _ => N
  obtain ⟨s0, hs0, hL0⟩ := size_of F
  have hna := none_above F TT
  rw [← hs0] at hna
  have hfs := fs_lt' D F
  have llp : @LT.lt Nat _ lp s0 := by rw [hs0]; exact Heap.lt_size (N (lp, lst vp np) (by k_mem)).1
  have lln : @LT.lt Nat _ ln s0 := by rw [hs0]; exact Heap.lt_size (N (ln, lst vn nn) (by k_mem)).1
  refine Stop.go (comp_listS (fs := L' :: fr outs) (vs := v1) ((kept_of TT F).list h1) hh (by rw [sizeLine_eq]; (first | lia | omega))
    (fun C D q ys h tkq => ∃ ks kl, ys = ks.map Value.ref ∧ ks.length = q ∧ ks.Nodup ∧ KsR 0 ks (List.replicate q []) kl ∧ (∀ p ∈ kl, h.get? p.1 = some p.2 ∧ @LT.lt Nat _ s0 p.1 ∧ p.1 ≠ C ∧ p.1 ≠ D) ∧ @LT.lt Nat _ s0 C) (by decide) rfl hfs (list_off' D F ((kept_of TT F).list h1))
    (fun _ _ _ _ _ _ _ q1 q2 => ⟨[], [], rfl, rfl, List.nodup_nil, .nil, (fun _ h => nomatch h), by rw [hs0]; exact q1⟩) ?hJs ?turn ?fin)
  case hJs =>
    rintro C Dc i ys hA hB' tk tk' ⟨ks, kl, e1, e2, e3, e4, e5, e6⟩ hk hle
    refine ⟨ks, kl, e1, e2, e3, e4, fun p hp => ?_, e6⟩
    obtain ⟨f1, f2, f3, f4⟩ := e5 p hp
    refine ⟨hk.other _ _ f1 (fun hm => ?_) (fun hm => ?_), f2, f3, f4⟩
    · rcases List.mem_cons.mp hm with e | hm
      · exact f3 e
      rcases List.mem_cons.mp hm with e | hm
      · exact f4 e
      rw [List.mem_singleton] at hm
      have hm' : @Eq Nat p.1 s0 := hm.trans hs0.symm
      (first | lia | omega)
    · have hlt : @LT.lt Nat _ p.1 s0 := by rw [hs0]; exact hfs _ hm
      (first | lia | omega)
  case turn =>
    rintro C Dc q bs zz hA tk1 m1 fC fD ne hq ⟨v, hv, rfl⟩ ⟨ks, kl, rfl, e2, e3, e4, e5, e6⟩ hns ⟨oD, hDd⟩ hk
    refine turn1 rfl rfl hns fC hk fun hX tk2 hle hns2 hk2 hs2 => ?_
    refine wpAny_tests_nil ?_
    rw [if_pos rfl]
    have c1 : @LT.lt Nat _ C hX.objs.size := by obtain ⟨o, _, _, e, _⟩ := hns2; exact Heap.lt_size e
    have c2 : @LT.lt Nat _ Dc hX.objs.size := Heap.lt_size (hs2.extBut Dc oD (Ne.symm ne) hDd)
    have f1' : ∀ p ∈ kl, hX.get? p.1 = some p.2 := fun p hp => hs2.extBut _ _ (e5 p hp).2.2.1 (e5 p hp).1
    have hlt' : ∀ p ∈ kl, @LT.lt Nat _ p.1 hX.objs.size := fun p hp => Heap.lt_size (f1' p hp)
    show wpAny _ _ _ _ _ _
    refine wpAny_List ?_
    k_steps
    refine Stop.go ⟨by rw [sizeLine_eq]; exact Nat.zero_le _, _, _, _, rfl, (keptX_same hs2).trans (.of_keeps fun b o _ e => Heap.get?_push_of_some _ e), hns2.at' fun o e => Heap.get?_push_of_some _ e, ks ++ [hX.objs.size], kl ++ [(hX.objs.size, lst [] 0)], ?_, ?_, ?_, ?_, ?_, e6⟩
    · rw [List.map_append]; rfl
    · rw [List.length_append, e2]; rfl
    · refine List.nodup_append.mpr ⟨e3, List.nodup_cons.mpr ⟨List.not_mem_nil, List.nodup_nil⟩, fun x hx y hy => ?_⟩
      rw [List.mem_singleton.mp hy]
      obtain ⟨y', n', hm⟩ := e4.has x hx
      exact Nat.ne_of_lt (hlt' _ hm)
    · rw [List.replicate_succ']; exact e4.snoc
    · intro p hp
      rcases List.mem_append.mp hp with hp | hp
      · exact ⟨Heap.get?_push_of_some _ (f1' p hp), (e5 p hp).2⟩
      · rw [List.mem_singleton.mp hp]
        refine ⟨Heap.get?_push_size _ rfl, ?_, Nat.ne_of_gt c1, Nat.ne_of_gt c2⟩
        exact Nat.lt_trans e6 c1
  case fin =>
    refine' fin_assign B D TT ?hL1 F N ?hy1 ?hp1 ?kk1
    case hL1 => exact rfl
    case hy1 => exact rfl
    case hp1 => exact rfl
    intro g C Dg vDg nDg h₀ h tk₀1 tk1 fD offD fC B D TT F N ⟨ks, kl, e1, e2, e3, e4, e5, e6⟩ hle1 hk hoth _
    subst e1
    have Xg := Xb.keeps B.stays
    have T : Top Mine.hd0.view_39 (looseW Mine.hd0.view_39 []) mean mg mb g := Tb.keeps B.stays
    have Nk : News g L' h kl := fun p hp => by
      obtain ⟨f1, f2, f3, f4⟩ := e5 p hp
      have hpL : p.1 ≠ L' := fun q => by
        have q' : @Eq Nat p.1 L' := q
        have f2' : @LT.lt Nat _ s0 p.1 := f2
        rw [q'] at f2'
        exact Nat.lt_irrefl _ (Nat.lt_trans hL0 f2')
      exact ⟨hoth _ _ hpL f3 f1, hpL, TT.none_ _ (hna _ (Nat.le_of_lt f2))⟩
    rw [lv1, z1] at e2 e4
    show wpAny _ _ _ _ _ _
    k_steps
    have xk : ∀ x : Addr, @LT.lt Nat _ x s0 → x ∉ ks := fun x hx hm => by
      obtain ⟨y, n, hm⟩ := e4.has x hm
      exact Nat.lt_irrefl _ (Nat.lt_trans hx (e5 _ hm).2.1)
    have N2 := news_sub N (l' := (L' + 1, oB) :: (L' + 2, oP) :: (L' + 3, oT) :: (L' + 4, oLd) :: (lp, lst vp np) :: (ln, lst vn nn) :: (lm, lst (v1 ++ [.int beyond tb]) 0) :: (Dg, lst (ks.map Value.ref) nDg) :: []) (sub_cons (by k_mem) (sub_cons (by k_mem) (sub_cons (by k_mem) (sub_cons (by k_mem) (sub_cons (by k_mem) (sub_cons (by k_mem) (sub_cons (by k_mem) (sub_cons (by k_mem) (fun p hp => nomatch hp)))))))))
    refine Stop.go ⟨rfl, fun hleU => k g _ _ _ lm 0 Dg nDg ks kl hleU B D TT (Fr_nm F _ (nms_cons rfl (nms4 rfl rfl rfl rfl))) ?N e4 e3 e2 (xk _ llp) (xk _ lln) ?lk⟩
    case N =>
      intro p hp
      have hp' : p ∈ ((L' + 1, oB) :: (L' + 2, oP) :: (L' + 3, oT) :: (L' + 4, oLd) :: (lp, lst vp np) :: (ln, lst vn nn) :: (lm, lst (v1 ++ [.int beyond tb]) 0) :: (Dg, lst (ks.map Value.ref) nDg) :: []) ++ (kl ++ []) := hp
      rcases List.mem_append.mp hp' with hp | hp
      · exact N2 p hp
      · rw [List.append_nil] at hp
        exact Nk p hp
    case lk =>
      intro hm
      obtain ⟨y, n, hm⟩ := e4.has _ hm
      exact (e5 _ hm).2.2.2 rfl
end
end
section
section
variable {w : World} {A : Around} {s : Shared} {outs : List Env} {mg mb : Str → Option Value} {mean : ExcName → Option Value} {Q : Flow → Shared → Prop} {E : Value → Shared → Prop}
theorem seg1 {sc : Scope} {bd : List Stmt} (hsc : sc = scopeOf w.params 92) (hbd : bd = tBody w.params)
    {le lz lp ln lm lk L' : Addr} {v1 v2 : List Value} {es zs : List Int} {t : Int} {tt tb : Tok} {beyond : Int} {oB oP oT oLd : Obj} {vLd : Option Value} {led : List (Addr × Obj)} {g h : Heap} {tk : Nat} {mx : Str → Option Value} {τ : Nat → Int}
    (a : AmbW w mean mg mb A outs s.heap) (hd : A.depth + 2 < recursionLimit) (B : Below A (hideAll s.heap (fr outs)) outs g) (D : KtsDicts (fr outs) g) (TT : KtsTurn (fr outs) s.heap g)
    (F : Fr g L' h (nm [("ends", .ref le), ("sizes", .ref lz), ("numbers", .ref ln), ("marks", .ref lm), ("struck", .ref lk)] mx)) (N : News g L' h ((L' + 1, oB) :: (L' + 2, oP) :: (L' + 3, oT) :: (L' + 4, oLd) :: led))
    (hB : oB.data = .cell (some (.int beyond tb))) (hP : oP.data = .cell (some (.ref lp))) (hT : oT.data = .cell (some (.int t tt))) (hLd : oLd.data = .cell vLd)
    (h1 : s.heap.IsList le v1.toArray) (h2 : s.heap.IsList lz v2.toArray) (i1 : IntsAre v1 es) (i2 : IntsAre v2 zs) (z1 : es.length = 4) (z2 : zs.length = 4) (htk : 0 < tk)
    {R : Shared → Prop} (hR : ∀ s', R s' → wpAny (model PG w) (A.deeper (envOfC "_law_struck" sc L' 92 (.ref 91))) (execs (bd.drop 3) (envOfC "_law_struck" sc L' 92 (.ref 91))) Q E s')
    (k : ∀ g h tk' mx lg vg ng lh vh nh τ', tk ≤ tk' → Agree τ τ' tk → Below A (hideAll s.heap (fr outs)) outs g → KtsDicts (fr outs) g → KtsTurn (fr outs) s.heap g →
      Fr g L' h (nm [("ends", .ref le), ("sizes", .ref lz), ("numbers", .ref ln), ("marks", .ref lm), ("struck", .ref lk), ("gone", .ref lg), ("here", .ref lh)] mx) → News g L' h ((lg, lst vg ng) :: (lh, lst vh nh) :: (L' + 1, oB) :: (L' + 2, oP) :: (L' + 3, oT) :: (L' + 4, oLd) :: led) →
      IntsAre vg (gone3M es zs t) → IntsAre vh (hereM es zs t) → Tk τ' tk' vg → (∀ p ∈ led, p.1 ≠ lh) → R { s with heap := h, toks := tk' }) :
    wpAny (model PG w) (A.deeper (envOfC "_law_struck" sc L' 92 (.ref 91))) (execs bd (envOfC "_law_struck" sc L' 92 (.ref 91))) Q E { s with heap := h, toks := tk } := by
  have hh := a.hh
  obtain ⟨_, Xb, Tb⟩ := a.open
  conv at hsc => rhs; whnf
  conv at hbd => rhs; whnf
  have hdrop : bd.drop 3 = bd.drop 3 := rfl
  conv at hdrop => rhs; rw [hbd]; whnf
  rw [hdrop] at hR
  subst hsc hbd
  clear hdrop
  have Xg := Xb.keeps B.stays
  have T : Top Mine.hd0.view_39 (looseW Mine.hd0.view_39 []) mean mg mb g := Tb.keeps B.stays
  show wpAny _ _ _ _ _ _
  k_steps
  refine Stop.go (comp_assign (hs := by intro _; rfl) (cl := [("turn", L' + 3)]) ?hsw1 (by rfl) rfl (by decide) ?_)
  case hsw1 => rfl
  k_steps
  rename Fr _ _ _ _ => F
  rename News _ _ _ _ => N
  refine Stop.go (comp_zip (fs := L' :: fr outs) (n := 4) ((kept_of TT F).list h1) ((kept_of TT F).list h2) (by rw [i1.length, i2.length, z1, z2]; rfl) hh (by rw [sizeLine_eq]; (first | lia | omega))
    (fun C D q ys h tkq => ∃ τ', Agree τ τ' tk ∧ tk ≤ tkq ∧ Tk τ' tkq ys ∧ IntsAre ys ((((es.zip zs).take q).filter fun p => decide (p.2 = t)).map fun p => p.1 - t)) (by decide) rfl (fs_lt' D F) (list_off' D F ((kept_of TT F).list h1)) (list_off' D F ((kept_of TT F).list h2)) (fun _ _ _ _ _ _ _ => ⟨τ, .refl, Nat.le_refl _, .nil, .nil⟩) (fun _ _ _ _ _ _ _ _ _ ⟨τ', b1, b2, b3, b4⟩ _ hle _ => ⟨τ', b1, Nat.le_trans b2 hle, b3.le hle, b4⟩) ?turn1 ?fin1)
  case turn1 =>
    rintro C Dd q bs zz hA tk1 m1 fC fD ne hq ⟨u, v, hu, hv, rfl⟩ ⟨τ', b1, b2, b3, b4⟩ hns hDd hk
    have q1 : q < es.length := by (first | lia | omega)
    have q2 : q < zs.length := by (first | lia | omega)
    obtain ⟨te, he⟩ := i1.get q es[q] (by simp [q1])
    obtain ⟨tz, hz⟩ := i2.get q zs[q] (by simp [q2])
    rw [he] at hu; cases hu
    rw [hz] at hv; cases hv
    have hzip : (es.zip zs)[q]? = some (es[q], zs[q]) := List.getElem?_zip_eq_some.mpr ⟨List.getElem?_eq_getElem q1, List.getElem?_eq_getElem q2⟩
    generalize es[q] = e at *
    generalize zs[q] = z at *
    refine turn2 rfl rfl rfl hns fC hk fun hX tk2 hle hns2 hk2 hs2 => ?_
    refine wpAny_tests_one ?_
    obtain ⟨g', B', D', TT', F', N', _⟩ := after_kept (s := { s with heap := _, toks := 0 }) B D TT F N hk2
    have Xg := Xb.keeps B'.stays
    have T : Top Mine.hd0.view_39 (looseW Mine.hd0.view_39 []) mean mg mb g' := Tb.keeps B'.stays
    have hcl : hX.IsCell (L' + 3) (some (.int t tt)) := ⟨_, (N' (L' + 3, oT) (by k_mem)).1, hT⟩
    clear F N B D TT
    show wpAny _ _ _ _ _ _
    k_steps
    · have hzt : z = t := by assumption
      obtain ⟨τ2, c1, c2⟩ := b3.snoc hle (by (first | lia | omega)) (x := e - t)
      refine Stop.go ⟨hX, _, _, rfl, keptX_same hs2, hns2, τ2, b1.trans c1 (by (first | lia | omega)), Nat.le_succ_of_le (Nat.le_trans b2 hle), c2, ?_⟩
      rw [List.take_add_one, hzip]
      simp only [Option.toList_some, List.filter_append, List.map_append]
      refine ints_app b4 ?_
      simp only [List.filter_cons, decide_eq_true hzt, if_true, List.filter_nil, List.map_cons, List.map_nil]
      exact .cons _ _ .nil
    · have hzt : ¬ (z = t) := by first | assumption | (first | lia | omega)
      refine Stop.go ⟨hX, _, _, rfl, keptX_same hs2, hns2, τ', b1, Nat.le_trans b2 hle, b3.le hle, ?_⟩
      rw [List.take_add_one, hzip]
      simp only [Option.toList_some, List.filter_append, List.map_append]
      simp only [List.filter_cons, decide_eq_false hzt, List.filter_nil, List.map_nil, List.append_nil]
      simpa using b4
  case fin1 =>
    refine' fin_assign B D TT ?hL1 F N ?hy1 ?hp1 ?kk1
    case hL1 => exact rfl
    case hy1 => exact rfl
    case hp1 => exact rfl
    intro g C Dg vDg nDg h₀ h tk₀1 tk1 fD offDg fC B D TT F N ⟨τ1, b11, b21, b31, b41⟩ hle1 hk hoth _
    have Xg := Xb.keeps B.stays
    have T : Top Mine.hd0.view_39 (looseW Mine.hd0.view_39 []) mean mg mb g := Tb.keeps B.stays
    show wpAny _ _ _ _ _ _
    k_steps
    refine Stop.go (comp_assign (hs := by intro _; rfl) (cl := [("turn", L' + 3)]) ?hsw2 (by rfl) rfl (by decide) ?_)
    case hsw2 => rfl
    k_steps
    rename Fr _ _ _ _ => F
    rename News _ _ _ _ => N
    refine Stop.go (comp_zip (fs := L' :: fr outs) (n := 4) ((kept_of TT F).list h1) ((kept_of TT F).list h2) (by rw [i1.length, i2.length, z1, z2]; rfl) hh (by rw [sizeLine_eq]; (first | lia | omega))
      (fun C D q ys h tkq => ∃ τ', Agree τ1 τ' tk₀1 ∧ tk₀1 ≤ tkq ∧ Tk τ' tkq ys ∧ IntsAre ys ((((es.zip zs).take q).filter fun p => decide (p.2 > t)).map fun p => p.1 - t)) (by decide) rfl (fs_lt' D F) (list_off' D F ((kept_of TT F).list h1)) (list_off' D F ((kept_of TT F).list h2)) (fun _ _ _ _ _ _ _ => ⟨τ1, .refl, hle1, .nil, .nil⟩) (fun _ _ _ _ _ _ _ _ _ ⟨τ', b1, b2, b3, b4⟩ _ hle _ => ⟨τ', b1, Nat.le_trans b2 hle, b3.le hle, b4⟩) ?turn2 ?fin2)
    case turn2 =>
      rintro C Dd q bs zz hA tk1 m1 fC fD ne hq ⟨u, v, hu, hv, rfl⟩ ⟨τ', b1, b2, b3, b4⟩ hns hDd hk
      have q1 : q < es.length := by (first | lia | omega)
      have q2 : q < zs.length := by (first | lia | omega)
      obtain ⟨te, he⟩ := i1.get q es[q] (by simp [q1])
      obtain ⟨tz, hz⟩ := i2.get q zs[q] (by simp [q2])
      rw [he] at hu; cases hu
      rw [hz] at hv; cases hv
      have hzip : (es.zip zs)[q]? = some (es[q], zs[q]) := List.getElem?_zip_eq_some.mpr ⟨List.getElem?_eq_getElem q1, List.getElem?_eq_getElem q2⟩
      generalize es[q] = e at *
      generalize zs[q] = z at *
      refine turn2 rfl rfl rfl hns fC hk fun hX tk2 hle hns2 hk2 hs2 => ?_
      refine wpAny_tests_one ?_
      obtain ⟨g', B', D', TT', F', N', _⟩ := after_kept (s := { s with heap := _, toks := 0 }) B D TT F N hk2
      have Xg := Xb.keeps B'.stays
      have T : Top Mine.hd0.view_39 (looseW Mine.hd0.view_39 []) mean mg mb g' := Tb.keeps B'.stays
      have hcl : hX.IsCell (L' + 3) (some (.int t tt)) := ⟨_, (N' (L' + 3, oT) (by k_mem)).1, hT⟩
      clear F N B D TT
      show wpAny _ _ _ _ _ _
      k_steps
      · have hzt : t < z := by assumption
        obtain ⟨τ2, c1, c2⟩ := b3.snoc hle (by (first | lia | omega)) (x := e - t)
        refine Stop.go ⟨hX, _, _, rfl, keptX_same hs2, hns2, τ2, b1.trans c1 (by (first | lia | omega)), Nat.le_succ_of_le (Nat.le_trans b2 hle), c2, ?_⟩
        rw [List.take_add_one, hzip]
        simp only [Option.toList_some, List.filter_append, List.map_append]
        refine ints_app b4 ?_
        simp only [List.filter_cons, decide_eq_true hzt, if_true, List.filter_nil, List.map_cons, List.map_nil]
        exact .cons _ _ .nil
      · have hzt : ¬ (t < z) := by first | assumption | (first | lia | omega)
        refine Stop.go ⟨hX, _, _, rfl, keptX_same hs2, hns2, τ', b1, Nat.le_trans b2 hle, b3.le hle, ?_⟩
        rw [List.take_add_one, hzip]
        simp only [Option.toList_some, List.filter_append, List.map_append]
        simp only [List.filter_cons, decide_eq_false hzt, List.filter_nil, List.map_nil, List.append_nil]
        simpa using b4
    case fin2 =>
      refine' fin_assign B D TT ?hL2 F N ?hy2 ?hp2 ?kk2
      case hL2 => exact rfl
      case hy2 => exact rfl
      case hp2 => exact rfl
      intro g C Dh vDh nDh h₀ h tk₀2 tk2 fD offDh fC B D TT F N ⟨τ2, b12, b22, b32, b42⟩ hle2 hk hoth _
      have Xg := Xb.keeps B.stays
      have T : Top Mine.hd0.view_39 (looseW Mine.hd0.view_39 []) mean mg mb g := Tb.keeps B.stays
      show wpAny _ _ _ _ _ _
      k_steps
      have hG : ((es.zip zs).take 4) = es.zip zs := List.take_of_length_le (by simp [z1, z2])
      rw [hG] at b41 b42
      replace b41 : IntsAre vDg (goneM es zs t) := b41
      replace b42 : IntsAre vDh (hereM es zs t) := b42
      have lDg : vDg.length < 2 ^ 18 := by rw [b41.length]; exact Nat.lt_of_le_of_lt (goneM_len) (by (first | lia | omega))
      obtain ⟨tl, hl⟩ := i2.get 3 (zs.getLastD 0) (last4 z2)
      have lz2 := i2.length
      rename Fr _ _ _ _ => F
      rename News _ _ _ _ => N
      refine Stop.go (wpAny_mono (Q := fun f s' => f = Flow.next ∧ R s') ?_ (fun f s' ⟨hf, hr⟩ => by subst hf; exact hR _ hr) (fun _ _ e => e))
      refine wpAny_up ?_
      refine wpAny_If ?_
      k_steps
      refine Stop.go (item_in (hs := by with_unfolding_all rfl) ((kept_of TT F).list h2) (by (first | lia | omega)) (v := .int (zs.getLastD 0) tl) (by unfold pyIdx; rw [if_neg (by (first | lia | omega)), if_pos (by (first | lia | omega)), show ((-1 : Int) + (v2.length : Int)).toNat = 3 by (first | lia | omega)]; exact hl) ?_)
      k_steps
      · have hzt : t = zs.getLastD 0 := by assumption
        have hd1 : ∀ env : Env, (A.deeper env).depth < recursionLimit := hd2_of hd
        refine Stop.go (call_use B D TT F N rfl (often_c (k := 3) (lst_at N (by k_mem) rfl ⟨_, rfl⟩) lDg (by (first | lia | omega)) (amb_in B D F Xb Tb hh rfl rfl) (hd1 _)) fun v g h tk3 hle3 B D TT F N new hk3 hpt => ?_)
        obtain ⟨Do, no, hv, fo, eo⟩ := hpt
        subst hv
        replace N := news_cons (new Do _ fo eo) N
        have Xg := Xb.keeps B.stays
        have T : Top Mine.hd0.view_39 (looseW Mine.hd0.view_39 []) mean mg mb g := Tb.keeps B.stays
        k_steps
        rename Fr _ _ _ _ => F
        rename News _ _ _ _ => N
        rename (@LE.le Nat _ _ _) => hleU
        replace hleU : tk2 ≤ _ := hleU
        refine k g _ _ _ Do _ no Dh vDh nDh τ1 ?_ b11 B D TT (Fr_nm F _ (nms_cons rfl (nms_cons rfl (nms_cons rfl (nms4 rfl rfl rfl rfl))))) (news_sub N (sub_cons (by k_mem) (sub_cons (by k_mem) (sub_cons (by k_mem) (sub_cons (by k_mem) (sub_cons (by k_mem) (sub_cons (by k_mem) fun p hp => ?_))))))) ?_ b42 (b31.sub rep_mem |>.le ?_) (fun p hp => offDh p (by repeat (first | exact hp | apply List.mem_cons_of_mem)))
        · refine Nat.le_trans ?_ hleU; (first | lia | omega)
        · repeat (first | exact hp | apply List.mem_cons_of_mem)
        · unfold gone3M; rw [if_pos hzt]; exact ints_rep b41
        · refine Nat.le_trans ?_ hleU; (first | lia | omega)
      · have hzt : t ≠ zs.getLastD 0 := by assumption
        rename Fr _ _ _ _ => F
        rename News _ _ _ _ => N
        rename (@LE.le Nat _ _ _) => hleU
        replace hleU : tk2 ≤ _ := hleU
        refine k g _ _ _ Dg vDg nDg Dh vDh nDh τ1 ?_ b11 B D TT (Fr_nm F _ (nms_cons rfl (nms_cons rfl (nms_cons rfl (nms4 rfl rfl rfl rfl))))) (news_sub N (sub_cons (by k_mem) (sub_cons (by k_mem) (sub_cons (by k_mem) (sub_cons (by k_mem) (sub_cons (by k_mem) (sub_cons (by k_mem) fun p hp => ?_))))))) ?_ b42 (b31.le ?_) (fun p hp => offDh p (by repeat (first | exact hp | apply List.mem_cons_of_mem)))
        · refine Nat.le_trans ?_ hleU; (first | lia | omega)
        · repeat (first | exact hp | apply List.mem_cons_of_mem)
        · unfold gone3M; rw [if_neg hzt]; exact b41
        · refine Nat.le_trans ?_ hleU; (first | lia | omega)
end
end
section
section
variable {w : World} {A : Around} {s : Shared} {outs : List Env} {mg mb : Str → Option Value} {mean : ExcName → Option Value} {Q : Flow → Shared → Prop} {E : Value → Shared → Prop}
theorem seg2 {sc : Scope} {bd : List Stmt} (hsc : sc = scopeOf w.params 92) (hbd : bd = (tBody w.params).drop 3)
    {le lz lp ln lm lk L' : Addr} {v1 v2 : List Value} {es zs : List Int} {t : Int} {tt tb : Tok} {beyond : Int} {oB oP oT oLd : Obj} {vLd : Option Value} {led : List (Addr × Obj)} {g h : Heap} {tk : Nat} {mx : Str → Option Value}
    (a : AmbW w mean mg mb A outs s.heap) (hd : A.depth + 2 < recursionLimit) (hu : A.units + 70 < cLine) (B : Below A (hideAll s.heap (fr outs)) outs g) (D : KtsDicts (fr outs) g) (TT : KtsTurn (fr outs) s.heap g)
    (hB : oB.data = .cell (some (.int beyond tb))) (hP : oP.data = .cell (some (.ref lp))) (hT : oT.data = .cell (some (.int t tt))) (hLd : oLd.data = .cell vLd)
    (h1 : s.heap.IsList le v1.toArray) (h2 : s.heap.IsList lz v2.toArray) (i1 : IntsAre v1 es) (i2 : IntsAre v2 zs) (z1 : es.length = 4) (z2 : zs.length = 4) (htk : 0 < tk)
    {lg lh : Addr} {vg vh vp vm : List Value} {ng nh np nm_ : Nat} {Pl Kl : List Int}
    (F : Fr g L' h (nm [("ends", .ref le), ("sizes", .ref lz), ("numbers", .ref ln), ("marks", .ref lm), ("struck", .ref lk), ("gone", .ref lg), ("here", .ref lh)] mx)) (N : News g L' h ((lg, lst vg ng) :: (lh, lst vh nh) :: (L' + 1, oB) :: (L' + 2, oP) :: (L' + 3, oT) :: (L' + 4, oLd) :: led))
    (ig : IntsAre vg (gone3M es zs t)) (hlp : (lp, lst vp np) ∈ led) (hlm : (lm, lst vm nm_) ∈ led) (ip : IntsAre vp Pl) (im : IntsAre vm Kl) (zp : Pl.length < 2 ^ 10) (zm : Kl.length < 2 ^ 10) (hzs : ∀ z ∈ zs, 0 ≤ z ∧ z ≤ 16) (ht : 0 ≤ t ∧ t ≤ 16)
    (hC1 : sldM (Pl.flatMap fun x => List.replicate 2 x) (Kl.flatMap fun x => List.replicate 3 x) = (stayM es zs t, gone3M es zs t ++ [beyond, beyond, beyond]))
    {R : Shared → Prop} (hR : ∀ s', R s' → wpAny (model PG w) (A.deeper (envOfC "_law_struck" sc L' 92 (.ref 91))) (execs (bd.drop 4) (envOfC "_law_struck" sc L' 92 (.ref 91))) Q E s')
    (k : ∀ g h tk' mx td sa sb nt va na vb nb l2 n2 l3 n3, tk ≤ tk' → Below A (hideAll s.heap (fr outs)) outs g → KtsDicts (fr outs) g → KtsTurn (fr outs) s.heap g →
      Fr g L' h (nm [("ends", .ref le), ("sizes", .ref lz), ("numbers", .ref ln), ("marks", .ref lm), ("struck", .ref lk), ("gone", .ref lg), ("here", .ref lh), ("told", .ref td), ("twice", .ref l2), ("thrice", .ref l3)] mx) →
      News g L' h ((td, { cls := .type "tuple", data := .seq #[.ref sa, .ref sb] nt }) :: (sa, lst va na) :: (sb, lst vb nb) :: (l2, lst (vp.flatMap fun v => List.replicate 2 v) n2) :: (l3, lst (vm.flatMap fun v => List.replicate 3 v) n3) :: (lg, lst vg ng) :: (lh, lst vh nh) :: (L' + 1, oB) :: (L' + 2, oP) :: (L' + 3, oT) :: (L' + 4, oLd) :: led) →
      IntsAre va (stayM es zs t) → IntsAre vb (gone3M es zs t ++ [beyond, beyond, beyond]) → (∀ v ∈ va, v ∈ vp) → (∀ v ∈ vb, v ∈ vm) → (∀ p ∈ led, p.1 ≠ sa) → R { s with heap := h, toks := tk' }) :
    wpAny (model PG w) (A.deeper (envOfC "_law_struck" sc L' 92 (.ref 91))) (execs bd (envOfC "_law_struck" sc L' 92 (.ref 91))) Q E { s with heap := h, toks := tk } := by
  have hh := a.hh
  obtain ⟨_, Xb, Tb⟩ := a.open
  conv at hsc => rhs; whnf
  conv at hbd => rhs; whnf
  subst hsc hbd
  have Xg := Xb.keeps B.stays
  have T : Top Mine.hd0.view_39 (looseW Mine.hd0.view_39 []) mean mg mb g := Tb.keeps B.stays
  have hd1 : ∀ env : Env, (A.deeper env).depth + 1 < recursionLimit := hd1_of hd
  have hd2 : ∀ env : Env, (A.deeper env).depth < recursionLimit := hd2_of hd
  have hu1 : ∀ env : Env, (A.deeper env).units + 64 < cLine := hu1_of hu
  refine piece 4 hR ?_
  simp only [List.take_succ_cons, List.take_zero]
  show wpAny _ _ _ _ _ _
  have lp1 := ip.length
  have lm1 := im.length
  have lg1 : vg.length ≤ 12 := by rw [ig.length]; exact Nat.le_trans gone3M_len (by (first | lia | omega))
  k_steps
  rename Fr _ _ _ _ => F
  rename News _ _ _ _ => N
  refine Stop.go (call_use B D TT F N rfl (often_c (vs := vp) (k := 2) (lst_at (o := lst vp np) N (by repeat (first | exact hlp | apply List.mem_cons_of_mem)) rfl ⟨_, rfl⟩) (by (first | lia | omega)) (by (first | lia | omega)) (amb_in B D F Xb Tb hh rfl rfl) (hd2 _)) fun v g h tk3 hle3 B D TT F N new hk3 hpt => ?_)
  obtain ⟨l2, n2, hv, fo, eo⟩ := hpt
  subst hv
  replace N := news_cons (new l2 _ fo eo) N
  have Xg := Xb.keeps B.stays
  have T : Top Mine.hd0.view_39 (looseW Mine.hd0.view_39 []) mean mg mb g := Tb.keeps B.stays
  k_steps
  rename Fr _ _ _ _ => F
  rename News _ _ _ _ => N
  refine Stop.go (call_use B D TT F N rfl (often_c (vs := vm) (k := 3) (lst_at (o := lst vm nm_) N (by repeat (first | exact hlm | apply List.mem_cons_of_mem)) rfl ⟨_, rfl⟩) (by (first | lia | omega)) (by (first | lia | omega)) (amb_in B D F Xb Tb hh rfl rfl) (hd2 _)) fun v g h tk3 hle3 B D TT F N new hk3 hpt => ?_)
  obtain ⟨l3, n3, hv, fo, eo⟩ := hpt
  subst hv
  replace N := news_cons (new l3 _ fo eo) N
  have Xg := Xb.keeps B.stays
  have T : Top Mine.hd0.view_39 (looseW Mine.hd0.view_39 []) mean mg mb g := Tb.keeps B.stays
  k_steps
  rename Fr _ _ _ _ => F
  rename News _ _ _ _ => N
  have N0 := N
  refine Stop.go (call_use B D TT F N rfl (sld_c (v1 := vp.flatMap fun v => List.replicate 2 v) (v2 := vm.flatMap fun v => List.replicate 3 v) (lst_at N (by k_mem) rfl ⟨_, rfl⟩) (lst_at N (by k_mem) rfl ⟨_, rfl⟩) (ints_rep ip) (ints_rep im) (by rw [rep_len]; (first | lia | omega)) (by rw [rep_len]; (first | lia | omega)) (amb_in B D F Xb Tb hh rfl rfl) (hd2 _)) fun v g h tk3 hle3 B D TT F N new hk3 hpt => ?_)
  obtain ⟨td, sa, sb, nt, va, vb, na, nb, hv, f1, f2, f3, ne1, ne2, ne3, e1, e2, e3, ia, ib, qa, qb⟩ := hpt
  subst hv
  have ofs : ∀ p ∈ led, p.1 ≠ sa := fun p hp q => by
    have z := (N0 p (by repeat (first | exact hp | apply List.mem_cons_of_mem))).1
    rw [q, f2] at z; cases z
  rw [hC1] at ia ib
  replace N := news_cons (new td _ f1 e1) (news_cons (new sa _ f2 e2) (news_cons (new sb _ f3 e3) N))
  have Xg := Xb.keeps B.stays
  have T : Top Mine.hd0.view_39 (looseW Mine.hd0.view_39 []) mean mg mb g := Tb.keeps B.stays
  k_steps
  rename Fr _ _ _ _ => F
  rename News _ _ _ _ => N
  refine Stop.go (wpAny_If ?_)
  k_steps
  rename Fr _ _ _ _ => F
  rename News _ _ _ _ => N
  refine Stop.go (call_use B D TT F N rfl (stay_c (v1 := v1) (v2 := v2) ((kept_of TT F).list h1) ((kept_of TT F).list h2) i1 i2 (by (first | lia | omega)) (by (first | lia | omega)) hzs ht (amb_in B D F Xb Tb hh rfl rfl) (hd2 _)) fun v g h tk3 hle3 B D TT F N new hk3 hpt => ?_)
  obtain ⟨ly, vy, ny, hv, fy, ey, iy⟩ := hpt
  subst hv
  replace N := news_cons (new ly _ fy ey) N
  have Xg := Xb.keeps B.stays
  have T : Top Mine.hd0.view_39 (looseW Mine.hd0.view_39 []) mean mg mb g := Tb.keeps B.stays
  k_steps
  rename Fr _ _ _ _ => F
  rename News _ _ _ _ => N
  refine' Stop.go (ne_pair ?ha ?ca ?da ?hb ?cb ?db ?l1 ?l2 ?l3 ?l4 ?i1 ?i2 ?i3 ?i4 (hu1 _) ?hq)
  case ha => exact News.get N (by k_mem)
  case ca => exact rfl
  case da => exact rfl
  case hb => exact News.get N (by k_mem)
  case cb => exact rfl
  case db => exact rfl
  case l1 => apply lst_at N; k_mem; exact rfl; exact ⟨_, rfl⟩
  case l2 => apply lst_at N; k_mem; exact rfl; exact ⟨_, rfl⟩
  case l3 => apply lst_at N; k_mem; exact rfl; exact ⟨_, rfl⟩
  case l4 => apply lst_at N; k_mem; exact rfl; exact ⟨_, rfl⟩
  case i1 => exact ia
  case i2 => exact ib
  case i3 => exact iy
  case i4 => exact ints_app ig (.cons _ _ (.cons _ _ (.cons _ _ .nil)))
  k_steps
  rename Fr _ _ _ _ => F
  rename News _ _ _ _ => N
  rename (@LE.le Nat _ _ _) => hleU
  refine k g _ _ _ td sa sb nt va na vb nb l2 n2 l3 n3 hleU B D TT (Fr_nm F _ (nms_cons rfl (nms_cons rfl (nms_cons rfl (nms_cons rfl (nms_cons rfl (nms_cons rfl (nms4 rfl rfl rfl rfl)))))))) (news_sub N (sub_cons (by k_mem) (sub_cons (by k_mem) (sub_cons (by k_mem) (sub_cons (by k_mem) (sub_cons (by k_mem) (sub_cons (by k_mem) (sub_cons (by k_mem) (sub_cons (by k_mem) (sub_cons (by k_mem) (sub_cons (by k_mem) (sub_cons (by k_mem) (fun p hp => ?_))))))))))))) ia ib (fun v hv => rep_mem v (qa v hv)) (fun v hv => rep_mem v (qb v hv)) ofs
  repeat (first | exact hp | apply List.mem_cons_of_mem)
end
end
end
section
local macro_rules | `(tactic| walk_at "binaryOp Add ref ref") => `(tactic| refine stop ?_)
section
theorem stop_laid {M : Model} {A : Around} {v : Value} {env : Env} {Q : Unit → Shared → Prop} {E : Value → Shared → Prop} {s : Shared} (h : Stop (wpAny M A (storeName env (PySem.Str.ofString "laid") v) Q E s)) : wpAny M A (storeName env (PySem.Str.ofString "laid") v) Q E s := h
local macro_rules | `(tactic| walk_at "storeName") => `(tactic| with_reducible refine stop_laid ?_)
section
variable {w : World} {A : Around} {s : Shared} {outs : List Env} {mg mb : Str → Option Value} {mean : ExcName → Option Value} {Q : Flow → Shared → Prop} {E : Value → Shared → Prop}
theorem seg3 {sc : Scope} {bd : List Stmt} (hsc : sc = scopeOf w.params 92) (hbd : bd = (tBody w.params).drop 7)
    {le lz lp ln lm lk L' : Addr} {v1 v2 : List Value} {es zs : List Int} {t : Int} {tt tb : Tok} {beyond : Int} {oB oP oT oLd : Obj} {vLd : Option Value} {led : List (Addr × Obj)} {g h : Heap} {tk : Nat} {mx : Str → Option Value}
    (a : AmbW w mean mg mb A outs s.heap) (hd : A.depth + 2 < recursionLimit) (hu : A.units + 70 < cLine) (B : Below A (hideAll s.heap (fr outs)) outs g) (D : KtsDicts (fr outs) g) (TT : KtsTurn (fr outs) s.heap g)
    (hB : oB.data = .cell (some (.int beyond tb))) (hP : oP.data = .cell (some (.ref lp))) (hT : oT.data = .cell (some (.int t tt))) (hLd : oLd.data = .cell vLd)
    (h1 : s.heap.IsList le v1.toArray) (h2 : s.heap.IsList lz v2.toArray) (i1 : IntsAre v1 es) (i2 : IntsAre v2 zs) (z1 : es.length = 4) (z2 : zs.length = 4) (htk : 0 < tk)
    {lg lh td sa sb l2 l3 : Addr} {vg vh vp vm va vb : List Value} {ng nh np nm_ nt na nb n2 n3 : Nat} {Pl Kl : List Int}
    (F : Fr g L' h (nm [("ends", .ref le), ("sizes", .ref lz), ("numbers", .ref ln), ("marks", .ref lm), ("struck", .ref lk), ("gone", .ref lg), ("here", .ref lh), ("told", .ref td), ("twice", .ref l2), ("thrice", .ref l3)] mx))
    (N : News g L' h ((td, { cls := .type "tuple", data := .seq #[.ref sa, .ref sb] nt }) :: (sa, lst va na) :: (sb, lst vb nb) :: (l2, lst (vp.flatMap fun v => List.replicate 2 v) n2) :: (l3, lst (vm.flatMap fun v => List.replicate 3 v) n3) :: (lg, lst vg ng) :: (lh, lst vh nh) :: (L' + 1, oB) :: (L' + 2, oP) :: (L' + 3, oT) :: (L' + 4, oLd) :: led))
    (ig : IntsAre vg (gone3M es zs t)) (ih : IntsAre vh (hereM es zs t)) (ia : IntsAre va (stayM es zs t)) (ib : IntsAre vb (gone3M es zs t ++ [beyond, beyond, beyond])) (hlp : (lp, lst vp np) ∈ led) (hlm : (lm, lst vm nm_) ∈ led) (hledc : ∀ p ∈ led, p.1 ≠ L' + 4)
    (ip : IntsAre vp Pl) (im : IntsAre vm Kl) (zp : Pl.length < 2 ^ 10) (zm : Kl.length < 2 ^ 10)
    (hC2 : sldM (Kl.flatMap fun x => List.replicate 3 x) (Pl.flatMap fun x => List.replicate 2 x) = (gone3M es zs t ++ [beyond, beyond, beyond], stayM es zs t)) (hC3 : sldM Kl (gone3M es zs t ++ [beyond, beyond, beyond]) = (hereM es zs t, []))
    {R : Shared → Prop} (hR : ∀ s', R s' → wpAny (model PG w) (A.deeper (envOfC "_law_struck" sc L' 92 (.ref 91))) (execs (bd.drop 4) (envOfC "_law_struck" sc L' 92 (.ref 91))) Q E s')
    (k : ∀ g h tk' mx tk_ ka kb nt2 vk nk ld nld oLd', tk ≤ tk' → Below A (hideAll s.heap (fr outs)) outs g → KtsDicts (fr outs) g → KtsTurn (fr outs) s.heap g →
      Fr g L' h (nm [("ends", .ref le), ("sizes", .ref lz), ("numbers", .ref ln), ("marks", .ref lm), ("struck", .ref lk), ("gone", .ref lg), ("here", .ref lh), ("told", .ref td), ("kept", .ref tk_)] mx) →
      News g L' h ((tk_, { cls := .type "tuple", data := .seq #[.ref ka, .ref kb] nt2 }) :: (ka, lst vk nk) :: (ld, lst (vp ++ vp) nld) :: (td, { cls := .type "tuple", data := .seq #[.ref sa, .ref sb] nt }) :: (sa, lst va na) :: (lg, lst vg ng) :: (lh, lst vh nh) :: (L' + 1, oB) :: (L' + 2, oP) :: (L' + 3, oT) :: (L' + 4, oLd') :: led) →
      oLd'.data = .cell (some (.ref ld)) → IntsAre vk (hereM es zs t) → (∀ v ∈ vk, v ∈ vm) → (∀ p ∈ led, p.1 ≠ ka) → (∀ p ∈ led, p.1 ≠ ld) → R { s with heap := h, toks := tk' }) :
    wpAny (model PG w) (A.deeper (envOfC "_law_struck" sc L' 92 (.ref 91))) (execs bd (envOfC "_law_struck" sc L' 92 (.ref 91))) Q E { s with heap := h, toks := tk } := by
  have hh := a.hh
  obtain ⟨_, Xb, Tb⟩ := a.open
  conv at hsc => rhs; whnf
  conv at hbd => rhs; whnf
  subst hsc hbd
  have Xg := Xb.keeps B.stays
  have T : Top Mine.hd0.view_39 (looseW Mine.hd0.view_39 []) mean mg mb g := Tb.keeps B.stays
  have hd1 : ∀ env : Env, (A.deeper env).depth + 1 < recursionLimit := hd1_of hd
  have hd2 : ∀ env : Env, (A.deeper env).depth < recursionLimit := hd2_of hd
  have hu1 : ∀ env : Env, (A.deeper env).units + 64 < cLine := hu1_of hu
  refine piece 4 hR ?_
  simp only [List.take_succ_cons, List.take_zero]
  show wpAny _ _ _ _ _ _
  have lp1 := ip.length
  have lm1 := im.length
  have lg1 : vg.length ≤ 12 := by rw [ig.length]; exact Nat.le_trans gone3M_len (by (first | lia | omega))
  k_steps
  refine Stop.go (wpAny_If ?_)
  k_steps
  rename Fr _ _ _ _ => F
  rename News _ _ _ _ => N
  refine Stop.go (call_use B D TT F N rfl (sld_c (v1 := vm.flatMap fun v => List.replicate 3 v) (v2 := vp.flatMap fun v => List.replicate 2 v) (lst_at N (by k_mem) rfl ⟨_, rfl⟩) (lst_at N (by k_mem) rfl ⟨_, rfl⟩) (ints_rep im) (ints_rep ip) (by rw [rep_len]; (first | lia | omega)) (by rw [rep_len]; (first | lia | omega)) (amb_in B D F Xb Tb hh rfl rfl) (hd2 _)) fun v g h tk3 hle3 B D TT F N new hk3 hpt => ?_)
  obtain ⟨t1, x1, x2, nt1, w1, w2, m1, m2, hv, f1, f2, f3, ne1, ne2, ne3, e1, e2, e3, ja, jb, _, _⟩ := hpt
  subst hv
  rw [hC2] at ja jb
  replace N := news_cons (new t1 _ f1 e1) (news_cons (new x1 _ f2 e2) (news_cons (new x2 _ f3 e3) N))
  have Xg := Xb.keeps B.stays
  have T : Top Mine.hd0.view_39 (looseW Mine.hd0.view_39 []) mean mg mb g := Tb.keeps B.stays
  k_steps
  rename Fr _ _ _ _ => F
  rename News _ _ _ _ => N
  refine' Stop.go (ne_pair ?haA ?caA ?daA ?hbA ?cbA ?dbA ?l1A ?l2A ?l3A ?l4A ?i1A ?i2A ?i3A ?i4A (hu1 _) ?hqA)
  case haA => exact News.get N (by k_mem)
  case caA => exact rfl
  case daA => exact rfl
  case hbA => exact News.get N (by k_mem)
  case cbA => exact rfl
  case dbA => exact rfl
  case l1A => apply lst_at N; k_mem; exact rfl; exact ⟨_, rfl⟩
  case l2A => apply lst_at N; k_mem; exact rfl; exact ⟨_, rfl⟩
  case l3A => apply lst_at N; k_mem; exact rfl; exact ⟨_, rfl⟩
  case l4A => apply lst_at N; k_mem; exact rfl; exact ⟨_, rfl⟩
  case i1A => exact ja
  case i2A => exact jb
  case i3A => exact ib
  case i4A => exact ia
  k_steps
  rename Fr _ _ _ _ => F
  rename News _ _ _ _ => N
  replace N := news_cons (p := (lm, lst vm nm_)) (fun p hp => N p (by rw [List.mem_singleton.mp hp]; repeat (first | exact hlm | apply List.mem_cons_of_mem))) N
  have N0 := N
  refine Stop.go (call_use B D TT F N rfl (sld_c (v1 := vm) (v2 := vb) (lst_at N (by k_mem) rfl ⟨_, rfl⟩) (lst_at N (by k_mem) rfl ⟨_, rfl⟩) im ib (by (first | lia | omega)) (by rw [List.length_append]; have := gone3M_len (es := es) (zs := zs) (t := t); simp; (first | lia | omega)) (amb_in B D F Xb Tb hh rfl rfl) (hd2 _)) fun v g h tk3 hle3 B D TT F N new hk3 hpt => ?_)
  obtain ⟨t5, ka, kb, nt5, vk, vkb, nk, nkb, hv, f1, f2, f3, ne1, ne2, ne3, e1, e2, e3, ik, ikb, qk1, _⟩ := hpt
  subst hv
  have ofk : ∀ p ∈ led, p.1 ≠ ka := fun p hp q => by
    have z := (N0 p (by repeat (first | exact hp | apply List.mem_cons_of_mem))).1
    rw [q, f2] at z; cases z
  rw [hC3] at ik ikb
  replace N := news_cons (new t5 _ f1 e1) (news_cons (new ka _ f2 e2) (news_cons (new kb _ f3 e3) N))
  replace N := news_cons (p := (lp, lst vp np)) (fun p hp => N p (by rw [List.mem_singleton.mp hp]; repeat (first | exact hlp | apply List.mem_cons_of_mem))) N
  have Xg := Xb.keeps B.stays
  have T : Top Mine.hd0.view_39 (looseW Mine.hd0.view_39 []) mean mg mb g := Tb.keeps B.stays
  k_steps
  rename Fr _ _ _ _ => F
  rename News _ _ _ _ => N
  refine Stop.go (wpAny_If ?_)
  k_steps
  rename Fr _ _ _ _ => F
  rename News _ _ _ _ => N
  refine' Stop.go (ne_pair ?haB ?caB ?daB ?hbB ?cbB ?dbB ?l1B ?l2B ?l3B ?l4B ?i1B ?i2B ?i3B ?i4B (hu1 _) ?hqB)
  case haB => exact News.get N (by k_mem)
  case caB => exact rfl
  case daB => exact rfl
  case hbB => exact News.get N (by k_mem)
  case cbB => exact rfl
  case dbB => exact rfl
  case l1B => apply lst_at N; k_mem; exact rfl; exact ⟨_, rfl⟩
  case l2B => apply lst_at N; k_mem; exact rfl; exact ⟨_, rfl⟩
  case l3B => apply lst_at N; k_mem; exact rfl; exact ⟨_, rfl⟩
  case l4B => apply lst_at N; k_mem; exact rfl; exact ⟨_, rfl⟩
  case i1B => exact ik
  case i2B => exact ikb
  case i3B => exact ih
  case i4B => exact .nil
  k_steps
  rename Fr _ _ _ _ => F
  rename News _ _ _ _ => N
  refine Stop.go (my_add (vs := vp) (ws := vp) F N (lst_at N (by k_mem) rfl ⟨_, rfl⟩) (lst_at N (by k_mem) rfl ⟨_, rfl⟩) (by rw [sizeLine_eq]; (first | lia | omega)) fun ld h F N offl => ?_)
  k_steps
  refine Stop.go (cell_sem (x := "laid") (c := L' + 4) (oc := oLd) F N (by k_mem) hLd rfl rfl rfl fun h o' F ho' N2 => ?_)
  replace N2 := N2 ((t5, { cls := .type "tuple", data := .seq #[.ref ka, .ref kb] nt5 }) :: (ka, lst vk nk) :: (ld, lst (vp ++ vp) 0) :: (td, { cls := .type "tuple", data := .seq #[.ref sa, .ref sb] nt }) :: (sa, lst va na) :: (lg, lst vg ng) :: (lh, lst vh nh) :: (L' + 1, oB) :: (L' + 2, oP) :: (L' + 3, oT) :: (L' + 4, o') :: led) ?hN
  case hN =>
    refine or_cons (keep_p N (by k_mem) (by k_mem) hLd (by intro v e; cases e)) (or_cons (keep_p N (by k_mem) (by k_mem) hLd (by intro v e; cases e)) (or_cons (keep_p N (by k_mem) (by k_mem) hLd (by intro v e; cases e)) (or_cons (keep_p N (by k_mem) (by k_mem) hLd (by intro v e; cases e)) (or_cons (keep_p N (by k_mem) (by k_mem) hLd (by intro v e; cases e)) (or_cons (keep_p N (by k_mem) (by k_mem) hLd (by intro v e; cases e)) (or_cons (keep_p N (by k_mem) (by k_mem) hLd (by intro v e; cases e)) (or_cons (keep_c (by k_mem) (by k_ne)) (or_cons (keep_c (by k_mem) (by k_ne)) (or_cons (keep_c (by k_mem) (by k_ne)) (or_cons (.inl rfl) (fun p hp => ?_)))))))))))
    exact keep_c (by repeat (first | exact hp | apply List.mem_cons_of_mem)) (hledc p hp)
  k_steps
  rename (@LE.le Nat _ _ _) => hleU
  exact k g _ _ _ t5 ka kb nt5 vk nk ld 0 o' hleU B D TT (Fr_nm F _ (nms_cons rfl (nms_cons rfl (nms_cons rfl (nms_cons rfl (nms_cons rfl (nms4 rfl rfl rfl rfl))))))) N2 ho' ik qk1 ofk (fun p hp => offl p (by repeat (first | exact hp | apply List.mem_cons_of_mem)))
end
end
section
section
variable {w : World} {A : Around} {s : Shared} {outs : List Env} {mg mb : Str → Option Value} {mean : ExcName → Option Value} {Q : Flow → Shared → Prop} {E : Value → Shared → Prop}
theorem seg4 {sc : Scope} {bd : List Stmt} (hsc : sc = scopeOf w.params 92) (hbd : bd = (tBody w.params).drop 11)
    {le lz lp ln lm lk L' : Addr} {v1 v2 : List Value} {es zs : List Int} {t : Int} {tt tb : Tok} {beyond : Int} {oB oP oT oLd : Obj} {ld : Addr} {led : List (Addr × Obj)} {g h : Heap} {tk : Nat} {mx : Str → Option Value}
    (a : AmbW w mean mg mb A outs s.heap) (hd : A.depth + 2 < recursionLimit) (hu : A.units + 70 < cLine) (B : Below A (hideAll s.heap (fr outs)) outs g) (D : KtsDicts (fr outs) g) (TT : KtsTurn (fr outs) s.heap g)
    (hB : oB.data = .cell (some (.int beyond tb))) (hP : oP.data = .cell (some (.ref lp))) (hT : oT.data = .cell (some (.int t tt))) (hLd : oLd.data = .cell (some (.ref ld)))
    (h1 : s.heap.IsList le v1.toArray) (h2 : s.heap.IsList lz v2.toArray) (i1 : IntsAre v1 es) (i2 : IntsAre v2 zs) (z1 : es.length = 4) (z2 : zs.length = 4) (htk : 0 < tk)
    {lg lh td tp ka kb : Addr} {vg vk vp : List Value} {ng np nt2 nk nld : Nat} {Pl : List Int} {nms : List (Str × Value)} {τ : Nat → Int} {G3 H : List Int}
    (F : Fr g L' h (nm [("ends", .ref le), ("sizes", .ref lz), ("numbers", .ref ln), ("marks", .ref lm), ("struck", .ref lk), ("gone", .ref lg), ("here", .ref lh), ("told", .ref td), ("kept", .ref tp)] mx))
    (N : News g L' h ((tp, { cls := .type "tuple", data := .seq #[.ref ka, .ref kb] nt2 }) :: (ka, lst vk nk) :: (ld, lst (vp ++ vp) nld) :: (lg, lst vg ng) :: (L' + 1, oB) :: (L' + 2, oP) :: (L' + 3, oT) :: (L' + 4, oLd) :: led))
    (ig : IntsAre vg G3) (lg1 : vg.length ≤ 12) (ik : IntsAre vk H) (lk1 : vk.length ≤ 12) (ip : IntsAre vp Pl) (zp : Pl.length < 2 ^ 10)
    (hTp : Tk τ tk vp) (hTk : Tk τ tk vk) (hTg : Tk τ tk vg) (hTb : Tk τ tk [.int beyond tb])
    (hC4 : ∀ m ∈ G3 ++ [beyond], m ∉ Pl ++ Pl) (hC5 : ∀ m ∈ H, m ∈ Pl ++ Pl)
    {R : Shared → Prop} (hR : ∀ s', R s' → wpAny (model PG w) (A.deeper (envOfC "_law_struck" sc L' 92 (.ref 91))) (execs (bd.drop 2) (envOfC "_law_struck" sc L' 92 (.ref 91))) Q E s')
    (k : ∀ g h tk' mx lsp vsp nsp, tk ≤ tk' → Below A (hideAll s.heap (fr outs)) outs g → KtsDicts (fr outs) g → KtsTurn (fr outs) s.heap g →
      Fr g L' h (nm [("ends", .ref le), ("sizes", .ref lz), ("numbers", .ref ln), ("marks", .ref lm), ("struck", .ref lk), ("gone", .ref lg), ("here", .ref lh), ("told", .ref td), ("kept", .ref tp), ("spots", .ref lsp)] mx) →
      News g L' h ((lsp, lst vsp nsp) :: (tp, { cls := .type "tuple", data := .seq #[.ref ka, .ref kb] nt2 }) :: (ka, lst vk nk) :: (ld, lst (vp ++ vp) nld) :: (lg, lst vg ng) :: (L' + 1, oB) :: (L' + 2, oP) :: (L' + 3, oT) :: (L' + 4, oLd) :: led) →
      IntsAre vsp (H.map fun m => (((Pl ++ Pl).idxOf m : Nat) : Int)) → (∀ p ∈ led, p.1 ≠ lsp) → R { s with heap := h, toks := tk' }) :
    wpAny (model PG w) (A.deeper (envOfC "_law_struck" sc L' 92 (.ref 91))) (execs bd (envOfC "_law_struck" sc L' 92 (.ref 91))) Q E { s with heap := h, toks := tk } := by
  have hh := a.hh
  obtain ⟨_, Xb, Tb⟩ := a.open
  conv at hsc => rhs; whnf
  conv at hbd => rhs; whnf
  subst hsc hbd
  have Xg := Xb.keeps B.stays
  have T : Top Mine.hd0.view_39 (looseW Mine.hd0.view_39 []) mean mg mb g := Tb.keeps B.stays
  have hd1 : ∀ env : Env, (A.deeper env).depth + 1 < recursionLimit := hd1_of hd
  have hd2 : ∀ env : Env, (A.deeper env).depth < recursionLimit := hd2_of hd
  have hu1 : ∀ env : Env, (A.deeper env).units + 64 < cLine := hu1_of hu
  refine piece 2 hR ?_
  simp only [List.take_succ_cons, List.take_zero]
  show wpAny _ _ _ _ _ _
  have lp1 := ip.length
  refine wpAny_execs_cons ?_
  refine wpAny_If ?_
  k_steps
  refine Stop.go (comp_eval (hs := by intro _; rfl) (cl := [("laid", L' + 4)]) (by rfl) rfl (by decide) ?_)
  k_steps
  rename Fr _ _ _ _ => F
  rename News _ _ _ _ => N
  refine Stop.go (my_add (vs := vg) (ws := [.int beyond tb]) F N (lst_at N (by k_mem) rfl ⟨_, rfl⟩) (lst_at N (by k_mem) rfl ⟨_, rfl⟩) (by rw [sizeLine_eq]; simp; (first | lia | omega)) fun l9 h F N off9 => ?_)
  k_steps
  rename Fr _ _ _ _ => F
  rename News _ _ _ _ => N
  have i9 := ints_app ig (.cons beyond tb .nil)
  have hT9 := hTg.app hTb
  refine Stop.go (comp_list (fs := L' :: fr outs) (vs := vg ++ [.int beyond tb]) (lst_at N (by k_mem) rfl ⟨_, rfl⟩) hh (by rw [sizeLine_eq]; simp; (first | lia | omega)) (fun C D q ys h tkq => ys = []) (by decide) rfl (fs_lt' D F) (lst_off (fs := []) D F N (by k_mem)) (fun _ _ _ _ _ _ _ => rfl) (fun _ _ _ _ _ _ _ _ _ hJ _ _ _ => hJ) ?turn1 ?fin1)
  case turn1 =>
    rintro C Dd q bs zz hA tk1 m1 fC fD ne hq ⟨v, hv, rfl⟩ rfl hns hDd hk
    have hql : q < (G3 ++ [beyond]).length := by rw [← i9.length]; exact hq
    obtain ⟨tm, hm⟩ := i9.get q (G3 ++ [beyond])[q] (by simp [hql])
    rw [hm] at hv; cases hv
    have hnm := hC4 _ (List.getElem_mem hql)
    have hTm := hT9.sub (ws := [_]) (fun v hv => by rw [List.mem_singleton.mp hv]; exact mem_get hm)
    generalize (G3 ++ [beyond])[q] = mk at *
    refine turn1 rfl rfl hns fC hk fun hX tk2 hle hns2 hk2 hs2 => ?_
    refine wpAny_tests_one ?_
    obtain ⟨g', B', D', TT', F', N', _⟩ := after_kept (s := { s with heap := _, toks := 0 }) B D TT F N hk2
    have Xg := Xb.keeps B'.stays
    have T : Top Mine.hd0.view_39 (looseW Mine.hd0.view_39 []) mean mg mb g' := Tb.keeps B'.stays
    have hcl : hX.IsCell (L' + 4) (some (.ref ld)) := ⟨_, (N' (L' + 4, oLd) (by k_mem)).1, hLd⟩
    clear F N B D TT
    show wpAny _ _ _ _ _ _
    k_steps
    refine Stop.go (call_use B' D' TT' F' N' rfl (spot_c (lst_at N' (by k_mem) rfl ⟨_, rfl⟩) (ints_app ip ip) (by rw [List.length_append]; (first | lia | omega)) ((hTp.app hTp).apart hTm) hnm (amb_in B' D' F' Xb Tb hh rfl rfl) (hd1 _)) fun v g h tk3 hle3 B D TT F N new hk3 hpt => ?_)
    obtain ⟨ts, hv⟩ := hpt
    subst hv
    have Xg := Xb.keeps B.stays
    have T : Top Mine.hd0.view_39 (looseW Mine.hd0.view_39 []) mean mg mb g := Tb.keeps B.stays
    k_steps
    refine Stop.go ⟨h, _, _, rfl, (keptX_same hs2).trans (.of_kept hk3), hk3.ns hns2, rfl⟩
  case fin1 =>
    refine fin_expr B D TT F N (fun _ _ _ _ _ _ e _ => e) fun g C Dd ys nn h tk1 fD off B D TT F N hk hJ => ?_
    subst hJ
    have Xg := Xb.keeps B.stays
    have T : Top Mine.hd0.view_39 (looseW Mine.hd0.view_39 []) mean mg mb g := Tb.keeps B.stays
    show wpAny _ _ _ _ _ _
    k_steps
    rename Fr _ _ _ _ => F
    rename News _ _ _ _ => N
    refine' Stop.go (ne_list (xs := []) ?l1 ?l2 ?i1 ?i2 (hu1 _) ?hq)
    case l1 => apply lst_at N; k_mem; exact rfl; exact ⟨_, rfl⟩
    case l2 => apply lst_at N; k_mem; exact rfl; exact ⟨_, rfl⟩
    case i1 => exact .nil
    case i2 => exact .nil
    k_steps
    refine Stop.go (comp_assign (hs := by intro _; rfl) (cl := [("laid", L' + 4)]) ?hsw2 (by rfl) rfl (by decide) ?_)
    case hsw2 => rfl
    k_steps
    rename Fr _ _ _ _ => F
    rename News _ _ _ _ => N
    refine Stop.go (comp_list (fs := L' :: fr outs) (vs := vk) (lst_at N (by k_mem) rfl ⟨_, rfl⟩) hh (by rw [sizeLine_eq]; (first | lia | omega)) (fun C D q ys h tkq => IntsAre ys ((H.take q).map fun m => (((Pl ++ Pl).idxOf m : Nat) : Int))) (by decide) rfl (fs_lt' D F) (lst_off (fs := []) D F N (by k_mem)) (fun _ _ _ _ _ _ _ => .nil) (fun _ _ _ _ _ _ _ _ _ hJ _ _ _ => hJ) ?turn2 ?fin2)
    case turn2 =>
      rintro C Dd q bs zz hA tk1 m1 fC fD ne hq ⟨v, hv, rfl⟩ hJ hns hDd hk
      have hql : q < H.length := by rw [← ik.length]; exact hq
      obtain ⟨tm, hm⟩ := ik.get q H[q] (by simp [hql])
      rw [hm] at hv; cases hv
      have hin := hC5 _ (List.getElem_mem hql)
      have hTm := hTk.sub (ws := [_]) (fun v hv => by rw [List.mem_singleton.mp hv]; exact mem_get hm)
      have hHq : H[q]? = some H[q] := List.getElem?_eq_getElem hql
      generalize H[q] = mk at *
      refine turn1 rfl rfl hns fC hk fun hX tk2 hle hns2 hk2 hs2 => ?_
      refine wpAny_tests_nil ?_
      rw [if_pos rfl]
      obtain ⟨g', B', D', TT', F', N', _⟩ := after_kept (s := { s with heap := _, toks := 0 }) B D TT F N hk2
      have Xg := Xb.keeps B'.stays
      have T : Top Mine.hd0.view_39 (looseW Mine.hd0.view_39 []) mean mg mb g' := Tb.keeps B'.stays
      have hcl : hX.IsCell (L' + 4) (some (.ref ld)) := ⟨_, (N' (L' + 4, oLd) (by k_mem)).1, hLd⟩
      clear F N B D TT
      show wpAny _ _ _ _ _ _
      k_steps
      refine Stop.go (call_use B' D' TT' F' N' rfl (indexOf_found (lst_at N' (by k_mem) rfl ⟨_, rfl⟩) (ints_app ip ip) (by rw [List.length_append]; (first | lia | omega)) ((hTp.app hTp).apart hTm) hin (amb_in B' D' F' Xb Tb hh rfl rfl) (hd2 _)) fun v g h tk3 hle3 B D TT F N new hk3 hpt => ?_)
      obtain ⟨kk, ts, hv, hx1, hx2⟩ := hpt
      subst hv
      refine ⟨h, _, _, rfl, (keptX_same hs2).trans (.of_kept hk3), hk3.ns hns2, ?_⟩
      show IntsAre (zz ++ [Value.int ((kk : Nat) : Int) ts]) ((H.take (q + 1)).map _)
      rw [List.take_add_one, hHq, List.map_append, idx_eq hx1 hx2]
      exact ints_app hJ (.cons _ _ .nil)
    case fin2 =>
      refine' fin_assign B D TT ?hL F N ?hy ?hp ?kk
      case hL => exact rfl
      case hy => exact rfl
      case hp => exact rfl
      intro g C Ds vs2 ns2 h₀ h tk₀ tk1 fD off fC B D TT F N hJ hle hk hoth _
      have Xg := Xb.keeps B.stays
      have T : Top Mine.hd0.view_39 (looseW Mine.hd0.view_39 []) mean mg mb g := Tb.keeps B.stays
      rw [ik.length, List.take_length] at hJ
      show wpAny _ _ _ _ _ _
      k_steps
      rename (@LE.le Nat _ _ _) => hleU
      refine k g _ _ _ Ds vs2 ns2 hleU B D TT (Fr_nm F _ (nms_cons rfl (nms_cons rfl (nms_cons rfl (nms_cons rfl (nms_cons rfl (nms_cons rfl (nms4 rfl rfl rfl rfl)))))))) (news_sub N (sub_cons (by k_mem) (sub_cons (by k_mem) (sub_cons (by k_mem) (sub_cons (by k_mem) (sub_cons (by k_mem) (sub_cons (by k_mem) (sub_cons (by k_mem) (sub_cons (by k_mem) (sub_cons (by k_mem) (fun p hp => ?_))))))))))) hJ (fun p hp => off p (by repeat (first | exact hp | apply List.mem_cons_of_mem)))
      repeat (first | exact hp | apply List.mem_cons_of_mem)
end
end
section
noncomputable def NsC (h : Heap) (C Mc : Addr) (m : Str → Option Value) : Prop := h.Ns C m ∧ ∃ v, h.IsCell Mc v
theorem NsC.at' {h h' : Heap} {C Mc : Addr} {m : Str → Option Value} (n : NsC h C Mc m) (e1 : ∀ o, h.get? C = some o → h'.get? C = some o) (e2 : ∀ o, h.get? Mc = some o → h'.get? Mc = some o) : NsC h' C Mc m :=
  ⟨n.1.at' e1, let ⟨v, o, e, d⟩ := n.2; ⟨v, o, e2 _ e, d⟩⟩
theorem NsC.sameBut {h h' : Heap} {C Mc D : Addr} {m : Str → Option Value} (n : NsC h C Mc m) (hs : Heap.SameBut D h h') (h1 : C ≠ D) (h2 : Mc ≠ D) : NsC h' C Mc m :=
  n.at' (fun o e => hs.extBut _ _ h1 e) (fun o e => hs.extBut _ _ h2 e)
section
variable {prog : Program} {w : World} {A : Around} {s : Shared} {E : Value → Shared → Prop} {R : Result → Shared → Prop} {cenv : Env} {elt target iter : Expr} {ifs : List Expr} {scope : Scope} {pos : Pos} {I D Mc : Addr} {fp wr fs : List Addr} {n : Nat} {P : Nat → List (Str × Value) → Prop} {St : Nat → Heap → Prop}
theorem comp_loopC (Dr : Drive prog w A cenv target (.ref I) fp wr n P St) (hsz : n ≤ sizeLine) (J : Nat → List Value → Heap → Nat → Prop)
    (hst : St 0 s.heap) (hD : s.heap.PlainList D #[]) (hn : ∃ m, NsC s.heap cenv.locals Mc m) (hJ : J 0 [] s.heap s.toks)
    (hDf : D ∉ fp) (hCf : cenv.locals ∉ fp) (hDC : D ≠ cenv.locals) (hDM : D ≠ Mc) (hMf : Mc ∉ fp) (hMs : Mc ∉ fs) (hfs : ∀ c ∈ fp, c ∉ fs) (hDs : D ∉ fs) (hCs : cenv.locals ∉ fs)
    (hJs : ∀ i ys h h' tk tk', J i ys h tk → KeptX (cenv.locals :: Mc :: D :: wr) fs h h' → tk ≤ tk' → J i ys h' tk')
    (turn : ∀ i bs ys h tk m, i < n → P i bs → J i ys h tk → NsC h cenv.locals Mc m → h.PlainList D ys.toArray → KeptX (cenv.locals :: Mc :: D :: wr) fs s.heap h →
      Stores (model prog w) A cenv (fun _ _ => False) bs (fun s₁ => wpAny (model prog w) A (testsOf ifs cenv) (fun ok s₂ =>
        if ok = true then wpAny (model prog w) A (eval elt cenv) (fun y s₃ => ∃ h' tk' m', s₃ = { s with heap := h', toks := tk' } ∧ KeptX [cenv.locals, Mc] fs h h' ∧ NsC h' cenv.locals Mc m' ∧ J (i + 1) (ys ++ [y]) h' tk') (fun _ _ => False) s₂
        else ∃ h' tk' m', s₂ = { s with heap := h', toks := tk' } ∧ KeptX [cenv.locals, Mc] fs h h' ∧ NsC h' cenv.locals Mc m' ∧ J (i + 1) ys h' tk') (fun _ _ => False) s₁) { s with heap := h, toks := tk })
    (done : ∀ h tk ys m, h.PlainList D ys.toArray → NsC h cenv.locals Mc m → J n ys h tk → KeptX (cenv.locals :: Mc :: D :: wr) fs s.heap h → R (.ok .next) { s with heap := h, toks := tk }) :
    codeAny (model prog w) A (.compLoop (.ListComp elt [⟨target, iter, ifs, 0⟩] scope pos) 0 (.ref I) (.ref D) cenv) R s := by
  obtain ⟨m₀, hn⟩ := hn
  refine codeAny_loop rfl (fun k s' => ∃ i h tk m ys, s' = { s with heap := h, toks := tk } ∧ i ≤ n ∧ k = n + 1 - i ∧ St i h ∧ h.PlainList D ys.toArray ∧ NsC h cenv.locals Mc m ∧ J i ys h tk ∧ ys.length ≤ i ∧ KeptX (cenv.locals :: Mc :: D :: wr) fs s.heap h) (fun k s' hI => ?_) (n + 1)
    ⟨0, s.heap, s.toks, m₀, [], rfl, Nat.zero_le _, rfl, hst, hD, hn, hJ, Nat.le_refl _, .refl⟩
  obtain ⟨i, h, tk, m, ys, rfl, hi, rfl, hst', hD', hn', hJ', hys, hk⟩ := hI
  show wpAny _ A ((compTurn (.ListComp elt [⟨target, iter, ifs, 0⟩] scope pos) 0 (.ref I) (.ref D) cenv).onRaise (fun x => do noteFrame x cenv; theTreesLotGoes x)) _ _ _
  refine wpAny_noted ?_
  rw [compTurn_list]
  have hMw : Mc ∉ wr := fun q => hMf (Dr.sub _ q)
  have hDw : D ∉ wr := fun q => hDf (Dr.sub _ q)
  have hCw : cenv.locals ∉ wr := fun q => hCf (Dr.sub _ q)
  by_cases hlt : i < n
  · refine wpAny_bind (wpAny_standAt (wpAny_bind (wpAny_mono (Dr.item i _ (fun _ => False) (fun s₃ => wpAny (model prog w) A (testsOf ifs cenv) (fun ok s₂ =>
        if ok = true then wpAny (model prog w) A (eval elt cenv) (fun y s₃ => ∃ h₁ h' tk' m', s₃ = { s with heap := h', toks := tk' } ∧ KeptX wr fs h h₁ ∧ St (i + 1) h₁ ∧ KeptX [cenv.locals, Mc] fs h₁ h' ∧ NsC h' cenv.locals Mc m' ∧ J (i + 1) (ys ++ [y]) h' tk') (fun _ _ => False) s₂
        else ∃ h₁ h' tk' m', s₂ = { s with heap := h', toks := tk' } ∧ KeptX wr fs h h₁ ∧ St (i + 1) h₁ ∧ KeptX [cenv.locals, Mc] fs h₁ h' ∧ NsC h' cenv.locals Mc m' ∧ J (i + 1) ys h' tk') (fun _ _ => False) s₃) (fun _ _ => False) hlt hst' fun bs h₁ tk₁ hP hle hst₁ hk₁ => ?_) (fun r s₁ h₁ => ?_) fun _ _ e => e.elim)))
    · have hL₁ : KeptX wr fs h h₁ := .of_keeps fun b o hb e => hk₁ b o hb e
      have hk₂ := hL₁.mono (fun b q => List.mem_cons_of_mem cenv.locals (List.mem_cons_of_mem Mc (List.mem_cons_of_mem D q)))
      refine Stores.mono (fun _ _ e => e.elim) (fun s₃ z => wpAny_mono z (fun ok s₄ z => ?_) fun _ _ e => e.elim) (turn i bs ys h₁ tk₁ m hlt hP (hJs _ _ _ _ _ _ hJ' hk₂ hle) (hn'.at' (fun o e => hk₁ _ o hCw e) (fun o e => hk₁ _ o hMw e)) (by obtain ⟨nn, e⟩ := hD'; exact ⟨nn, hk₁ D _ hDw e⟩) (hk.trans hk₂))
      cases ok with
      | true =>
        simp only [if_true] at z ⊢
        refine wpAny_mono z (fun y s₅ z => ?_) fun _ _ e => e.elim
        obtain ⟨h', tk', m', rfl, a1, a2, a3⟩ := z
        exact ⟨h₁, h', tk', m', rfl, hL₁, hst₁, a1, a2, a3⟩
      | false =>
        simp only [Bool.false_eq_true, if_false] at z ⊢
        obtain ⟨h', tk', m', rfl, a1, a2, a3⟩ := z
        exact ⟨h₁, h', tk', m', rfl, hL₁, hst₁, a1, a2, a3⟩
    · cases r with
      | none => exact h₁.elim
      | some v =>
        refine wpAny_bind (wpAny_mono h₁ (fun _ s₂ h₂ => wpAny_bind (wpAny_mono h₂ (fun _ s₃ h₃ => wpAny_bind (wpAny_mono h₃ (fun ok s₄ z => ?_) fun _ _ e => e.elim)) fun _ _ e => e.elim)) fun _ _ e => e.elim)
        have stay : ∀ h₁ h', KeptX wr fs h h₁ → St (i + 1) h₁ → KeptX [cenv.locals, Mc] fs h₁ h' → St (i + 1) h' := fun h₁ h' k₁ st k₂ =>
          Dr.frame _ _ _ st fun c hc o e => k₂.other c o e (fun q => by rcases List.mem_cons.mp q with rfl | q; exact hCf hc; rw [List.mem_singleton.mp q] at hc; exact hMf hc) (hfs c hc)
        have upD : ∀ h₁ h', KeptX wr fs h h₁ → KeptX [cenv.locals, Mc] fs h₁ h' → h'.PlainList D ys.toArray := fun h₁ h' k₁ k₂ => by
          obtain ⟨nn, e⟩ := hD'
          exact ⟨nn, k₂.other D _ (k₁.other D _ e hDw hDs) (fun q => by rcases List.mem_cons.mp q with q | q; exact hDC q; exact hDM (List.mem_singleton.mp q)) hDs⟩
        have tot : ∀ h₁ h', KeptX wr fs h h₁ → KeptX [cenv.locals, Mc] fs h₁ h' → KeptX (cenv.locals :: Mc :: D :: wr) fs s.heap h' := fun h₁ h' k₁ k₂ =>
          hk.trans ((k₁.mono fun b q => List.mem_cons_of_mem _ (List.mem_cons_of_mem _ (List.mem_cons_of_mem _ q))).trans (k₂.mono fun b q => by rcases List.mem_cons.mp q with rfl | q; exact List.mem_cons_self; rw [List.mem_singleton.mp q]; exact List.mem_cons_of_mem _ List.mem_cons_self))
        cases ok with
        | false =>
          simp only [Bool.false_eq_true, if_false] at z ⊢
          obtain ⟨h₁, h', tk', m', rfl, k₁, st₁, k₂, n', j'⟩ := z
          exact wpAny_pure ⟨rfl, n + 1 - (i + 1), by (first | lia | omega), i + 1, h', tk', m', ys, rfl, hlt, rfl, stay _ _ k₁ st₁ k₂, upD _ _ k₁ k₂, n', j', by (first | lia | omega), tot _ _ k₁ k₂⟩
        | true =>
          simp only [if_true] at z ⊢
          refine wpAny_bind (wpAny_bind (wpAny_mono z (fun y s₅ z => ?_) fun _ _ e => e.elim))
          obtain ⟨h₁, h', tk', m', rfl, k₁, st₁, k₂, n', j'⟩ := z
          refine wpAny_bind (wpAny_list_append_plain (upD _ _ k₁ k₂) (fun h₆ hl₆ hs₆ => ?_) (by show ys.toArray.size ≤ _; rw [List.size_toArray]; (first | lia | omega)))
          replace hs₆ : Heap.SameBut D h' h₆ := hs₆
          have k₆ : KeptX (cenv.locals :: Mc :: D :: wr) fs h' h₆ := .of_keeps fun b o hb e => hs₆.extBut b o (fun q => hb (by rw [show b = D from q]; exact List.mem_cons_of_mem _ (List.mem_cons_of_mem _ List.mem_cons_self))) e
          refine wpAny_pure (wpAny_pure ⟨rfl, n + 1 - (i + 1), by (first | lia | omega), i + 1, h₆, tk', m', ys ++ [y], rfl, hlt, rfl, ?_, ?_, n'.sameBut hs₆ (Ne.symm hDC) (Ne.symm hDM), hJs _ _ _ _ _ _ j' k₆ (Nat.le_refl _), by rw [List.length_append, List.length_singleton]; (first | lia | omega), (tot _ _ k₁ k₂).trans k₆⟩)
          · exact Dr.frame _ _ _ (stay _ _ k₁ st₁ k₂) fun c hc o e => hs₆.extBut c o (fun q => hDf ((show c = D from q) ▸ hc)) e
          · rw [List.push_toArray] at hl₆; exact hl₆
  · have hin : i = n := by (first | lia | omega)
    subst hin
    refine wpAny_bind (wpAny_standAt (wpAny_bind (wpAny_mono (Dr.done _ (fun s₁ => R (.ok .next) s₁) (fun _ => False) (fun _ _ => False) hst' fun h₁ tk₁ hle hk₁ => ?_) (fun r s₁ h₁ => ?_) fun _ _ e => e.elim)))
    · have hL₁ : KeptX wr fs h h₁ := .of_keeps fun b o hb e => hk₁ b o hb e
      have hk₂ := hL₁.mono (fun b q => List.mem_cons_of_mem cenv.locals (List.mem_cons_of_mem Mc (List.mem_cons_of_mem D q)))
      refine done h₁ tk₁ ys m ?_ (hn'.at' (fun o e => hk₁ _ o hCw e) (fun o e => hk₁ _ o hMw e)) (hJs _ _ _ _ _ _ hJ' hk₂ hle) (hk.trans hk₂)
      obtain ⟨nn, e⟩ := hD'
      exact ⟨nn, hk₁ D _ hDw e⟩
    · cases r with
      | none => exact wpAny_pure h₁
      | some v => 
        refine wpAny_bind (wpAny_mono h₁ (fun _ s₂ h₂ => wpAny_bind (wpAny_mono h₂ (fun _ s₃ h₃ => h₃.elim) fun _ _ e => e.elim)) fun _ _ e => e.elim)
end
section
variable {prog : Program} {w : World} {A : Around} {s : Shared} {E : Value → Shared → Prop} {env : Env} {elt iter : Expr} {ifs : List Expr} {scope : Scope} {pos px : Pos} {fs : List Addr} {cl : List (Str × Addr)} {use : Option (Value → Sem Unit)} {Q : Value → Shared → Prop} {l : Addr} {vs : List Value} {x : Str}
theorem env_one {Q : Env → Shared → Prop} (hcells : ∀ n acc, cellsFrom n scope.names acc = (x, n) :: acc) (hpush : ∀ h, pushCells h scope.names = h.push { cls := .type "cell", data := .cell none })
    (h : ∀ h', h'.Ns s.heap.objs.size (fun _ => none) → h'.IsCell (s.heap.objs.size + 1) none → (∀ b o, s.heap.get? b = some o → h'.get? b = some o) →
      Q (newEnv scope s.heap.objs.size env.globals ((x, s.heap.objs.size + 1) :: cl) env.qual none .none (some env) builtinsNs) { s with heap := h' }) :
    wpAny (model prog w) A (newFunctionEnv scope env.globals cl [] env.qual none .none (some env)) Q E s := by
  simp only [newFunctionEnv, Option.isSome_some, if_true]
  refine wpAny_bind (wpAny_alloc ?_)
  refine wpAny_bind (wpAny_layCells _ (fun name kind cells => by cases hkc : kind == NameKind.cell <;> simp [hkc]) _ _ _ _ ?_)
  have z1 : ({ s with heap := s.heap.push { cls := .type "dict", data := .dict #[] } } : Shared).heap.objs.size = s.heap.objs.size + 1 := Heap.size_push ..
  rw [z1, hcells, hpush]
  refine wpAny_bind (wpAny_pure (wpAny_pure (h _ ?_ ?_ ?_)))
  · exact (Heap.Ns.new s.heap (.type "dict")).at' fun o e => Heap.get?_push_of_some _ e
  · refine ⟨{ cls := .type "cell", data := .cell none }, ?_, rfl⟩
    have z := Heap.get?_push_size (s.heap.push { cls := .type "dict", data := .dict #[] }) (o := { cls := .type "cell", data := .cell none }) rfl
    rw [Heap.size_push] at z
    exact z
  · exact fun b o e => Heap.get?_push_of_some _ (Heap.get?_push_of_some _ e)
theorem comp_listC (hl : s.heap.IsList l vs.toArray) (hh : A.handled = none) (hsz : vs.length ≤ sizeLine) (J : Addr → Addr → Addr → Nat → List Value → Heap → Nat → Prop)
    (hcells : ∀ n acc, cellsFrom n scope.names acc = (x, n) :: acc) (hpush : ∀ h, pushCells h scope.names = h.push { cls := .type "cell", data := .cell none }) (hkind : scope.kind = .function) (hfs : ∀ c ∈ fs, c < s.heap.objs.size) (hls : l ∉ fs)
    (hJ : ∀ C Mc D h, s.heap.get? C = none → s.heap.get? Mc = none → s.heap.get? D = none → Kept fs s.heap h → J C Mc D 0 [] h s.toks)
    (hJs : ∀ C Mc D I i ys h h' tk tk', J C Mc D i ys h tk → KeptX [C, Mc, D, I] fs h h' → tk ≤ tk' → s.heap.get? I = none → J C Mc D i ys h' tk')
    (turn : ∀ C Mc D i v ys h tk m, s.heap.get? C = none → s.heap.get? Mc = none → s.heap.get? D = none → C ≠ Mc → C ≠ D → D ≠ Mc → i < vs.length → vs[i]? = some v → J C Mc D i ys h tk → NsC h C Mc m → (∃ o, h.get? D = some o) → Kept fs s.heap h →
      Stores (model prog w) A (compEnvC scope ((x, Mc) :: cl) C env) (fun _ _ => False) [(x, v)] (fun s₁ => wpAny (model prog w) A (testsOf ifs (compEnvC scope ((x, Mc) :: cl) C env)) (fun ok s₃ =>
        if ok = true then wpAny (model prog w) A (eval elt (compEnvC scope ((x, Mc) :: cl) C env)) (fun y s₃ => ∃ h' tk' m', s₃ = { s with heap := h', toks := tk' } ∧ KeptX [C, Mc] fs h h' ∧ NsC h' C Mc m' ∧ J C Mc D (i + 1) (ys ++ [y]) h' tk') (fun _ _ => False) s₃
        else ∃ h' tk' m', s₃ = { s with heap := h', toks := tk' } ∧ KeptX [C, Mc] fs h h' ∧ NsC h' C Mc m' ∧ J C Mc D (i + 1) ys h' tk') (fun _ _ => False) s₁) { s with heap := h, toks := tk })
    (fin : ∀ C Mc D ys h tk m, s.heap.get? C = none → s.heap.get? D = none → C ≠ D → h.Ns C m → h.PlainList D ys.toArray → J C Mc D vs.length ys h tk → Kept fs s.heap h → compPost (model prog w) A E use Q (.ref D) C (.ok .next) { s with heap := h, toks := tk }) :
    wpAny (model prog w) A (pyIter (.ref l)) (CompRun prog w A E env scope cl (.ListComp elt [⟨.Name x px, iter, ifs, 0⟩] scope pos) use Q) E s := by
  refine wpAny_pyIter_list hl ?_
  have hlt : l < s.heap.objs.size := by obtain ⟨_, e, _⟩ := hl; exact Heap.lt_size e
  have fI : s.heap.get? s.heap.objs.size = none := Heap.get?_none_of_le (Nat.le_refl _)
  generalize hH1 : s.heap.push { cls := .type "list_iterator", data := .fields #[.ref l, .int 0 0] } = H1
  have z1 : H1.objs.size = s.heap.objs.size + 1 := by rw [← hH1, Heap.size_push]
  refine wpAny_newObj_type (env_one (s := { s with heap := _, toks := _ }) hcells hpush fun h₁ hns₁ hce₁ hk₁ => ?_)
  dsimp only at hns₁ hce₁ hk₁ ⊢
  generalize hH2 : H1.push { cls := .type "list", dict := none, data := .seq ([] : List Value).toArray } = H2 at hns₁ hce₁ hk₁ ⊢
  have z2 : H2.objs.size = s.heap.objs.size + 2 := by rw [← hH2, Heap.size_push, z1]
  have fr0 : ∀ k : Nat, s.heap.get? (s.heap.objs.size + k) = none := fun k => Heap.get?_none_of_le (Nat.le_add_right _ _)
  have e1 : s.heap.objs.size + 1 = H1.objs.size := z1.symm
  have e2 : s.heap.objs.size + 2 = H2.objs.size := z2.symm
  have e3 : s.heap.objs.size + 3 = H2.objs.size + 1 := by rw [z2]
  have fD : s.heap.get? H1.objs.size = none := e1 ▸ fr0 1
  have fC : s.heap.get? H2.objs.size = none := e2 ▸ fr0 2
  have fM : s.heap.get? (H2.objs.size + 1) = none := e3 ▸ fr0 3
  have hDC : H1.objs.size ≠ H2.objs.size := by rw [z1, z2]; exact fun q => by have q' : @Eq Nat _ _ := q; (first | lia | omega)
  have hDM : H1.objs.size ≠ H2.objs.size + 1 := by rw [z1, z2]; exact fun q => by have q' : @Eq Nat _ _ := q; (first | lia | omega)
  have hIC : s.heap.objs.size ≠ H2.objs.size := by rw [z2]; exact fun q => by have q' : @Eq Nat _ _ := q; (first | lia | omega)
  have hCM : H2.objs.size ≠ H2.objs.size + 1 := fun q => by have q' : @Eq Nat _ _ := q; (first | lia | omega)
  have old : ∀ b o, s.heap.get? b = some o → h₁.get? b = some o := fun b o e => hk₁ b o (hH2 ▸ Heap.get?_push_of_some _ (hH1 ▸ Heap.get?_push_of_some _ e))
  have hIt : h₁.IsListIter s.heap.objs.size l 0 := ⟨_, hk₁ _ _ (hH2 ▸ Heap.get?_push_of_some _ (hH1 ▸ Heap.get?_push_size _ rfl)), rfl, rfl⟩
  have hacc : h₁.PlainList H1.objs.size #[] := ⟨_, hk₁ _ _ (hH2 ▸ Heap.get?_push_size _ rfl)⟩
  have nf : ∀ k : Nat, s.heap.objs.size + k ∉ fs := fun k hm => by have z : @LT.lt Nat _ _ _ := hfs _ hm; (first | lia | omega)
  have hfC : H2.objs.size ∉ fs := e2 ▸ nf 2
  have hfD : H1.objs.size ∉ fs := e1 ▸ nf 1
  have hfM : H2.objs.size + 1 ∉ fs := e3 ▸ nf 3
  have hfI : s.heap.objs.size ∉ fs := nf 0
  have hlC : l ≠ H2.objs.size := fun q => by obtain ⟨_, e, _⟩ := hl; rw [q, fC] at e; cases e
  have hlD : l ≠ H1.objs.size := fun q => by obtain ⟨_, e, _⟩ := hl; rw [q, fD] at e; cases e
  have hlM : l ≠ H2.objs.size + 1 := fun q => by obtain ⟨_, e, _⟩ := hl; rw [q, fM] at e; cases e
  have Dr := Drive.name (env := compEnvC scope ((x, H2.objs.size + 1) :: cl) H2.objs.size env) (x := x) (pos := px) (Walks.list (prog := prog) (w := w) hh s.heap.objs.size l (fun q => Nat.ne_of_lt hlt q) vs.toArray)
  have hsize : vs.toArray.size = vs.length := by simp
  rw [hsize] at Dr
  have loop : codeAny (model prog w) A (.compLoop (.ListComp elt [⟨.Name x px, iter, ifs, 0⟩] scope pos) 0 (.ref s.heap.objs.size) (.ref H1.objs.size) (compEnvC scope ((x, H2.objs.size + 1) :: cl) H2.objs.size env)) (compPost (model prog w) A E use Q (.ref H1.objs.size) H2.objs.size) { s with heap := h₁, toks := s.toks } := by
    have kept : ∀ {h : Heap}, KeptX (H2.objs.size :: (H2.objs.size + 1) :: H1.objs.size :: [s.heap.objs.size]) fs h₁ h → Kept fs s.heap h := fun k => (k.lift (Y := []) old fun b hb => .inr (by
      simp only [List.mem_cons, List.not_mem_nil, or_false] at hb
      rcases hb with rfl | rfl | rfl | rfl
      · exact fC
      · exact fM
      · exact fD
      · exact fI)).kept fun _ hb => nomatch hb
    refine comp_loopC (s := { s with heap := h₁, toks := s.toks }) Dr hsz (J H2.objs.size (H2.objs.size + 1) H1.objs.size) ⟨hIt, hl.at fun o e => old _ o e⟩ hacc ⟨_, hns₁, _, hce₁⟩ (hJ _ _ _ _ fC fM fD (.of_keeps old)) ?_ ?_ hDC hDM ?_ hfM ?_ hfD hfC
      (fun i ys h h' tk tk' j k hle => hJs _ _ _ _ i ys h h' tk tk' j k hle fI) ?_ ?_
    · intro hm
      rcases List.mem_cons.mp hm with e | hm
      · exact absurd e (by rw [z1]; exact fun q => by have q' : @Eq Nat _ _ := q; (first | lia | omega))
      · exact hlD (List.mem_singleton.mp hm).symm
    · intro hm
      rcases List.mem_cons.mp hm with e | hm
      · exact hIC e.symm
      · exact hlC (List.mem_singleton.mp hm).symm
    · intro hm
      rcases List.mem_cons.mp hm with e | hm
      · exact absurd e (by rw [z2]; exact fun q => by have q' : @Eq Nat _ _ := q; (first | lia | omega))
      · exact hlM (List.mem_singleton.mp hm).symm
    · intro c hc
      rcases List.mem_cons.mp hc with rfl | hc
      · exact hfI
      · rw [List.mem_singleton.mp hc]; exact hls
    · rintro i bs ys h tk m hi ⟨v, hv, rfl⟩ hJi hn ⟨nn, e⟩ hk
      exact turn _ _ _ i v ys h tk m fC fM fD hCM (Ne.symm hDC) hDM hi (by simpa using hv) hJi hn ⟨_, e⟩ (kept hk)
    · intro h tk ys m hp hn hJn hk
      exact fin _ _ _ ys h tk m fC fD (Ne.symm hDC) hn.1 hp hJn (kept hk)
  exact codeAny_compStart_list loop (Dr.self 0 _ _ _ ⟨hIt, hl.at fun o e => old _ o e⟩ loop)
end
end
section
section
variable {prog : Program} {w : World} {A : Around} {E : Value → Shared → Prop} {s : Shared} {h : Heap} {tk : Nat} {fs : List Addr} {C Mc : Addr} {m : Str → Option Value} {scope : Scope} {cl : List (Str × Addr)} {env : Env} {K : Shared → Prop}
theorem turn1C {x : Str} {v : Value} (hx : (compEnvC scope cl C env).kindOf x = some .cell) (hc : cl.lookup x = some Mc) (hkind : scope.kind = .function) (hn : NsC h C Mc m) (fM : s.heap.get? Mc = none) (hCM : C ≠ Mc) (hk : Kept fs s.heap h)
    (k : ∀ h₁, h₁.Ns C m → h₁.IsCell Mc (some v) → Kept fs s.heap h₁ → Heap.SameBut Mc h h₁ → K { s with heap := h₁, toks := tk }) :
    Stores (model prog w) A (compEnvC scope cl C env) E [(x, v)] K { s with heap := h, toks := tk } := by
  obtain ⟨hn1, v0, hv0⟩ := hn
  refine stores1 (wpAny_storeName_cell (s := { s with heap := h, toks := tk }) hkind hx hc hv0 fun h₁ hv₁ hs₁ => ?_)
  replace hs₁ : Heap.SameBut Mc h h₁ := hs₁
  exact k h₁ (hn1.sameBut hs₁ hCM) hv₁ (kept_same hk hs₁ fM) hs₁
theorem cell_kept {h h' : Heap} {c : Addr} {v : Option Value} (n : h.IsCell c v) (k : Kept fs h h') : h'.IsCell c v := by
  obtain ⟨o, e, d⟩ := n
  obtain ⟨sl, e'⟩ := k.up e
  exact ⟨_, e', d⟩
end
end
end
section
local macro_rules | `(tactic| walk_at "subscriptTail") => `(tactic| refine stop ?_)
local macro_rules | `(tactic| walk_at "no such step") => `(tactic| skip)
section
section
variable {w : World} {A : Around} {s : Shared} {outs : List Env} {mg mb : Str → Option Value} {mean : ExcName → Option Value} {Q : Flow → Shared → Prop} {E : Value → Shared → Prop}
theorem seg5 {sc : Scope} {bd : List Stmt} (hsc : sc = scopeOf w.params 92) (hbd : bd = (tBody w.params).drop 13)
    {le lz lp ln lm lk L' : Addr} {v1 v2 : List Value} {es zs : List Int} {t : Int} {tt tb : Tok} {beyond : Int} {oB oP oT oLd : Obj} {ld : Addr} {led : List (Addr × Obj)} {g h : Heap} {tk : Nat} {mx : Str → Option Value}
    (a : AmbW w mean mg mb A outs s.heap) (hd : A.depth + 2 < recursionLimit) (hu : A.units + 70 < cLine) (B : Below A (hideAll s.heap (fr outs)) outs g) (D : KtsDicts (fr outs) g) (TT : KtsTurn (fr outs) s.heap g)
    (hB : oB.data = .cell (some (.int beyond tb))) (hP : oP.data = .cell (some (.ref lp))) (hT : oT.data = .cell (some (.int t tt))) (hLd : oLd.data = .cell (some (.ref ld)))
    (h1 : s.heap.IsList le v1.toArray) (h2 : s.heap.IsList lz v2.toArray) (i1 : IntsAre v1 es) (i2 : IntsAre v2 zs) (z1 : es.length = 4) (z2 : zs.length = 4) (htk : 0 < tk)
    {lg lh td tp lsp : Addr} {vsp vh vp : List Value} {nsp nh np : Nat} {Pl H sp : List Int}
    (F : Fr g L' h (nm [("ends", .ref le), ("sizes", .ref lz), ("numbers", .ref ln), ("marks", .ref lm), ("struck", .ref lk), ("gone", .ref lg), ("here", .ref lh), ("told", .ref td), ("kept", .ref tp), ("spots", .ref lsp)] mx))
    (N : News g L' h ((lsp, lst vsp nsp) :: (lh, lst vh nh) :: (L' + 1, oB) :: (L' + 2, oP) :: (L' + 3, oT) :: (L' + 4, oLd) :: led))
    (isp : IntsAre vsp sp) (ih : IntsAre vh H) (lh1 : vh.length ≤ 12) (ip : IntsAre vp Pl) (zp : Pl.length < 2 ^ 10) (hlp : (lp, lst vp np) ∈ led)
    (hC6 : sp = H.map fun m => (((Pl.filter fun p => decide (p < m)).length : Nat) : Int))
    {R : Shared → Prop} (hR : ∀ s', R s' → wpAny (model PG w) (A.deeper (envOfC "_law_struck" sc L' 92 (.ref 91))) (execs (bd.drop 1) (envOfC "_law_struck" sc L' 92 (.ref 91))) Q E s')
    (k : ∀ g h tk' mx, tk ≤ tk' → Below A (hideAll s.heap (fr outs)) outs g → KtsDicts (fr outs) g → KtsTurn (fr outs) s.heap g →
      Fr g L' h (nm [("ends", .ref le), ("sizes", .ref lz), ("numbers", .ref ln), ("marks", .ref lm), ("struck", .ref lk), ("gone", .ref lg), ("here", .ref lh), ("told", .ref td), ("kept", .ref tp), ("spots", .ref lsp)] mx) →
      News g L' h ((lsp, lst vsp nsp) :: (lh, lst vh nh) :: (L' + 1, oB) :: (L' + 2, oP) :: (L' + 3, oT) :: (L' + 4, oLd) :: led) → R { s with heap := h, toks := tk' }) :
    wpAny (model PG w) (A.deeper (envOfC "_law_struck" sc L' 92 (.ref 91))) (execs bd (envOfC "_law_struck" sc L' 92 (.ref 91))) Q E { s with heap := h, toks := tk } := by
  have hh := a.hh
  obtain ⟨_, Xb, Tb⟩ := a.open
  conv at hsc => rhs; whnf
  conv at hbd => rhs; whnf
  subst hsc hbd
  have Xg := Xb.keeps B.stays
  have T : Top Mine.hd0.view_39 (looseW Mine.hd0.view_39 []) mean mg mb g := Tb.keeps B.stays
  have hd1 : ∀ env : Env, (A.deeper env).depth + 1 < recursionLimit := hd1_of hd
  have hd2 : ∀ env : Env, (A.deeper env).depth < recursionLimit := hd2_of hd
  have hu1 : ∀ env : Env, (A.deeper env).units + 64 < cLine := hu1_of hu
  refine piece 1 hR ?_
  simp only [List.take_succ_cons, List.take_zero]
  show wpAny _ _ _ _ _ _
  have lp1 := ip.length
  refine wpAny_execs_cons ?_
  refine wpAny_If ?_
  k_steps
  refine Stop.go (comp_eval (hs := by intro _; rfl) (cl := [("places", L' + 2)]) (by rfl) rfl (by decide) ?_)
  k_steps
  rename Fr _ _ _ _ => F
  rename News _ _ _ _ => N
  refine Stop.go (comp_listC (x := "mark") (fs := L' :: fr outs) (vs := vh) (lst_at N (by k_mem) rfl ⟨_, rfl⟩) hh (by rw [sizeLine_eq]; (first | lia | omega)) (fun C Mc D q ys h tkq => IntsAre ys ((H.take q).map fun m => (((Pl.filter fun p => decide (p < m)).length : Nat) : Int))) (fun _ _ => rfl) (fun _ => rfl) rfl (fs_lt' D F) (lst_off (fs := []) D F N (by k_mem)) (fun _ _ _ _ _ _ _ _ => .nil) (fun _ _ _ _ _ _ _ _ _ _ hJ _ _ _ => hJ) ?turn1 ?fin1)
  case turn1 =>
    rintro C Mc Dd q v zz hA tk1 m1 fC fM fD hCM hCD hDM hq hv hJ hns hDd hk
    have hql : q < H.length := by rw [← ih.length]; exact hq
    obtain ⟨tm, hm⟩ := ih.get q H[q] (by simp [hql])
    rw [hm] at hv; cases hv
    have hHq : H[q]? = some H[q] := List.getElem?_eq_getElem hql
    generalize H[q] = mk at *
    refine turn1C rfl rfl rfl hns fM hCM hk fun hX hns2 hcM hk2 hs2 => ?_
    refine wpAny_tests_nil ?_
    rw [if_pos rfl]
    obtain ⟨g', B', D', TT', F', N', _⟩ := after_kept (s := { s with heap := _, toks := 0 }) B D TT F N hk2
    have Xg := Xb.keeps B'.stays
    have T : Top Mine.hd0.view_39 (looseW Mine.hd0.view_39 []) mean mg mb g' := Tb.keeps B'.stays
    have hcl : hX.IsCell (L' + 2) (some (.ref lp)) := ⟨_, (N' (L' + 2, oP) (by k_mem)).1, hP⟩
    clear F N B D TT
    show wpAny _ _ _ _ _ _
    k_steps
    refine Stop.go (comp_eval (hs := by intro _; rfl) (cl := [("mark", Mc)]) (by rfl) rfl (by decide) ?_)
    k_steps
    refine Stop.go (comp_list (fs := L' :: fr outs) (vs := vp) (lst_at (o := lst vp np) N' (by repeat (first | exact hlp | apply List.mem_cons_of_mem)) rfl ⟨_, rfl⟩) hh (by rw [sizeLine_eq]; (first | lia | omega)) (fun C D q ys h tkq => ys.length = ((Pl.take q).filter fun p => decide (p < mk)).length) (by decide) rfl (fs_lt' D' F') (lst_off (fs := []) (o := lst vp np) D' F' N' (by repeat (first | exact hlp | apply List.mem_cons_of_mem))) (fun _ _ _ _ _ _ _ => by simp) (fun _ _ _ _ _ _ _ _ _ hJ _ _ _ => hJ) ?turn2 ?fin2)
    case turn2 =>
      rintro C2 D2 q2 bs2 z2 hA2 tk12 m12 fC2 fD2 ne2 hq2 ⟨v2, hv2, rfl⟩ hJ2 hns2' hDd2 hk2'
      have hql2 : q2 < Pl.length := by rw [← ip.length]; exact hq2
      obtain ⟨tm2, hm2⟩ := ip.get q2 Pl[q2] (by simp [hql2])
      rw [hm2] at hv2; cases hv2
      have hPq : Pl[q2]? = some Pl[q2] := List.getElem?_eq_getElem hql2
      generalize Pl[q2] = pl at *
      refine turn1 rfl rfl hns2' fC2 hk2' fun hY tk22 hle2 hns3 hk3 hs3 => ?_
      refine wpAny_tests_one ?_
      have hcM2 : hY.IsCell Mc (some (.int mk tm)) := cell_kept hcM hk3
      show wpAny _ _ _ _ _ _
      k_steps
      · have hlt : pl < mk := by assumption
        refine Stop.go ⟨hY, _, _, rfl, keptX_same hs3, hns3, ?_⟩
        show (_ ++ [_]).length = ((Pl.take (q2 + 1)).filter _).length
        rw [List.take_add_one, hPq, List.filter_append, List.length_append, List.length_append, hJ2]
        simp [hlt]
      · have hlt : ¬ pl < mk := by first | assumption | (first | lia | omega)
        refine Stop.go ⟨hY, _, _, rfl, keptX_same hs3, hns3, ?_⟩
        show z2.length = ((Pl.take (q2 + 1)).filter _).length
        rw [List.take_add_one, hPq, List.filter_append, List.length_append, hJ2]
        simp [hlt]
    case fin2 =>
      refine fin_expr B' D' TT' F' N' (fun _ _ _ _ _ _ e _ => e) fun g C3 Dd3 ys nn h tk3 fD3 off3 B D TT F N hk3 hJ3 => ?_
      have Xg := Xb.keeps B.stays
      have T : Top Mine.hd0.view_39 (looseW Mine.hd0.view_39 []) mean mg mb g := Tb.keeps B.stays
      rw [ip.length, List.take_length] at hJ3
      have lys : ys.length < 2 ^ 10 := by rw [hJ3]; exact Nat.lt_of_le_of_lt (List.length_filter_le _ _) (by (first | lia | omega))
      have lys2 : ys.toArray.size < 2 ^ 10 := by simpa using lys
      show wpAny _ _ _ _ _ _
      k_steps
      have e : ((ys.toArray.size : Nat) : Int) = (((Pl.filter fun p => decide (p < mk)).length : Nat) : Int) := by rw [List.size_toArray, hJ3]
      have kx : KeptX [C, Mc] (L' :: fr outs) hA hX := (keptX_same (fs := L' :: fr outs) hs2).mono fun b hb => List.mem_cons_of_mem _ hb
      refine Stop.go ⟨h, _, _, rfl, kx.trans (.of_kept hk3), ⟨hk3.ns hns2, _, cell_kept hcM hk3⟩, ?_⟩
      rw [List.take_add_one, hHq, List.map_append, e]
      exact ints_app hJ (.cons _ _ .nil)
  case fin1 =>
    intro C Mc Dd ys h tk1 m fC fD ne hns hpl hJ hk
    refine fin_expr (n := vh.length) (J := fun _ _ n ys _ _ => IntsAre ys ((H.take n).map fun m => (((Pl.filter fun p => decide (p < m)).length : Nat) : Int))) B D TT F N (fun _ _ _ _ _ _ e _ => e) (fun g C Dd ys nn h tk1 fD off B D TT F N hk hJ => ?_) C Dd ys h tk1 m fC fD ne hns hpl hJ hk
    have Xg := Xb.keeps B.stays
    have T : Top Mine.hd0.view_39 (looseW Mine.hd0.view_39 []) mean mg mb g := Tb.keeps B.stays
    rw [ih.length, List.take_length, ← hC6] at hJ
    show wpAny _ _ _ _ _ _
    k_steps
    rename Fr _ _ _ _ => F
    rename News _ _ _ _ => N
    refine' Stop.go (ne_list (xs := sp) ?l1 ?l2 ?i1 ?i2 (hu1 _) ?hq)
    case l1 => apply lst_at N; k_mem; exact rfl; exact ⟨_, rfl⟩
    case l2 => apply lst_at N; k_mem; exact rfl; exact ⟨_, rfl⟩
    case i1 => exact isp
    case i2 => exact hJ
    k_steps
    rename (@LE.le Nat _ _ _) => hleU
    refine k g _ _ _ hleU B D TT F (news_sub N (sub_cons (by k_mem) (sub_cons (by k_mem) (sub_cons (by k_mem) (sub_cons (by k_mem) (sub_cons (by k_mem) (sub_cons (by k_mem) (fun p hp => ?_))))))))
    repeat (first | exact hp | apply List.mem_cons_of_mem)
end
end
section
section
variable {w : World} {A : Around} {s : Shared} {outs : List Env} {mg mb : Str → Option Value} {mean : ExcName → Option Value} {Q : Flow → Shared → Prop} {E : Value → Shared → Prop}
theorem news_five {g h : Heap} {L : Addr} {p1 p2 p3 p4 p5 : Addr × Obj} {r : List (Addr × Obj)} (N1 : News g L h [p1, p2, p3, p4, p5]) (N : News g L h r) : News g L h (p1 :: p2 :: p3 :: p4 :: p5 :: r) := fun p hp => (List.mem_append.mp (show p ∈ [p1, p2, p3, p4, p5] ++ r from hp)).elim (N1 p) (N p)
inductive StrJI (nms : List (Str × Value)) (ks : List Addr) (Nn : List Int) (Pl H : List Int) (S : List (List Int)) (c : Nat) (fixed RL : List (Addr × Obj)) (i : Nat) (m : Str → Option Value) (news : List (Addr × Obj)) : Prop
  | mk : ∀ mx kl, m = nm nms mx → news = fixed ++ (kl ++ RL) → KsR (c + i) ks (strike 0 Nn Pl H i S) kl → StrJI nms ks Nn Pl H S c fixed RL i m news
noncomputable def StrJ (nms : List (Str × Value)) (ks : List Addr) (Nn : List Int) (Pl H : List Int) (S : List (List Int)) (c : Nat) (fixed RL : List (Addr × Obj)) (i : Nat) (m : Str → Option Value) (news : List (Addr × Obj)) (_ : Nat) : Prop := StrJI nms ks Nn Pl H S c fixed RL i m news
theorem seg6 {sc : Scope} {bd : List Stmt} (hsc : sc = scopeOf w.params 92) (hbd : bd = (tBody w.params).drop 14)
    {le lz ln lm lk lg lh td tp lsp L' : Addr} {v1 vh vsp vn : List Value} {nh nsp nn nk c : Nat} {es Pl H Nn : List Int} {Sx : List (List Int)} {ks : List Addr} {kl RL OW : List (Addr × Obj)} {g h : Heap} {tk : Nat} {mx : Str → Option Value}
    (a : AmbW w mean mg mb A outs s.heap) (hd : A.depth + 2 < recursionLimit) (hu : A.units + 70 < cLine) (B : Below A (hideAll s.heap (fr outs)) outs g) (D : KtsDicts (fr outs) g) (TT : KtsTurn (fr outs) s.heap g)
    (h1 : s.heap.IsList le v1.toArray) (i1 : IntsAre v1 es) (z1 : es.length = 4)
    (F : Fr g L' h (nm [("ends", .ref le), ("sizes", .ref lz), ("numbers", .ref ln), ("marks", .ref lm), ("struck", .ref lk), ("gone", .ref lg), ("here", .ref lh), ("told", .ref td), ("kept", .ref tp), ("spots", .ref lsp)] mx))
    (N : News g L' h ((lh, lst vh nh) :: (lsp, lst vsp nsp) :: (ln, lst vn nn) :: (lk, lst (ks.map Value.ref) nk) :: (kl ++ RL) ++ OW))
    (hRL : ∀ p ∈ RL, IsLst p.2 ∧ p.1 ∉ ks) (hOW : ∀ p ∈ OW, ¬ IsLst p.2) (nlh : lh ∉ ks) (nlsp : lsp ∉ ks) (nln : ln ∉ ks) (nlk : lk ∉ ks)
    (hks : KsR c ks Sx kl) (hnd : ks.Nodup) (lks : ks.length = 4) (hc : c ≤ 2 ^ 16)
    (ih : IntsAre vh H) (lH : H.length ≤ 4) (isp : IntsAre vsp (H.map fun m => (((Pl ++ Pl).idxOf m : Nat) : Int))) (iN : IntsAre vn Nn) (zN : Nn.length < 2 ^ 10) (hC7 : ∀ m ∈ H, (Pl ++ Pl).idxOf m < Nn.length)
    {R : Shared → Prop} (hR : ∀ s', R s' → wpAny (model PG w) (A.deeper (envOfC "_law_struck" sc L' 92 (.ref 91))) (execs (bd.drop 1) (envOfC "_law_struck" sc L' 92 (.ref 91))) Q E s')
    (k : ∀ g h tk' mx kl', tk ≤ tk' → Below A (hideAll s.heap (fr outs)) outs g → KtsDicts (fr outs) g → KtsTurn (fr outs) s.heap g → Fr g L' h (nm [("ends", .ref le), ("sizes", .ref lz), ("numbers", .ref ln), ("marks", .ref lm), ("struck", .ref lk), ("gone", .ref lg), ("here", .ref lh), ("told", .ref td), ("kept", .ref tp), ("spots", .ref lsp)] mx) →
      News g L' h ((lh, lst vh nh) :: (lsp, lst vsp nsp) :: (ln, lst vn nn) :: (lk, lst (ks.map Value.ref) nk) :: (kl' ++ RL) ++ OW) → KsR (c + H.length) ks (strike 0 Nn Pl H H.length Sx) kl' → R { s with heap := h, toks := tk' }) :
    wpAny (model PG w) (A.deeper (envOfC "_law_struck" sc L' 92 (.ref 91))) (execs bd (envOfC "_law_struck" sc L' 92 (.ref 91))) Q E { s with heap := h, toks := tk } := by
  have hh := a.hh
  obtain ⟨_, Xb, Tb⟩ := a.open
  conv at hsc => rhs; whnf
  conv at hbd => rhs; whnf
  subst hsc hbd
  have Xg := Xb.keeps B.stays
  have T : Top Mine.hd0.view_39 (looseW Mine.hd0.view_39 []) mean mg mb g := Tb.keeps B.stays
  have hd1 : ∀ env : Env, (A.deeper env).depth + 1 < recursionLimit := hd1_of hd
  have hd2 : ∀ env : Env, (A.deeper env).depth < recursionLimit := hd2_of hd
  have hu1 : ∀ env : Env, (A.deeper env).units + 64 < cLine := hu1_of hu
  refine piece 1 hR ?_
  simp only [List.take_succ_cons, List.take_zero]
  show wpAny _ _ _ _ _ _
  have lvh := ih.length
  have lv1 := i1.length
  have lvn := iN.length
  have svh : vh.toArray.size ≤ 4 := by rw [List.size_toArray]; (first | lia | omega)
  replace N : News g L' h (([(lh, lst vh nh), (lsp, lst vsp nsp), (ln, lst vn nn), (lk, lst (ks.map Value.ref) nk)] ++ (kl ++ RL)) ++ OW) := N
  have N0 : News g L' h [(lh, lst vh nh)] := fun p hp => N p (List.mem_append_left _ (List.mem_append_left _ (List.mem_singleton.mp hp ▸ List.mem_cons_self)))
  replace N := news_cons N0 N
  refine wpAny_execs_cons ?_
  refine wpAny_For ?_
  k_steps
  rename Fr _ _ _ _ => F
  rename News _ _ _ _ => N
  rename IsRange _ _ _ _ _ _ _ _ => hr
  refine Stop.go (for_range (n := H.length) (news := [(lh, lst vh nh), (lsp, lst vsp nsp), (ln, lst vn nn), (lk, lst (ks.map Value.ref) nk)] ++ (kl ++ RL)) (keep := OW) hr (small_one (by (first | lia | omega)) (by (first | lia | omega)) (by (first | lia | omega)) (by (first | lia | omega))) (by rw [rangeSize_nat]; congr 1 <;> (first | lia | omega)) hh B D TT F ?hN hOW (StrJ [("ends", .ref le), ("sizes", .ref lz), ("numbers", .ref ln), ("marks", .ref lm), ("struck", .ref lk), ("gone", .ref lg), ("here", .ref lh), ("told", .ref td), ("kept", .ref tp), ("spots", .ref lsp)] ks Nn Pl H Sx c [(lh, lst vh nh), (lsp, lst vsp nsp), (ln, lst vn nn), (lk, lst (ks.map Value.ref) nk)] RL)
    ⟨_, kl, nm_of _ (nms_cons rfl (nms_cons rfl (nms_cons rfl (nms_cons rfl (nms_cons rfl (nms_cons rfl (nms4 rfl rfl rfl rfl))))))), rfl, hks⟩ ?hJl (fun i m news tk tk' hJ _ => hJ) ?turn ?done)
  case hN =>
    intro p hp
    refine N p ?_
    repeat (first | exact hp | apply List.mem_cons_of_mem)
  case hJl =>
    rintro i m news tk ⟨mx, kl, _, rfl, hks⟩ p hp
    rcases List.mem_append.mp hp with hp | hp
    · simp only [List.mem_cons, List.not_mem_nil, or_false] at hp
      rcases hp with rfl | rfl | rfl | rfl <;> exact isLst_lst
    · rcases List.mem_append.mp hp with hp | hp
      · exact (hks.addr p hp).2
      · exact (hRL p hp).1
  case turn =>
    rintro i bs g m₁ news₁ own h tk1 hin ⟨t, rfl⟩ B D TT ⟨mx, kl, rfl, rfl, hks⟩ F N hown
    have Xg := Xb.keeps B.stays
    have T : Top Mine.hd0.view_39 (looseW Mine.hd0.view_39 []) mean mg mb g := Tb.keeps B.stays
    replace F : Fr g L' h _ := F
    replace N : News g L' h _ := N
    obtain ⟨kq, yq, nq, hkq, hkm, hmq, hlq, hup⟩ := hks.app hnd (4 - H.length + i) (by (first | lia | omega))
    have hkq' : (ks.map Value.ref)[4 - H.length + i]? = some (.ref kq) := by rw [List.getElem?_map, hkq]; rfl
    obtain ⟨tsp, hsp⟩ := isp.get i (((Pl ++ Pl).idxOf H[i] : Nat) : Int) (by simp [hin])
    have hHd : H.getD i 0 = H[i] := by simp [List.getD, hin]
    have hsl := hC7 _ (List.getElem_mem hin)
    obtain ⟨tv, hv⟩ := iN.get ((Pl ++ Pl).idxOf H[i]) Nn[(Pl ++ Pl).idxOf H[i]] (by simp [hsl])
    have hNd : Nn.getD ((Pl ++ Pl).idxOf H[i]) 0 = Nn[(Pl ++ Pl).idxOf H[i]] := by simp [List.getD, hsl]
    have hgd : (H.map fun m => (((Pl ++ Pl).idxOf m : Nat) : Int)).getD (0 + (i : Int) * 1).toNat 0 = (((Pl ++ Pl).idxOf H[i] : Nat) : Int) := by
      rw [show (0 + (i : Int) * 1).toNat = i by (first | lia | omega)]; simp [List.getD, hin]
    obtain ⟨nv, hnv⟩ : ∃ nv, Nn[(Pl ++ Pl).idxOf H[i]] = nv := ⟨_, rfl⟩
    rw [hnv] at hv hNd
    obtain ⟨sq, hIx⟩ : ∃ sq, (Pl ++ Pl).idxOf H[i] = sq := ⟨_, rfl⟩
    rw [hIx] at hsp hv hNd hgd
    replace hsl : sq < Nn.length := hIx ▸ hsl
    clear hnv
    have oq := own_off N (a := kq) (o := lst yq nq) (List.mem_append_left _ (List.mem_append_right _ (List.mem_append_left _ hmq))) isLst_lst (fun p hp => List.mem_append_right _ hp) hown
    have N1 : News g L' h [(kq, lst yq nq), (lh, lst vh nh), (lsp, lst vsp nsp), (ln, lst vn nn), (lk, lst (ks.map Value.ref) nk)] := fun p hp => N p (by
      simp only [List.mem_cons, List.not_mem_nil, or_false] at hp
      rcases hp with rfl | rfl | rfl | rfl | rfl
      · exact List.mem_append_left _ (List.mem_append_right _ (List.mem_append_left _ hmq))
      all_goals exact List.mem_append_left _ (List.mem_append_left _ (by k_mem)))
    obtain ⟨big, hbig⟩ : ∃ big, big = ([(lh, lst vh nh), (lsp, lst vsp nsp), (ln, lst vn nn), (lk, lst (ks.map Value.ref) nk)] ++ (kl ++ RL)) ++ own := ⟨_, rfl⟩
    rw [← hbig] at N
    replace N : News g L' h ((kq, lst yq nq) :: (lh, lst vh nh) :: (lsp, lst vsp nsp) :: (ln, lst vn nn) :: (lk, lst (ks.map Value.ref) nk) :: big) := news_five N1 N
    have hleg : g.IsList le v1.toArray := (Kept.of_turn TT).list h1
    refine stores1 ?_
    k_steps
    rename Fr _ _ _ _ => F
    rename News _ _ _ _ => N
    refine Stop.go (item_in (hs := by with_unfolding_all rfl) (v := .ref kq) (lst_at N (by k_mem) rfl ⟨_, rfl⟩) (by (first | lia | omega)) (by unfold pyIdx; rw [if_pos (by (first | lia | omega)), show ((es.length : Int) - (H.length : Int) + (0 + (i : Int) * 1)).toNat = 4 - H.length + i by (first | lia | omega)]; exact hkq') ?_)
    k_steps
    rename Fr _ _ _ _ => F
    rename News _ _ _ _ => N
    rw [hgd]
    refine Stop.go (call_use B D TT F N rfl (getitem_c (v := .int nv tv) (lst_at N (by k_mem) rfl ⟨_, rfl⟩) (by (first | lia | omega)) (by unfold pyIdx; rw [if_pos (by (first | lia | omega)), show ((sq : Int)).toNat = sq by (first | lia | omega)]; exact hv) (amb_in B D F Xb Tb hh rfl rfl) (hd2 _)) fun v g h tk3 hle3 B D TT F N new hk3 hv => ?_)
    subst hv
    have Xg := Xb.keeps B.stays
    have T : Top Mine.hd0.view_39 (looseW Mine.hd0.view_39 []) mean mg mb g := Tb.keeps B.stays
    k_steps
    rename Fr _ _ _ _ => F
    rename News _ _ _ _ => N
    refine Stop.go (append_sem (D := kq) (ys := yq) (n := nq) F N (by k_mem) (by (first | lia | omega)) fun n' h' F N2 => ?_)
    obtain ⟨kl', hk1, hk2⟩ := hup nv tv n'
    have N3 := N2 (([(lh, lst vh nh), (lsp, lst vsp nsp), (ln, lst vn nn), (lk, lst (ks.map Value.ref) nk)] ++ (kl' ++ RL)) ++ own) ?hN3
    case hN3 =>
      have inb : ∀ p, p ∈ ([(lh, lst vh nh), (lsp, lst vsp nsp), (ln, lst vn nn), (lk, lst (ks.map Value.ref) nk)] ++ (kl ++ RL)) ++ own → p.1 ≠ kq → (p = (kq, lst (yq ++ [Value.int nv tv]) n') ∨ (p ∈ (kq, lst yq nq) :: (lh, lst vh nh) :: (lsp, lst vsp nsp) :: (ln, lst vn nn) :: (lk, lst (ks.map Value.ref) nk) :: big ∧ p.1 ≠ kq)) := fun p hp hn => .inr ⟨by
        rw [← hbig] at hp
        repeat (first | exact hp | apply List.mem_cons_of_mem), hn⟩
      intro p hp
      rcases List.mem_append.mp hp with hp | hp
      · rcases List.mem_append.mp hp with hp | hp
        · refine inb p (List.mem_append_left _ (List.mem_append_left _ hp)) ?_
          simp only [List.mem_cons, List.not_mem_nil, or_false] at hp
          rcases hp with rfl | rfl | rfl | rfl
          · exact fun e => nlh (by rw [show lh = kq from e]; exact hkm)
          · exact fun e => nlsp (by rw [show lsp = kq from e]; exact hkm)
          · exact fun e => nln (by rw [show ln = kq from e]; exact hkm)
          · exact fun e => nlk (by rw [show lk = kq from e]; exact hkm)
        · rcases List.mem_append.mp hp with hp | hp
          · rcases hk2 p hp with e | ⟨e, e'⟩
            · exact .inl e
            · exact inb p (List.mem_append_left _ (List.mem_append_right _ (List.mem_append_left _ e))) e'
          · exact inb p (List.mem_append_left _ (List.mem_append_right _ (List.mem_append_right _ hp))) fun e => (hRL p hp).2 (by rw [e]; exact hkm)
      · exact inb p (List.mem_append_right _ hp) (oq p hp)
    k_steps
    refine Turned.mk ([(lh, lst vh nh), (lsp, lst vsp nsp), (ln, lst vn nn), (lk, lst (ks.map Value.ref) nk)] ++ (kl' ++ RL)) B D TT F N3 (fun p hp => List.mem_append_left _ hp) (fun p hp => List.mem_append_right _ hp) ⟨_, kl', nm_of _ (nms_cons rfl (nms_cons rfl (nms_cons rfl (nms_cons rfl (nms_cons rfl (nms_cons rfl (nms4 rfl rfl rfl rfl))))))), rfl, ?_⟩
    show KsR (c + i + 1) ks (pushAt (4 - H.length + i) (Nn.getD ((Pl ++ Pl).idxOf (H.getD i 0)) 0) (strike 0 Nn Pl H i Sx)) kl'
    rw [hHd, hIx, hNd]
    exact hk1
  case done =>
    rintro g m₁ news₁ h tk1 B D TT ⟨mx, kl', rfl, rfl, hks'⟩ F N
    have Xg := Xb.keeps B.stays
    have T : Top Mine.hd0.view_39 (looseW Mine.hd0.view_39 []) mean mg mb g := Tb.keeps B.stays
    replace F : Fr g L' h _ := F
    replace N : News g L' h _ := N
    show wpAny _ _ _ _ _ _
    k_steps
    rename (@LE.le Nat _ _ _) => hleU
    exact k g _ _ _ kl' hleU B D TT F N hks'
end
end
end
section
local macro_rules | `(tactic| walk_at "binaryOp Add ref ref") => `(tactic| refine stop ?_)
section
section
variable {w : World} {A : Around} {s : Shared} {outs : List Env} {mg mb : Str → Option Value} {mean : ExcName → Option Value} {Q : Flow → Shared → Prop} {E : Value → Shared → Prop}
theorem allLt_big {d : Nat} : ∀ {l : List (Addr × Obj)}, AllLt d l → ∀ p ∈ l, @LT.lt Nat _ p.1 d
  | [], _, _, h => nomatch h
  | _ :: _, x, p, h => (List.mem_cons.mp h).elim (fun e => e ▸ x.1) (fun h => allLt_big x.2 p h)
inductive SumJI (nms : List (Str × Value)) (Dd : Addr) (vals : List Int) (fixed : List (Addr × Obj)) (i : Nat) (m : Str → Option Value) (news : List (Addr × Obj)) : Prop
  | mk : ∀ mx ys n rt, m = nm (("sums", .ref Dd) :: ("running", .int ((vals.take i).foldl (· + ·) 0) rt) :: nms) mx → news = (Dd, lst ys n) :: fixed → IntsAre ys (sumsG (· + ·) 0 (vals.take i)) → SumJI nms Dd vals fixed i m news
noncomputable def SumJ (nms : List (Str × Value)) (Dd : Addr) (vals : List Int) (fixed : List (Addr × Obj)) (i : Nat) (m : Str → Option Value) (news : List (Addr × Obj)) (_ : Nat) : Prop := SumJI nms Dd vals fixed i m news
theorem seg7 {sc : Scope} {bd : List Stmt} (hsc : sc = scopeOf w.params 92) (hbd : bd = (tBody w.params).drop 15)
    {le lz lp ln lm lk td tp sa sb ld L' : Addr} {vp va vn : List Value} {np na nn nld nt : Nat} {Pl St Nn : List Int} {RL OW : List (Addr × Obj)} {oB oP oT oLd : Obj} {vB vT : Option Value} {τ : Nat → Int} {g h : Heap} {tk : Nat} {mx : Str → Option Value}
    (a : AmbW w mean mg mb A outs s.heap) (hd : A.depth + 2 < recursionLimit) (hu : A.units + 70 < cLine) (B : Below A (hideAll s.heap (fr outs)) outs g) (D : KtsDicts (fr outs) g) (TT : KtsTurn (fr outs) s.heap g)
    (hB : oB.data = .cell vB) (hP : oP.data = .cell (some (.ref lp))) (hT : oT.data = .cell vT) (hLd : oLd.data = .cell (some (.ref ld)))
    (F : Fr g L' h (nm [("ends", .ref le), ("sizes", .ref lz), ("numbers", .ref ln), ("marks", .ref lm), ("struck", .ref lk), ("told", .ref td), ("kept", .ref tp)] mx))
    (N : News g L' h (([(ln, lst vn nn), (ld, lst (vp ++ vp) nld), (lp, lst vp np), (sa, lst va na), (L' + 1, oB), (L' + 2, oP), (L' + 3, oT), (L' + 4, oLd)] ++ RL) ++ ((td, { cls := .type "tuple", data := .seq #[.ref sa, .ref sb] nt }) :: OW)))
    (hRL : ∀ p ∈ RL, IsLst p.2) (hOW : ∀ p ∈ OW, ¬ IsLst p.2)
    (ip : IntsAre vp Pl) (zp : Pl.length < 2 ^ 10) (ia : IntsAre va St) (zs1 : St.length < 2 ^ 10) (iN : IntsAre vn Nn) (zN : Nn.length = Pl.length) (hTp : Tk τ tk vp) (hva : ∀ v ∈ va, v ∈ vp) (hSt : ∀ p ∈ St, p ∈ Pl)
    {R : Shared → Prop} (hR : ∀ s', R s' → wpAny (model PG w) (A.deeper (envOfC "_law_struck" sc L' 92 (.ref 91))) (execs (bd.drop 3) (envOfC "_law_struck" sc L' 92 (.ref 91))) Q E s')
    (k : ∀ g h tk' mx Dd vs ns, tk ≤ tk' → Below A (hideAll s.heap (fr outs)) outs g → KtsDicts (fr outs) g → KtsTurn (fr outs) s.heap g → Fr g L' h (nm [("sums", .ref Dd), ("ends", .ref le), ("sizes", .ref lz), ("numbers", .ref ln), ("marks", .ref lm), ("struck", .ref lk), ("told", .ref td), ("kept", .ref tp)] mx) →
      News g L' h ((Dd, lst vs ns) :: (([(ln, lst vn nn), (ld, lst (vp ++ vp) nld), (lp, lst vp np), (sa, lst va na), (L' + 1, oB), (L' + 2, oP), (L' + 3, oT), (L' + 4, oLd)] ++ RL) ++ ((td, { cls := .type "tuple", data := .seq #[.ref sa, .ref sb] nt }) :: OW))) → IntsAre vs (nextN (· + ·) 0 Nn Pl St) → (∀ p ∈ RL, p.1 ≠ Dd) → R { s with heap := h, toks := tk' }) :
    wpAny (model PG w) (A.deeper (envOfC "_law_struck" sc L' 92 (.ref 91))) (execs bd (envOfC "_law_struck" sc L' 92 (.ref 91))) Q E { s with heap := h, toks := tk } := by
  have hh := a.hh
  obtain ⟨_, Xb, Tb⟩ := a.open
  conv at hsc => rhs; whnf
  conv at hbd => rhs; whnf
  subst hsc hbd
  have Xg := Xb.keeps B.stays
  have T : Top Mine.hd0.view_39 (looseW Mine.hd0.view_39 []) mean mg mb g := Tb.keeps B.stays
  have hd1 : ∀ env : Env, (A.deeper env).depth + 1 < recursionLimit := hd1_of hd
  have hd2 : ∀ env : Env, (A.deeper env).depth < recursionLimit := hd2_of hd
  have hu1 : ∀ env : Env, (A.deeper env).units + 64 < cLine := hu1_of hu
  refine piece 3 hR ?_
  simp only [List.take_succ_cons, List.take_zero]
  show wpAny _ _ _ _ _ _
  have lvp := ip.length
  have lva := ia.length
  have lvn := iN.length
  have svp : vp.toArray.size = Pl.length := by rw [List.size_toArray, lvp]
  obtain ⟨big, hbig⟩ : ∃ big, big = RL ++ ((td, { cls := .type "tuple", data := .seq #[.ref sa, .ref sb] nt }) :: OW) := ⟨_, rfl⟩
  replace N : News g L' h ((ln, lst vn nn) :: (ld, lst (vp ++ vp) nld) :: (lp, lst vp np) :: (sa, lst va na) :: (L' + 1, oB) :: (L' + 2, oP) :: (L' + 3, oT) :: (L' + 4, oLd) :: (RL ++ ((td, { cls := .type "tuple", data := .seq #[.ref sa, .ref sb] nt }) :: OW))) := N
  rw [← hbig] at N
  have Nt : News g L' h [(td, { cls := .type "tuple", data := .seq #[.ref sa, .ref sb] nt })] := fun p hp => N p (by rw [List.mem_singleton.mp hp, hbig]; repeat (first | exact List.mem_append_right _ List.mem_cons_self | apply List.mem_cons_of_mem))
  replace N := news_cons Nt N
  have obig : ∀ p ∈ big, @LT.lt Nat _ p.1 h.objs.size := fun p hp => Heap.lt_size (N p (by repeat (first | exact hp | apply List.mem_cons_of_mem))).1
  k_steps
  rename Fr _ _ _ _ => F
  rename News _ _ _ _ => N
  rename (_ < _ ∧ _) => hl1
  rename_i Dd _ _ _
  have hab := allLt_big hl1.2.2.2.2.2.2.2.2.2
  rw [hbig] at hab
  have oDd : ∀ p ∈ RL, p.1 ≠ Dd := fun p hp => Nat.ne_of_lt (hab p (List.mem_append_left _ hp))
  have hab2 := fun p hp => hab p (List.mem_append_right _ hp)
  have obD : ∀ p ∈ big, p.1 ≠ Dd := fun p hp => Nat.ne_of_lt (hab p (hbig ▸ hp))
  have nl1 : ∀ p ∈ [(ln, lst vn nn), (ld, lst (vp ++ vp) nld), (lp, lst vp np), (sa, lst va na), (L' + 1, oB), (L' + 2, oP), (L' + 3, oT), (L' + 4, oLd)], p.1 ≠ Dd := by
    obtain ⟨q1, q2, q3, q4, q5, q6, q7, q8, q9, _⟩ := hl1
    exact or_cons (X := fun p => p.1 ≠ Dd) (Nat.ne_of_lt q2) (or_cons (X := fun p => p.1 ≠ Dd) (Nat.ne_of_lt q3) (or_cons (X := fun p => p.1 ≠ Dd) (Nat.ne_of_lt q4) (or_cons (X := fun p => p.1 ≠ Dd) (Nat.ne_of_lt q5) (or_cons (X := fun p => p.1 ≠ Dd) (Nat.ne_of_lt q6) (or_cons (X := fun p => p.1 ≠ Dd) (Nat.ne_of_lt q7) (or_cons (X := fun p => p.1 ≠ Dd) (Nat.ne_of_lt q8) (or_cons (X := fun p => p.1 ≠ Dd) (Nat.ne_of_lt q9) (fun _ h => absurd h List.not_mem_nil))))))))
  have hmem : ∀ p, p ∈ [(ln, lst vn nn), (ld, lst (vp ++ vp) nld), (lp, lst vp np), (sa, lst va na), (L' + 1, oB), (L' + 2, oP), (L' + 3, oT), (L' + 4, oLd)] ∨ p ∈ RL → p ∈ (ln, lst vn nn) :: (ld, lst (vp ++ vp) nld) :: (lp, lst vp np) :: (sa, lst va na) :: (L' + 1, oB) :: (L' + 2, oP) :: (L' + 3, oT) :: (L' + 4, oLd) :: big := fun p hp => by
    rw [hbig]
    exact List.mem_append_left ((td, { cls := .type "tuple", data := .seq #[.ref sa, .ref sb] nt }) :: OW) (List.mem_append.mpr hp)
  refine Stop.go (wpAny_For ?_)
  k_steps
  rename Fr _ _ _ _ => F
  rename News _ _ _ _ => N
  obtain ⟨vals, hvals⟩ : ∃ vals : List Int, vals = St.map fun p => Nn.getD ((Pl ++ Pl).idxOf p) 0 := ⟨_, rfl⟩
  refine Stop.go (for_list (vs := va) (news := (Dd, lst [] 0) :: ([(ln, lst vn nn), (ld, lst (vp ++ vp) nld), (lp, lst vp np), (sa, lst va na), (L' + 1, oB), (L' + 2, oP), (L' + 3, oT), (L' + 4, oLd)] ++ RL)) (keep := (td, { cls := .type "tuple", data := .seq #[.ref sa, .ref sb] nt }) :: OW) (lst_at N (by k_mem) rfl ⟨_, rfl⟩) hh B D TT F ?hN ?hkeep (SumJ [("ends", .ref le), ("sizes", .ref lz), ("numbers", .ref ln), ("marks", .ref lm), ("struck", .ref lk), ("told", .ref td), ("kept", .ref tp)] Dd vals ([(ln, lst vn nn), (ld, lst (vp ++ vp) nld), (lp, lst vp np), (sa, lst va na), (L' + 1, oB), (L' + 2, oP), (L' + 3, oT), (L' + 4, oLd)] ++ RL))
    ⟨_, [], 0, _, nm_of _ (nms_cons rfl (nms_cons rfl (nms_cons rfl (nms_cons rfl (nms_cons rfl (nms4 rfl rfl rfl rfl)))))), rfl, .nil⟩ ?hJl (fun i m news tk tk' hJ _ => hJ) (.inr ⟨lst va na, ?hin⟩) ?turn ?done)
  case hN =>
    intro p hp
    have hp' : p ∈ (Dd, lst [] 0) :: (ln, lst vn nn) :: (ld, lst (vp ++ vp) nld) :: (lp, lst vp np) :: (sa, lst va na) :: (L' + 1, oB) :: (L' + 2, oP) :: (L' + 3, oT) :: (L' + 4, oLd) :: (RL ++ ((td, { cls := .type "tuple", data := .seq #[.ref sa, .ref sb] nt }) :: OW)) := hp
    rw [← hbig] at hp'
    refine N p ?_
    rcases List.mem_cons.mp hp' with rfl | hp'
    · k_mem
    · exact List.mem_cons_of_mem _ (List.mem_cons_of_mem _ hp')
  case hkeep =>
    intro p hp
    rcases List.mem_cons.mp hp with rfl | hp
    · exact fun x => by
        rcases x with x | ⟨v, x⟩
        · exact absurd (Value.type.inj x) (by decide)
        · cases x
    · exact hOW p hp
  case hJl =>
    rintro i m news tk ⟨mx, ys, n, rt, _, rfl, _⟩ p hp
    rcases List.mem_cons.mp hp with rfl | hp
    · exact isLst_lst
    rcases List.mem_append.mp hp with hp | hp
    · exact or_cons (X := fun p => IsLst p.2) isLst_lst (or_cons (X := fun p => IsLst p.2) isLst_lst (or_cons (X := fun p => IsLst p.2) isLst_lst (or_cons (X := fun p => IsLst p.2) isLst_lst (or_cons (X := fun p => IsLst p.2) (isLst_cell hB) (or_cons (X := fun p => IsLst p.2) (isLst_cell hP) (or_cons (X := fun p => IsLst p.2) (isLst_cell hT) (or_cons (X := fun p => IsLst p.2) (isLst_cell hLd) (fun _ h => absurd h List.not_mem_nil)))))))) p hp
    · exact hRL p hp
  case hin =>
    rintro i m news tk ⟨mx, ys, n, rt, _, rfl, _⟩
    exact List.mem_cons_of_mem _ (List.mem_append_left _ (by k_mem))
  case turn =>
    rintro i bs g m₁ news₁ own h tk1 hin ⟨v, hv, rfl⟩ B D TT ⟨mx, ys, n, rt, rfl, rfl, hys⟩ F N hown
    have Xg := Xb.keeps B.stays
    have T : Top Mine.hd0.view_39 (looseW Mine.hd0.view_39 []) mean mg mb g := Tb.keeps B.stays
    replace F : Fr g L' h _ := F
    have oD2 := own_off N (a := Dd) (o := lst ys n) (List.mem_append_left _ List.mem_cons_self) isLst_lst (fun p hp => List.mem_append_right _ hp) hown
    replace N : News g L' h ((Dd, lst ys n) :: (ln, lst vn nn) :: (ld, lst (vp ++ vp) nld) :: (lp, lst vp np) :: (sa, lst va na) :: (L' + 1, oB) :: (L' + 2, oP) :: (L' + 3, oT) :: (L' + 4, oLd) :: (RL ++ own)) := N
    have hil : i < St.length := by (first | lia | omega)
    obtain ⟨tp_, hp_⟩ := ia.get i St[i] (by simp [hil])
    rw [hp_] at hv; cases hv
    have hpm := hSt _ (List.getElem_mem hil)
    have hTm := hTp.sub (ws := [_]) (fun v hv => by rw [List.mem_singleton.mp hv]; exact hva _ (mem_get hp_))
    have hlt := idx_lt hpm
    obtain ⟨tv, hnv⟩ := iN.get ((Pl ++ Pl).idxOf St[i]) (Nn.getD ((Pl ++ Pl).idxOf St[i]) 0) (by simp [List.getD, zN, hlt])
    have hvi : vals[i]? = some (Nn.getD ((Pl ++ Pl).idxOf St[i]) 0) := by rw [hvals]; simp [hil]
    generalize St[i] = pl at *
    generalize Nn.getD ((Pl ++ Pl).idxOf pl) 0 = nv at *
    refine stores1 ?_
    k_steps
    rename Fr _ _ _ _ => F
    rename News _ _ _ _ => N
    refine Stop.go (call_use B D TT F N rfl (indexOf_found (lst_at N (by k_mem) rfl ⟨_, rfl⟩) (ints_app ip ip) (by rw [List.length_append]; (first | lia | omega)) ((hTp.app hTp).apart hTm) (List.mem_append_left _ hpm) (amb_in B D F Xb Tb hh rfl rfl) (hd2 _)) fun v g h tk3 hle3 B D TT F N new hk3 hpt => ?_)
    obtain ⟨kk, ts, hv, hx1, hx2⟩ := hpt
    subst hv
    have hkk := idx_eq hx1 hx2
    rw [← hkk] at hlt hnv
    have Xg := Xb.keeps B.stays
    have T : Top Mine.hd0.view_39 (looseW Mine.hd0.view_39 []) mean mg mb g := Tb.keeps B.stays
    k_steps
    rename Fr _ _ _ _ => F
    rename News _ _ _ _ => N
    refine Stop.go (call_use B D TT F N rfl (sub_c (amb_in B D F Xb Tb hh rfl rfl) (hd2 _)) fun v g h tk4 hle4 B D TT F N new hk4 hpt => ?_)
    obtain ⟨ts2, hv, _, _⟩ := hpt
    subst hv
    have Xg := Xb.keeps B.stays
    have T : Top Mine.hd0.view_39 (looseW Mine.hd0.view_39 []) mean mg mb g := Tb.keeps B.stays
    k_steps
    rename Fr _ _ _ _ => F
    rename News _ _ _ _ => N
    refine Stop.go (call_use B D TT F N rfl (getitem_c (v := .int nv tv) (lst_at N (by k_mem) rfl ⟨_, rfl⟩) (by (first | lia | omega)) (by unfold pyIdx; rw [if_neg (by (first | lia | omega)), if_pos (by (first | lia | omega))]; rw [show ((kk : Int) - (Pl.length : Int) + (vn.length : Int)).toNat = kk by (first | lia | omega)]; exact hnv) (amb_in B D F Xb Tb hh rfl rfl) (hd2 _)) fun v g h tk5 hle5 B D TT F N new hk5 hv => ?_)
    subst hv
    have Xg := Xb.keeps B.stays
    have T : Top Mine.hd0.view_39 (looseW Mine.hd0.view_39 []) mean mg mb g := Tb.keeps B.stays
    k_steps
    rename Fr _ _ _ _ => F
    rename News _ _ _ _ => N
    refine Stop.go (call_use B D TT F N rfl (add_c (amb_in B D F Xb Tb hh rfl rfl) (hd2 _)) fun v g h tk6 hle6 B D TT F N new hk6 hpt => ?_)
    obtain ⟨ts3, hv⟩ := hpt
    subst hv
    have Xg := Xb.keeps B.stays
    have T : Top Mine.hd0.view_39 (looseW Mine.hd0.view_39 []) mean mg mb g := Tb.keeps B.stays
    k_steps
    rename Fr _ _ _ _ => F
    rename News _ _ _ _ => N
    have lys := hys.length
    rw [sumsG_len, List.length_take] at lys
    have lvl : vals.length = St.length := by rw [hvals, List.length_map]
    refine Stop.go (append_sem (D := Dd) (ys := ys) (n := n) F N (by k_mem) (by (first | lia | omega)) fun n' h' F N2 => ?_)
    have N3 := N2 ((Dd, lst (ys ++ [.int ((vals.take i).foldl (· + ·) 0 + nv) ts3]) n') :: (([(ln, lst vn nn), (ld, lst (vp ++ vp) nld), (lp, lst vp np), (sa, lst va na), (L' + 1, oB), (L' + 2, oP), (L' + 3, oT), (L' + 4, oLd)] ++ RL) ++ own)) ?hN3
    case hN3 =>
      intro p hp
      rcases List.mem_cons.mp hp with rfl | hp
      · exact .inl rfl
      · refine .inr ⟨List.mem_cons_of_mem _ hp, ?_⟩
        rcases List.mem_append.mp hp with hp | hp
        · rcases List.mem_append.mp hp with hp | hp
          · exact nl1 p hp
          · exact oDd p hp
        · exact oD2 p hp
    k_steps
    refine Turned.mk ((Dd, lst (ys ++ [.int ((vals.take i).foldl (· + ·) 0 + nv) ts3]) n') :: ([(ln, lst vn nn), (ld, lst (vp ++ vp) nld), (lp, lst vp np), (sa, lst va na), (L' + 1, oB), (L' + 2, oP), (L' + 3, oT), (L' + 4, oLd)] ++ RL)) B D TT F N3 ?hs1 ?hs2 ⟨_, _, n', ts3, nm_of _ (nms_cons rfl (nms_cons ?hrun (nms_cons rfl (nms_cons rfl (nms_cons rfl (nms4 rfl rfl rfl rfl)))))), rfl, ?hsum⟩
    case hs1 => exact fun p hp => List.mem_append_left own hp
    case hs2 => exact fun p hp => List.mem_cons_of_mem _ (List.mem_append_right ([(ln, lst vn nn), (ld, lst (vp ++ vp) nld), (lp, lst vp np), (sa, lst va na), (L' + 1, oB), (L' + 2, oP), (L' + 3, oT), (L' + 4, oLd)] ++ RL) hp)
    case hrun =>
      rw [List.take_add_one, hvi, Option.toList_some, List.foldl_append]
      rfl
    case hsum =>
      rw [List.take_add_one, hvi, Option.toList_some, sumsG_snoc]
      exact ints_app hys (.cons _ _ .nil)
  case done =>
    rintro g m₁ news₁ h tk1 B D TT ⟨mx, ys, n, rt, rfl, rfl, hys⟩ F N
    have Xg := Xb.keeps B.stays
    have T : Top Mine.hd0.view_39 (looseW Mine.hd0.view_39 []) mean mg mb g := Tb.keeps B.stays
    replace F : Fr g L' h _ := F
    replace N : News g L' h _ := N
    have lvl : vals.length = va.length := by rw [hvals, List.length_map, lva]
    rw [← lvl, List.take_length, hvals] at hys
    show wpAny _ _ _ _ _ _
    k_steps
    rename (@LE.le Nat _ _ _) => hleU
    refine k g _ _ _ Dd ys n hleU B D TT (Fr_nm F _ (nms_cons rfl (nms_cons rfl (nms_cons rfl (nms_cons rfl (nms4 rfl rfl rfl rfl)))))) N hys oDd
end
end
section
section
variable {w : World} {A : Around} {s : Shared} {outs : List Env} {mg mb : Str → Option Value} {mean : ExcName → Option Value} {Q : Flow → Shared → Prop} {E : Value → Shared → Prop}
theorem seg8 {sc : Scope} {bd : List Stmt} (hsc : sc = scopeOf w.params 92) (hbd : bd = (tBody w.params).drop 18)
    {le lz lp ln lm lk td tp sa sb ka kb Dd L' : Addr} {va vk : List Value} {na nk nt nt2 : Nat} {H : List Int} {led : List (Addr × Obj)} {oB oP oT oLd : Obj} {beyond : Int} {tb : Tok} {vT vLd : Option Value} {τ : Nat → Int} {g h : Heap} {tk : Nat} {mx : Str → Option Value}
    (a : AmbW w mean mg mb A outs s.heap) (hd : A.depth + 2 < recursionLimit) (hu : A.units + 70 < cLine) (B : Below A (hideAll s.heap (fr outs)) outs g) (D : KtsDicts (fr outs) g) (TT : KtsTurn (fr outs) s.heap g)
    (hB : oB.data = .cell (some (.int beyond tb))) (hP : oP.data = .cell (some (.ref lp))) (hT : oT.data = .cell vT) (hLd : oLd.data = .cell vLd)
    (F : Fr g L' h (nm [("sums", .ref Dd), ("ends", .ref le), ("sizes", .ref lz), ("numbers", .ref ln), ("marks", .ref lm), ("struck", .ref lk), ("told", .ref td), ("kept", .ref tp)] mx))
    (N : News g L' h ((td, { cls := .type "tuple", data := .seq #[.ref sa, .ref sb] nt }) :: (tp, { cls := .type "tuple", data := .seq #[.ref ka, .ref kb] nt2 }) :: (sa, lst va na) :: (ka, lst vk nk) :: (L' + 1, oB) :: (L' + 2, oP) :: (L' + 3, oT) :: (L' + 4, oLd) :: led))
    (hledc : ∀ p ∈ led, p.1 ≠ L' + 2) (ik : IntsAre vk H) (lk1 : vk.length ≤ 12) (hTb : Tk τ tk [.int beyond tb]) (htk : 0 < tk)
    {R : Shared → Prop} (hR : ∀ s', R s' → wpAny (model PG w) (A.deeper (envOfC "_law_struck" sc L' 92 (.ref 91))) (execs (bd.drop 3) (envOfC "_law_struck" sc L' 92 (.ref 91))) Q E s')
    (k : ∀ g h tk' mx lm2 vm nm2 oP2 τ', tk ≤ tk' → Agree τ τ' tk → Below A (hideAll s.heap (fr outs)) outs g → KtsDicts (fr outs) g → KtsTurn (fr outs) s.heap g → Fr g L' h (nm [("ends", .ref le), ("sizes", .ref lz), ("numbers", .ref Dd), ("marks", .ref lm2), ("struck", .ref lk)] mx) →
      News g L' h ((lm2, lst vm nm2) :: (sa, lst va na) :: (L' + 1, oB) :: (L' + 2, oP2) :: (L' + 3, oT) :: (L' + 4, oLd) :: led) → oP2.data = .cell (some (.ref sa)) → IntsAre vm (H.map (fun x => x - 1) ++ [beyond]) → Tk τ' tk' vm → R { s with heap := h, toks := tk' }) :
    wpAny (model PG w) (A.deeper (envOfC "_law_struck" sc L' 92 (.ref 91))) (execs bd (envOfC "_law_struck" sc L' 92 (.ref 91))) Q E { s with heap := h, toks := tk } := by
  have hh := a.hh
  obtain ⟨_, Xb, Tb⟩ := a.open
  conv at hsc => rhs; whnf
  conv at hbd => rhs; whnf
  subst hsc hbd
  have Xg := Xb.keeps B.stays
  have T : Top Mine.hd0.view_39 (looseW Mine.hd0.view_39 []) mean mg mb g := Tb.keeps B.stays
  have hd1 : ∀ env : Env, (A.deeper env).depth + 1 < recursionLimit := hd1_of hd
  have hd2 : ∀ env : Env, (A.deeper env).depth < recursionLimit := hd2_of hd
  have hu1 : ∀ env : Env, (A.deeper env).units + 64 < cLine := hu1_of hu
  refine piece 3 hR ?_
  simp only [List.take_succ_cons, List.take_zero]
  show wpAny _ _ _ _ _ _
  obtain ⟨tk0, htk0⟩ : ∃ t, tk = t := ⟨_, rfl⟩
  refine piece 2 (R := fun s' => ∃ g h tk' mx oP2, tk ≤ tk' ∧ Below A (hideAll s.heap (fr outs)) outs g ∧ KtsDicts (fr outs) g ∧ KtsTurn (fr outs) s.heap g ∧ Fr g L' h (nm [("ends", .ref le), ("sizes", .ref lz), ("numbers", .ref Dd), ("marks", .ref lm), ("struck", .ref lk), ("told", .ref td), ("kept", .ref tp)] mx) ∧
    News g L' h ((td, { cls := .type "tuple", data := .seq #[.ref sa, .ref sb] nt }) :: (tp, { cls := .type "tuple", data := .seq #[.ref ka, .ref kb] nt2 }) :: (sa, lst va na) :: (ka, lst vk nk) :: (L' + 1, oB) :: (L' + 2, oP2) :: (L' + 3, oT) :: (L' + 4, oLd) :: led) ∧ oP2.data = .cell (some (.ref sa)) ∧ s' = { s with heap := h, toks := tk' }) ?second ?first
  case first =>
    simp only [List.take_succ_cons, List.take_zero]
    show wpAny _ _ _ _ _ _
    k_steps
    rename Fr _ _ _ _ => F
    rename News _ _ _ _ => N
    refine cell_sem (x := "places") (c := L' + 2) (oc := oP) F N (by k_mem) hP rfl rfl rfl fun h oP2 F hP2 N2 => ?_
    replace N2 := N2 ((td, { cls := .type "tuple", data := .seq #[.ref sa, .ref sb] nt }) :: (tp, { cls := .type "tuple", data := .seq #[.ref ka, .ref kb] nt2 }) :: (sa, lst va na) :: (ka, lst vk nk) :: (L' + 1, oB) :: (L' + 2, oP2) :: (L' + 3, oT) :: (L' + 4, oLd) :: led) ?hN
    case hN =>
      refine or_cons (keep_p N (by k_mem) (by k_mem) hP (by intro v e; cases e)) (or_cons (keep_p N (by k_mem) (by k_mem) hP (by intro v e; cases e)) (or_cons (keep_p N (by k_mem) (by k_mem) hP (by intro v e; cases e)) (or_cons (keep_p N (by k_mem) (by k_mem) hP (by intro v e; cases e)) (or_cons (keep_c (by k_mem) (by k_ne)) (or_cons (.inl rfl) (or_cons (keep_c (by k_mem) (by k_ne)) (or_cons (keep_c (by k_mem) (by k_ne)) (fun p hp => ?_))))))))
      exact keep_c (by repeat (first | exact hp | apply List.mem_cons_of_mem)) (hledc p hp)
    replace N := N2
    clear N2
    k_steps
    rename Fr _ _ _ _ => F
    rename News _ _ _ _ => N
    rename (@LE.le Nat _ _ _) => hleU
    exact ⟨g, _, _, _, oP2, hleU, B, D, TT, Fr_nm F _ (nms_cons rfl (nms_cons rfl (nms_cons rfl (nms4 rfl rfl rfl rfl)))), N, hP2, rfl⟩
  case second =>
  rintro s' ⟨g, h, tk2, mx, oP2, hle02, B, D, TT, F, N, hP2, rfl⟩
  rw [htk0] at hle02 k
  replace hTb : Tk τ tk0 [.int beyond tb] := htk0 ▸ hTb
  replace htk : 0 < tk0 := htk0 ▸ htk
  have Xg := Xb.keeps B.stays
  have T : Top Mine.hd0.view_39 (looseW Mine.hd0.view_39 []) mean mg mb g := Tb.keeps B.stays
  simp only [List.drop_succ_cons, List.drop_zero]
  show wpAny _ _ _ _ _ _
  k_steps
  refine Stop.go (comp_eval (hs := by intro _; rfl) (cl := []) (by rfl) rfl (by decide) ?_)
  refine wpAny_up ?_
  k_steps
  rename Fr _ _ _ _ => F
  rename News _ _ _ _ => N
  rename (@LE.le Nat _ _ _) => hleA
  refine Stop.go (comp_list (fs := L' :: fr outs) (vs := vk) (lst_at N (by k_mem) rfl ⟨_, rfl⟩) hh (by rw [sizeLine_eq]; (first | lia | omega)) (fun C D q ys h tkq => ∃ τ', Agree τ τ' tk0 ∧ tk0 ≤ tkq ∧ Tk τ' tkq ys ∧ IntsAre ys ((H.take q).map fun x => x - 1)) (by decide) rfl (fs_lt' D F) (lst_off (fs := []) D F N (by k_mem)) (fun _ _ _ _ _ _ _ => ⟨τ, .refl, ?hle0, .nil, .nil⟩) (fun _ _ _ _ _ _ _ _ _ ⟨τ', b1, b2, b3, b4⟩ _ hle _ => ⟨τ', b1, Nat.le_trans b2 hle, b3.le hle, b4⟩) ?turn ?fin)
  case hle0 => exact Nat.le_trans hle02 hleA
  case turn =>
    rintro C Dc q bs zz hA tk1 m1 fC fD ne hq ⟨v, hv, rfl⟩ ⟨τ', b1, b2, b3, b4⟩ hns hDd hk
    have hql : q < H.length := by rw [← ik.length]; exact hq
    obtain ⟨tm, hm⟩ := ik.get q H[q] (by simp [hql])
    rw [hm] at hv; cases hv
    have hHq : H[q]? = some H[q] := List.getElem?_eq_getElem hql
    generalize H[q] = mk at *
    refine turn1 rfl rfl hns fC hk fun hX tk2 hle hns2 hk2 hs2 => ?_
    refine wpAny_tests_nil ?_
    rw [if_pos rfl]
    obtain ⟨g', B', D', TT', F', N', _⟩ := after_kept (s := { s with heap := _, toks := 0 }) B D TT F N hk2
    have Xg := Xb.keeps B'.stays
    have T : Top Mine.hd0.view_39 (looseW Mine.hd0.view_39 []) mean mg mb g' := Tb.keeps B'.stays
    clear F N B D TT
    show wpAny _ _ _ _ _ _
    k_steps
    refine Stop.go (call_use B' D' TT' F' N' rfl (sub_c (amb_in B' D' F' Xb Tb hh rfl rfl) (hd2 _)) fun v g h tk3 hle3 B D TT F N new hk3 hpt => ?_)
    obtain ⟨ts, hv, lt1, lt2⟩ := hpt
    subst hv
    obtain ⟨τ2, c1, c2⟩ := b3.snoc2 (x := mk - 1) (u := ts) (Nat.lt_of_lt_of_le htk b2) (Nat.le_trans (Nat.le_trans hle (Nat.le_succ _)) lt1) lt2
    refine ⟨h, _, _, rfl, (keptX_same hs2).trans (.of_kept hk3), hk3.ns hns2, τ2, b1.trans c1 b2, Nat.le_trans b2 (Nat.le_trans (Nat.le_trans hle (Nat.le_trans (Nat.le_succ _) lt1)) (Nat.le_of_lt lt2)), c2, ?_⟩
    rw [List.take_add_one, hHq, Option.toList_some, List.map_append]
    exact ints_app b4 (.cons _ _ .nil)
  case fin =>
    refine fin_expr B D TT F N (fun _ _ _ _ _ _ e _ => e) fun g C Dc ys nn h tk1 fD off B D TT F N hk hpt => ?_
    obtain ⟨τ', b1, b2, b3, b4⟩ := hpt
    have Xg := Xb.keeps B.stays
    have T : Top Mine.hd0.view_39 (looseW Mine.hd0.view_39 []) mean mg mb g := Tb.keeps B.stays
    rw [ik.length, List.take_length] at b4
    have lys := b4.length
    rw [List.length_map] at lys
    show wpAny _ _ _ _ _ _
    refine wpAny_up ?_
    k_steps
    rename Fr _ _ _ _ => F
    rename News _ _ _ _ => N
    refine Stop.go (my_add (vs := ys) (ws := [.int beyond tb]) F N (lst_at N (by k_mem) rfl ⟨_, rfl⟩) (lst_at N (by k_mem) rfl ⟨_, rfl⟩) (by rw [sizeLine_eq, List.length_singleton]; have := ik.length; (first | lia | omega)) fun lm2 h F N offl => ?_)
    refine wpAny_up ?_
    k_steps
    rename Fr _ _ _ _ => F
    rename News _ _ _ _ => N
    rename (@LE.le Nat _ _ _) => hleU
    rename (tk1 ≤ _) => hleC
    revert hleC hleU
    rename (_ ≤ _) => hleB
    intro hleC hleU
    have c := hTb.mono (b1) b2
    refine k g _ _ _ lm2 _ 0 oP2 τ' ?hle9 b1 B D TT (Fr_nm F _ (nms_cons rfl (nms4 rfl rfl rfl rfl))) (news_sub N (sub_cons (by k_mem) (sub_cons (by k_mem) (sub_cons (by k_mem) (sub_cons (by k_mem) (sub_cons (by k_mem) (sub_cons (by k_mem) (fun p hp => ?_)))))))) hP2 (ints_app b4 (.cons _ _ .nil)) ((b3.app c).le ?hle8)
    case hle9 => exact Nat.le_trans b2 ?hle8
    case hle8 => exact Nat.le_trans hleB hleC
    repeat (first | exact hp | apply List.mem_cons_of_mem)
end
end
section
theorem KsR.off {c : Nat} {ks : List Addr} {S : List (List Int)} {kl led : List (Addr × Obj)} {x : Addr} (h : KsR c ks S kl) (hl : ∀ p ∈ kl, p ∈ led) (ho : ∀ p ∈ led, p.1 ≠ x) : x ∉ ks := fun hx => by
  obtain ⟨y, n, hm⟩ := h.has x hx
  exact ho _ (hl _ hm) rfl
theorem KsR.cell {c : Nat} {ks : List Addr} {S : List (List Int)} {kl led : List (Addr × Obj)} {x : Addr} {o : Obj} {v : Option Value} {g h : Heap} {L : Addr} (hK : KsR c ks S kl) (N : News g L h led) (hl : ∀ p ∈ kl, p ∈ led) (hx : (x, o) ∈ led) (hd : o.data = .cell v) : x ∉ ks := fun hm => by
  obtain ⟨y, n, hm⟩ := hK.has x hm
  have h1 := (N _ (hl _ hm)).1
  have h2 := (N _ hx).1
  rw [h1] at h2
  cases h2
  cases hd
theorem led_ne {g h : Heap} {L c : Addr} {led : List (Addr × Obj)} {oc : Obj} {v : Option Value} (N : News g L h led) (hc : (c, oc) ∈ led) (hd : oc.data = .cell v) {p : Addr × Obj} (hp : p ∈ led) (hn : ∀ v, p.2.data ≠ .cell v) : p.1 ≠ c := fun q => by
  have h1 := (N _ hp).1
  have h2 := (N _ hc).1
  rw [q, h2] at h1
  cases h1
  exact hn _ hd
theorem lst_nocell {ys : List Value} {n : Nat} : ∀ v, (lst ys n).data ≠ .cell v := fun v e => by cases e
theorem KsR.nocell {c : Nat} {ks : List Addr} {S : List (List Int)} {kl : List (Addr × Obj)} (h : KsR c ks S kl) : ∀ p ∈ kl, ∀ v, p.2.data ≠ .cell v := by
  induction h with
  | nil => exact fun _ h => nomatch h
  | cons i l r ih =>
    intro p h
    rcases List.mem_cons.mp h with rfl | h
    · exact lst_nocell
    · exact ih p h
theorem own_nocell {own : List (Addr × Obj)} (h : ∀ q ∈ own, ¬ IsLst q.2) : ∀ q ∈ own, ∀ v, q.2.data ≠ .cell v := fun q hq v e => h q hq (.inr ⟨v, e⟩)
section
variable {w : World} {A : Around} {s : Shared} {outs : List Env} {mg mb : Str → Option Value} {mean : ExcName → Option Value} {Q : Flow → Shared → Prop} {E : Value → Shared → Prop}
theorem turn_c {sc : Scope} (hsc : sc = scopeOf w.params 92)
    {le lz lp ln lm lk L' : Addr} {v1 v2 vp vn vm : List Value} {np nn nm_ nk c : Nat} {es zs Pl Kl Nn : List Int} {S : List (List Int)} {ks : List Addr} {kl own : List (Addr × Obj)} {t : Int} {tt tb : Tok} {beyond : Int} {oB oP oT oLd : Obj} {vLd : Option Value} {g h : Heap} {tk : Nat} {mx : Str → Option Value} {τ : Nat → Int}
    (a : AmbW w mean mg mb A outs s.heap) (hd : A.depth + 2 < recursionLimit) (hu : A.units + 70 < cLine) (B : Below A (hideAll s.heap (fr outs)) outs g) (D : KtsDicts (fr outs) g) (TT : KtsTurn (fr outs) s.heap g)
    (F : Fr g L' h (nm [("ends", .ref le), ("sizes", .ref lz), ("numbers", .ref ln), ("marks", .ref lm), ("struck", .ref lk)] mx))
    (N : News g L' h ((L' + 1, oB) :: (L' + 2, oP) :: (L' + 3, oT) :: (L' + 4, oLd) :: (lp, lst vp np) :: (ln, lst vn nn) :: (lm, lst vm nm_) :: (lk, lst (ks.map Value.ref) nk) :: (kl ++ own)))
    (hB : oB.data = .cell (some (.int beyond tb))) (hP : oP.data = .cell (some (.ref lp))) (hT : oT.data = .cell (some (.int t tt))) (hLd : oLd.data = .cell vLd)
    (h1 : s.heap.IsList le v1.toArray) (h2 : s.heap.IsList lz v2.toArray) (i1 : IntsAre v1 es) (i2 : IntsAre v2 zs) (z1 : es.length = 4) (z2 : zs.length = 4) (htk : 0 < tk)
    (ip : IntsAre vp Pl) (iN : IntsAre vn Nn) (im : IntsAre vm Kl) (zp : Pl.length < 2 ^ 10) (zm : Kl.length < 2 ^ 10) (zN : Nn.length = Pl.length) (hTp : Tk τ tk vp) (hTm : Tk τ tk vm) (hTb : Tk τ tk [.int beyond tb])
    (hks : KsR c ks S kl) (hnd : ks.Nodup) (lks : ks.length = 4) (hc : c ≤ 2 ^ 16) (nlp : lp ∉ ks) (nln : ln ∉ ks) (nlk : lk ∉ ks) (hown : ∀ p ∈ own, ¬ IsLst p.2)
    (hzs : ∀ z ∈ zs, 0 ≤ z ∧ z ≤ 16) (ht : 0 ≤ t ∧ t ≤ 16) (zst : (stayM es zs t).length < 2 ^ 10)
    (hC1 : sldM (Pl.flatMap fun x => List.replicate 2 x) (Kl.flatMap fun x => List.replicate 3 x) = (stayM es zs t, gone3M es zs t ++ [beyond, beyond, beyond]))
    (hC2 : sldM (Kl.flatMap fun x => List.replicate 3 x) (Pl.flatMap fun x => List.replicate 2 x) = (gone3M es zs t ++ [beyond, beyond, beyond], stayM es zs t)) (hC3 : sldM Kl (gone3M es zs t ++ [beyond, beyond, beyond]) = (hereM es zs t, []))
    (hC4 : ∀ m ∈ gone3M es zs t ++ [beyond], m ∉ Pl ++ Pl) (hC5 : ∀ m ∈ hereM es zs t, m ∈ Pl ++ Pl)
    (hC6 : ((hereM es zs t).map fun m => (((Pl ++ Pl).idxOf m : Nat) : Int)) = (hereM es zs t).map fun m => (((Pl.filter fun p => decide (p < m)).length : Nat) : Int)) (hSt : ∀ p ∈ stayM es zs t, p ∈ Pl)
    {R : Shared → Prop} (hR : ∀ s', R s' → wpAny (model PG w) (A.deeper (envOfC "_law_struck" sc L' 92 (.ref 91))) (execs ((tBody w.params).drop 21) (envOfC "_law_struck" sc L' 92 (.ref 91))) Q E s')
    (k : ∀ g h tk' mx lp' vp' np' ln' vn' nn' lm' vm' nm' oP' oLd' ld' kl' τ', tk ≤ tk' → Below A (hideAll s.heap (fr outs)) outs g → KtsDicts (fr outs) g → KtsTurn (fr outs) s.heap g →
      Fr g L' h (nm [("ends", .ref le), ("sizes", .ref lz), ("numbers", .ref ln'), ("marks", .ref lm'), ("struck", .ref lk)] mx) →
      News g L' h ((L' + 1, oB) :: (L' + 2, oP') :: (L' + 3, oT) :: (L' + 4, oLd') :: (lp', lst vp' np') :: (ln', lst vn' nn') :: (lm', lst vm' nm') :: (lk, lst (ks.map Value.ref) nk) :: (kl' ++ own)) →
      oP'.data = .cell (some (.ref lp')) → oLd'.data = .cell (some (.ref ld')) → IntsAre vp' (stayM es zs t) → IntsAre vn' (nextN (· + ·) 0 Nn Pl (stayM es zs t)) → IntsAre vm' ((hereM es zs t).map (fun x => x - 1) ++ [beyond]) →
      Tk τ' tk' vp' → Tk τ' tk' vm' → Tk τ' tk' [.int beyond tb] → KsR (c + 4) ks (strike 0 Nn Pl (hereM es zs t) (hereM es zs t).length S) kl' → lp' ∉ ks → ln' ∉ ks → R { s with heap := h, toks := tk' }) :
    wpAny (model PG w) (A.deeper (envOfC "_law_struck" sc L' 92 (.ref 91))) (execs (tBody w.params) (envOfC "_law_struck" sc L' 92 (.ref 91))) Q E { s with heap := h, toks := tk } := by
  have lh4 : (hereM es zs t).length ≤ 4 := by have := hereM_len (es := es) (zs := zs) (t := t); (first | lia | omega)
  have kled : ∀ p ∈ kl, p ∈ (lp, lst vp np) :: (ln, lst vn nn) :: (lm, lst vm nm_) :: (lk, lst (ks.map Value.ref) nk) :: (kl ++ own) := fun p hp => List.mem_cons_of_mem _ (List.mem_cons_of_mem _ (List.mem_cons_of_mem _ (List.mem_cons_of_mem _ (List.mem_append_left _ hp))))
  have oled : ∀ p ∈ own, p ∈ (lp, lst vp np) :: (ln, lst vn nn) :: (lm, lst vm nm_) :: (lk, lst (ks.map Value.ref) nk) :: (kl ++ own) := fun p hp => List.mem_cons_of_mem _ (List.mem_cons_of_mem _ (List.mem_cons_of_mem _ (List.mem_cons_of_mem _ (List.mem_append_right _ hp))))
  have nc : ∀ p ∈ (lp, lst vp np) :: (ln, lst vn nn) :: (lm, lst vm nm_) :: (lk, lst (ks.map Value.ref) nk) :: (kl ++ own), ∀ v, p.2.data ≠ .cell v := by
    intro p hp
    simp only [List.mem_cons, List.mem_append] at hp
    rcases hp with rfl | rfl | rfl | rfl | hp | hp
    · exact lst_nocell
    · exact lst_nocell
    · exact lst_nocell
    · exact lst_nocell
    · exact hks.nocell p hp
    · exact own_nocell hown p hp
  obtain ⟨led, hled⟩ : ∃ led, led = (lp, lst vp np) :: (ln, lst vn nn) :: (lm, lst vm nm_) :: (lk, lst (ks.map Value.ref) nk) :: (kl ++ own) := ⟨_, rfl⟩
  rw [← hled] at N kled oled nc
  have mlp : (lp, lst vp np) ∈ led := by rw [hled]; k_mem
  have mln : (ln, lst vn nn) ∈ led := by rw [hled]; k_mem
  have mlm : (lm, lst vm nm_) ∈ led := by rw [hled]; k_mem
  have mlk : (lk, lst (ks.map Value.ref) nk) ∈ led := by rw [hled]; k_mem
  have xc1 := hks.cell N (fun p hp => by have := kled p hp; repeat (first | exact this | apply List.mem_cons_of_mem)) (x := L' + 1) (by k_mem) hB
  have xc2 := hks.cell N (fun p hp => by have := kled p hp; repeat (first | exact this | apply List.mem_cons_of_mem)) (x := L' + 2) (by k_mem) hP
  have xc3 := hks.cell N (fun p hp => by have := kled p hp; repeat (first | exact this | apply List.mem_cons_of_mem)) (x := L' + 3) (by k_mem) hT
  have xc4 := hks.cell N (fun p hp => by have := kled p hp; repeat (first | exact this | apply List.mem_cons_of_mem)) (x := L' + 4) (by k_mem) hLd
  refine seg1 (τ := τ) hsc rfl a hd B D TT F N hB hP hT hLd h1 h2 i1 i2 z1 z2 htk (R := fun s' => wpAny (model PG w) (A.deeper (envOfC "_law_struck" sc L' 92 (.ref 91))) (execs ((tBody w.params).drop 3) (envOfC "_law_struck" sc L' 92 (.ref 91))) Q E s') (fun s' h => h) fun g h tk1 mx lg vg ng lh vh nh τ1 hle1 ag1 B D TT F N ig ih hTg olh => ?_
  refine seg2 hsc rfl a hd hu B D TT hB hP hT hLd h1 h2 i1 i2 z1 z2 (Nat.lt_of_lt_of_le htk hle1) F N ig mlp mlm ip im zp zm hzs ht hC1 (R := fun s' => wpAny (model PG w) (A.deeper (envOfC "_law_struck" sc L' 92 (.ref 91))) (execs ((tBody w.params).drop 7) (envOfC "_law_struck" sc L' 92 (.ref 91))) Q E s') (fun s' h => by rw [List.drop_drop]; exact h) fun g h tk2 mx td sa sb nt va na vb nb l2 n2 l3 n3 hle2 B D TT F N ia ib qa qb osa => ?_
  refine seg3 hsc rfl a hd hu B D TT hB hP hT hLd h1 h2 i1 i2 z1 z2 (Nat.lt_of_lt_of_le htk (Nat.le_trans hle1 hle2)) F N ig ih ia ib mlp mlm (fun p hp => led_ne N (by k_mem) hLd (by repeat (first | exact hp | apply List.mem_cons_of_mem)) (nc p hp)) ip im zp zm hC2 hC3 (R := fun s' => wpAny (model PG w) (A.deeper (envOfC "_law_struck" sc L' 92 (.ref 91))) (execs ((tBody w.params).drop 11) (envOfC "_law_struck" sc L' 92 (.ref 91))) Q E s') (fun s' h => by rw [List.drop_drop]; exact h) fun g h tk3 mx tp ka kb nt2 vk nk_ ld nld oLd' hle3 B D TT F N hLd' ik qk oka old => ?_
  have le13 : tk ≤ tk3 := Nat.le_trans hle1 (Nat.le_trans hle2 hle3)
  have hTp1 : Tk τ1 tk3 vp := hTp.mono ag1 le13
  have hTk1 : Tk τ1 tk3 vk := (hTm.sub qk).mono ag1 le13
  have hTb1 : Tk τ1 tk3 [.int beyond tb] := hTb.mono ag1 le13
  replace N := news_sub N (l' := (tp, { cls := .type "tuple", data := .seq #[.ref ka, .ref kb] nt2 }) :: (ka, lst vk nk_) :: (ld, lst (vp ++ vp) nld) :: (lg, lst vg ng) :: (L' + 1, oB) :: (L' + 2, oP) :: (L' + 3, oT) :: (L' + 4, oLd') :: (td, { cls := .type "tuple", data := .seq #[.ref sa, .ref sb] nt }) :: (sa, lst va na) :: (lh, lst vh nh) :: led) (sub_cons (by k_mem) (sub_cons (by k_mem) (sub_cons (by k_mem) (sub_cons (by k_mem) (sub_cons (by k_mem) (sub_cons (by k_mem) (sub_cons (by k_mem) (sub_cons (by k_mem) (sub_cons (by k_mem) (sub_cons (by k_mem) (sub_cons (by k_mem) (fun p hp => by repeat (first | exact hp | apply List.mem_cons_of_mem)))))))))))))
  refine seg4 (nms := []) (np := 0) hsc rfl a hd hu B D TT hB hP hT hLd' h1 h2 i1 i2 z1 z2 (Nat.lt_of_lt_of_le htk le13) F N ig (by rw [ig.length]; have := gone3M_len (es := es) (zs := zs) (t := t); (first | lia | omega)) ik (by rw [ik.length]; (first | lia | omega)) ip zp hTp1 hTk1 (hTg.le (Nat.le_trans hle2 hle3)) hTb1 hC4 hC5 (R := fun s' => wpAny (model PG w) (A.deeper (envOfC "_law_struck" sc L' 92 (.ref 91))) (execs ((tBody w.params).drop 13) (envOfC "_law_struck" sc L' 92 (.ref 91))) Q E s') (fun s' h => by rw [List.drop_drop]; exact h) fun g h tk4 mx lsp vsp nsp hle4 B D TT F N isp olsp => ?_
  replace N := news_sub N (l' := (lsp, lst vsp nsp) :: (lh, lst vh nh) :: (L' + 1, oB) :: (L' + 2, oP) :: (L' + 3, oT) :: (L' + 4, oLd') :: (tp, { cls := .type "tuple", data := .seq #[.ref ka, .ref kb] nt2 }) :: (td, { cls := .type "tuple", data := .seq #[.ref sa, .ref sb] nt }) :: (ka, lst vk nk_) :: (ld, lst (vp ++ vp) nld) :: (sa, lst va na) :: led) (sub_cons (by k_mem) (sub_cons (by k_mem) (sub_cons (by k_mem) (sub_cons (by k_mem) (sub_cons (by k_mem) (sub_cons (by k_mem) (sub_cons (by k_mem) (sub_cons (by k_mem) (sub_cons (by k_mem) (sub_cons (by k_mem) (sub_cons (by k_mem) (fun p hp => by repeat (first | exact hp | apply List.mem_cons_of_mem)))))))))))))
  have hX6 := hC6
  refine seg5 hsc rfl a hd hu B D TT hB hP hT hLd' h1 h2 i1 i2 z1 z2 (Nat.lt_of_lt_of_le htk (Nat.le_trans le13 hle4)) F N isp ih (by rw [ih.length]; (first | lia | omega)) ip zp (by repeat (first | exact mlp | apply List.mem_cons_of_mem)) hC6 (R := fun s' => wpAny (model PG w) (A.deeper (envOfC "_law_struck" sc L' 92 (.ref 91))) (execs ((tBody w.params).drop 14) (envOfC "_law_struck" sc L' 92 (.ref 91))) Q E s') (fun s' h => by rw [List.drop_drop]; exact h) fun g h tk5 mx hle5 B D TT F N => ?_
  have le15 : tk ≤ tk5 := Nat.le_trans le13 (Nat.le_trans hle4 hle5)
  have xlh : lh ∉ ks := hks.off kled olh
  have xsa : sa ∉ ks := hks.off kled osa
  have xka : ka ∉ ks := hks.off kled oka
  have xld : ld ∉ ks := hks.off kled old
  have xlsp : lsp ∉ ks := hks.off (fun p hp => List.mem_cons_of_mem _ (List.mem_cons_of_mem _ (List.mem_cons_of_mem _ (kled p hp)))) olsp
  obtain ⟨RL, hRL⟩ : ∃ RL : List (Addr × Obj), RL = [(lp, lst vp np), (sa, lst va na), (ka, lst vk nk_), (ld, lst (vp ++ vp) nld), (L' + 1, oB), (L' + 2, oP), (L' + 3, oT), (L' + 4, oLd')] := ⟨_, rfl⟩
  have N6 : News g L' h (((lh, lst vh nh) :: (lsp, lst vsp nsp) :: (ln, lst vn nn) :: (lk, lst (ks.map Value.ref) nk) :: (kl ++ RL)) ++ ((td, { cls := .type "tuple", data := .seq #[.ref sa, .ref sb] nt }) :: (tp, { cls := .type "tuple", data := .seq #[.ref ka, .ref kb] nt2 }) :: own)) := by
    intro p hp
    refine N p ?_
    simp only [List.cons_append, List.append_assoc, List.mem_cons, List.mem_append] at hp
    rcases hp with rfl | rfl | rfl | rfl | hp | hp | rfl | rfl | hp
    · k_mem
    · k_mem
    · repeat (first | exact mln | apply List.mem_cons_of_mem)
    · repeat (first | exact mlk | apply List.mem_cons_of_mem)
    · have := kled p hp; repeat (first | exact this | apply List.mem_cons_of_mem)
    · rw [hRL] at hp
      simp only [List.mem_cons, List.not_mem_nil, or_false] at hp
      rcases hp with rfl | rfl | rfl | rfl | rfl | rfl | rfl | rfl
      · repeat (first | exact mlp | apply List.mem_cons_of_mem)
      all_goals k_mem
    · k_mem
    · k_mem
    · have := oled p hp; repeat (first | exact this | apply List.mem_cons_of_mem)
  have notT : ∀ (x y : Addr) n, ¬ IsLst ({ cls := .type "tuple", data := .seq #[.ref x, .ref y] n } : Obj) := fun x y n z => by
    rcases z with z | ⟨v, z⟩
    · exact absurd (Value.type.inj z) (by decide)
    · cases z
  have zH : ∀ m ∈ hereM es zs t, (Pl ++ Pl).idxOf m < Nn.length := fun m hm => by
    rw [zN]
    have := hC5 m hm
    rw [List.mem_append, or_self] at this
    exact idx_lt this
  clear N
  refine seg6 hsc rfl a hd hu B D TT h1 i1 z1 F N6 ?r1 ?r2 xlh xlsp nln nlk hks hnd lks hc ih lh4 isp iN (by (first | lia | omega)) zH (R := fun s' => wpAny (model PG w) (A.deeper (envOfC "_law_struck" sc L' 92 (.ref 91))) (execs ((tBody w.params).drop 15) (envOfC "_law_struck" sc L' 92 (.ref 91))) Q E s') (fun s' h => by rw [List.drop_drop]; exact h) fun g h tk6 mx kl' hle6 B D TT F N hks' => ?_
  case r1 =>
    intro p hp
    rw [hRL] at hp
    simp only [List.mem_cons, List.not_mem_nil, or_false] at hp
    rcases hp with rfl | rfl | rfl | rfl | rfl | rfl | rfl | rfl
    · exact ⟨isLst_lst, nlp⟩
    · exact ⟨isLst_lst, xsa⟩
    · exact ⟨isLst_lst, xka⟩
    · exact ⟨isLst_lst, xld⟩
    · exact ⟨isLst_cell hB, xc1⟩
    · exact ⟨isLst_cell hP, xc2⟩
    · exact ⟨isLst_cell hT, xc3⟩
    · exact ⟨isLst_cell hLd', xc4⟩
  case r2 =>
    intro p hp
    rcases List.mem_cons.mp hp with rfl | hp
    · exact notT _ _ _
    rcases List.mem_cons.mp hp with rfl | hp
    · exact notT _ _ _
    exact hown p hp
  obtain ⟨lg7, h7⟩ : ∃ lg7 : List (Addr × Obj), lg7 = ((lh, lst vh nh) :: (lsp, lst vsp nsp) :: (ln, lst vn nn) :: (lk, lst (ks.map Value.ref) nk) :: (kl' ++ RL)) ++ ((td, { cls := .type "tuple", data := .seq #[.ref sa, .ref sb] nt }) :: (tp, { cls := .type "tuple", data := .seq #[.ref ka, .ref kb] nt2 }) :: own) := ⟨_, rfl⟩
  rw [← h7] at N
  have a1 : ∀ p ∈ [(lp, lst vp np), (sa, lst va na), (ka, lst vk nk_), (ld, lst (vp ++ vp) nld), (L' + 1, oB), (L' + 2, oP), (L' + 3, oT), (L' + 4, oLd')], p ∈ lg7 := fun p hp => by
    rw [h7]
    rw [← hRL] at hp
    exact List.mem_append_left _ (List.mem_cons_of_mem _ (List.mem_cons_of_mem _ (List.mem_cons_of_mem _ (List.mem_cons_of_mem _ (List.mem_append_right _ hp)))))
  have a2 : ∀ p ∈ kl', p ∈ lg7 := fun p hp => by
    rw [h7]
    exact List.mem_append_left _ (List.mem_cons_of_mem _ (List.mem_cons_of_mem _ (List.mem_cons_of_mem _ (List.mem_cons_of_mem _ (List.mem_append_left _ hp)))))
  have a3 : ∀ p ∈ (td, { cls := .type "tuple", data := .seq #[.ref sa, .ref sb] nt }) :: (tp, { cls := .type "tuple", data := .seq #[.ref ka, .ref kb] nt2 }) :: own, p ∈ lg7 := fun p hp => by
    rw [h7]
    exact List.mem_append_right _ hp
  have a4 : (ln, lst vn nn) ∈ lg7 := by rw [h7]; exact List.mem_append_left _ (by k_mem)
  have a5 : (lk, lst (ks.map Value.ref) nk) ∈ lg7 := by rw [h7]; exact List.mem_append_left _ (by k_mem)
  have N7 : News g L' h (([(ln, lst vn nn), (ld, lst (vp ++ vp) nld), (lp, lst vp np), (sa, lst va na), (L' + 1, oB), (L' + 2, oP), (L' + 3, oT), (L' + 4, oLd')] ++ ((ka, lst vk nk_) :: (lk, lst (ks.map Value.ref) nk) :: kl')) ++ ((td, { cls := .type "tuple", data := .seq #[.ref sa, .ref sb] nt }) :: (tp, { cls := .type "tuple", data := .seq #[.ref ka, .ref kb] nt2 }) :: own)) :=
    news_sub N (sub_cons a4 (sub_cons (a1 _ (by k_mem)) (sub_cons (a1 _ (by k_mem)) (sub_cons (a1 _ (by k_mem)) (sub_cons (a1 _ (by k_mem)) (sub_cons (a1 _ (by k_mem)) (sub_cons (a1 _ (by k_mem)) (sub_cons (a1 _ (by k_mem)) (sub_cons (a1 _ (by k_mem)) (sub_cons a5 (fun p hp => (List.mem_append.mp hp).elim (a2 p) (a3 p))))))))))))
  have lSt : ∀ v ∈ va, v ∈ vp := qa
  clear N
  refine seg7 hsc rfl a hd hu B D TT hB hP hT hLd' (Fr_nm F _ (nms_cons rfl (nms_cons rfl (nms_cons rfl (nms4 rfl rfl rfl rfl))))) N7 ?r3 ?r4 ip zp ia zst iN zN (hTp.mono ag1 (Nat.le_trans le15 hle6)) qa hSt (R := fun s' => wpAny (model PG w) (A.deeper (envOfC "_law_struck" sc L' 92 (.ref 91))) (execs ((tBody w.params).drop 18) (envOfC "_law_struck" sc L' 92 (.ref 91))) Q E s') (fun s' h => by rw [List.drop_drop]; exact h) fun g h tk7 mx Dd vs ns hle7 B D TT F N iN' oDd => ?_
  case r3 =>
    intro p hp
    rcases List.mem_cons.mp hp with rfl | hp
    · exact isLst_lst
    rcases List.mem_cons.mp hp with rfl | hp
    · exact isLst_lst
    exact (hks'.addr p hp).2
  case r4 =>
    intro p hp
    rcases List.mem_cons.mp hp with rfl | hp
    · exact notT _ _ _
    exact hown p hp
  have N8 : News g L' h ((td, { cls := .type "tuple", data := .seq #[.ref sa, .ref sb] nt }) :: (tp, { cls := .type "tuple", data := .seq #[.ref ka, .ref kb] nt2 }) :: (sa, lst va na) :: (ka, lst vk nk_) :: (L' + 1, oB) :: (L' + 2, oP) :: (L' + 3, oT) :: (L' + 4, oLd') :: (Dd, lst vs ns) :: (lk, lst (ks.map Value.ref) nk) :: (kl' ++ own)) := by
    have b1 : ∀ p ∈ (td, { cls := .type "tuple", data := .seq #[.ref sa, .ref sb] nt }) :: (tp, { cls := .type "tuple", data := .seq #[.ref ka, .ref kb] nt2 }) :: own, p ∈ (Dd, lst vs ns) :: (([(ln, lst vn nn), (ld, lst (vp ++ vp) nld), (lp, lst vp np), (sa, lst va na), (L' + 1, oB), (L' + 2, oP), (L' + 3, oT), (L' + 4, oLd')] ++ ((ka, lst vk nk_) :: (lk, lst (ks.map Value.ref) nk) :: kl')) ++ ((td, { cls := .type "tuple", data := .seq #[.ref sa, .ref sb] nt }) :: (tp, { cls := .type "tuple", data := .seq #[.ref ka, .ref kb] nt2 }) :: own)) := fun p hp => List.mem_cons_of_mem _ (List.mem_append_right _ hp)
    have b2 : ∀ p ∈ (ka, lst vk nk_) :: (lk, lst (ks.map Value.ref) nk) :: kl', p ∈ (Dd, lst vs ns) :: (([(ln, lst vn nn), (ld, lst (vp ++ vp) nld), (lp, lst vp np), (sa, lst va na), (L' + 1, oB), (L' + 2, oP), (L' + 3, oT), (L' + 4, oLd')] ++ ((ka, lst vk nk_) :: (lk, lst (ks.map Value.ref) nk) :: kl')) ++ ((td, { cls := .type "tuple", data := .seq #[.ref sa, .ref sb] nt }) :: (tp, { cls := .type "tuple", data := .seq #[.ref ka, .ref kb] nt2 }) :: own)) := fun p hp => List.mem_cons_of_mem _ (List.mem_append_left _ (List.mem_append_right _ hp))
    have b3 : ∀ p ∈ [(ln, lst vn nn), (ld, lst (vp ++ vp) nld), (lp, lst vp np), (sa, lst va na), (L' + 1, oB), (L' + 2, oP), (L' + 3, oT), (L' + 4, oLd')], p ∈ (Dd, lst vs ns) :: (([(ln, lst vn nn), (ld, lst (vp ++ vp) nld), (lp, lst vp np), (sa, lst va na), (L' + 1, oB), (L' + 2, oP), (L' + 3, oT), (L' + 4, oLd')] ++ ((ka, lst vk nk_) :: (lk, lst (ks.map Value.ref) nk) :: kl')) ++ ((td, { cls := .type "tuple", data := .seq #[.ref sa, .ref sb] nt }) :: (tp, { cls := .type "tuple", data := .seq #[.ref ka, .ref kb] nt2 }) :: own)) := fun p hp => List.mem_cons_of_mem _ (List.mem_append_left _ (List.mem_append_left _ hp))
    exact news_sub N (sub_cons (b1 _ (by k_mem)) (sub_cons (b1 _ (by k_mem)) (sub_cons (b3 _ (by k_mem)) (sub_cons (b2 _ (by k_mem)) (sub_cons (b3 _ (by k_mem)) (sub_cons (b3 _ (by k_mem)) (sub_cons (b3 _ (by k_mem)) (sub_cons (b3 _ (by k_mem)) (sub_cons List.mem_cons_self (sub_cons (b2 _ (by k_mem)) (fun p hp => (List.mem_append.mp hp).elim (fun h => b2 p (List.mem_cons_of_mem _ (List.mem_cons_of_mem _ h))) (fun h => b1 p (List.mem_cons_of_mem _ (List.mem_cons_of_mem _ h))))))))))))))
  have le17 : tk ≤ tk7 := Nat.le_trans le15 (Nat.le_trans hle6 hle7)
  have xDd : Dd ∉ ks := hks'.off (fun p hp => List.mem_cons_of_mem _ (List.mem_cons_of_mem _ hp)) oDd
  clear N
  refine seg8 (τ := τ1) hsc rfl a hd hu B D TT hB hP hT hLd' (Fr_nm F _ (nms_cons rfl (nms_cons rfl (nms_cons rfl (nms_cons rfl (nms4 rfl rfl rfl rfl)))))) N8 ?r5 ik (by rw [ik.length]; (first | lia | omega)) (hTb.mono ag1 le17) (Nat.lt_of_lt_of_le htk le17) (R := R) (fun s' h => by rw [List.drop_drop]; exact hR s' h) fun g h tk8 mx lm2 vm2 nm2 oP2 τ2 hle8 ag2 B D TT F N hP2 im2 hTm2 => ?_
  case r5 =>
    intro p hp
    refine led_ne N8 (by k_mem) hP (by repeat (first | exact hp | apply List.mem_cons_of_mem)) ?_
    simp only [List.mem_cons, List.mem_append] at hp
    rcases hp with rfl | rfl | hp | hp
    · exact lst_nocell
    · exact lst_nocell
    · exact hks'.nocell p hp
    · exact own_nocell hown p hp
  have le78 : tk7 ≤ tk8 := hle8
  refine k g h tk8 mx sa va na Dd vs ns lm2 vm2 nm2 oP2 oLd' ld kl' τ2 (Nat.le_trans le17 le78) B D TT F (news_sub N (sub_cons (by k_mem) (sub_cons (by k_mem) (sub_cons (by k_mem) (sub_cons (by k_mem) (sub_cons (by k_mem) (sub_cons (by k_mem) (sub_cons (by k_mem) (sub_cons (by k_mem) (fun p hp => by repeat (first | exact hp | apply List.mem_cons_of_mem))))))))))) hP2 hLd' ia iN' im2 (((hTp.sub qa).mono ag1 le17).mono ag2 le78) hTm2 ((hTb.mono ag1 le17).mono ag2 le78) (hks'.le (by (first | lia | omega))) xsa xDd
end
end
end
section
local macro_rules | `(tactic| walk_at "subscriptTail") => `(tactic| refine stop ?_)
local macro_rules | `(tactic| walk_at "no such step") => `(tactic| skip)
section
section
variable {w : World} {A : Around} {s : Shared} {outs : List Env} {mg mb : Str → Option Value} {mean : ExcName → Option Value} {Q : Flow → Shared → Prop} {E : Value → Shared → Prop}
theorem numsG_len {α : Type} {add : α → α → α} {z r0 st : α} {es zs : List Int} : ∀ {t : Nat}, (numsG add z r0 st es zs t).length = (placesAt es zs t).length
  | 0 => by
    show (sumsG add r0 (List.replicate zs.sum.toNat st)).length = _
    rw [sumsG_len, List.length_replicate]
    show _ = ((List.range zs.sum.toNat).map _).length
    rw [List.length_map, List.length_range]
  | t + 1 => by
    show (sumsG add z _).length = _
    rw [sumsG_len, List.length_map]
    rfl
theorem marksAt_len {es zs : List Int} (z1 : es.length = 4) : ∀ {t : Nat}, (marksAt es zs t).length ≤ 5
  | 0 => by
    show (es ++ [_]).length ≤ 5
    rw [List.length_append, z1]; exact Nat.le_refl _
  | t + 1 => by
    show ((hereM es zs (t : Int)).map _ ++ [_]).length ≤ 5
    rw [List.length_append, List.length_map, List.length_singleton]
    have := hereM_len (es := es) (zs := zs) (t := (t : Int))
    (first | lia | omega)
structure OkT (es zs : List Int) (t : Nat) : Prop where
  c1 : sldM ((placesAt es zs t).flatMap fun x => List.replicate 2 x) ((marksAt es zs t).flatMap fun x => List.replicate 3 x) = (stayM es zs (t : Int), gone3M es zs (t : Int) ++ [es.getLastD 0 + 1, es.getLastD 0 + 1, es.getLastD 0 + 1])
  c2 : sldM ((marksAt es zs t).flatMap fun x => List.replicate 3 x) ((placesAt es zs t).flatMap fun x => List.replicate 2 x) = (gone3M es zs (t : Int) ++ [es.getLastD 0 + 1, es.getLastD 0 + 1, es.getLastD 0 + 1], stayM es zs (t : Int))
  c3 : sldM (marksAt es zs t) (gone3M es zs (t : Int) ++ [es.getLastD 0 + 1, es.getLastD 0 + 1, es.getLastD 0 + 1]) = (hereM es zs (t : Int), [])
  c4 : ∀ m ∈ gone3M es zs (t : Int) ++ [es.getLastD 0 + 1], m ∉ placesAt es zs t ++ placesAt es zs t
  c5 : ∀ m ∈ hereM es zs (t : Int), m ∈ placesAt es zs t ++ placesAt es zs t
  c6 : ((hereM es zs (t : Int)).map fun m => (((placesAt es zs t ++ placesAt es zs t).idxOf m : Nat) : Int)) = (hereM es zs (t : Int)).map fun m => ((((placesAt es zs t).filter fun p => decide (p < m)).length : Nat) : Int)
  c7 : ∀ p ∈ stayM es zs (t : Int), p ∈ placesAt es zs t
  c8 : (placesAt es zs t).length < 2 ^ 10
  c9 : (stayM es zs (t : Int)).length < 2 ^ 10
inductive StruckPostI (s : Shared) (SS : List (List Int)) (v : Value) (h' : Heap) : Prop
  | mk : ∀ D ks n kl c, v = .ref D → s.heap.get? D = none → h'.get? D = some (lst (ks.map Value.ref) n) → KsR c ks SS kl → (∀ p ∈ kl, h'.get? p.1 = some p.2 ∧ s.heap.get? p.1 = none) → StruckPostI s SS v h'
noncomputable def StruckPost (s : Shared) (SS : List (List Int)) (v : Value) (h' : Heap) (_ : Nat) : Prop := StruckPostI s SS v h'
inductive MainJ (le lz lk L' : Addr) (ks : List Addr) (nk : Nat) (oB : Obj) (es zs : List Int) (first step : Int) (tb : Tok) (i : Nat) (m : Str → Option Value) (news : List (Addr × Obj)) (tk : Nat) : Prop
  | mk : ∀ mx lp vp np ln vn nn lm vm nm_ oP oT oLd vT vLd kl τ, m = nm [("ends", .ref le), ("sizes", .ref lz), ("numbers", .ref ln), ("marks", .ref lm), ("struck", .ref lk)] mx → news = (L' + 1, oB) :: (L' + 2, oP) :: (L' + 3, oT) :: (L' + 4, oLd) :: (lp, lst vp np) :: (ln, lst vn nn) :: (lm, lst vm nm_) :: (lk, lst (ks.map Value.ref) nk) :: kl → oP.data = .cell (some (.ref lp)) → oT.data = .cell vT → oLd.data = .cell vLd → IntsAre vp (placesAt es zs i) → IntsAre vn (numsG (· + ·) 0 (first - step) step es zs i) → IntsAre vm (marksAt es zs i) → Tk τ tk vp → Tk τ tk vm → Tk τ tk [.int (es.getLastD 0 + 1) tb] → 0 < tk → KsR (4 * i) ks (struckG (· + ·) 0 (first - step) step es zs i) kl → lp ∉ ks → ln ∉ ks → MainJ le lz lk L' ks nk oB es zs first step tb i m news tk
theorem seg0d {sc : Scope} {bd : List Stmt} (hsc : sc = scopeOf w.params 92) (hbd : bd = (sBody w.params).drop 7)
    {le lz lp ln lm lk L' : Addr} {v1 v2 vp vn vm : List Value} {es zs : List Int} {np nn nm_ nk : Nat} {first step : Int} {tb : Tok} {oB oP oT oLd : Obj} {vT vLd : Option Value} {ks : List Addr} {kl : List (Addr × Obj)} {τ : Nat → Int} {g h : Heap} {tk : Nat} {mx : Str → Option Value}
    (a : AmbW w mean mg mb A outs s.heap) (hd : A.depth + 2 < recursionLimit) (hu : A.units + 70 < cLine) (B : Below A (hideAll s.heap (fr outs)) outs g) (D : KtsDicts (fr outs) g) (TT : KtsTurn (fr outs) s.heap g)
    (hB : oB.data = .cell (some (.int (es.getLastD 0 + 1) tb))) (hP : oP.data = .cell (some (.ref lp))) (hT : oT.data = .cell vT) (hLd : oLd.data = .cell vLd)
    (h1 : s.heap.IsList le v1.toArray) (h2 : s.heap.IsList lz v2.toArray) (i1 : IntsAre v1 es) (i2 : IntsAre v2 zs) (z1 : es.length = 4) (z2 : zs.length = 4) (htk : 0 < tk) (hzs : ∀ z ∈ zs, 0 ≤ z ∧ z ≤ 16)
    (F : Fr g L' h (nm [("ends", .ref le), ("sizes", .ref lz), ("numbers", .ref ln), ("marks", .ref lm), ("struck", .ref lk)] mx)) (N : News g L' h ((L' + 1, oB) :: (L' + 2, oP) :: (L' + 3, oT) :: (L' + 4, oLd) :: (lp, lst vp np) :: (ln, lst vn nn) :: (lm, lst vm nm_) :: (lk, lst (ks.map Value.ref) nk) :: (kl ++ [])))
    (ip : IntsAre vp (placesAt es zs 0)) (iN : IntsAre vn (numsG (· + ·) 0 (first - step) step es zs 0)) (im : IntsAre vm (marksAt es zs 0)) (hTp : Tk τ tk vp) (hTm : Tk τ tk vm) (hTb : Tk τ tk [.int (es.getLastD 0 + 1) tb])
    (hks : KsR 0 ks [[], [], [], []] kl) (hnd : ks.Nodup) (lks : ks.length = 4) (nlp : lp ∉ ks) (nln : ln ∉ ks) (nlk : lk ∉ ks)
    (hOK : ∀ t : Nat, (t : Int) ≤ zs.getLastD 0 → OkT es zs t) :
    wpAny (model PG w) (A.deeper (envOfC "_law_struck" sc L' 92 (.ref 91))) (execs bd (envOfC "_law_struck" sc L' 92 (.ref 91))) (fun fl s' => Ends outs s (StruckPost s (struckG (· + ·) 0 (first - step) step es zs (zs.getLastD 0 + 1).toNat)) (.ok (.ret (match fl with | .ret v => v | _ => .none))) s') (fun _ _ => False) { s with heap := h, toks := tk } := by
  have hsc0 := hsc
  have hh := a.hh
  obtain ⟨_, Xb, Tb⟩ := a.open
  conv at hsc => rhs; whnf
  conv at hbd => rhs; whnf
  subst hsc hbd
  have Xg := Xb.keeps B.stays
  have T : Top Mine.hd0.view_39 (looseW Mine.hd0.view_39 []) mean mg mb g := Tb.keeps B.stays
  have hd1 : ∀ env : Env, (A.deeper env).depth + 1 < recursionLimit := hd1_of hd
  have hd2 : ∀ env : Env, (A.deeper env).depth < recursionLimit := hd2_of hd
  have hu1 : ∀ env : Env, (A.deeper env).units + 64 < cLine := hu1_of hu


  show wpAny _ _ _ _ _ _
  have lz2 := i2.length
  have hlb : 0 ≤ zs.getLastD 0 ∧ zs.getLastD 0 ≤ 16 := hzs _ (List.mem_of_getElem? (last4 z2))
  obtain ⟨te, he⟩ := i2.get 3 (zs.getLastD 0) (last4 z2)
  obtain ⟨z0, hz0⟩ : ∃ z0, z0 = zs.getLastD 0 := ⟨_, rfl⟩
  rw [← hz0] at he hlb hOK ⊢
  refine wpAny_execs_cons ?_
  refine wpAny_For ?_
  refine wpAny_up ?_
  k_steps
  rename Fr _ _ _ _ => F
  rename News _ _ _ _ => N
  refine Stop.go (item_in (hs := by with_unfolding_all rfl) ((kept_of TT F).list h2) (by (first | lia | omega)) (v := .int z0 te) (by unfold pyIdx; rw [if_neg (by (first | lia | omega)), if_pos (by (first | lia | omega)), show ((-1 : Int) + (v2.length : Int)).toNat = 3 by (first | lia | omega)]; exact he) ?_)
  k_steps
  rename Fr _ _ _ _ => F
  rename News _ _ _ _ => N
  rename IsRange _ _ _ _ _ _ _ _ => hr
  rename (@LE.le Nat _ _ _) => hleA
  replace hTp := hTp.le hleA
  replace hTm := hTm.le hleA
  replace hTb := hTb.le hleA
  replace htk := Nat.lt_of_lt_of_le htk hleA
  clear hleA
  refine Stop.go (for_range (n := (z0 + 1).toNat) (news := (L' + 1, oB) :: (L' + 2, oP) :: (L' + 3, oT) :: (L' + 4, oLd) :: (lp, lst vp np) :: (ln, lst vn nn) :: (lm, lst vm nm_) :: (lk, lst (ks.map Value.ref) nk) :: kl) (keep := []) hr (small_one (by (first | lia | omega)) (by (first | lia | omega)) (by (first | lia | omega)) (by (first | lia | omega))) (by rw [rangeSize_nat]; congr 1 <;> (first | lia | omega)) hh B D TT F ?hN (fun _ h => nomatch h) (MainJ le lz lk L' ks nk oB es zs first step tb)
    ⟨_, lp, vp, np, ln, vn, nn, lm, vm, nm_, oP, oT, oLd, vT, vLd, kl, τ, nm_of _ (nms_cons rfl (nms4 rfl rfl rfl rfl)), rfl, hP, hT, hLd, ip, iN, im, hTp, hTm, hTb, htk, hks, nlp, nln⟩ ?hJl ?hJm ?turn ?done)
  case hN => exact N
  case hJl =>
    rintro i m news tk ⟨mx, lp, vp, np, ln, vn, nn, lm, vm, nm_, oP, oT, oLd, vT, vLd, kl, τ, _, rfl, hP, hT, hLd, ip, iN, im, hTp, hTm, hTb, htk, hks, nlp, nln⟩ p hp
    exact or_cons (X := fun p => IsLst p.2) (isLst_cell hB) (or_cons (X := fun p => IsLst p.2) (isLst_cell hP) (or_cons (X := fun p => IsLst p.2) (isLst_cell hT) (or_cons (X := fun p => IsLst p.2) (isLst_cell hLd) (or_cons (X := fun p => IsLst p.2) isLst_lst (or_cons (X := fun p => IsLst p.2) isLst_lst (or_cons (X := fun p => IsLst p.2) isLst_lst (or_cons (X := fun p => IsLst p.2) isLst_lst (fun p hp => (hks.addr p hp).2)))))))) p hp
  case hJm =>
    rintro i m news tk tk' ⟨mx, lp, vp, np, ln, vn, nn, lm, vm, nm_, oP, oT, oLd, vT, vLd, kl, τ, e1, e2, hP, hT, hLd, ip, iN, im, hTp, hTm, hTb, htk, hks, nlp, nln⟩ hle
    exact ⟨mx, lp, vp, np, ln, vn, nn, lm, vm, nm_, oP, oT, oLd, vT, vLd, kl, τ, e1, e2, hP, hT, hLd, ip, iN, im, hTp.le hle, hTm.le hle, hTb.le hle, Nat.lt_of_lt_of_le htk hle, hks, nlp, nln⟩
  case turn =>
    rintro i bs g m₁ news₁ own h tk1 hin ⟨t, rfl⟩ B D TT ⟨mx, lp, vp, np, ln, vn, nn, lm, vm, nm_, oP, oT, oLd, vT, vLd, kl, τ, rfl, rfl, hP, hT, hLd, ip, iN, im, hTp, hTm, hTb, htk, hks, nlp, nln⟩ F N hown
    have Xg := Xb.keeps B.stays
    have T : Top Mine.hd0.view_39 (looseW Mine.hd0.view_39 []) mean mg mb g := Tb.keeps B.stays
    replace F : Fr g L' h _ := F
    replace N : News g L' h ((L' + 1, oB) :: (L' + 2, oP) :: (L' + 3, oT) :: (L' + 4, oLd) :: (lp, lst vp np) :: (ln, lst vn nn) :: (lm, lst vm nm_) :: (lk, lst (ks.map Value.ref) nk) :: (kl ++ own)) := N
    have hit : (i : Int) ≤ z0 := by (first | lia | omega)
    have ok := hOK i hit
    have z3 := List.mem_of_getElem? (last4 z2)
    refine stores1 ?_
    rw [show (0 : Int) + (i : Int) * 1 = (i : Int) by (first | lia | omega)]
    refine cell_sem (x := "turn") (c := L' + 3) (oc := oT) F N (by k_mem) hT rfl rfl rfl fun h oT2 F hT2 N2 => ?_
    replace N2 := N2 ((L' + 1, oB) :: (L' + 2, oP) :: (L' + 3, oT2) :: (L' + 4, oLd) :: (lp, lst vp np) :: (ln, lst vn nn) :: (lm, lst vm nm_) :: (lk, lst (ks.map Value.ref) nk) :: (kl ++ own)) ?hN2
    case hN2 =>
      refine or_cons (keep_c (by k_mem) (by k_ne)) (or_cons (keep_c (by k_mem) (by k_ne)) (or_cons (.inl rfl) (or_cons (keep_c (by k_mem) (by k_ne)) (fun p hp => .inr ⟨?_, ?_⟩))))
      · repeat (first | exact hp | apply List.mem_cons_of_mem)
      · refine led_ne N (by k_mem) hT (by repeat (first | exact hp | apply List.mem_cons_of_mem)) ?_
        exact or_cons (X := fun p => ∀ v, p.2.data ≠ .cell v) lst_nocell (or_cons (X := fun p => ∀ v, p.2.data ≠ .cell v) lst_nocell (or_cons (X := fun p => ∀ v, p.2.data ≠ .cell v) lst_nocell (or_cons (X := fun p => ∀ v, p.2.data ≠ .cell v) lst_nocell (fun p hp => (List.mem_append.mp hp).elim (hks.nocell p) (own_nocell hown p))))) p hp
    show wpAny _ _ (execs (tBody w.params) _) _ _ _
    refine turn_c (s := s) (τ := τ) hsc0 a hd hu B D TT (Fr_nm F _ (nms_cons rfl (nms4 rfl rfl rfl rfl))) N2 hB hP hT2 hLd h1 h2 i1 i2 z1 z2 htk ip iN im ok.c8 (Nat.lt_of_le_of_lt (marksAt_len z1) (by (first | lia | omega))) numsG_len hTp hTm hTb hks hnd lks (by (first | lia | omega)) nlp nln nlk hown hzs (by (first | lia | omega)) ok.c9 ok.c1 ok.c2 ok.c3 ok.c4 ok.c5 ok.c6 ok.c7 (R := Turned A (hideAll s.heap (fr outs)) outs s.heap L' s own (MainJ le lz lk L' ks nk oB es zs first step tb (i + 1))) (fun s' hs' => ?_) ?_
    · show wpAny _ _ (execs [] _) _ _ _
      exact wpAny_execs_nil hs'
    · intro g h tk' mx lp' vp' np' ln' vn' nn' lm' vm' nm' oP' oLd' ld' kl' τ' hle B D TT F N hP' hLd' ip' iN' im' hTp' hTm' hTb' hks' nlp' nln'
      exact Turned.mk ((L' + 1, oB) :: (L' + 2, oP') :: (L' + 3, oT2) :: (L' + 4, oLd') :: (lp', lst vp' np') :: (ln', lst vn' nn') :: (lm', lst vm' nm') :: (lk, lst (ks.map Value.ref) nk) :: kl') B D TT F (led := ((L' + 1, oB) :: (L' + 2, oP') :: (L' + 3, oT2) :: (L' + 4, oLd') :: (lp', lst vp' np') :: (ln', lst vn' nn') :: (lm', lst vm' nm') :: (lk, lst (ks.map Value.ref) nk) :: kl') ++ own) N (fun p hp => List.mem_append_left own hp) (fun p hp => List.mem_append_right _ hp)
        ⟨mx, lp', vp', np', ln', vn', nn', lm', vm', nm', oP', oT2, oLd', _, _, kl', τ', rfl, rfl, hP', hT2, hLd', ip', iN', im', hTp', hTm', hTb', Nat.lt_of_lt_of_le htk hle, hks', nlp', nln'⟩
  case done =>
    rintro g m₁ news₁ h tk1 B D TT ⟨mx, lp, vp, np, ln, vn, nn, lm, vm, nm_, oP, oT, oLd, vT, vLd, kl, τ, rfl, rfl, hP, hT, hLd, ip, iN, im, hTp, hTm, hTb, htk, hks, nlp, nln⟩ F N
    have Xg := Xb.keeps B.stays
    have T : Top Mine.hd0.view_39 (looseW Mine.hd0.view_39 []) mean mg mb g := Tb.keeps B.stays
    replace F : Fr g L' h _ := F
    replace N : News g L' h ((L' + 1, oB) :: (L' + 2, oP) :: (L' + 3, oT) :: (L' + 4, oLd) :: (lp, lst vp np) :: (ln, lst vn nn) :: (lm, lst vm nm_) :: (lk, lst (ks.map Value.ref) nk) :: (kl ++ [])) := N
    show wpAny _ _ _ _ _ _
    k_steps
    refine ends_of TT F ⟨lk, ks, nk, kl, _, rfl, turn_none TT (N (lk, lst (ks.map Value.ref) nk) (by k_mem)).2.2, (N (lk, lst (ks.map Value.ref) nk) (by k_mem)).1, hks, fun p hp => ?_⟩
    have z := N p (by
      rw [List.append_nil]
      repeat (first | exact hp | apply List.mem_cons_of_mem))
    exact ⟨z.1, turn_none TT z.2.2⟩
end
end
section
section
variable {w : World} {A : Around} {s : Shared} {outs : List Env} {mg mb : Str → Option Value} {mean : ExcName → Option Value} {Q : Flow → Shared → Prop} {E : Value → Shared → Prop}
theorem struck_c {le lz : Addr} {v1 v2 : List Value} {es zs : List Int} {first step : Int} {tf ts : Tok} {τ : Nat → Int} (h1 : s.heap.IsList le v1.toArray) (h2 : s.heap.IsList lz v2.toArray) (i1 : IntsAre v1 es) (i2 : IntsAre v2 zs) (z1 : es.length = 4) (z2 : zs.length = 4) (hzs : ∀ z ∈ zs, 0 ≤ z ∧ z ≤ 16) (hsum : 0 ≤ zs.sum ∧ zs.sum ≤ 64)
    (hTe : Tk τ s.toks v1) (htk : 0 < s.toks) (hOK : ∀ t : Nat, (t : Int) ≤ zs.getLastD 0 → OkT es zs t) (a : AmbW w mean mg mb A outs s.heap) (hd : A.depth + 2 < recursionLimit) (hu : A.units + 70 < cLine) :
    codeAny (model PG w) A (.call (.ref 92) ⟨[.ref le, .ref lz, .int first tf, .int step ts], []⟩) (Ends outs s (StruckPost s (struckG (· + ·) 0 (first - step) step es zs (zs.getLastD 0 + 1).toNat))) s := by
  have hh := a.hh
  have hd0 : A.depth < recursionLimit := by (first | lia | omega)
  refine' enterC (binds := [("ends", .ref le), ("sizes", .ref lz), ("first", .int first tf), ("step", .int step ts)]) a ?k6 ?k7 hd0 ?k9 ?kk ?knd ?_ ?c2 ?c3 ?c4
  ((case k6 => k_dflt k_is); (case k7 => k_dflt k_is); (case k9 => exact BindsTo.of_eq rfl); (try (case km => exact rfl)); (try (case c5 => decide)); (try (case kB => exact locs rfl)); (try (case kk => (intro n; (repeat (refine List.forall_mem_cons.mpr ⟨by first | exact .inl rfl | exact .inr ⟨rfl, rfl⟩, ?_⟩)); exact fun _ h => nomatch h))); (try (case knd => decide)); (case c2 => exact rfl); (case c3 => exact rfl); (case c4 => exact rfl))
  intro L' h₁ tk cells htk1 B X X' T D F N CA
  obtain ⟨o4, o3, o2, o1, rfl, ho4, ho3, ho2, ho1⟩ := CA.four
  replace N := news_sub N (l' := (L' + 1, o1) :: (L' + 2, o2) :: (L' + 3, o3) :: (L' + 4, o4) :: []) (by
    intro p hp
    simp only [List.mem_cons, List.not_mem_nil, or_false] at hp ⊢
    rcases hp with rfl | rfl | rfl | rfl
    · exact .inr (.inr (.inr rfl))
    · exact .inr (.inr (.inl rfl))
    · exact .inr (.inl rfl)
    · exact .inl rfl)
  have hsc : ∃ sc, sc = scopeOf w.params 92 := ⟨_, rfl⟩
  refine wpAny_mono (E := fun _ _ => False) (Q := fun fl s' => Ends outs s (StruckPost s (struckG (· + ·) 0 (first - step) step es zs (zs.getLastD 0 + 1).toNat)) (.ok (.ret (match fl with | .ret v => v | _ => .none))) s') ?_ (fun _ _ h => h) (fun _ _ h => h.elim)
  show wpAny (model PG w) (A.deeper (envOfC "_law_struck" (scopeOf w.params 92) L' 92 (.ref 91))) (execs (sBody w.params) (envOfC "_law_struck" (scopeOf w.params 92) L' 92 (.ref 91))) _ _ _
  refine seg0a (s := s) (τ := τ) (tf := tf) (ts := ts) rfl rfl a hd hu B D .refl ho1 ho2 ho3 ho4 h1 h2 i1 i2 z1 z2 (Nat.lt_of_lt_of_le htk htk1) hsum hzs (Fr_nm F _ (nms4 rfl rfl rfl rfl)) N (R := fun s' => wpAny (model PG w) (A.deeper (envOfC "_law_struck" (scopeOf w.params 92) L' 92 (.ref 91))) (execs ((sBody w.params).drop 2) (envOfC "_law_struck" (scopeOf w.params 92) L' 92 (.ref 91))) (fun fl s' => Ends outs s (StruckPost s (struckG (· + ·) 0 (first - step) step es zs (zs.getLastD 0 + 1).toNat)) (.ok (.ret (match fl with | .ret v => v | _ => .none))) s') (fun _ _ => False) s') (fun s' h => h) fun g h tk2 mx lp vp np oB oP tb τ1 hle1 ag1 B D TT F N hB hP ip hTp hTb => ?_
  have lvp := ip.length
  have lp0 : (placesAt es zs 0).length = zs.sum.toNat := by show ((List.range zs.sum.toNat).map _).length = _; rw [List.length_map, List.length_range]
  refine seg0b (s := s) rfl rfl a hd hu B D TT hB hP ho3 ho4 F N (by rw [lvp, lp0]; (first | lia | omega)) (R := fun s' => wpAny (model PG w) (A.deeper (envOfC "_law_struck" (scopeOf w.params 92) L' 92 (.ref 91))) (execs ((sBody w.params).drop 5) (envOfC "_law_struck" (scopeOf w.params 92) L' 92 (.ref 91))) (fun fl s' => Ends outs s (StruckPost s (struckG (· + ·) 0 (first - step) step es zs (zs.getLastD 0 + 1).toNat)) (.ok (.ret (match fl with | .ret v => v | _ => .none))) s') (fun _ _ => False) s') (fun s' h => by rw [List.drop_drop]; exact h) fun g h tk3 mx ln vn nn hle2 B D TT F N iN => ?_
  rw [lvp, lp0] at iN
  refine seg0c (s := s) rfl rfl a hd hu B D TT hB hP ho3 ho4 h1 i1 z1 F N (R := fun s' => wpAny (model PG w) (A.deeper (envOfC "_law_struck" (scopeOf w.params 92) L' 92 (.ref 91))) (execs ((sBody w.params).drop 7) (envOfC "_law_struck" (scopeOf w.params 92) L' 92 (.ref 91))) (fun fl s' => Ends outs s (StruckPost s (struckG (· + ·) 0 (first - step) step es zs (zs.getLastD 0 + 1).toNat)) (.ok (.ret (match fl with | .ret v => v | _ => .none))) s') (fun _ _ => False) s') (fun s' h => by rw [List.drop_drop]; exact h) fun g h tk4 mx lm nm_ lk nk ks kl hle3 B D TT F N hks hnd lks nlp nln nlk => ?_
  have le24 : tk2 ≤ tk4 := Nat.le_trans hle2 hle3
  have hTe1 : Tk τ1 tk4 v1 := (hTe.le htk1).mono ag1 (Nat.le_trans hle1 le24)
  exact seg0d (s := s) (τ := τ1) (first := first) (step := step) rfl rfl a hd hu B D TT hB hP ho3 ho4 h1 h2 i1 i2 z1 z2 (Nat.lt_of_lt_of_le htk (Nat.le_trans htk1 (Nat.le_trans hle1 le24))) hzs F N ip iN (ints_app i1 (.cons _ _ .nil)) (hTp.le le24) (hTe1.app (hTb.le le24)) (hTb.le le24) hks hnd lks nlp nln nlk hOK
end
end
section
inductive LawA1 (w : World) (A : Around) (outs : List Env) (s : Shared) (ls L' : Addr) (oG oS : Obj) (s' : Shared) : Prop
  | mk (g h : Heap) (tk' : Nat) (mx : Str → Option Value) (c0 c1 c2 c3 c4 c5 c6 : Int) (t0 t1 t2 t3 t4 t5 t6 : Tok) (lc : Addr) (nc : Nat) (oC : Obj) : Below A (hideAll s.heap (fr outs)) outs g → KtsDicts (fr outs) g → KtsTurn (fr outs) s.heap g → Fr g L' h (nm [("script", .ref ls)] mx) →
    News g L' h ((lc, lst [.int c0 t0, .int c1 t1, .int c2 t2, .int c3 t3, .int c4 t4, .int c5 t5, .int c6 t6] nc) :: (L' + 1, oC) :: (L' + 2, oG) :: (L' + 3, oS) :: []) → oC.data = .cell (some (.ref lc)) → s' = { s with heap := h, toks := tk' } → LawA1 w A outs s ls L' oG oS s'
section
variable {w : World} {A : Around} {s : Shared} {outs : List Env} {mg mb : Str → Option Value} {mean : ExcName → Option Value} {Q : Flow → Shared → Prop} {E : Value → Shared → Prop}
noncomputable def lBody (P : Params) : List Stmt := stmtsOf P 109
theorem list7 {cs : List Int} (h : cs.length = 7) : ∃ c0 c1 c2 c3 c4 c5 c6, cs = [c0, c1, c2, c3, c4, c5, c6] := by
  match cs, h with
  | [c0, c1, c2, c3, c4, c5, c6], _ => exact ⟨_, _, _, _, _, _, _, rfl⟩
theorem ints_cons {vs : List Value} {c : Int} {cs : List Int} (h : IntsAre vs (c :: cs)) : ∃ t us, vs = .int c t :: us ∧ IntsAre us cs := by
  cases h with | cons n t r => exact ⟨t, _, rfl, r⟩
theorem ints_nil {vs : List Value} (h : IntsAre vs []) : vs = [] := by cases h; rfl
theorem ints7 {vs : List Value} {c0 c1 c2 c3 c4 c5 c6 : Int} (h : IntsAre vs [c0, c1, c2, c3, c4, c5, c6]) : ∃ t0 t1 t2 t3 t4 t5 t6, vs = [.int c0 t0, .int c1 t1, .int c2 t2, .int c3 t3, .int c4 t4, .int c5 t5, .int c6 t6] := by
  obtain ⟨t0, u0, e0, h0⟩ := ints_cons h
  obtain ⟨t1, u1, e1, h1⟩ := ints_cons h0
  obtain ⟨t2, u2, e2, h2⟩ := ints_cons h1
  obtain ⟨t3, u3, e3, h3⟩ := ints_cons h2
  obtain ⟨t4, u4, e4, h4⟩ := ints_cons h3
  obtain ⟨t5, u5, e5, h5⟩ := ints_cons h4
  obtain ⟨t6, u6, e6, h6⟩ := ints_cons h5
  rw [e0, e1, e2, e3, e4, e5, e6, ints_nil h6]
  exact ⟨_, _, _, _, _, _, _, rfl⟩
theorem lawA {sc : Scope} {bd : List Stmt} (hsc : sc = scopeOf w.params 109) (hbd : bd = lBody w.params)
    {fa cd ls L' : Addr} {vs : List Value} {xs : List Int} {oC oG oS : Obj} {vC vG vS : Option Value} {g h : Heap} {tk : Nat} {mx : Str → Option Value}
    (a : AmbW w mean mg mb A outs s.heap) (hd : A.depth + 4 < recursionLimit) (hu : A.units + 80 < cLine) (B : Below A (hideAll s.heap (fr outs)) outs g) (D : KtsDicts (fr outs) g) (TT : KtsTurn (fr outs) s.heap g)
    (hC : oC.data = .cell vC) (hG : oG.data = .cell vG) (hS : oS.data = .cell vS) (h1 : s.heap.IsList ls vs.toArray) (i1 : IntsAre vs xs) (z1 : xs.length ≤ 63)
    (F : Fr g L' h (nm [("script", .ref ls)] mx)) (N : News g L' h ((L' + 1, oC) :: (L' + 2, oG) :: (L' + 3, oS) :: []))
    {R : Shared → Prop} (hR : ∀ s', R s' → wpAny (model PG w) (A.deeper (envOfC "law" sc L' fa (.ref cd))) (execs (bd.drop 2) (envOfC "law" sc L' fa (.ref cd))) Q E s')
    (k : ∀ g h tk' mx c0 c1 c2 c3 c4 c5 c6 t0 t1 t2 t3 t4 t5 t6 lc nc lg ng u0 u1 u2 u3 oC oG, Below A (hideAll s.heap (fr outs)) outs g → KtsDicts (fr outs) g → KtsTurn (fr outs) s.heap g → Fr g L' h (nm [("script", .ref ls)] mx) →
      News g L' h ((lg, lst [.int (1 + c0.fmod 3) u0, .int (c1.fmod 3) u1, .int (c2.fmod 3) u2, .int (c3.fmod 3) u3] ng) :: (lc, lst [.int c0 t0, .int c1 t1, .int c2 t2, .int c3 t3, .int c4 t4, .int c5 t5, .int c6 t6] nc) :: (L' + 1, oC) :: (L' + 2, oG) :: (L' + 3, oS) :: []) →
      oC.data = .cell (some (.ref lc)) → oG.data = .cell (some (.ref lg)) → 0 < tk' → R { s with heap := h, toks := tk' }) :
    wpAny (model PG w) (A.deeper (envOfC "law" sc L' fa (.ref cd))) (execs bd (envOfC "law" sc L' fa (.ref cd))) Q E { s with heap := h, toks := tk } := by
  have hh := a.hh
  obtain ⟨_, Xb, Tb⟩ := a.open
  conv at hsc => rhs; whnf
  conv at hbd => rhs; whnf
  subst hsc hbd
  have Xg := Xb.keeps B.stays
  have T : Top Mine.hd0.view_39 (looseW Mine.hd0.view_39 []) mean mg mb g := Tb.keeps B.stays
  have hd1 : ∀ env : Env, (A.deeper env).depth + 1 < recursionLimit := hd1_of hd
  have hd2 : ∀ env : Env, (A.deeper env).depth < recursionLimit := hd2_of hd
  have hu1 : ∀ env : Env, (A.deeper env).units + 64 < cLine := hu1_of hu
  refine piece 2 hR ?_
  simp only [List.take_succ_cons, List.take_zero]
  show wpAny _ _ _ _ _ _
  refine piece 1 (R := LawA1 w A outs s ls L' oG oS) ?second ?first
  case first =>
    simp only [List.take_succ_cons, List.take_zero]
    show wpAny _ _ _ _ _ _
    clear k hR
    k_steps
    rename Fr _ _ _ _ => F
    rename News _ _ _ _ => N
    refine Stop.go (call_use B D TT F N rfl (cells_c ((kept_of TT F).list h1) i1 z1 (amb_in B D F Xb Tb hh rfl rfl) (hd2 _)) fun v g h tk3 hle3 B D TT F N new hk3 hpt => ?_)
    obtain ⟨cs, hlen, lc, vcs, nc, hv, fc, gc, ic⟩ := hpt
    subst hv
    obtain ⟨c0, c1, c2, c3, c4, c5, c6, rfl⟩ := list7 hlen
    obtain ⟨t0, t1, t2, t3, t4, t5, t6, rfl⟩ := ints7 ic
    replace N := news_cons (new lc _ fc gc) N
    show wpAny _ _ _ _ _ _
    refine cell_sem (x := "cells") (c := L' + 1) (oc := oC) F N (by k_mem) hC rfl rfl rfl fun h oC2 F hC2 N2 => ?_
    replace N2 := N2 ((lc, lst [.int c0 t0, .int c1 t1, .int c2 t2, .int c3 t3, .int c4 t4, .int c5 t5, .int c6 t6] nc) :: (L' + 1, oC2) :: (L' + 2, oG) :: (L' + 3, oS) :: []) (or_cons (keep_p N (by k_mem) (by k_mem) hC (by intro v e; cases e)) (or_cons (.inl rfl) (or_cons (keep_c (by k_mem) (by k_ne)) (or_cons (keep_c (by k_mem) (by k_ne)) (fun p hp => nomatch hp)))))
    refine wpAny_execs_nil ⟨rfl, fun _ => ?_⟩
    exact ⟨g, h, _, _, c0, c1, c2, c3, c4, c5, c6, t0, t1, t2, t3, t4, t5, t6, lc, nc, oC2, B, D, TT, Fr_nm F _ (nms1 rfl), N2, hC2, rfl⟩
  case second =>
  rintro s' ⟨g, h, tk2, mx, c0, c1, c2, c3, c4, c5, c6, t0, t1, t2, t3, t4, t5, t6, lc, nc, oC2, B, D, TT, F, N, hC2, rfl⟩
  have Xg := Xb.keeps B.stays
  have T : Top Mine.hd0.view_39 (looseW Mine.hd0.view_39 []) mean mg mb g := Tb.keeps B.stays
  simp only [List.drop_succ_cons, List.drop_zero]
  show wpAny _ _ _ _ _ _
  k_steps
  rename Fr _ _ _ _ => F
  rename News _ _ _ _ => N
  rename (Obj.data _ = Data.cell (some (Value.ref _))) => hG2
  exact k g _ _ _ c0 c1 c2 c3 c4 c5 c6 t0 t1 t2 t3 t4 t5 t6 lc nc _ 0 _ _ _ _ oC2 _ B D TT F N hC2 hG2 (by first | exact Nat.succ_pos _ | (dsimp only; (first | lia | omega)))
end
end
section
section
variable {prog : Program} {w : World} {A : Around} {E : Value → Shared → Prop} {s : Shared} {Q : Value → Shared → Prop}
theorem slice_keep {l : Addr} {vs : List Value} {k : Nat} {t : Tok} {value slice : Expr} (hl : s.heap.IsList l vs.toArray) (hz : vs.length ≤ 2 ^ 22)
    (h : ∀ D h', (∀ c o, s.heap.get? c = some o → h'.get? c = some o) → h'.get? D = some (lst (vs.take k) 0) → s.heap.get? D = none → Q (.ref D) { s with heap := h' })
    (hs : subscripted slice false (.ref l) (.ref s.heap.objs.size) = operate [.ref s.heap.objs.size, .ref l] (getItem (.ref l) (.ref s.heap.objs.size))) (ht : ∀ r, letTemporaryGo value (.ref l) r = pure ()) :
    wpAny (model prog w) A (subscriptTail value slice (.ref l) (.ref s.heap.objs.size)) Q E { s with heap := s.heap.push { cls := .type "slice", data := .fields #[.none, .int (k : Int) t, .none] } } := by
  refine subscriptTail_ops (Heap.IsList.typeIs (s := { s with heap := s.heap.push { cls := .type "slice", data := .fields #[.none, .int (k : Int) t, .none] } }) (hl.push _)) list_getitem_lookup
    (wpAny_getItem_list_slice (hl.push _) (Heap.IsSliceOf.new ..) .none (.int _ _) .none (by simp) ?_ (by rw [List.size_toArray, sizeLine_eq]; (first | lia | omega))) hs ht
  have e : slicePick vs.toArray none (some (k : Int)) none = (vs.take k).toArray := by
    rw [← Array.toArray_toList (xs := slicePick vs.toArray none (some (k : Int)) none), pick_to]
  rw [e]
  exact h _ _ (fun c o e => Heap.get?_push_of_some _ (Heap.get?_push_of_some _ e)) (Heap.get?_push_size _ rfl) (by rw [Heap.size_push]; exact Heap.get?_none_of_le (Nat.le_succ _))
theorem sum_keep {l : Addr} {vs : List Value} {ns : List Int} (hh : A.handled = none) (hl : s.heap.IsList l vs.toArray) (hi : IntsAre vs ns)
    (h : ∀ h' tk t', (∀ c o, s.heap.get? c = some o → h'.get? c = some o) → Q (.int ns.sum t') { s with heap := h', toks := tk }) : wpAny (model prog w) A (call (.builtin "sum") [.ref l]) Q E s := by
  obtain ⟨xs, hx⟩ := hi.allInts.items
  have hl' : s.heap.IsList l (intItems xs) := hx ▸ hl
  refine sum_intListG hh hl' fun h' tk t' hk => ?_
  have e1 : ns = xs.toList.map (·.1) := by
    rw [← nums_intItems, ← hx]
    exact (show numsOf vs.toArray.toList = ns from hi.numsOf).symm
  have e2 : preSum (numAt xs) xs.size = ns.sum := by
    rw [preSum_eq, List.take_of_length_le (by simp), e1]
  rw [e2]
  exact h h' tk t' hk
end
end
end
end
section
local macro_rules | `(tactic| walk_at "subscriptTail") => `(tactic| refine stop ?_)
section
section
variable {w : World} {A : Around} {s : Shared} {outs : List Env} {mg mb : Str → Option Value} {mean : ExcName → Option Value} {Q : Flow → Shared → Prop} {E : Value → Shared → Prop}
theorem lawB {sc : Scope} {bd : List Stmt} (hsc : sc = scopeOf w.params 109) (hbd : bd = (lBody w.params).drop 2)
    {fa cd ls L' lg lc : Addr} {vg vc : List Value} {gs : List Int} {ng nc : Nat} {oC oG oS : Obj} {vS : Option Value} {g h : Heap} {tk : Nat} {mx : Str → Option Value}
    (a : AmbW w mean mg mb A outs s.heap) (hd : A.depth + 4 < recursionLimit) (hu : A.units + 80 < cLine) (B : Below A (hideAll s.heap (fr outs)) outs g) (D : KtsDicts (fr outs) g) (TT : KtsTurn (fr outs) s.heap g)
    (hC : oC.data = .cell (some (.ref lc))) (hG : oG.data = .cell (some (.ref lg))) (hS : oS.data = .cell vS) (ig : IntsAre vg gs) (zg : gs.length = 4)
    (F : Fr g L' h (nm [("script", .ref ls)] mx)) (N : News g L' h ((lg, lst vg ng) :: (lc, lst vc nc) :: (L' + 1, oC) :: (L' + 2, oG) :: (L' + 3, oS) :: []))
    {R : Shared → Prop} (hR : ∀ s', R s' → wpAny (model PG w) (A.deeper (envOfC "law" sc L' fa (.ref cd))) (execs (bd.drop 1) (envOfC "law" sc L' fa (.ref cd))) Q E s')
    (k : ∀ g h tk' mx lz vz nz oS, tk ≤ tk' → Below A (hideAll s.heap (fr outs)) outs g → KtsDicts (fr outs) g → KtsTurn (fr outs) s.heap g → Fr g L' h (nm [("script", .ref ls)] mx) →
      News g L' h ((lz, lst vz nz) :: (lg, lst vg ng) :: (lc, lst vc nc) :: (L' + 1, oC) :: (L' + 2, oG) :: (L' + 3, oS) :: []) → oS.data = .cell (some (.ref lz)) → IntsAre vz ((List.range 4).map fun (i : Nat) => (gs.take (i + 1)).sum) → R { s with heap := h, toks := tk' }) :
    wpAny (model PG w) (A.deeper (envOfC "law" sc L' fa (.ref cd))) (execs bd (envOfC "law" sc L' fa (.ref cd))) Q E { s with heap := h, toks := tk } := by
  have hh := a.hh
  obtain ⟨_, Xb, Tb⟩ := a.open
  conv at hsc => rhs; whnf
  conv at hbd => rhs; whnf
  subst hsc hbd
  have Xg := Xb.keeps B.stays
  have T : Top Mine.hd0.view_39 (looseW Mine.hd0.view_39 []) mean mg mb g := Tb.keeps B.stays
  have hd1 : ∀ env : Env, (A.deeper env).depth + 1 < recursionLimit := hd1_of hd
  have hd2 : ∀ env : Env, (A.deeper env).depth < recursionLimit := hd2_of hd
  have hu1 : ∀ env : Env, (A.deeper env).units + 64 < cLine := hu1_of hu
  refine piece 1 hR ?_
  simp only [List.take_succ_cons, List.take_zero]
  show wpAny _ _ _ _ _ _
  have lvg := ig.length
  k_steps
  refine Stop.go (comp_eval (hs := by intro _; rfl) (cl := [("growth", L' + 2)]) (by rfl) rfl (by decide) ?_)
  k_steps
  rename Fr _ _ _ _ => F
  rename News _ _ _ _ => N
  rename IsRange _ _ _ _ _ _ _ _ => hr
  refine Stop.go (comp_range (fs := L' :: fr outs) (n := 4) hr (small_one (by (first | lia | omega)) (by (first | lia | omega)) (by (first | lia | omega)) (by (first | lia | omega))) (by rw [rangeSize_nat]; rfl) hh (by rw [sizeLine_eq]; (first | lia | omega))
    (fun C D q ys h tkq => IntsAre ys ((List.range q).map fun (i : Nat) => (gs.take (i + 1)).sum)) (by decide) rfl (fs_lt' D F) (fun _ _ _ _ _ _ _ => .nil) (fun _ _ _ _ _ _ _ _ _ hJ _ _ _ => hJ) ?turn ?fin)
  case turn =>
    rintro C Dc q bs zz hA tk1 m1 fC fD ne hq ⟨tq, rfl⟩ hJ hns hDd hk
    rw [show (1 : Int) + (q : Int) * 1 = ((q + 1 : Nat) : Int) by (first | lia | omega)]
    refine turn1 rfl rfl hns fC hk fun hX tk3 hle hns2 hk2 hs2 => ?_
    refine wpAny_tests_nil ?_
    rw [if_pos rfl]
    obtain ⟨g', B', D', TT', F', N', _⟩ := after_kept (s := { s with heap := _, toks := 0 }) B D TT F N hk2
    have Xg := Xb.keeps B'.stays
    have T : Top Mine.hd0.view_39 (looseW Mine.hd0.view_39 []) mean mg mb g' := Tb.keeps B'.stays
    have hcl : hX.IsCell (L' + 2) (some (.ref lg)) := ⟨_, (N' (L' + 2, oG) (by k_mem)).1, hG⟩
    have hlg : hX.IsList lg vg.toArray := lst_at N' (by k_mem) rfl ⟨_, rfl⟩
    clear F N B D TT
    show wpAny _ _ _ _ _ _
    k_steps
    refine Stop.go (slice_keep (hs := by with_unfolding_all rfl) (ht := by (intro _; with_unfolding_all rfl)) hlg (by (first | lia | omega)) fun Ds hSl hkS eS nS => ?_)
    k_steps
    refine Stop.go (sum_keep hh ⟨_, eS, rfl, _, rfl⟩ (ints_take ig) fun hSu tkS tS hk' => ?_)
    show ∃ _, _
    refine ⟨hSu, _, _, rfl, (keptX_same hs2).trans (.of_keeps fun b o _ e => hk' _ _ (hkS _ _ e)), hns2.at' fun o e => hk' _ _ (hkS _ _ e), ?_⟩
    rw [List.range_succ, List.map_append]
    exact ints_app hJ (.cons _ _ .nil)
  case fin =>
    refine fin_expr B D TT F N (fun _ _ _ _ _ _ e _ => e) fun g C Dc ys nn h tk1 fD off B D TT F N hk hJ => ?_
    have Xg := Xb.keeps B.stays
    have T : Top Mine.hd0.view_39 (looseW Mine.hd0.view_39 []) mean mg mb g := Tb.keeps B.stays
    show wpAny _ _ _ _ _ _
    refine cell_sem (x := "sizes") (c := L' + 3) (oc := oS) F N (by k_mem) hS rfl rfl rfl fun h oS2 F hS2 N2 => ?_
    replace N2 := N2 ((Dc, lst ys nn) :: (lg, lst vg ng) :: (lc, lst vc nc) :: (L' + 1, oC) :: (L' + 2, oG) :: (L' + 3, oS2) :: []) (or_cons (keep_p N (by k_mem) (by k_mem) hS (by intro v e; cases e)) (or_cons (keep_p N (by k_mem) (by k_mem) hS (by intro v e; cases e)) (or_cons (keep_p N (by k_mem) (by k_mem) hS (by intro v e; cases e)) (or_cons (keep_c (by k_mem) (by k_ne)) (or_cons (keep_c (by k_mem) (by k_ne)) (or_cons (.inl rfl) (fun p hp => nomatch hp)))))))
    refine wpAny_execs_nil ⟨rfl, fun hleU => ?_⟩
    exact k g _ _ _ Dc ys nn oS2 hleU B D TT F N2 hS2 hJ
end
end
end
section
local macro_rules | `(tactic| walk_at "exec Assign cons ListComp") => `(tactic| refine stop ?_)
local macro_rules | `(tactic| walk_at "exec Assign Name ListComp") => `(tactic| refine stop ?_)
section
local macro_rules | `(tactic| walk_at "subscriptTail") => `(tactic| refine stop ?_)
section
section
variable {w : World} {A : Around} {s : Shared} {outs : List Env} {mg mb : Str → Option Value} {mean : ExcName → Option Value} {Q : Flow → Shared → Prop} {E : Value → Shared → Prop}
theorem lawC {sc : Scope} {bd : List Stmt} (hsc : sc = scopeOf w.params 109) (hbd : bd = (lBody w.params).drop 3)
    {fa cd ls L' lg lc lz : Addr} {vg vz : List Value} {zs : List Int} {ng nc nz : Nat} {oC oG oS : Obj} {c0 c1 c2 c3 c4 c5 c6 : Int} {t0 t1 t2 t3 t4 t5 t6 : Tok} {g h : Heap} {tk : Nat} {mx : Str → Option Value}
    (a : AmbW w mean mg mb A outs s.heap) (hd : A.depth + 4 < recursionLimit) (hu : A.units + 80 < cLine) (B : Below A (hideAll s.heap (fr outs)) outs g) (D : KtsDicts (fr outs) g) (TT : KtsTurn (fr outs) s.heap g)
    (hC : oC.data = .cell (some (.ref lc))) (hG : oG.data = .cell (some (.ref lg))) (hS : oS.data = .cell (some (.ref lz))) (iz : IntsAre vz zs) (zz : zs.length = 4) (htk : 0 < tk)
    (F : Fr g L' h (nm [("script", .ref ls)] mx)) (N : News g L' h ((lz, lst vz nz) :: (lg, lst vg ng) :: (lc, lst [.int c0 t0, .int c1 t1, .int c2 t2, .int c3 t3, .int c4 t4, .int c5 t5, .int c6 t6] nc) :: (L' + 1, oC) :: (L' + 2, oG) :: (L' + 3, oS) :: []))
    {R : Shared → Prop} (hR : ∀ s', R s' → wpAny (model PG w) (A.deeper (envOfC "law" sc L' fa (.ref cd))) (execs (bd.drop 1) (envOfC "law" sc L' fa (.ref cd))) Q E s')
    (k : ∀ g h tk' mx le ve ne τ, tk ≤ tk' → Below A (hideAll s.heap (fr outs)) outs g → KtsDicts (fr outs) g → KtsTurn (fr outs) s.heap g → Fr g L' h (nm [("ends", .ref le)] mx) →
      News g L' h ((le, lst ve ne) :: (lz, lst vz nz) :: (lg, lst vg ng) :: (lc, lst [.int c0 t0, .int c1 t1, .int c2 t2, .int c3 t3, .int c4 t4, .int c5 t5, .int c6 t6] nc) :: (L' + 1, oC) :: (L' + 2, oG) :: (L' + 3, oS) :: []) → IntsAre ve ((List.range 4).map fun (i : Nat) => c6 + (zs.take (i + 1)).sum) → Tk τ tk' ve → R { s with heap := h, toks := tk' }) :
    wpAny (model PG w) (A.deeper (envOfC "law" sc L' fa (.ref cd))) (execs bd (envOfC "law" sc L' fa (.ref cd))) Q E { s with heap := h, toks := tk } := by
  have hh := a.hh
  obtain ⟨_, Xb, Tb⟩ := a.open
  conv at hsc => rhs; whnf
  conv at hbd => rhs; whnf
  subst hsc hbd
  have Xg := Xb.keeps B.stays
  have T : Top Mine.hd0.view_39 (looseW Mine.hd0.view_39 []) mean mg mb g := Tb.keeps B.stays
  have hd1 : ∀ env : Env, (A.deeper env).depth + 1 < recursionLimit := hd1_of hd
  have hd2 : ∀ env : Env, (A.deeper env).depth < recursionLimit := hd2_of hd
  have hu1 : ∀ env : Env, (A.deeper env).units + 64 < cLine := hu1_of hu
  refine piece 1 hR ?_
  simp only [List.take_succ_cons, List.take_zero]
  show wpAny _ _ _ _ _ _
  have lvz := iz.length
  k_steps
  refine Stop.go (comp_assign (hs := by intro _; rfl) (cl := [("sizes", L' + 3), ("cells", L' + 1)]) ?hsw1 (by rfl) rfl (by decide) ?_)
  case hsw1 => rfl
  refine wpAny_up ?_
  k_steps
  rename Fr _ _ _ _ => F
  rename News _ _ _ _ => N
  rename IsRange _ _ _ _ _ _ _ _ => hr
  rename (@LE.le Nat _ _ _) => hleA
  replace htk := Nat.lt_of_lt_of_le htk hleA
  refine Stop.go (comp_range (fs := L' :: fr outs) (n := 4) hr (small_one (by (first | lia | omega)) (by (first | lia | omega)) (by (first | lia | omega)) (by (first | lia | omega))) (by rw [rangeSize_nat]; rfl) hh (by rw [sizeLine_eq]; (first | lia | omega))
    (fun C D q ys h tkq => ∃ τ : Nat → Int, 0 < tkq ∧ Tk τ tkq ys ∧ IntsAre ys ((List.range q).map fun (i : Nat) => c6 + (zs.take (i + 1)).sum)) (by decide) rfl (fs_lt' D F) (fun _ _ _ _ _ _ _ => ⟨fun _ => 0, htk, .nil, .nil⟩) (fun _ _ _ _ _ _ _ _ _ ⟨τ, b1, b2, b3⟩ _ hle _ => ⟨τ, Nat.lt_of_lt_of_le b1 hle, b2.le hle, b3⟩) ?turn ?fin)
  case turn =>
    rintro C Dc q bs ys hA tk1 m1 fC fD ne hq ⟨tq, rfl⟩ ⟨τ, b1, b2, b3⟩ hns hDd hk
    rw [show (1 : Int) + (q : Int) * 1 = ((q + 1 : Nat) : Int) by (first | lia | omega)]
    refine turn1 rfl rfl hns fC hk fun hX tk3 hle hns2 hk2 hs2 => ?_
    refine wpAny_tests_nil ?_
    rw [if_pos rfl]
    obtain ⟨g', B', D', TT', F', N', _⟩ := after_kept (s := { s with heap := _, toks := 0 }) B D TT F N hk2
    have Xg := Xb.keeps B'.stays
    have T : Top Mine.hd0.view_39 (looseW Mine.hd0.view_39 []) mean mg mb g' := Tb.keeps B'.stays
    have hcl : hX.IsCell (L' + 3) (some (.ref lz)) := ⟨_, (N' (L' + 3, oS) (by k_mem)).1, hS⟩
    have hcl2 : hX.IsCell (L' + 1) (some (.ref lc)) := ⟨_, (N' (L' + 1, oC) (by k_mem)).1, hC⟩
    have hlz : hX.IsList lz vz.toArray := lst_at N' (by k_mem) rfl ⟨_, rfl⟩
    clear F N B D TT
    show wpAny _ _ _ _ _ _
    k_steps
    refine Stop.go (slice_keep (hs := by with_unfolding_all rfl) (ht := by (intro _; with_unfolding_all rfl)) hlz (by (first | lia | omega)) fun Ds hSl hkS eS nS => ?_)
    k_steps
    refine Stop.go (wpAny_up (sum_keep hh ⟨_, eS, rfl, _, rfl⟩ (ints_take iz) fun hSu tkS tS hk' hle2 => ?_))
    replace hle2 : tk3 ≤ tkS := Nat.le_trans (by first | exact Nat.le_refl _ | exact Nat.le_add_right _ _ | (dsimp only; (first | lia | omega))) hle2
    k_steps
    obtain ⟨τ2, d1, d2⟩ := b2.snoc (Nat.le_trans hle hle2) (Nat.lt_of_lt_of_le b1 (Nat.le_trans hle hle2)) (x := c6 + (zs.take (q + 1)).sum)
    refine Stop.go ⟨hSu, _, _, rfl, (keptX_same hs2).trans (.of_keeps fun b o _ e => hk' _ _ (hkS _ _ e)), hns2.at' fun o e => hk' _ _ (hkS _ _ e), τ2, Nat.succ_pos _, d2, ?_⟩
    rw [List.range_succ, List.map_append]
    exact ints_app b3 (.cons _ _ .nil)
  case fin =>
    refine' fin_assign B D TT ?hL F N ?hy ?hp ?kk
    case hL => exact rfl
    case hy => exact rfl
    case hp => exact rfl
    intro g C De ve ne h₀ h tk₀ tk1 fD off fC B D TT F N ⟨τ, b1, b2, b3⟩ hle hk hoth _
    have Xg := Xb.keeps B.stays
    have T : Top Mine.hd0.view_39 (looseW Mine.hd0.view_39 []) mean mg mb g := Tb.keeps B.stays
    show wpAny _ _ _ _ _ _
    refine wpAny_execs_nil ⟨rfl, fun hleU => ?_⟩
    exact k g _ _ _ De ve ne τ hleU B D TT (Fr_nm F _ (nms1 rfl)) N b3 (b2.le hle)
end
end
section
section
variable {prog : Program} {w : World} {A : Around} {s s₂ : Shared} {E : Value → Shared → Prop} {R : Result → Shared → Prop} {env : Env} {elt target iter : Expr} {ifs : List Expr} {scope : Scope} {pos : Pos} {I : Addr} {fp wr fs : List Addr} {n : Nat} {P : Nat → List (Str × Value) → Prop} {St : Nat → Heap → Prop} {cl : List (Str × Addr)}

theorem comp_midI {RR : Value → Addr → Result → Shared → Prop} (Dr : ∀ C, Drive prog w A (compEnvC scope cl C env) target (.ref I) fp wr n P St) (hsz : n ≤ sizeLine) (J Jd : Addr → Addr → Nat → List Value → Heap → Nat → Prop) (hwk : ∀ i h, St i h → ∀ c ∈ wr, ∃ o, h.get? c = some o ∧ ¬ IsLst o)
    (hcell : ∀ y ∈ scope.names, y.2 ≠ .cell) (hkind : scope.kind = .function)
    (hst : St 0 s₂.heap) (hfp : ∀ c ∈ fp, c < s₂.heap.objs.size ∧ c ∉ fs) (hfs : ∀ c ∈ fs, c < s₂.heap.objs.size)
    (hJ : ∀ C D h, s₂.heap.get? C = none → s₂.heap.get? D = none → C ≠ D → KeptX [] fs s₂.heap h → (∀ c ∈ wr, ∃ o, h.get? c = some o ∧ ¬ IsLst o) → J C D 0 [] h s₂.toks)
    (hJs : ∀ C D i ys h h' tk tk', J C D i ys h tk → KeptX (C :: D :: wr) fs h h' → tk ≤ tk' → (∀ c ∈ wr, ∃ o, h'.get? c = some o ∧ ¬ IsLst o) → J C D i ys h' tk') (hJd : ∀ C D i ys h h' tk tk', J C D i ys h tk → KeptX (C :: D :: wr) fs h h' → tk ≤ tk' → Jd C D i ys h' tk')
    (turn : ∀ C D i bs ys h tk m, s₂.heap.get? C = none → s₂.heap.get? D = none → C ≠ D → i < n → P i bs → J C D i ys h tk → h.Ns C m → (∃ o, h.get? D = some o) → KeptX wr fs s₂.heap h →
      Stores (model prog w) A (compEnvC scope cl C env) (fun _ _ => False) bs (fun s₁ => wpAny (model prog w) A (testsOf ifs (compEnvC scope cl C env)) (fun ok s₃ =>
        if ok = true then wpAny (model prog w) A (eval elt (compEnvC scope cl C env)) (fun y s₃ => ∃ h' tk' m', s₃ = { s₂ with heap := h', toks := tk' } ∧ KeptX [C] fs h h' ∧ h'.Ns C m' ∧ J C D (i + 1) (ys ++ [y]) h' tk') (fun _ _ => False) s₃
        else ∃ h' tk' m', s₃ = { s₂ with heap := h', toks := tk' } ∧ KeptX [C] fs h h' ∧ h'.Ns C m' ∧ J C D (i + 1) ys h' tk') (fun _ _ => False) s₁) { s₂ with heap := h, toks := tk })
    (done : ∀ C D h tk ys m, s₂.heap.get? C = none → s₂.heap.get? D = none → C ≠ D → h.PlainList D ys.toArray → h.Ns C m → Jd C D n ys h tk → KeptX wr fs s₂.heap h → RR (.ref D) C (.ok .next) { s₂ with heap := h, toks := tk }) :
    wpAny (model prog w) A (newList []) (fun acc s₃ => wpAny (model prog w) A (newFunctionEnv scope env.globals cl [] env.qual none .none (some env)) (fun cenv s₄ =>
      codeAny (model prog w) A (.compStart (.ListComp elt [⟨target, iter, ifs, 0⟩] scope pos) 0 (.ref I) acc { cenv with scope := relabel scope env }) (RR acc cenv.locals) s₄) E s₃) E s₂ := by
  refine wpAny_newObj_type (wpAny_newFunctionEnv hcell (by intro y hy; simp at hy) (fun h₁ hns₁ hsb₁ => ?_) hkind)
  dsimp only at hns₁ hsb₁ ⊢
  generalize hH2 : s₂.heap.push { cls := .type "list", dict := none, data := .seq ([] : List Value).toArray } = H2 at hns₁ hsb₁ ⊢
  have hC : H2.objs.size = s₂.heap.objs.size + 1 := by rw [← hH2, Heap.size_push]
  have hDC : s₂.heap.objs.size ≠ H2.objs.size := by rw [hC]; exact Nat.ne_of_lt (Nat.lt_succ_self _)
  have below : ∀ b, b < s₂.heap.objs.size → b ≠ H2.objs.size ∧ b ≠ s₂.heap.objs.size := fun b hb => ⟨by rw [hC]; exact Nat.ne_of_lt (Nat.lt_succ_of_lt hb), Nat.ne_of_lt hb⟩
  have hDf : s₂.heap.objs.size ∉ fp := fun hm => Nat.lt_irrefl _ (hfp _ hm).1
  have hCf : H2.objs.size ∉ fp := fun hm => by have := (hfp _ hm).1; rw [hC] at this; exact Nat.lt_irrefl _ (Nat.lt_of_succ_lt this)
  have old : ∀ b o, s₂.heap.get? b = some o → h₁.get? b = some o := fun b o e => hsb₁.extBut b o (below b (Heap.lt_size e)).1 (Heap.get?_push_of_some _ (hH2 ▸ Heap.get?_push_of_some _ e))
  have hacc : h₁.PlainList s₂.heap.objs.size #[] := ⟨_, hsb₁.extBut _ _ hDC (Heap.get?_push_of_some _ (hH2 ▸ Heap.get?_push_size _ rfl))⟩
  have fresh : ∀ a, s₂.heap.objs.size ≤ a → s₂.heap.get? a = none := fun a ha => by
    cases e : s₂.heap.get? a with
    | none => rfl
    | some o' => exact absurd (Heap.lt_size e) (Nat.not_lt.mpr ha)
  have fD := fresh s₂.heap.objs.size (Nat.le_refl _)
  have fC := fresh H2.objs.size (by rw [hC]; exact Nat.le_succ _)
  have hst₁ : St 0 h₁ := (Dr H2.objs.size).frame _ _ _ hst fun b _ o e => old b o e
  have lift : ∀ {h}, KeptX (H2.objs.size :: s₂.heap.objs.size :: wr) fs h₁ h → KeptX wr fs s₂.heap h := fun x => x.lift old fun b hb => by
    rcases List.mem_cons.mp hb with rfl | hb
    · exact .inr fC
    · rcases List.mem_cons.mp hb with rfl | hb
      · exact .inr fD
      · exact .inl hb
  have hDs : s₂.heap.objs.size ∉ fs := fun hm => Nat.lt_irrefl _ (hfs _ hm)
  have loop : codeAny (model prog w) A (.compLoop (.ListComp elt [⟨target, iter, ifs, 0⟩] scope pos) 0 (.ref I) (.ref s₂.heap.objs.size) (compEnvC scope cl H2.objs.size env))
        (RR (.ref s₂.heap.objs.size) H2.objs.size) { s₂ with heap := h₁, toks := s₂.toks + ([] : List (Str × Value)).length } := by
    refine comp_loopI (s := { s₂ with heap := h₁, toks := s₂.toks + ([] : List (Str × Value)).length }) (Dr _) hsz (J H2.objs.size s₂.heap.objs.size) (Jd H2.objs.size s₂.heap.objs.size) hwk hst₁ hacc ⟨_, hns₁⟩ (hJ _ _ _ fC fD (Ne.symm hDC) (.of_keeps fun b o _ e => old b o e) (hwk _ _ hst₁)) hDf hCf hDC (fun c hc => (hfp c hc).2)
      hDs (fun hm => by have := hfs _ hm; rw [hC] at this; exact Nat.lt_irrefl _ (Nat.lt_of_succ_lt this)) (hJs _ _) (hJd _ _) ?_ ?_
    · intro i bs ys h tk m hi hP hJi hn hpl hk
      obtain ⟨nn, e⟩ := hpl
      exact turn H2.objs.size s₂.heap.objs.size i bs ys h tk m fC fD (Ne.symm hDC) hi hP hJi hn ⟨_, e⟩ (lift hk)
    · intro h tk ys m hp hn hJn hk
      exact done _ _ h tk ys m fC fD (Ne.symm hDC) hp hn hJn (lift hk)
  exact codeAny_compStart_list loop ((Dr H2.objs.size).self 0 _ _ _ hst₁ loop)
end
section
variable {prog : Program} {w : World} {A : Around} {s : Shared} {E : Value → Shared → Prop} {R : Result → Shared → Prop} {env : Env} {elt target iter : Expr} {ifs : List Expr} {scope : Scope} {pos : Pos} {I : Addr} {fp wr fs : List Addr} {n : Nat} {P : Nat → List (Str × Value) → Prop} {St : Nat → Heap → Prop} {cl : List (Str × Addr)} {use : Option (Value → Sem Unit)} {Q : Value → Shared → Prop}
theorem comp_fromI {s₂ : Shared} {h₂ : Heap} {tk₂ : Nat} (hs₂ : s₂ = { s with heap := h₂, toks := tk₂ }) (htk : s.toks = tk₂) (hold : ∀ c o, s.heap.get? c = some o → h₂.get? c = some o) (hwn : ∀ c ∈ wr, s.heap.get? c = none)
    (Dr : ∀ C, Drive prog w A (compEnvC scope cl C env) target (.ref I) fp wr n P St) (hsz : n ≤ sizeLine) (J Jd : Addr → Addr → Nat → List Value → Heap → Nat → Prop) (hwk : ∀ i h, St i h → ∀ c ∈ wr, ∃ o, h.get? c = some o ∧ ¬ IsLst o)
    (hcell : ∀ y ∈ scope.names, y.2 ≠ .cell) (hkind : scope.kind = .function)
    (hst : St 0 h₂) (hfp : ∀ c ∈ fp, c < h₂.objs.size ∧ c ∉ fs) (hfs : ∀ c ∈ fs, c < h₂.objs.size)
    (hJ : ∀ C D h, s.heap.get? C = none → s.heap.get? D = none → C ≠ D → Kept fs s.heap h → (∀ c ∈ wr, ∃ o, h.get? c = some o ∧ ¬ IsLst o) → (∀ c ∈ wr, c ≠ C ∧ c ≠ D) → J C D 0 [] h s.toks)
    (hJs : ∀ C D i ys h h' tk tk', J C D i ys h tk → KeptX (C :: D :: wr) fs h h' → tk ≤ tk' → (∀ c ∈ wr, ∃ o, h'.get? c = some o ∧ ¬ IsLst o) → J C D i ys h' tk') (hJd : ∀ C D i ys h h' tk tk', J C D i ys h tk → KeptX (C :: D :: wr) fs h h' → tk ≤ tk' → Jd C D i ys h' tk')
    (turn : TurnC prog w A fs env scope cl elt ifs s n P J)
    (fin : FinC prog w A E fs s n Jd use Q) :
    CompRun prog w A E env scope cl (.ListComp elt [⟨target, iter, ifs, 0⟩] scope pos) use Q (.ref I) s₂ := by
  subst hs₂
  subst htk
  have fresh : ∀ c, h₂.get? c = none → s.heap.get? c = none := fun c e => by
    cases q : s.heap.get? c with
    | none => rfl
    | some o => rw [hold c o q] at e; cases e
  have kept : ∀ {h : Heap}, KeptX wr fs h₂ h → Kept fs s.heap h := fun x => (x.lift (Y := []) hold fun c hc => .inr (hwn c hc)).kept fun _ hb => nomatch hb
  refine comp_midI (s₂ := { s with heap := h₂, toks := s.toks }) Dr hsz J Jd hwk hcell hkind hst hfp hfs (fun C D h f1 f2 ne k hw => hJ C D h (fresh C f1) (fresh D f2) ne (kept (k.mono fun _ hb => nomatch hb)) hw fun c hc => ⟨fun q => (by obtain ⟨o, e, _⟩ := hwk _ _ hst c hc; rw [q] at e; rw [show h₂.get? C = none from f1] at e; cases e), fun q => (by obtain ⟨o, e, _⟩ := hwk _ _ hst c hc; rw [q] at e; rw [show h₂.get? D = none from f2] at e; cases e)⟩) hJs hJd
    (fun C D i bs ys h tk m f1 f2 ne hi hP hJi hn hD hk => turn C D i bs ys h tk m (fresh C f1) (fresh D f2) ne hi hP hJi hn hD (kept hk))
    (fun C D h tk ys m f1 f2 ne hp hn hJn hk => fin C D ys h tk m (fresh C f1) (fresh D f2) ne hn hp hJn (kept hk))

theorem comp_rangeI {r : Addr} {a b c : Int} {t u v : Tok} {x : Str} {px : Pos}
    (hr : IsRange s.heap r a b c t u v) (hsm : Builtin.Range.small a b c = true) (hn : Builtin.Range.rangeSize a b c = ((n : Nat) : Int)) (hh : A.handled = none) (hsz : n ≤ sizeLine) (J Jd : Addr → Addr → Nat → List Value → Heap → Nat → Prop)
    (hcell : ∀ y ∈ scope.names, y.2 ≠ .cell) (hkind : scope.kind = .function) (hfs : ∀ c ∈ fs, c < s.heap.objs.size)
    (hJ : ∀ C D h, s.heap.get? C = none → s.heap.get? D = none → C ≠ D → Kept fs s.heap h → (∃ o, h.get? s.heap.objs.size = some o ∧ ¬ IsLst o) → s.heap.objs.size ≠ C → s.heap.objs.size ≠ D → J C D 0 [] h s.toks)
    (hJs : ∀ C D i ys h h' tk tk', J C D i ys h tk → KeptX [C, D, s.heap.objs.size] fs h h' → tk ≤ tk' → (∃ o, h'.get? s.heap.objs.size = some o ∧ ¬ IsLst o) → J C D i ys h' tk') (hJd : ∀ C D i ys h h' tk tk', J C D i ys h tk → KeptX [C, D, s.heap.objs.size] fs h h' → tk ≤ tk' → Jd C D i ys h' tk')
    (turn : TurnC prog w A fs env scope cl elt ifs s n (fun i bs => ∃ t, bs = [(x, .int (a + (i : Int) * c) t)]) J)
    (fin : FinC prog w A E fs s n Jd use Q) :
    wpAny (model prog w) A (pyIter (.ref r)) (CompRun prog w A E env scope cl (.ListComp elt [⟨.Name x px, iter, ifs, 0⟩] scope pos) use Q) E s := by
  refine wpAny_pyIter_range hr hsm ?_
  have hsz' : (s.heap.push { cls := .type "range_iterator", data := .fields #[rawInt a, rawInt (Builtin.Range.rangeSize a b c), rawInt c] }).objs.size = s.heap.objs.size + 1 := Heap.size_push ..
  have fI : s.heap.get? s.heap.objs.size = none := Heap.get?_none_of_le (Nat.le_refl _)
  refine comp_fromI (wr := [s.heap.objs.size]) (fp := [s.heap.objs.size]) (n := n) (s := s) rfl rfl (fun c o e => Heap.get?_push_of_some _ e) (fun c hc => by rw [List.mem_singleton.mp hc]; exact fI)
    (fun C => ?_) hsz J Jd (fun i h st c hc => ?hwk) hcell hkind (St := fun i h => IsRangeIter h s.heap.objs.size (a + (i : Nat) * c) ((n : Int) - (i : Nat)) c) (by show IsRangeIter _ _ _ _ _; rw [hn]; simpa using Heap.get?_push_size _ rfl) (fun c hc => ?_) (fun c hc => by rw [hsz']; exact Nat.lt_succ_of_lt (hfs c hc)) (fun C D h f1 f2 ne k hw hn => hJ C D h f1 f2 ne k (hw _ List.mem_cons_self) (hn _ List.mem_cons_self).1 (hn _ List.mem_cons_self).2)
    (fun C D i ys h h' tk tk' j k hle hw => hJs C D i ys h h' tk tk' j k hle (hw _ List.mem_cons_self)) hJd turn fin
  case hwk =>
    rw [List.mem_singleton.mp hc]
    exact ⟨_, st, notLst_iter (n := "range_iterator") (by decide) rfl fun v q => by cases q⟩
  · have Dr := Drive.name (env := compEnvC scope cl C env) (x := x) (pos := px) (Walks.range (prog := prog) (w := w) hh s.heap.objs.size a c n)
    exact { Dr with item := fun i s Kd Ki E hi st hQ => Dr.item i s Kd Ki E hi st fun bs h' tk hP => hQ bs h' tk (by obtain ⟨v, ⟨t, rfl⟩, rfl⟩ := hP; exact ⟨t, rfl⟩) }
  · rw [hsz', List.mem_singleton.mp hc]
    exact ⟨Nat.lt_succ_self _, fun hm => Nat.lt_irrefl _ (hfs _ hm)⟩
end
end
section
theorem KsR.snocV {c : Nat} {k : Addr} {n : Nat} {y : List Value} {V : List Int} (hy : IntsAre y V) (hl : y.length ≤ c) {ks : List Addr} {S : List (List Int)} {kl : List (Addr × Obj)} (h : KsR c ks S kl) : KsR c (ks ++ [k]) (S ++ [V]) (kl ++ [(k, lst y n)]) := by
  induction h with
  | nil => exact .cons hy hl .nil
  | cons i l r ih => exact .cons i l ih
inductive NewLs (s : Shared) (fs : List Addr) (c : Nat) (V : Nat → List Int) (C D : Addr) (i : Nat) (ys : List Value) (h : Heap) : Prop
  | mk : ∀ ks kl, ys = ks.map Value.ref → ks.length = i → ks.Nodup → KsR c ks ((List.range i).map V) kl → (∀ p ∈ kl, h.get? p.1 = some p.2 ∧ p.1 ≠ C ∧ p.1 ≠ D ∧ p.1 ∉ fs ∧ s.heap.get? p.1 = none) → NewLs s fs c V C D i ys h
section
variable {prog : Program} {w : World} {A : Around} {s : Shared} {E : Value → Shared → Prop} {env : Env} {elt iter : Expr} {scope : Scope} {pos : Pos} {fs : List Addr} {n : Nat} {cl : List (Str × Addr)} {use : Option (Value → Sem Unit)} {Q : Value → Shared → Prop}
theorem comp_rangeL {r : Addr} {a b c : Int} {t u v : Tok} {x : Str} {px : Pos} {lim : Nat} (V : Nat → List Int)
    (hr : IsRange s.heap r a b c t u v) (hsm : Builtin.Range.small a b c = true) (hn : Builtin.Range.rangeSize a b c = ((n : Nat) : Int)) (hh : A.handled = none) (hsz : n ≤ sizeLine)
    (hcell : ∀ y ∈ scope.names, y.2 ≠ .cell) (hkind : scope.kind = .function) (hfs : ∀ c ∈ fs, c < s.heap.objs.size) (hfe : ∀ c ∈ fs, ∃ o, s.heap.get? c = some o)
    (hx : ∀ C, (compEnvC scope cl C env).kindOf x = some .local) (hV : ∀ i, i < n → (V i).length ≤ lim)
    (elem : ∀ C i t hX tk (m : Str → Option Value), i < n → s.heap.get? C = none → hX.Ns C (fun y => if y = x then some (.int (a + (i : Int) * c) t) else m y) → Kept fs s.heap hX →
      wpAny (model prog w) A (eval elt (compEnvC scope cl C env)) (fun y s₃ => ∃ h' tk' r yv nn, s₃ = { s with heap := h', toks := tk' } ∧ y = .ref r ∧ hX.get? r = none ∧ h'.get? r = some (lst yv nn) ∧ IntsAre yv (V i) ∧ Kept fs hX h') (fun _ _ => False) { s with heap := hX, toks := tk })
    (fin : FinC prog w A E fs s n (fun C D i ys h _ => NewLs s fs lim V C D i ys h) use Q) :
    wpAny (model prog w) A (pyIter (.ref r)) (CompRun prog w A E env scope cl (.ListComp elt [⟨.Name x px, iter, [], 0⟩] scope pos) use Q) E s := by
  have hex : ∀ {h : Heap}, Kept fs s.heap h → ∀ c ∈ fs, ∃ o, h.get? c = some o := fun hk c hc => by
    obtain ⟨o, e⟩ := hfe c hc
    obtain ⟨sl, e'⟩ := hk.up e
    exact ⟨_, e'⟩
  refine comp_rangeI hr hsm hn hh hsz (fun C D i ys h _ => (∃ o, h.get? s.heap.objs.size = some o ∧ ¬ IsLst o) ∧ s.heap.objs.size ≠ C ∧ NewLs s fs lim V C D i ys h) (fun C D i ys h _ => NewLs s fs lim V C D i ys h) hcell hkind hfs
    (fun C D h _ _ _ _ hI n1 n2 => ⟨hI, n1, [], [], rfl, rfl, List.nodup_nil, .nil, fun _ h => nomatch h⟩) ?hJs ?hJd ?turn fin
  case hJd =>
    rintro C D i ys h h' tk tk' ⟨⟨oI, hI, nI⟩, nIC, ks, kl, e1, e2, e3, e4, e5⟩ hk hle
    refine ⟨ks, kl, e1, e2, e3, e4, fun p hp => ?_⟩
    obtain ⟨f1, f2, f3, f4, f5⟩ := e5 p hp
    refine ⟨hk.other _ _ f1 (fun hm => ?_) f4, f2, f3, f4, f5⟩
    rcases List.mem_cons.mp hm with e | hm
    · exact f2 e
    rcases List.mem_cons.mp hm with e | hm
    · exact f3 e
    rw [List.mem_singleton.mp hm, hI] at f1
    cases f1
    exact nI (e4.addr p hp).2
  case hJs =>
    rintro C D i ys h h' tk tk' ⟨⟨oI, hI, nI⟩, nIC, ks, kl, e1, e2, e3, e4, e5⟩ hk hle hI'
    refine ⟨hI', nIC, ks, kl, e1, e2, e3, e4, fun p hp => ?_⟩
    obtain ⟨f1, f2, f3, f4, f5⟩ := e5 p hp
    refine ⟨hk.other _ _ f1 (fun hm => ?_) f4, f2, f3, f4, f5⟩
    rcases List.mem_cons.mp hm with e | hm
    · exact f2 e
    rcases List.mem_cons.mp hm with e | hm
    · exact f3 e
    rw [List.mem_singleton.mp hm, hI] at f1
    cases f1
    exact nI (e4.addr p hp).2
  case turn =>
    rintro C D i bs ys hA tk m fC fD ne hi ⟨t, rfl⟩ ⟨⟨oI, hI, nI⟩, nIC, ks, kl, rfl, e2, e3, e4, e5⟩ hns ⟨oD, hDd⟩ hk
    refine turn1 (hx C) hkind hns fC hk fun hX tk2 hle hns2 hk2 hs2 => ?_
    refine wpAny_tests_nil ?_
    rw [if_pos rfl]
    refine wpAny_mono (elem C i t hX tk2 m hi fC hns2 hk2) (fun y s₃ z => ?_) fun _ _ e => e
    obtain ⟨h', tk', r', yv, nn, rfl, rfl, z1, z2, z3, z4⟩ := z
    have hIX := hs2.extBut _ _ nIC hI
    have dX := hs2.extBut _ _ (Ne.symm ne) hDd
    have cX : ∃ o, hX.get? C = some o := by obtain ⟨o, _, _, e, _⟩ := hns2; exact ⟨o, e⟩
    have f1' : ∀ p ∈ kl, hX.get? p.1 = some p.2 := fun p hp => hs2.extBut _ _ (e5 p hp).2.1 (e5 p hp).1
    have hr1 : ∀ x, (∃ o, hX.get? x = some o) → r' ≠ x := fun x ⟨o, e⟩ q => by rw [q, e] at z1; cases z1
    have nfs : ∀ x, (∃ o, hX.get? x = some o ∧ s.heap.get? x = none) → x ∉ fs := fun x ⟨o, e, e'⟩ hm => by
      obtain ⟨o', q⟩ := hfe x hm
      rw [e'] at q; cases q
    have nC : C ∉ fs := nfs C (let ⟨o, e⟩ := cX; ⟨o, e, fC⟩)
    have nI2 : s.heap.objs.size ∉ fs := fun hm => Nat.lt_irrefl _ (hfs _ hm)
    obtain ⟨oC, eC⟩ := cX
    refine ⟨h', tk', _, rfl, (keptX_same hs2).trans (.of_kept z4), z4.ns hns2, ⟨oI, z4.other _ _ hIX nI2, nI⟩, nIC, ks ++ [r'], kl ++ [(r', lst yv nn)], ?_, ?_, ?_, ?_, ?_⟩
    · rw [List.map_append]; rfl
    · rw [List.length_append, e2]; rfl
    · refine List.nodup_append.mpr ⟨e3, List.nodup_cons.mpr ⟨List.not_mem_nil, List.nodup_nil⟩, fun x hx y hy => ?_⟩
      rw [List.mem_singleton.mp hy]
      obtain ⟨y', n', hm⟩ := e4.has x hx
      exact Ne.symm (hr1 x ⟨_, f1' _ hm⟩)
    · rw [List.range_succ, List.map_append]
      exact KsR.snocV z3 (by rw [z3.length]; exact hV i hi) e4
    · intro p hp
      rcases List.mem_append.mp hp with hp | hp
      · exact ⟨z4.other _ _ (f1' p hp) (e5 p hp).2.2.2.1, (e5 p hp).2⟩
      · rw [List.mem_singleton.mp hp]
        have sn : s.heap.get? r' = none := by
          cases q : s.heap.get? r' with
          | none => rfl
          | some o =>
            obtain ⟨sl, q'⟩ := hk2.up q
            rw [z1] at q'; cases q'
        refine ⟨z2, hr1 _ ⟨_, eC⟩, hr1 _ ⟨_, dX⟩, fun hm => ?_, sn⟩
        obtain ⟨o', q⟩ := hfe r' hm
        rw [sn] at q; cases q
end
end
section
section
variable {w : World} {A : Around} {s : Shared} {outs : List Env} {mg mb : Str → Option Value} {mean : ExcName → Option Value} {Q : Flow → Shared → Prop} {E : Value → Shared → Prop}
theorem none_of {g₀ g h : Heap} {L : Addr} {m : Str → Option Value} {fs : List Addr} (F : Fr g L h m) (TT : KtsTurn fs g₀ g) : ∀ c, h.get? c = none → g₀.get? c = none := fun c hc => by
  cases q : g₀.get? c with
  | none => rfl
  | some o =>
    obtain ⟨sl, e⟩ := TT.up q
    have := F.keep _ _ e
    rw [hc] at this; cases this
theorem fs_ex {g h : Heap} {L : Addr} {m : Str → Option Value} {outs : List Env} (D : KtsDicts (fr outs) g) (F : Fr g L h m) : ∀ c ∈ L :: fr outs, ∃ o, h.get? c = some o := fun c hc => by
  rcases List.mem_cons.mp hc with rfl | hc
  · obtain ⟨o, _, _, e, _⟩ := F.ns; exact ⟨o, e⟩
  · obtain ⟨o, _, _, e, _⟩ := D c hc
    exact ⟨o, F.keep _ _ e⟩
theorem lawD {sc : Scope} {bd : List Stmt} (hsc : sc = scopeOf w.params 109) (hbd : bd = (lBody w.params).drop 4)
    {fa cd ls L' lg lc lz le : Addr} {vg vz ve : List Value} {gs : List Int} {ng nc nz ne : Nat} {oC oG oS : Obj} {c0 c1 c2 c3 c4 c5 c6 : Int} {t0 t1 t2 t3 t4 t5 t6 : Tok} {vS : Option Value} {g h : Heap} {tk : Nat} {mx : Str → Option Value}
    (a : AmbW w mean mg mb A outs s.heap) (hd : A.depth + 4 < recursionLimit) (hu : A.units + 80 < cLine) (B : Below A (hideAll s.heap (fr outs)) outs g) (D : KtsDicts (fr outs) g) (TT : KtsTurn (fr outs) s.heap g)
    (hC : oC.data = .cell (some (.ref lc))) (hG : oG.data = .cell (some (.ref lg))) (hS : oS.data = .cell vS) (ig : IntsAre vg gs) (zg : gs.length = 4) (hgs : ∀ z ∈ gs, 0 ≤ z ∧ z ≤ 4)
    (hlim : ∀ i, i < 4 → (dueM gs c4 c5 (i + 1)).length ≤ 64)
    (F : Fr g L' h (nm [("ends", .ref le)] mx)) (N : News g L' h ((le, lst ve ne) :: (lz, lst vz nz) :: (lg, lst vg ng) :: (lc, lst [.int c0 t0, .int c1 t1, .int c2 t2, .int c3 t3, .int c4 t4, .int c5 t5, .int c6 t6] nc) :: (L' + 1, oC) :: (L' + 2, oG) :: (L' + 3, oS) :: []))
    {R : Shared → Prop} (hR : ∀ s', R s' → wpAny (model PG w) (A.deeper (envOfC "law" sc L' fa (.ref cd))) (execs (bd.drop 1) (envOfC "law" sc L' fa (.ref cd))) Q E s')
    (k : ∀ g h tk' mx ld nd ks kl, tk ≤ tk' → Below A (hideAll s.heap (fr outs)) outs g → KtsDicts (fr outs) g → KtsTurn (fr outs) s.heap g → Fr g L' h (nm [("ends", .ref le), ("due", .ref ld)] mx) →
      News g L' h ((ld, lst (ks.map Value.ref) nd) :: (le, lst ve ne) :: (lz, lst vz nz) :: (lg, lst vg ng) :: (lc, lst [.int c0 t0, .int c1 t1, .int c2 t2, .int c3 t3, .int c4 t4, .int c5 t5, .int c6 t6] nc) :: (L' + 1, oC) :: (L' + 2, oG) :: (L' + 3, oS) :: kl) → KsR 64 ks ((List.range 4).map fun (i : Nat) => dueM gs c4 c5 (i + 1)) kl → ks.length = 4 → R { s with heap := h, toks := tk' }) :
    wpAny (model PG w) (A.deeper (envOfC "law" sc L' fa (.ref cd))) (execs bd (envOfC "law" sc L' fa (.ref cd))) Q E { s with heap := h, toks := tk } := by
  have hh := a.hh
  obtain ⟨_, Xb, Tb⟩ := a.open
  conv at hsc => rhs; whnf
  conv at hbd => rhs; whnf
  subst hsc hbd
  have Xg := Xb.keeps B.stays
  have T : Top Mine.hd0.view_39 (looseW Mine.hd0.view_39 []) mean mg mb g := Tb.keeps B.stays
  have hd1 : ∀ env : Env, (A.deeper env).depth + 1 < recursionLimit := hd1_of hd
  have hd2 : ∀ env : Env, (A.deeper env).depth < recursionLimit := hd2_of hd
  have hu1 : ∀ env : Env, (A.deeper env).units + 64 < cLine := hu1_of hu
  refine piece 1 hR ?_
  simp only [List.take_succ_cons, List.take_zero]
  show wpAny _ _ _ _ _ _
  have lvg := ig.length
  k_steps
  refine Stop.go (comp_assign (hs := by intro _; rfl) (cl := [("growth", L' + 2), ("cells", L' + 1)]) ?hsw1 (by rfl) rfl (by decide) ?_)
  case hsw1 => rfl
  k_steps
  rename Fr _ _ _ _ => F
  rename News _ _ _ _ => N
  rename IsRange _ _ _ _ _ _ _ _ => hr
  refine Stop.go (comp_rangeL (fs := L' :: fr outs) (n := 4) (lim := 64) (fun i => dueM gs c4 c5 (i + 1)) hr (small_one (by (first | lia | omega)) (by (first | lia | omega)) (by (first | lia | omega)) (by (first | lia | omega))) (by rw [rangeSize_nat]; rfl) hh (by rw [sizeLine_eq]; (first | lia | omega)) (by decide) rfl (fs_lt' D F) (fs_ex D F) (fun _ => rfl) hlim ?elem ?fin)
  case elem =>
    intro C i t hX tk3 m hi fC hns2 hk2
    rw [show (1 : Int) + (i : Int) * 1 = ((i + 1 : Nat) : Int) by (first | lia | omega)] at hns2
    obtain ⟨g', B', D', TT', F', N', _⟩ := after_kept (s := { s with heap := _, toks := 0 }) B D TT F N hk2
    have Xg := Xb.keeps B'.stays
    have T : Top Mine.hd0.view_39 (looseW Mine.hd0.view_39 []) mean mg mb g' := Tb.keeps B'.stays
    have hcl : hX.IsCell (L' + 2) (some (.ref lg)) := ⟨_, (N' (L' + 2, oG) (by k_mem)).1, hG⟩
    have hcl2 : hX.IsCell (L' + 1) (some (.ref lc)) := ⟨_, (N' (L' + 1, oC) (by k_mem)).1, hC⟩
    have hlg : hX.IsList lg vg.toArray := lst_at N' (by k_mem) rfl ⟨_, rfl⟩
    clear F N B D TT
    show wpAny _ _ _ _ _ _
    k_steps
    refine Stop.go (call_use B' D' TT' F' N' rfl (due_c (first := c4) (step := c5) (group := i + 1) hlg ig zg hgs (by (first | lia | omega)) (amb_in B' D' F' Xb Tb hh rfl rfl) (hd2 _)) fun v g h tk3 hle3 B D TT F N new hk3 hpt => ?_)
    obtain ⟨Do, yo, no, hv, fo, eo, io⟩ := hpt
    subst hv
    exact ⟨h, _, Do, yo, no, rfl, rfl, fo, eo, io, hk3⟩
  case fin =>
    have nof := none_of F TT
    refine' fin_assign B D TT ?hL F N ?hy ?hp ?kk
    case hL => exact rfl
    case hy => exact rfl
    case hp => exact rfl
    intro g C De ve' ne' h₀ h tk₀ tk1 fD off fC B D TT F N ⟨ks, kl, e1, e2, e3, e4, e5⟩ hle hk hoth _
    subst e1
    have Nk : News g L' h kl := fun p hp => by
      obtain ⟨f1, f2, f3, f4, f5⟩ := e5 p hp
      have hpL : p.1 ≠ L' := fun q => f4 (by rw [q]; exact List.mem_cons_self)
      exact ⟨hoth _ _ hpL f2 f1, hpL, TT.none_ _ (nof _ f5)⟩
    show wpAny _ _ _ _ _ _
    refine wpAny_execs_nil ⟨rfl, fun hleU => ?_⟩
    refine k g _ _ _ De ne' ks kl hleU B D TT (Fr_nm F _ (nms2 rfl rfl)) ?N e4 e2
    case N =>
      intro p hp
      have hp' : p ∈ ((De, lst (ks.map Value.ref) ne') :: (le, lst ve ne) :: (lz, lst vz nz) :: (lg, lst vg ng) :: (lc, lst [.int c0 t0, .int c1 t1, .int c2 t2, .int c3 t3, .int c4 t4, .int c5 t5, .int c6 t6] nc) :: (L' + 1, oC) :: (L' + 2, oG) :: (L' + 3, oS) :: []) ++ kl := hp
      rcases List.mem_append.mp hp' with hp | hp
      · exact N p hp
      · exact Nk p hp
end
end
section
section
variable {w : World} {A : Around} {s : Shared} {outs : List Env} {mg mb : Str → Option Value} {mean : ExcName → Option Value} {Q : Flow → Shared → Prop} {E : Value → Shared → Prop}
theorem lawE {sc : Scope} {bd : List Stmt} (hsc : sc = scopeOf w.params 109) (hbd : bd = (lBody w.params).drop 5)
    {fa cd L' lg lc lz le ld : Addr} {vg vz ve : List Value} {gs : List Int} {ng nc nz ne nd : Nat} {oC oG oS : Obj} {c0 c1 c2 c3 c4 c5 c6 : Int} {t0 t1 t2 t3 t4 t5 t6 : Tok} {ks : List Addr} {kl : List (Addr × Obj)} {g h : Heap} {tk : Nat} {mx : Str → Option Value}
    (a : AmbW w mean mg mb A outs s.heap) (hd : A.depth + 4 < recursionLimit) (hu : A.units + 80 < cLine) (B : Below A (hideAll s.heap (fr outs)) outs g) (D : KtsDicts (fr outs) g) (TT : KtsTurn (fr outs) s.heap g)
    (hC : oC.data = .cell (some (.ref lc))) (hG : oG.data = .cell (some (.ref lg))) (ig : IntsAre vg gs) (zg : gs.length = 4)
    (hgs : ∀ i, i < 4 → ∀ k, 1 ≤ k → k ≤ i + 1 → 0 ≤ turnsOf gs (i + 1) k ∧ turnsOf gs (i + 1) k ≤ 2)
    (F : Fr g L' h (nm [("ends", .ref le), ("due", .ref ld)] mx)) (N : News g L' h ((ld, lst (ks.map Value.ref) nd) :: (le, lst ve ne) :: (lz, lst vz nz) :: (lg, lst vg ng) :: (lc, lst [.int c0 t0, .int c1 t1, .int c2 t2, .int c3 t3, .int c4 t4, .int c5 t5, .int c6 t6] nc) :: (L' + 1, oC) :: (L' + 2, oG) :: (L' + 3, oS) :: kl))
    {R : Shared → Prop} (hR : ∀ s', R s' → wpAny (model PG w) (A.deeper (envOfC "law" sc L' fa (.ref cd))) (execs (bd.drop 1) (envOfC "law" sc L' fa (.ref cd))) Q E s')
    (k : ∀ g h tk' mx ll vl nl, tk ≤ tk' → Below A (hideAll s.heap (fr outs)) outs g → KtsDicts (fr outs) g → KtsTurn (fr outs) s.heap g → Fr g L' h (nm [("ends", .ref le), ("due", .ref ld), ("last", .ref ll)] mx) →
      News g L' h ((ll, lst vl nl) :: (ld, lst (ks.map Value.ref) nd) :: (le, lst ve ne) :: (lz, lst vz nz) :: (lg, lst vg ng) :: (lc, lst [.int c0 t0, .int c1 t1, .int c2 t2, .int c3 t3, .int c4 t4, .int c5 t5, .int c6 t6] nc) :: (L' + 1, oC) :: (L' + 2, oG) :: (L' + 3, oS) :: kl) → IntsAre vl ((List.range 4).map fun (i : Nat) => lastM gs c4 c5 (i + 1)) → R { s with heap := h, toks := tk' }) :
    wpAny (model PG w) (A.deeper (envOfC "law" sc L' fa (.ref cd))) (execs bd (envOfC "law" sc L' fa (.ref cd))) Q E { s with heap := h, toks := tk } := by
  have hh := a.hh
  obtain ⟨_, Xb, Tb⟩ := a.open
  conv at hsc => rhs; whnf
  conv at hbd => rhs; whnf
  subst hsc hbd
  have Xg := Xb.keeps B.stays
  have T : Top Mine.hd0.view_39 (looseW Mine.hd0.view_39 []) mean mg mb g := Tb.keeps B.stays
  have hd1 : ∀ env : Env, (A.deeper env).depth + 1 < recursionLimit := hd1_of hd
  have hd2 : ∀ env : Env, (A.deeper env).depth < recursionLimit := hd2_of hd
  have hu1 : ∀ env : Env, (A.deeper env).units + 64 < cLine := hu1_of hu
  refine piece 1 hR ?_
  simp only [List.take_succ_cons, List.take_zero]
  show wpAny _ _ _ _ _ _
  have hd3 : ∀ env : Env, (A.deeper env).depth + 1 < recursionLimit := hd1_of hd
  have lvg := ig.length
  k_steps
  refine Stop.go (comp_assign (hs := by intro _; rfl) (cl := [("growth", L' + 2), ("cells", L' + 1)]) ?hsw1 (by rfl) rfl (by decide) ?_)
  case hsw1 => rfl
  k_steps
  rename Fr _ _ _ _ => F
  rename News _ _ _ _ => N
  rename IsRange _ _ _ _ _ _ _ _ => hr
  refine Stop.go (comp_range (fs := L' :: fr outs) (n := 4) hr (small_one (by (first | lia | omega)) (by (first | lia | omega)) (by (first | lia | omega)) (by (first | lia | omega))) (by rw [rangeSize_nat]; rfl) hh (by rw [sizeLine_eq]; (first | lia | omega))
    (fun C D q ys h tkq => IntsAre ys ((List.range q).map fun (i : Nat) => lastM gs c4 c5 (i + 1))) (by decide) rfl (fs_lt' D F) (fun _ _ _ _ _ _ _ => .nil) (fun _ _ _ _ _ _ _ _ _ hJ _ _ _ => hJ) ?turn ?fin)
  case turn =>
    rintro C Dc i bs ys hA tk1 m1 fC fD ne hi ⟨tq, rfl⟩ hJ hns hDd hk
    rw [show (1 : Int) + (i : Int) * 1 = ((i + 1 : Nat) : Int) by (first | lia | omega)]
    refine turn1 rfl rfl hns fC hk fun hX tk3 hle hns2 hk2 hs2 => ?_
    refine wpAny_tests_nil ?_
    rw [if_pos rfl]
    obtain ⟨g', B', D', TT', F', N', _⟩ := after_kept (s := { s with heap := _, toks := 0 }) B D TT F N hk2
    have Xg := Xb.keeps B'.stays
    have T : Top Mine.hd0.view_39 (looseW Mine.hd0.view_39 []) mean mg mb g' := Tb.keeps B'.stays
    have hcl : hX.IsCell (L' + 2) (some (.ref lg)) := ⟨_, (N' (L' + 2, oG) (by k_mem)).1, hG⟩
    have hcl2 : hX.IsCell (L' + 1) (some (.ref lc)) := ⟨_, (N' (L' + 1, oC) (by k_mem)).1, hC⟩
    have hlg : hX.IsList lg vg.toArray := lst_at N' (by k_mem) rfl ⟨_, rfl⟩
    clear F N B D TT
    show wpAny _ _ _ _ _ _
    k_steps
    refine Stop.go (call_use B' D' TT' F' N' rfl (last_c (first := c4) (step := c5) (group := i + 1) hlg ig zg (hgs i hi) (by (first | lia | omega)) (amb_in B' D' F' Xb Tb hh rfl rfl) (hd3 _)) fun v g h tk3 hle3 B D TT F N new hk3 hpt => ?_)
    obtain ⟨to, hv⟩ := hpt
    subst hv
    refine ⟨h, _, _, rfl, (keptX_same hs2).trans (.of_kept hk3), hk3.ns hns2, ?_⟩
    show IntsAre _ ((List.range (i + 1)).map _)
    rw [List.range_succ, List.map_append]
    exact ints_app hJ (.cons _ _ .nil)
  case fin =>
    refine' fin_assign B D TT ?hL F N ?hy ?hp ?kk
    case hL => exact rfl
    case hy => exact rfl
    case hp => exact rfl
    intro g C De ve' ne' h₀ h tk₀ tk1 fD off fC B D TT F N hJ hle hk hoth _
    show wpAny _ _ _ _ _ _
    refine wpAny_execs_nil ⟨rfl, fun hleU => ?_⟩
    exact k g _ _ _ De ve' ne' hleU B D TT (Fr_nm F _ (nms3 rfl rfl rfl)) N hJ
end
end
section
section
variable {w : World} {A : Around} {s : Shared} {outs : List Env} {mg mb : Str → Option Value} {mean : ExcName → Option Value} {Q : Flow → Shared → Prop} {E : Value → Shared → Prop}
theorem KsR.get {c : Nat} {ks : List Addr} {S : List (List Int)} {kl : List (Addr × Obj)} (h : KsR c ks S kl) : ∀ q, q < ks.length → ∃ k y n, ks[q]? = some k ∧ (k, lst y n) ∈ kl ∧ IntsAre y (S.getD q []) := by
  induction h with
  | nil => exact fun _ h => absurd h (Nat.not_lt_zero _)
  | cons i l r ih =>
    intro q h
    cases q with
    | zero => exact ⟨_, _, _, rfl, List.mem_cons_self, i⟩
    | succ q =>
      obtain ⟨k, y, n, h1, h2, h3⟩ := ih q (Nat.lt_of_succ_lt_succ h)
      exact ⟨k, y, n, h1, List.mem_cons_of_mem _ h2, h3⟩
theorem last_get {V : List Int} (h : V ≠ []) : V[V.length - 1]? = some (V.getLastD 0) := by
  rw [← List.getLast?_eq_getElem?, List.getLastD_eq_getLast?]
  cases q : V.getLast? with
  | none => exact absurd (List.getLast?_eq_none_iff.mp q) h
  | some x => rfl
theorem lawF {sc : Scope} {bd : List Stmt} (hsc : sc = scopeOf w.params 109) (hbd : bd = (lBody w.params).drop 6)
    {fa cd L' lg lc lz le ld ll : Addr} {vg vz ve vl : List Value} {SS : List (List Int)} {ng nc nz ne nd nl : Nat} {oC oG oS : Obj} {c0 c1 c2 c3 c4 c5 c6 : Int} {t0 t1 t2 t3 t4 t5 t6 : Tok} {ks : List Addr} {kl : List (Addr × Obj)} {g h : Heap} {tk : Nat} {mx : Str → Option Value}
    (a : AmbW w mean mg mb A outs s.heap) (hd : A.depth + 4 < recursionLimit) (hu : A.units + 80 < cLine) (B : Below A (hideAll s.heap (fr outs)) outs g) (D : KtsDicts (fr outs) g) (TT : KtsTurn (fr outs) s.heap g)
    (hks : KsR 64 ks SS kl) (lks : ks.length = 4) (hne : ∀ q, q < 4 → SS.getD q [] ≠ []) (hlen : ∀ q, q < 4 → (SS.getD q []).length ≤ 64) (il : IntsAre vl ((List.range 4).map fun (q : Nat) => (SS.getD q []).getLastD 0))
    (F : Fr g L' h (nm [("ends", .ref le), ("due", .ref ld), ("last", .ref ll)] mx)) (N : News g L' h ((ll, lst vl nl) :: (ld, lst (ks.map Value.ref) nd) :: (le, lst ve ne) :: (lz, lst vz nz) :: (lg, lst vg ng) :: (lc, lst [.int c0 t0, .int c1 t1, .int c2 t2, .int c3 t3, .int c4 t4, .int c5 t5, .int c6 t6] nc) :: (L' + 1, oC) :: (L' + 2, oG) :: (L' + 3, oS) :: kl))
    {R : Shared → Prop} (hR : ∀ s', R s' → wpAny (model PG w) (A.deeper (envOfC "law" sc L' fa (.ref cd))) (execs (bd.drop 1) (envOfC "law" sc L' fa (.ref cd))) Q E s')
    (k : ∀ g h tk' mx, tk ≤ tk' → Below A (hideAll s.heap (fr outs)) outs g → KtsDicts (fr outs) g → KtsTurn (fr outs) s.heap g → Fr g L' h (nm [("ends", .ref le), ("due", .ref ld)] mx) →
      News g L' h ((ll, lst vl nl) :: (ld, lst (ks.map Value.ref) nd) :: (le, lst ve ne) :: (lz, lst vz nz) :: (lg, lst vg ng) :: (lc, lst [.int c0 t0, .int c1 t1, .int c2 t2, .int c3 t3, .int c4 t4, .int c5 t5, .int c6 t6] nc) :: (L' + 1, oC) :: (L' + 2, oG) :: (L' + 3, oS) :: kl) → R { s with heap := h, toks := tk' }) :
    wpAny (model PG w) (A.deeper (envOfC "law" sc L' fa (.ref cd))) (execs bd (envOfC "law" sc L' fa (.ref cd))) Q E { s with heap := h, toks := tk } := by
  have hh := a.hh
  obtain ⟨_, Xb, Tb⟩ := a.open
  conv at hsc => rhs; whnf
  conv at hbd => rhs; whnf
  subst hsc hbd
  have Xg := Xb.keeps B.stays
  have T : Top Mine.hd0.view_39 (looseW Mine.hd0.view_39 []) mean mg mb g := Tb.keeps B.stays
  have hd1 : ∀ env : Env, (A.deeper env).depth + 1 < recursionLimit := hd1_of hd
  have hd2 : ∀ env : Env, (A.deeper env).depth < recursionLimit := hd2_of hd
  have hu1 : ∀ env : Env, (A.deeper env).units + 64 < cLine := hu1_of hu
  refine piece 1 hR ?_
  simp only [List.take_succ_cons, List.take_zero]
  show wpAny _ _ _ _ _ _
  refine wpAny_execs_cons ?_
  refine wpAny_If ?_
  k_steps
  refine Stop.go (comp_eval (hs := by intro _; rfl) (cl := []) (by rfl) rfl (by decide) ?_)
  k_steps
  rename Fr _ _ _ _ => F
  rename News _ _ _ _ => N
  have lkm : (ks.map Value.ref).length = 4 := by rw [List.length_map, lks]
  refine Stop.go (comp_list (fs := L' :: fr outs) (vs := ks.map Value.ref) (lst_at N (by k_mem) rfl ⟨_, rfl⟩) hh (by rw [sizeLine_eq]; (first | lia | omega)) (fun C D q ys h tkq => IntsAre ys ((List.range q).map fun (q : Nat) => (SS.getD q []).getLastD 0)) (by decide) rfl (fs_lt' D F) (lst_off (fs := []) D F N (by k_mem)) (fun _ _ _ _ _ _ _ => .nil) (fun _ _ _ _ _ _ _ _ _ hJ _ _ _ => hJ) ?turn ?fin)
  case turn =>
    rintro C Dc q bs zz hA tk1 m1 fC fD ne hq ⟨v, hv, rfl⟩ hJ hns hDd hk
    have hq4 : q < 4 := by (first | lia | omega)
    obtain ⟨kq, yq, nq, hkq, hkm, hiq⟩ := hks.get q (by (first | lia | omega))
    rw [List.getElem?_map, hkq] at hv
    cases hv
    refine turn1 rfl rfl hns fC hk fun hX tk3 hle hns2 hk2 hs2 => ?_
    refine wpAny_tests_nil ?_
    rw [if_pos rfl]
    obtain ⟨g', B', D', TT', F', N', _⟩ := after_kept (s := { s with heap := _, toks := 0 }) B D TT F N hk2
    have Xg := Xb.keeps B'.stays
    have T : Top Mine.hd0.view_39 (looseW Mine.hd0.view_39 []) mean mg mb g' := Tb.keeps B'.stays
    have hkl : hX.IsList kq yq.toArray := lst_at (o := lst yq nq) N' (by repeat (first | exact hkm | apply List.mem_cons_of_mem)) rfl ⟨_, rfl⟩
    have lyq := hiq.length
    have n0 : 0 < (SS.getD q []).length := List.length_pos_iff.mpr (hne q hq4)
    have n1 := hlen q hq4
    obtain ⟨tl, htl⟩ := hiq.get ((SS.getD q []).length - 1) ((SS.getD q []).getLastD 0) (last_get (hne q hq4))
    clear F N B D TT
    show wpAny _ _ _ _ _ _
    k_steps
    refine Stop.go (item_in (hs := by with_unfolding_all rfl) hkl (by (first | lia | omega)) (v := .int ((SS.getD q []).getLastD 0) tl) (by unfold pyIdx; rw [if_neg (by (first | lia | omega)), if_pos (by (first | lia | omega)), show ((-1 : Int) + (yq.length : Int)).toNat = (SS.getD q []).length - 1 by (first | lia | omega)]; exact htl) ?_)
    refine ⟨hX, _, _, rfl, keptX_same hs2, hns2, ?_⟩
    show IntsAre _ ((List.range (q + 1)).map _)
    rw [List.range_succ, List.map_append]
    exact ints_app hJ (.cons _ _ .nil)
  case fin =>
    refine fin_expr B D TT F N (fun _ _ _ _ _ _ e _ => e) fun g C Dc ys nn h tk1 fD off B D TT F N hk hJ => ?_
    have Xg := Xb.keeps B.stays
    have T : Top Mine.hd0.view_39 (looseW Mine.hd0.view_39 []) mean mg mb g := Tb.keeps B.stays
    rw [lkm] at hJ
    show wpAny _ _ _ _ _ _
    k_steps
    rename Fr _ _ _ _ => F
    rename News _ _ _ _ => N
    refine' Stop.go (ne_list (xs := (List.range 4).map fun (q : Nat) => (SS.getD q []).getLastD 0) ?l1 ?l2 ?i1 ?i2 (hu1 _) ?hq)
    case l1 => apply lst_at N; k_mem; exact rfl; exact ⟨_, rfl⟩
    case l2 => apply lst_at N; k_mem; exact rfl; exact ⟨_, rfl⟩
    case i1 => exact hJ
    case i2 => exact il
    k_steps
    rename (@LE.le Nat _ _ _) => hleU
    refine k g _ _ _ hleU B D TT (Fr_nm F _ (nms2 rfl rfl)) (news_sub N (sub_cons (by k_mem) (sub_cons (by k_mem) (sub_cons (by k_mem) (sub_cons (by k_mem) (sub_cons (by k_mem) (sub_cons (by k_mem) (sub_cons (by k_mem) (sub_cons (by k_mem) (sub_cons (by k_mem) (fun p hp => ?_)))))))))))
    repeat (first | exact hp | apply List.mem_cons_of_mem)
end
end
section
section
variable {w : World} {A : Around} {s : Shared} {outs : List Env} {mg mb : Str → Option Value} {mean : ExcName → Option Value} {Q : Flow → Shared → Prop} {E : Value → Shared → Prop}
theorem ks_reads {c : Nat} {h : Heap} {ks : List Addr} {S : List (List Int)} {kl : List (Addr × Obj)} (r : KsR c ks S kl) : (∀ p ∈ kl, h.get? p.1 = some p.2) → ∃ as, ReadsAll h (ks.map Value.ref) (S.map fun V => PyData.list (V.map PyData.int)) as := by
  induction r with
  | nil => exact fun _ => ⟨_, .nil⟩
  | cons i l r ih =>
    intro hk
    obtain ⟨as, ha⟩ := ih fun p hp => hk p (List.mem_cons_of_mem _ hp)
    exact ⟨_, .cons (reads_newData ⟨_, hk _ List.mem_cons_self, rfl, _, rfl⟩ (ke_carried i)) ha⟩
theorem list4 {α : Type} {S : List α} (h : S.length = 4) : ∃ a b c d, S = [a, b, c, d] := by
  match S, h with
  | [a, b, c, d], _ => exact ⟨_, _, _, _, rfl⟩
theorem KsR.len {c : Nat} {ks : List Addr} {S : List (List Int)} {kl : List (Addr × Obj)} (h : KsR c ks S kl) : S.length = ks.length := by
  induction h with
  | nil => rfl
  | cons i l r ih => exact congrArg (· + 1) ih
theorem eq_lists {prog : Program} {A : Around} {E : Value → Shared → Prop} {Q : Value → Shared → Prop} {D1 D2 : Addr} {ks1 ks2 : List Addr} {n1 n2 b1 b2 : Nat} {kl1 kl2 : List (Addr × Obj)} {S : List (List Int)} (l1 : s.heap.get? D1 = some (lst (ks1.map Value.ref) n1)) (l2 : s.heap.get? D2 = some (lst (ks2.map Value.ref) n2))
    (r1 : KsR b1 ks1 S kl1) (r2 : KsR b2 ks2 S kl2) (g1 : ∀ p ∈ kl1, s.heap.get? p.1 = some p.2) (g2 : ∀ p ∈ kl2, s.heap.get? p.1 = some p.2) (hS : S.length = 4) (hu : A.units + 64 < cLine) (h : Q (.bool true) s) : wpAny (model prog w) A (compareOp .Eq (.ref D1) (.ref D2)) Q E s := by
  obtain ⟨as1, ra1⟩ := ks_reads r1 g1
  obtain ⟨as2, ra2⟩ := ks_reads r2 g2
  obtain ⟨x, y, z, u, rfl⟩ := list4 hS
  have hs : SeqAt.shaped (.list ([x, y, z, u].map fun V => PyData.list (V.map PyData.int))) = true := by
    simp [SeqAt.shaped, PyData.canLay0, PyData.canLayAll0, PyData.depth, PyData.depthAll, ke_canLayAll0, ke_depthAll]
  refine eq_dataH (reads_list_at l1 rfl rfl ra1) (reads_list_at l2 rfl rfl ra2) hs hs hu ?_
  simp only [List.map_cons, List.map_nil, PyData.eqv, PyData.eqvAll, eqv_ints, Bool.and_true, Bool.true_and]
  exact h
theorem lawG {sc : Scope} {bd : List Stmt} (hsc : sc = scopeOf w.params 109) (hbd : bd = (lBody w.params).drop 7)
    {fa cd L' lg lc lz le ld ll : Addr} {vg vz ve vl : List Value} {SS : List (List Int)} {es zs : List Int} {ng nc nz ne nd nl : Nat} {oC oG oS : Obj} {c0 c1 c2 c3 c4 c5 c6 : Int} {t0 t1 t2 t3 t4 t5 t6 : Tok} {ks : List Addr} {kl : List (Addr × Obj)} {g h : Heap} {tk : Nat} {mx : Str → Option Value} {τ : Nat → Int}
    (a : AmbW w mean mg mb A outs s.heap) (hd : A.depth + 4 < recursionLimit) (hu : A.units + 80 < cLine) (B : Below A (hideAll s.heap (fr outs)) outs g) (D : KtsDicts (fr outs) g) (TT : KtsTurn (fr outs) s.heap g)
    (hC : oC.data = .cell (some (.ref lc))) (hS : oS.data = .cell (some (.ref lz))) (hks : KsR 64 ks SS kl) (lks : ks.length = 4)
    (ie : IntsAre ve es) (iz : IntsAre vz zs) (z1 : es.length = 4) (z2 : zs.length = 4) (hzs : ∀ z ∈ zs, 0 ≤ z ∧ z ≤ 16) (hsum : 0 ≤ zs.sum ∧ zs.sum ≤ 64) (hTe : Tk τ tk ve) (htk : 0 < tk) (hOK : ∀ t : Nat, (t : Int) ≤ zs.getLastD 0 → OkT es zs t)
    (hEq : struckG (· + ·) 0 (c4 - c5) c5 es zs (zs.getLastD 0 + 1).toNat = SS)
    (F : Fr g L' h (nm [("ends", .ref le), ("due", .ref ld)] mx)) (N : News g L' h ((ll, lst vl nl) :: (ld, lst (ks.map Value.ref) nd) :: (le, lst ve ne) :: (lz, lst vz nz) :: (lg, lst vg ng) :: (lc, lst [.int c0 t0, .int c1 t1, .int c2 t2, .int c3 t3, .int c4 t4, .int c5 t5, .int c6 t6] nc) :: (L' + 1, oC) :: (L' + 2, oG) :: (L' + 3, oS) :: kl))
    (hQ : ∀ g h tk m, KtsTurn (fr outs) s.heap g → Fr g L' h m → Q (.ret (.bool true)) { s with heap := h, toks := tk }) :
    wpAny (model PG w) (A.deeper (envOfC "law" sc L' fa (.ref cd))) (execs bd (envOfC "law" sc L' fa (.ref cd))) Q E { s with heap := h, toks := tk } := by
  have hh := a.hh
  obtain ⟨_, Xb, Tb⟩ := a.open
  conv at hsc => rhs; whnf
  conv at hbd => rhs; whnf
  subst hsc hbd
  have Xg := Xb.keeps B.stays
  have T : Top Mine.hd0.view_39 (looseW Mine.hd0.view_39 []) mean mg mb g := Tb.keeps B.stays
  have hd1 : ∀ env : Env, (A.deeper env).depth + 1 < recursionLimit := hd1_of hd
  have hd2 : ∀ env : Env, (A.deeper env).depth < recursionLimit := hd2_of hd
  have hu1 : ∀ env : Env, (A.deeper env).units + 64 < cLine := hu1_of hu


  show wpAny _ _ _ _ _ _
  have hd5 : ∀ env : Env, (A.deeper env).depth + 2 < recursionLimit := hd5_of hd
  have hu5 : ∀ env : Env, (A.deeper env).units + 70 < cLine := hu5_of hu
  have hcl : h.IsCell (L' + 3) (some (.ref lz)) := ⟨_, (N (L' + 3, oS) (by k_mem)).1, hS⟩
  k_steps
  rename Fr _ _ _ _ => F
  rename News _ _ _ _ => N
  have hle : tk ≤ tk + 1 + 1 := by (first | lia | omega)
  refine Stop.go (call_use B D TT F N rfl (struck_c (τ := τ) (first := c4) (step := c5) (lst_at N (by k_mem) rfl ⟨_, rfl⟩) (lst_at N (by k_mem) rfl ⟨_, rfl⟩) ie iz z1 z2 hzs hsum (hTe.le hle) (Nat.lt_of_lt_of_le htk hle) hOK (amb_in B D F Xb Tb hh rfl rfl) (hd5 _) (hu5 _)) fun v g h tk3 hle3 B D TT F N new hk3 hpt => ?_)
  obtain ⟨Ds, ks2, ns, kl2, cc, hv, fs, gs, hks2, hkl2⟩ := hpt
  subst hv
  rw [hEq] at hks2
  have gks : ∀ p ∈ kl, h.get? p.1 = some p.2 := fun p hp => (N p (by repeat (first | exact hp | apply List.mem_cons_of_mem))).1
  replace N := news_cons (new Ds _ fs gs) N
  have Xg := Xb.keeps B.stays
  have T : Top Mine.hd0.view_39 (looseW Mine.hd0.view_39 []) mean mg mb g := Tb.keeps B.stays
  k_steps
  rename Fr _ _ _ _ => F
  rename News _ _ _ _ => N
  refine Stop.go (eq_lists (N (Ds, lst (ks2.map Value.ref) ns) (by k_mem)).1 (N (ld, lst (ks.map Value.ref) nd) (by k_mem)).1 hks2 hks (fun p hp => (hkl2 p hp).1) gks (by rw [hks.len, lks]) (hu1 _) ?_)
  k_steps
  exact hQ _ _ _ _ TT F
end
end
section
noncomputable def sh (c : Int) (xs : List Int) : List Int := xs.map fun x => x + c
theorem sh_app {c : Int} {a b : List Int} : sh c (a ++ b) = sh c a ++ sh c b := List.map_append
theorem sh_len {c : Int} {a : List Int} : (sh c a).length = a.length := List.length_map ..
theorem sh_mem {c m : Int} {a : List Int} : m + c ∈ sh c a ↔ m ∈ a := by
  unfold sh
  rw [List.mem_map]
  constructor
  · rintro ⟨x, hx, e⟩
    rw [show m = x by (first | lia | omega)]; exact hx
  · exact fun h => ⟨m, h, rfl⟩
theorem stayOne_sh {c e z t : Int} : stayOne (e + c) z t = sh c (stayOne e z t) := by
  unfold stayOne sh
  rw [List.map_map]
  apply List.map_congr_left
  intro i _
  show e + c - (z - 1 + (i : Int) * -1) = e - (z - 1 + (i : Int) * -1) + c
  (first | lia | omega)
theorem stayM_sh {c t : Int} : ∀ {es zs : List Int}, stayM (sh c es) zs t = sh c (stayM es zs t)
  | [], _ => rfl
  | _ :: _, [] => rfl
  | e :: es, z :: zs => by
    show stayOne (e + c) z t ++ stayM (sh c es) zs t = sh c (stayOne e z t ++ stayM es zs t)
    rw [stayOne_sh, stayM_sh, sh_app]
theorem goneM_sh {c t : Int} : ∀ {es zs : List Int}, goneM (sh c es) zs t = sh c (goneM es zs t)
  | [], _ => rfl
  | _ :: _, [] => rfl
  | e :: es, z :: zs => by
    have ih := goneM_sh (c := c) (t := t) (es := es) (zs := zs)
    unfold goneM at *
    by_cases h : z = t
    · simp only [sh, List.map_cons, List.zip_cons_cons, List.filter_cons, decide_eq_true h, if_true] at *
      rw [ih, show e + c - t = e - t + c by (first | lia | omega)]
    · simp only [sh, List.map_cons, List.zip_cons_cons, List.filter_cons, decide_eq_false h, Bool.false_eq_true, if_false] at *
      rw [ih]
theorem hereM_sh {c t : Int} : ∀ {es zs : List Int}, hereM (sh c es) zs t = sh c (hereM es zs t)
  | [], _ => rfl
  | _ :: _, [] => rfl
  | e :: es, z :: zs => by
    have ih := hereM_sh (c := c) (t := t) (es := es) (zs := zs)
    unfold hereM at *
    by_cases h : z > t
    · simp only [sh, List.map_cons, List.zip_cons_cons, List.filter_cons, decide_eq_true h, if_true] at *
      rw [ih, show e + c - t = e - t + c by (first | lia | omega)]
    · simp only [sh, List.map_cons, List.zip_cons_cons, List.filter_cons, decide_eq_false h, Bool.false_eq_true, if_false] at *
      rw [ih]
theorem rep_sh {c : Int} {k : Nat} : ∀ {xs : List Int}, ((sh c xs).flatMap fun x => List.replicate k x) = sh c (xs.flatMap fun x => List.replicate k x)
  | [] => rfl
  | x :: xs => by
    show List.replicate k (x + c) ++ (sh c xs).flatMap _ = sh c (List.replicate k x ++ xs.flatMap _)
    rw [rep_sh, sh_app]
    congr 1
    unfold sh
    rw [List.map_replicate]
theorem gone3M_sh {c t : Int} {es zs : List Int} : gone3M (sh c es) zs t = sh c (gone3M es zs t) := by
  unfold gone3M
  split
  · rw [goneM_sh, rep_sh]
  · rw [goneM_sh]
theorem placesAt_sh {c : Int} {es zs : List Int} (hl : (sh c es).getLastD 0 = es.getLastD 0 + c) : ∀ {t : Nat}, placesAt (sh c es) zs t = sh c (placesAt es zs t)
  | 0 => by
    unfold placesAt sh
    rw [List.map_map]
    apply List.map_congr_left
    intro i _
    show (sh c es).getLastD 0 + 1 - _ = es.getLastD 0 + 1 - _ + c
    rw [hl]; (first | lia | omega)
  | t + 1 => stayM_sh
theorem marksAt_sh {c : Int} {es zs : List Int} (hl : (sh c es).getLastD 0 = es.getLastD 0 + c) : ∀ {t : Nat}, marksAt (sh c es) zs t = sh c (marksAt es zs t)
  | 0 => by
    show sh c es ++ [(sh c es).getLastD 0 + 1] = sh c (es ++ [es.getLastD 0 + 1])
    rw [sh_app, hl]
    congr 1
    show [_] = [_]
    rw [show es.getLastD 0 + c + 1 = es.getLastD 0 + 1 + c by (first | lia | omega)]
  | t + 1 => by
    show (hereM (sh c es) zs (t : Int)).map _ ++ [(sh c es).getLastD 0 + 1] = sh c ((hereM es zs (t : Int)).map _ ++ [es.getLastD 0 + 1])
    rw [sh_app, hl, hereM_sh]
    congr 1
    · unfold sh
      rw [List.map_map, List.map_map]
      apply List.map_congr_left
      intro x _
      show x + c - 1 = x - 1 + c
      (first | lia | omega)
    · show [_] = [_]
      rw [show es.getLastD 0 + c + 1 = es.getLastD 0 + 1 + c by (first | lia | omega)]
theorem dw_sh {c x : Int} : ∀ {xs : List Int}, (sh c xs).dropWhile (· == x + c) = sh c (xs.dropWhile (· == x))
  | [] => rfl
  | y :: ys => by
    show ((y + c) :: sh c ys).dropWhile _ = _
    by_cases h : y = x
    · rw [List.dropWhile_cons, List.dropWhile_cons, if_pos (by simp [h]), if_pos (by simp [h]), dw_sh]
    · rw [List.dropWhile_cons, List.dropWhile_cons, if_neg (by simp; (first | lia | omega)), if_neg (by simpa using h)]
      rfl
theorem sld_sh {c : Int} : ∀ {n : Nat} {xs ys : List Int}, sld n (sh c xs) (sh c ys) = (sh c (sld n xs ys).1, sh c (sld n xs ys).2)
  | 0, _, _ => rfl
  | _ + 1, [], _ => rfl
  | _ + 1, _ :: _, [] => rfl
  | n + 1, x :: xs, y :: ys => by
    show (if x + c < y + c then let r := sld n ((sh c xs).dropWhile (· == x + c)) (sh c (y :: ys)); ((x + c) :: r.1, r.2)
      else if x + c > y + c then let r := sld n (sh c (x :: xs)) ((sh c ys).dropWhile (· == y + c)); (r.1, (y + c) :: r.2)
      else sld n ((sh c xs).dropWhile (· == x + c)) ((sh c ys).dropWhile (· == y + c))) = _
    rw [dw_sh, dw_sh, sld_sh, sld_sh, sld_sh]
    rw [sld]
    by_cases h1 : x < y
    · rw [if_pos h1, if_pos (by (first | lia | omega))]; rfl
    · rw [if_neg h1, if_neg (by (first | lia | omega))]
      by_cases h2 : x > y
      · rw [if_pos h2, if_pos (by (first | lia | omega))]; rfl
      · rw [if_neg h2, if_neg (by (first | lia | omega))]
theorem sldM_sh {c : Int} {xs ys : List Int} : sldM (sh c xs) (sh c ys) = (sh c (sldM xs ys).1, sh c (sldM xs ys).2) := by
  unfold sldM
  rw [sh_len, sh_len, sld_sh]
theorem idx_sh {c m : Int} : ∀ {xs : List Int}, (sh c xs).idxOf (m + c) = xs.idxOf m
  | [] => rfl
  | x :: xs => by
    show ((x + c) :: sh c xs).idxOf (m + c) = _
    rw [List.idxOf_cons, List.idxOf_cons, idx_sh]
    by_cases h : x = m
    · simp [h]
    · rw [show (x + c == m + c) = false by simp; (first | lia | omega), show (x == m) = false by simpa using h]
theorem filt_sh {c m : Int} : ∀ {xs : List Int}, ((sh c xs).filter fun p => decide (p < m + c)).length = (xs.filter fun p => decide (p < m)).length
  | [] => rfl
  | x :: xs => by
    show (((x + c) :: sh c xs).filter _).length = _
    rw [List.filter_cons, List.filter_cons]
    by_cases h : x < m
    · rw [if_pos (by simpa using h), if_pos (by simpa using h), List.length_cons, List.length_cons, filt_sh]
    · rw [if_neg (by simp; (first | lia | omega)), if_neg (by simpa using h), filt_sh]
theorem sh_map {α : Type} {c : Int} {xs : List Int} {f : Int → α} : (sh c xs).map f = xs.map fun x => f (x + c) := by
  unfold sh; rw [List.map_map]; rfl
theorem okT_sh {c : Int} {es zs : List Int} {t : Nat} (hl : (sh c es).getLastD 0 = es.getLastD 0 + c) (h : OkT es zs t) : OkT (sh c es) zs t := by
  have b3 : [es.getLastD 0 + c + 1, es.getLastD 0 + c + 1, es.getLastD 0 + c + 1] = sh c [es.getLastD 0 + 1, es.getLastD 0 + 1, es.getLastD 0 + 1] := by
    show _ = [_, _, _]
    rw [show es.getLastD 0 + c + 1 = es.getLastD 0 + 1 + c by (first | lia | omega)]
  have b1 : [es.getLastD 0 + c + 1] = sh c [es.getLastD 0 + 1] := by
    show _ = [_]
    rw [show es.getLastD 0 + c + 1 = es.getLastD 0 + 1 + c by (first | lia | omega)]
  constructor
  · rw [placesAt_sh hl, marksAt_sh hl, rep_sh, rep_sh, sldM_sh, h.c1, hl, b3, gone3M_sh, stayM_sh, sh_app]
  · rw [placesAt_sh hl, marksAt_sh hl, rep_sh, rep_sh, sldM_sh, h.c2, hl, b3, gone3M_sh, stayM_sh, sh_app]
  · rw [marksAt_sh hl, hl, b3, gone3M_sh, ← sh_app, sldM_sh, h.c3, hereM_sh]; rfl
  · rw [placesAt_sh hl, hl, b1, gone3M_sh, ← sh_app, ← sh_app]
    intro m hm
    obtain ⟨x, hx, rfl⟩ := List.mem_map.mp hm
    exact fun q => h.c4 x hx (sh_mem.mp q)
  · rw [placesAt_sh hl, hereM_sh, ← sh_app]
    intro m hm
    obtain ⟨x, hx, rfl⟩ := List.mem_map.mp hm
    exact sh_mem.mpr (h.c5 x hx)
  · rw [placesAt_sh hl, hereM_sh, ← sh_app, sh_map, sh_map]
    simp only [idx_sh, filt_sh]
    exact h.c6
  · rw [placesAt_sh hl, stayM_sh]
    intro m hm
    obtain ⟨x, hx, rfl⟩ := List.mem_map.mp hm
    exact sh_mem.mpr (h.c7 x hx)
  · rw [placesAt_sh hl, sh_len]; exact h.c8
  · rw [stayM_sh, sh_len]; exact h.c9
theorem nextN_sh {α : Type} {add : α → α → α} {z : α} {N : List α} {c : Int} {P St : List Int} : nextN add z N (sh c P) (sh c St) = nextN add z N P St := by
  unfold nextN
  rw [← sh_app, sh_map]
  simp only [idx_sh]
theorem numsG_sh {α : Type} {add : α → α → α} {z r0 st : α} {c : Int} {es zs : List Int} (hl : (sh c es).getLastD 0 = es.getLastD 0 + c) : ∀ {t : Nat}, numsG add z r0 st (sh c es) zs t = numsG add z r0 st es zs t
  | 0 => rfl
  | t + 1 => by
    show nextN add z (numsG add z r0 st (sh c es) zs t) (placesAt (sh c es) zs t) (stayM (sh c es) zs (t : Int)) = _
    rw [numsG_sh hl, placesAt_sh hl, stayM_sh, nextN_sh]
    rfl
theorem strike_sh {α : Type} {d : α} {N : List α} {c : Int} {P H : List Int} {S : List (List α)} : ∀ {i : Nat}, i ≤ H.length → strike d N (sh c P) (sh c H) i S = strike d N P H i S
  | 0, _ => rfl
  | i + 1, hi => by
    show pushAt (4 - (sh c H).length + i) (N.getD ((sh c P ++ sh c P).idxOf ((sh c H).getD i 0)) d) (strike d N (sh c P) (sh c H) i S) = _
    rw [strike_sh (Nat.le_of_succ_le hi), sh_len, ← sh_app]
    have e : (sh c H).getD i 0 = H.getD i 0 + c := by
      unfold sh
      have hi' : i < H.length := hi
      simp [List.getD, hi']
    rw [e, idx_sh]
    rfl
theorem struckG_sh {α : Type} {add : α → α → α} {z r0 st : α} {c : Int} {es zs : List Int} (hl : (sh c es).getLastD 0 = es.getLastD 0 + c) : ∀ {t : Nat}, struckG add z r0 st (sh c es) zs t = struckG add z r0 st es zs t
  | 0 => rfl
  | t + 1 => by
    show strike z (numsG add z r0 st (sh c es) zs t) (placesAt (sh c es) zs t) (hereM (sh c es) zs (t : Int)) (hereM (sh c es) zs (t : Int)).length (struckG add z r0 st (sh c es) zs t) = _
    rw [numsG_sh hl, placesAt_sh hl, hereM_sh, struckG_sh hl, sh_len, strike_sh (Nat.le_refl _)]
    rfl
end
section
section
variable {α β : Type} {f : α → β} {add : α → α → α} {add' : β → β → β}
theorem sumsG_map (h : ∀ a b, f (add a b) = add' (f a) (f b)) : ∀ {xs : List α} {r : α}, (sumsG add r xs).map f = sumsG add' (f r) (xs.map f)
  | [], _ => rfl
  | x :: xs, r => by
    show f (add r x) :: (sumsG add (add r x) xs).map f = add' (f r) (f x) :: sumsG add' (add' (f r) (f x)) (xs.map f)
    rw [sumsG_map h, h]
theorem getD_map' {z : α} {xs : List α} {i : Nat} : (xs.map f).getD i (f z) = f (xs.getD i z) := by
  simp only [List.getD, List.getElem?_map]
  cases xs[i]? <;> rfl
theorem nextN_map (h : ∀ a b, f (add a b) = add' (f a) (f b)) {z : α} {N : List α} {P St : List Int} : (nextN add z N P St).map f = nextN add' (f z) (N.map f) P St := by
  unfold nextN
  rw [sumsG_map h, List.map_map]
  congr 1
  apply List.map_congr_left
  intro p _
  exact getD_map'.symm
theorem numsG_map (h : ∀ a b, f (add a b) = add' (f a) (f b)) {z r0 st : α} {es zs : List Int} : ∀ {t : Nat}, (numsG add z r0 st es zs t).map f = numsG add' (f z) (f r0) (f st) es zs t
  | 0 => by
    show (sumsG add r0 _).map f = sumsG add' (f r0) _
    rw [sumsG_map h, List.map_replicate]
  | t + 1 => by
    show (nextN add z _ _ _).map f = nextN add' (f z) _ _ _
    rw [nextN_map h, numsG_map h]
theorem pushAt_map {n : Nat} {x : α} {S : List (List α)} : (pushAt n x S).map (List.map f) = pushAt n (f x) (S.map (List.map f)) := by
  unfold pushAt
  rw [List.map_set]
  congr 1
  rw [List.map_append, ← getD_map' (f := List.map f) (z := [])]
  rfl
theorem strike_map {d : α} {N : List α} {P H : List Int} {S : List (List α)} : ∀ {i : Nat}, (strike d N P H i S).map (List.map f) = strike (f d) (N.map f) P H i (S.map (List.map f))
  | 0 => rfl
  | i + 1 => by
    show (pushAt _ _ (strike d N P H i S)).map (List.map f) = pushAt _ _ _
    rw [pushAt_map, strike_map, ← getD_map' (f := f)]
theorem struckG_map (h : ∀ a b, f (add a b) = add' (f a) (f b)) {z r0 st : α} {es zs : List Int} : ∀ {t : Nat}, (struckG add z r0 st es zs t).map (List.map f) = struckG add' (f z) (f r0) (f st) es zs t
  | 0 => rfl
  | t + 1 => by
    show (strike z _ _ _ _ _).map (List.map f) = strike (f z) _ _ _ _ _
    rw [strike_map, struckG_map h, numsG_map h]
end
noncomputable abbrev Fm := Int × Int
noncomputable def ev (first step : Int) (f : Fm) : Int := f.1 * first + f.2 * step
noncomputable def addF (f g : Fm) : Fm := (f.1 + g.1, f.2 + g.2)
theorem ev_add {first step : Int} (a b : Fm) : ev first step (addF a b) = ev first step a + ev first step b := by
  show (a.1 + b.1) * first + (a.2 + b.2) * step = a.1 * first + a.2 * step + (b.1 * first + b.2 * step)
  rw [Int.add_mul, Int.add_mul]; (first | lia | omega)
theorem ev_zero {first step : Int} : ev first step (0, 0) = 0 := by simp [ev]
theorem ev_r0 {first step : Int} : ev first step (1, -1) = first - step := by simp [ev]; (first | lia | omega)
theorem ev_st {first step : Int} : ev first step (0, 1) = step := by simp [ev]
noncomputable def stepF (k : Int) (due : List Fm) : List Fm := ((due ++ [(0, 0)]).zip ((0, 0) :: due)).map fun (p : Fm × Fm) => (p.1.1 + k * p.2.1, p.1.2 + k * p.2.2)
noncomputable def turnsF (k : Int) : Nat → List Fm → List Fm
  | 0, d => d
  | n + 1, d => stepF k (turnsF k n d)
noncomputable def loopF (gs : List Int) (group : Nat) : Nat → List Fm → List Fm
  | 0, d => d
  | i + 1, d => turnsF ((i + 1 : Nat) : Int) (turnsOf gs group (i + 1)).toNat (loopF gs group i d)
noncomputable def dueF (gs : List Int) (group : Nat) : List Fm := (loopF gs group group [(0, 1), (1, (group : Int) - 1)]).drop 1
noncomputable def lastF (gs : List Int) (group : Nat) : Fm :=
  let c := lastLoop gs group group 1
  (c, ((group : Int) - 1) * c)
theorem stepF_map {first step k : Int} {d : List Fm} : (stepF k d).map (ev first step) = dueStep k (d.map (ev first step)) := by
  unfold stepF dueStep
  have e1 : d.map (ev first step) ++ [0] = (d ++ [((0 : Int), (0 : Int))]).map (ev first step) := by rw [List.map_append]; show _ = _ ++ [_]; rw [ev_zero]
  have e2 : 0 :: d.map (ev first step) = ((((0 : Int), (0 : Int)) :: d).map (ev first step)) := by show _ = _ :: _; rw [ev_zero]
  rw [e1, e2, List.zip_map, List.map_map, List.map_map]
  apply List.map_congr_left
  intro p _
  show (p.1.1 + k * p.2.1) * first + (p.1.2 + k * p.2.2) * step = (p.1.1 * first + p.1.2 * step) + k * (p.2.1 * first + p.2.2 * step)
  rw [Int.add_mul, Int.add_mul, Int.mul_add, Int.mul_assoc, Int.mul_assoc]; (first | lia | omega)
theorem turnsF_map {first step k : Int} {d : List Fm} : ∀ {n : Nat}, (turnsF k n d).map (ev first step) = dueTurns k n (d.map (ev first step))
  | 0 => rfl
  | n + 1 => by
    show (stepF k _).map _ = dueStep k _
    rw [stepF_map, turnsF_map]
theorem loopF_map {first step : Int} {gs : List Int} {group : Nat} {d : List Fm} : ∀ {i : Nat}, (loopF gs group i d).map (ev first step) = dueLoop gs group i (d.map (ev first step))
  | 0 => rfl
  | i + 1 => by
    show (turnsF _ _ _).map _ = dueTurns _ _ _
    rw [turnsF_map, loopF_map]
theorem dueF_map {first step : Int} {gs : List Int} {group : Nat} : (dueF gs group).map (ev first step) = dueM gs first step group := by
  unfold dueF dueM
  rw [List.map_drop, loopF_map]
  congr 2
  show [_, _] = [_, _]
  rw [ev_st]
  congr 2
  show (1 : Int) * first + ((group : Int) - 1) * step = _
  rw [Int.one_mul]
theorem lastLoop_mul {gs : List Int} {group : Nat} {l : Int} : ∀ {i : Nat}, lastLoop gs group i l = l * lastLoop gs group i 1
  | 0 => (Int.mul_one l).symm
  | i + 1 => by
    show lastLoop gs group i l * _ = l * (lastLoop gs group i 1 * _)
    rw [lastLoop_mul, Int.mul_assoc]
theorem lastF_ev {first step : Int} {gs : List Int} {group : Nat} : ev first step (lastF gs group) = lastM gs first step group := by
  unfold lastM
  rw [lastLoop_mul]
  show lastLoop gs group group 1 * first + (((group : Int) - 1) * lastLoop gs group group 1) * step = _
  generalize lastLoop gs group group 1 = c
  have e : (0 - step) * (1 - (group : Int)) = ((group : Int) - 1) * step := by
    rw [show (1 - (group : Int)) = -((group : Int) - 1) by (first | lia | omega), show (0 - step) = -step by (first | lia | omega), Int.neg_mul_neg, Int.mul_comm]
  rw [e, Int.add_mul, Int.mul_comm c first, Int.mul_assoc, Int.mul_assoc, Int.mul_comm c step]
end
section
noncomputable def zsOf (gs : List Int) : List Int := (List.range 4).map fun (i : Nat) => (gs.take (i + 1)).sum
noncomputable def esOf (c : Int) (zs : List Int) : List Int := (List.range 4).map fun (i : Nat) => c + (zs.take (i + 1)).sum
noncomputable def okB (es zs : List Int) (t : Nat) : Bool :=
  let b := es.getLastD 0 + 1
  let P := placesAt es zs t
  let K := marksAt es zs t
  let St := stayM es zs (t : Int)
  let G3 := gone3M es zs (t : Int)
  let H := hereM es zs (t : Int)
  decide (sldM (P.flatMap fun x => List.replicate 2 x) (K.flatMap fun x => List.replicate 3 x) = (St, G3 ++ [b, b, b])) &&
  (decide (sldM (K.flatMap fun x => List.replicate 3 x) (P.flatMap fun x => List.replicate 2 x) = (G3 ++ [b, b, b], St)) &&
  (decide (sldM K (G3 ++ [b, b, b]) = (H, [])) &&
  ((G3 ++ [b]).all (fun m => decide (m ∉ P ++ P)) &&
  (H.all (fun m => decide (m ∈ P ++ P)) &&
  (decide ((H.map fun m => (((P ++ P).idxOf m : Nat) : Int)) = H.map fun m => (((P.filter fun p => decide (p < m)).length : Nat) : Int)) &&
  (St.all (fun p => decide (p ∈ P)) && (decide (P.length < 2 ^ 10) && decide (St.length < 2 ^ 10))))))))
theorem okT_of {es zs : List Int} {t : Nat} (h : okB es zs t = true) : OkT es zs t := by
  unfold okB at h
  simp only [Bool.and_eq_true, decide_eq_true_eq, List.all_eq_true] at h
  obtain ⟨h1, h2, h3, h4, h5, h6, h7, h8, h9⟩ := h
  exact ⟨h1, h2, h3, h4, h5, h6, h7, h8, h9⟩
noncomputable def chk (gs : List Int) : Bool :=
  let zs := zsOf gs
  let es := esOf 0 zs
  let n := (zs.getLastD 0 + 1).toNat
  (List.range n).all (okB es zs) &&
  (decide (struckG addF (0, 0) (1, -1) (0, 1) es zs n = (List.range 4).map fun (i : Nat) => dueF gs (i + 1)) &&
  ((List.range 4).all (fun i => decide (dueF gs (i + 1) ≠ []) && (decide ((dueF gs (i + 1)).length ≤ 64) && (decide ((dueF gs (i + 1)).getLastD (0, 0) = lastF gs (i + 1)) &&
    (List.range (i + 1)).all fun k => decide (0 ≤ turnsOf gs (i + 1) (k + 1) ∧ turnsOf gs (i + 1) (k + 1) ≤ 2)))) &&
  (zs.all (fun z => decide (0 ≤ z ∧ z ≤ 16)) && (decide (0 ≤ zs.sum ∧ zs.sum ≤ 64) && (gs.all (fun z => decide (0 ≤ z ∧ z ≤ 4)))))))
theorem chk_100 : (chk [1, 0, 0, 0] && (chk [1, 0, 0, 1] && chk [1, 0, 0, 2])) = true := by decide +kernel
theorem chk_101 : (chk [1, 0, 1, 0] && (chk [1, 0, 1, 1] && chk [1, 0, 1, 2])) = true := by decide +kernel
theorem chk_102 : (chk [1, 0, 2, 0] && (chk [1, 0, 2, 1] && chk [1, 0, 2, 2])) = true := by decide +kernel
theorem chk_110 : (chk [1, 1, 0, 0] && (chk [1, 1, 0, 1] && chk [1, 1, 0, 2])) = true := by decide +kernel
theorem chk_111 : (chk [1, 1, 1, 0] && (chk [1, 1, 1, 1] && chk [1, 1, 1, 2])) = true := by decide +kernel
theorem chk_112 : (chk [1, 1, 2, 0] && (chk [1, 1, 2, 1] && chk [1, 1, 2, 2])) = true := by decide +kernel
theorem chk_120 : (chk [1, 2, 0, 0] && (chk [1, 2, 0, 1] && chk [1, 2, 0, 2])) = true := by decide +kernel
theorem chk_121 : (chk [1, 2, 1, 0] && (chk [1, 2, 1, 1] && chk [1, 2, 1, 2])) = true := by decide +kernel
theorem chk_122 : (chk [1, 2, 2, 0] && (chk [1, 2, 2, 1] && chk [1, 2, 2, 2])) = true := by decide +kernel
theorem chk_200 : (chk [2, 0, 0, 0] && (chk [2, 0, 0, 1] && chk [2, 0, 0, 2])) = true := by decide +kernel
theorem chk_201 : (chk [2, 0, 1, 0] && (chk [2, 0, 1, 1] && chk [2, 0, 1, 2])) = true := by decide +kernel
theorem chk_202 : (chk [2, 0, 2, 0] && (chk [2, 0, 2, 1] && chk [2, 0, 2, 2])) = true := by decide +kernel
theorem chk_210 : (chk [2, 1, 0, 0] && (chk [2, 1, 0, 1] && chk [2, 1, 0, 2])) = true := by decide +kernel
theorem chk_211 : (chk [2, 1, 1, 0] && (chk [2, 1, 1, 1] && chk [2, 1, 1, 2])) = true := by decide +kernel
theorem chk_212 : (chk [2, 1, 2, 0] && (chk [2, 1, 2, 1] && chk [2, 1, 2, 2])) = true := by decide +kernel
theorem chk_220 : (chk [2, 2, 0, 0] && (chk [2, 2, 0, 1] && chk [2, 2, 0, 2])) = true := by decide +kernel
theorem chk_221 : (chk [2, 2, 1, 0] && (chk [2, 2, 1, 1] && chk [2, 2, 1, 2])) = true := by decide +kernel
theorem chk_222 : (chk [2, 2, 2, 0] && (chk [2, 2, 2, 1] && chk [2, 2, 2, 2])) = true := by decide +kernel
theorem chk_300 : (chk [3, 0, 0, 0] && (chk [3, 0, 0, 1] && chk [3, 0, 0, 2])) = true := by decide +kernel
theorem chk_301 : (chk [3, 0, 1, 0] && (chk [3, 0, 1, 1] && chk [3, 0, 1, 2])) = true := by decide +kernel
theorem chk_302 : (chk [3, 0, 2, 0] && (chk [3, 0, 2, 1] && chk [3, 0, 2, 2])) = true := by decide +kernel
theorem chk_310 : (chk [3, 1, 0, 0] && (chk [3, 1, 0, 1] && chk [3, 1, 0, 2])) = true := by decide +kernel
theorem chk_311 : (chk [3, 1, 1, 0] && (chk [3, 1, 1, 1] && chk [3, 1, 1, 2])) = true := by decide +kernel
theorem chk_312 : (chk [3, 1, 2, 0] && (chk [3, 1, 2, 1] && chk [3, 1, 2, 2])) = true := by decide +kernel
theorem chk_320 : (chk [3, 2, 0, 0] && (chk [3, 2, 0, 1] && chk [3, 2, 0, 2])) = true := by decide +kernel
theorem chk_321 : (chk [3, 2, 1, 0] && (chk [3, 2, 1, 1] && chk [3, 2, 1, 2])) = true := by decide +kernel
theorem chk_322 : (chk [3, 2, 2, 0] && (chk [3, 2, 2, 1] && chk [3, 2, 2, 2])) = true := by decide +kernel
theorem chk_three {a b c : Int} (h : (chk [a, b, c, 0] && (chk [a, b, c, 1] && chk [a, b, c, 2])) = true) {d : Int} (hd : d = 0 ∨ d = 1 ∨ d = 2) : chk [a, b, c, d] = true := by
  rw [Bool.and_eq_true, Bool.and_eq_true] at h
  rcases hd with rfl | rfl | rfl
  · exact h.1
  · exact h.2.1
  · exact h.2.2
theorem chk_all {a b c d : Int} (ha : a = 0 ∨ a = 1 ∨ a = 2) (hb : b = 0 ∨ b = 1 ∨ b = 2) (hc : c = 0 ∨ c = 1 ∨ c = 2) (hd : d = 0 ∨ d = 1 ∨ d = 2) : chk [1 + a, b, c, d] = true := by
  rcases ha with rfl | rfl | rfl
  · rcases hb with rfl | rfl | rfl
    · rcases hc with rfl | rfl | rfl
      · exact chk_three chk_100 hd
      · exact chk_three chk_101 hd
      · exact chk_three chk_102 hd
    · rcases hc with rfl | rfl | rfl
      · exact chk_three chk_110 hd
      · exact chk_three chk_111 hd
      · exact chk_three chk_112 hd
    · rcases hc with rfl | rfl | rfl
      · exact chk_three chk_120 hd
      · exact chk_three chk_121 hd
      · exact chk_three chk_122 hd
  · rcases hb with rfl | rfl | rfl
    · rcases hc with rfl | rfl | rfl
      · exact chk_three chk_200 hd
      · exact chk_three chk_201 hd
      · exact chk_three chk_202 hd
    · rcases hc with rfl | rfl | rfl
      · exact chk_three chk_210 hd
      · exact chk_three chk_211 hd
      · exact chk_three chk_212 hd
    · rcases hc with rfl | rfl | rfl
      · exact chk_three chk_220 hd
      · exact chk_three chk_221 hd
      · exact chk_three chk_222 hd
  · rcases hb with rfl | rfl | rfl
    · rcases hc with rfl | rfl | rfl
      · exact chk_three chk_300 hd
      · exact chk_three chk_301 hd
      · exact chk_three chk_302 hd
    · rcases hc with rfl | rfl | rfl
      · exact chk_three chk_310 hd
      · exact chk_three chk_311 hd
      · exact chk_three chk_312 hd
    · rcases hc with rfl | rfl | rfl
      · exact chk_three chk_320 hd
      · exact chk_three chk_321 hd
      · exact chk_three chk_322 hd
theorem fmod3 (c : Int) : c.fmod 3 = 0 ∨ c.fmod 3 = 1 ∨ c.fmod 3 = 2 := by
  rw [Int.fmod_eq_emod_of_nonneg c (by decide)]; (first | lia | omega)
theorem sh_last {c : Int} {es : List Int} (h : es ≠ []) : (sh c es).getLastD 0 = es.getLastD 0 + c := by
  rw [List.getLastD_eq_getLast?, List.getLastD_eq_getLast?]
  unfold sh
  rw [List.getLast?_map]
  cases q : es.getLast? with
  | none => exact absurd (List.getLast?_eq_none_iff.mp q) h
  | some x => rfl
theorem esOf_sh {c : Int} {zs : List Int} : esOf c zs = sh c (esOf 0 zs) := by
  unfold esOf sh
  rw [List.map_map]
  apply List.map_congr_left
  intro i _
  show c + _ = 0 + _ + c
  (first | lia | omega)
theorem es_last {c : Int} {zs : List Int} : (sh c (esOf 0 zs)).getLastD 0 = (esOf 0 zs).getLastD 0 + c := sh_last (by intro e; have := congrArg List.length e; simp [esOf] at this)
theorem facts {gs : List Int} (h : chk gs = true) (c first step : Int) :
    (∀ z ∈ zsOf gs, 0 ≤ z ∧ z ≤ 16) ∧ (0 ≤ (zsOf gs).sum ∧ (zsOf gs).sum ≤ 64) ∧ (∀ z ∈ gs, 0 ≤ z ∧ z ≤ 4) ∧ (∀ t : Nat, (t : Int) ≤ (zsOf gs).getLastD 0 → OkT (esOf c (zsOf gs)) (zsOf gs) t) ∧
    struckG (· + ·) 0 (first - step) step (esOf c (zsOf gs)) (zsOf gs) ((zsOf gs).getLastD 0 + 1).toNat = ((List.range 4).map fun (i : Nat) => dueM gs first step (i + 1)) ∧
    (∀ i, i < 4 → dueM gs first step (i + 1) ≠ [] ∧ (dueM gs first step (i + 1)).length ≤ 64 ∧ (dueM gs first step (i + 1)).getLastD 0 = lastM gs first step (i + 1)) ∧
    (∀ i, i < 4 → ∀ k, 1 ≤ k → k ≤ i + 1 → 0 ≤ turnsOf gs (i + 1) k ∧ turnsOf gs (i + 1) k ≤ 2) := by
  unfold chk at h
  simp only [Bool.and_eq_true, decide_eq_true_eq, List.all_eq_true, List.mem_range] at h
  obtain ⟨h1, h2, h3, h4, h5, h6⟩ := h
  refine ⟨h4, h5, h6, fun t ht => ?_, ?_, fun i hi => ?_, fun i hi k k1 k2 => ?_⟩
  · rw [esOf_sh]
    exact okT_sh es_last (okT_of (h1 t (by (first | lia | omega))))
  · rw [esOf_sh, struckG_sh es_last]
    have e := congrArg (List.map (List.map (ev first step))) h2
    rw [struckG_map ev_add, ev_zero, ev_r0, ev_st, List.map_map] at e
    rw [e]
    apply List.map_congr_left
    intro i _
    exact dueF_map
  · obtain ⟨q1, q2, q3, _⟩ := h3 i hi
    rw [← dueF_map]
    refine ⟨fun e => q1 (List.map_eq_nil_iff.mp e), by rw [List.length_map]; exact q2, ?_⟩
    rw [← lastF_ev, ← q3, List.getLastD_eq_getLast?, List.getLastD_eq_getLast?, List.getLast?_map]
    cases q : (dueF gs (i + 1)).getLast? with
    | none => exact absurd (List.getLast?_eq_none_iff.mp q) q1
    | some x => rfl
  · obtain ⟨_, _, _, q4⟩ := h3 i hi
    have := q4 (k - 1) (by (first | lia | omega))
    rw [show k - 1 + 1 = k by (first | lia | omega)] at this
    exact this
end
section
theorem get_range {V : Nat → List Int} {q : Nat} (h : q < 4) : ((List.range 4).map V).getD q [] = V q := by
  simp [List.getD, h]
section
variable {w : World} {A : Around} {s : Shared} {outs : List Env} {mg mb : Str → Option Value} {mean : ExcName → Option Value} {Q : Flow → Shared → Prop} {E : Value → Shared → Prop}
theorem law_exec {fa cd ls L' : Addr} {vs : List Value} {xs : List Int} {oC oG oS : Obj} {vC vG vS : Option Value} {g h : Heap} {tk : Nat} {mx : Str → Option Value}
    (a : AmbW w mean mg mb A outs s.heap) (hd : A.depth + 4 < recursionLimit) (hu : A.units + 80 < cLine) (B : Below A (hideAll s.heap (fr outs)) outs g) (D : KtsDicts (fr outs) g) (TT : KtsTurn (fr outs) s.heap g)
    (hC : oC.data = .cell vC) (hG : oG.data = .cell vG) (hS : oS.data = .cell vS) (h1 : s.heap.IsList ls vs.toArray) (i1 : IntsAre vs xs) (z1 : xs.length ≤ 63)
    (F : Fr g L' h (nm [("script", .ref ls)] mx)) (N : News g L' h ((L' + 1, oC) :: (L' + 2, oG) :: (L' + 3, oS) :: []))
    (hQ : ∀ g h tk m, KtsTurn (fr outs) s.heap g → Fr g L' h m → Q (.ret (.bool true)) { s with heap := h, toks := tk }) :
    wpAny (model PG w) (A.deeper (envOfC "law" (scopeOf w.params 109) L' fa (.ref cd))) (execs (lBody w.params) (envOfC "law" (scopeOf w.params 109) L' fa (.ref cd))) Q E { s with heap := h, toks := tk } := by
  refine lawA (s := s) rfl rfl a hd hu B D TT hC hG hS h1 i1 z1 F N (R := fun s' => wpAny (model PG w) (A.deeper (envOfC "law" (scopeOf w.params 109) L' fa (.ref cd))) (execs ((lBody w.params).drop 2) (envOfC "law" (scopeOf w.params 109) L' fa (.ref cd))) Q E s') (fun s' h => h) fun g h tk1 mx c0 c1 c2 c3 c4 c5 c6 t0 t1 t2 t3 t4 t5 t6 lc nc lg ng u0 u1 u2 u3 oC oG B D TT F N hC hG htk => ?_
  obtain ⟨f1, f2, f3, f4, f5, f6, f7⟩ := facts (chk_all (fmod3 c0) (fmod3 c1) (fmod3 c2) (fmod3 c3)) c6 c4 c5
  have ig : IntsAre [.int (1 + c0.fmod 3) u0, .int (c1.fmod 3) u1, .int (c2.fmod 3) u2, .int (c3.fmod 3) u3] [1 + c0.fmod 3, c1.fmod 3, c2.fmod 3, c3.fmod 3] := .cons _ _ (.cons _ _ (.cons _ _ (.cons _ _ .nil)))
  have zg : ([1 + c0.fmod 3, c1.fmod 3, c2.fmod 3, c3.fmod 3] : List Int).length = 4 := rfl
  obtain ⟨gs, hgs⟩ : ∃ gs : List Int, gs = [1 + c0.fmod 3, c1.fmod 3, c2.fmod 3, c3.fmod 3] := ⟨_, rfl⟩
  rw [← hgs] at f1 f2 f3 f4 f5 f6 f7 ig zg
  refine lawB (s := s) (vS := vS) rfl rfl a hd hu B D TT hC hG hS ig zg F N (R := fun s' => wpAny (model PG w) (A.deeper (envOfC "law" (scopeOf w.params 109) L' fa (.ref cd))) (execs ((lBody w.params).drop 3) (envOfC "law" (scopeOf w.params 109) L' fa (.ref cd))) Q E s') (fun s' h => by rw [List.drop_drop]; exact h) fun g h tk2 mx lz vz nz oS hle2 B D TT F N hS iz => ?_
  have lz4 : (zsOf gs).length = 4 := by simp [zsOf]
  refine lawC (s := s) rfl rfl a hd hu B D TT hC hG hS iz lz4 (Nat.lt_of_lt_of_le htk hle2) F N (R := fun s' => wpAny (model PG w) (A.deeper (envOfC "law" (scopeOf w.params 109) L' fa (.ref cd))) (execs ((lBody w.params).drop 4) (envOfC "law" (scopeOf w.params 109) L' fa (.ref cd))) Q E s') (fun s' h => by rw [List.drop_drop]; exact h) fun g h tk3 mx le ve ne τ hle3 B D TT F N ie hTe => ?_
  have le4 : (esOf c6 (zsOf gs)).length = 4 := by simp [esOf]
  refine lawD (s := s) (ls := ls) rfl rfl a hd hu B D TT hC hG hS ig zg f3 (fun i hi => (f6 i hi).2.1) F N (R := fun s' => wpAny (model PG w) (A.deeper (envOfC "law" (scopeOf w.params 109) L' fa (.ref cd))) (execs ((lBody w.params).drop 5) (envOfC "law" (scopeOf w.params 109) L' fa (.ref cd))) Q E s') (fun s' h => by rw [List.drop_drop]; exact h) fun g h tk4 mx ld nd ks kl hle4 B D TT F N hks lks => ?_
  refine lawE (s := s) rfl rfl a hd hu B D TT hC hG ig zg f7 F N (R := fun s' => wpAny (model PG w) (A.deeper (envOfC "law" (scopeOf w.params 109) L' fa (.ref cd))) (execs ((lBody w.params).drop 6) (envOfC "law" (scopeOf w.params 109) L' fa (.ref cd))) Q E s') (fun s' h => by rw [List.drop_drop]; exact h) fun g h tk5 mx ll vl nl hle5 B D TT F N il => ?_
  have il2 : IntsAre vl ((List.range 4).map fun (q : Nat) => (((List.range 4).map fun (i : Nat) => dueM gs c4 c5 (i + 1)).getD q []).getLastD 0) := by
    have e : ((List.range 4).map fun (q : Nat) => (((List.range 4).map fun (i : Nat) => dueM gs c4 c5 (i + 1)).getD q []).getLastD 0) = (List.range 4).map fun (i : Nat) => lastM gs c4 c5 (i + 1) := by
      apply List.map_congr_left
      intro q hq
      rw [get_range (List.mem_range.mp hq)]
      exact (f6 q (List.mem_range.mp hq)).2.2
    rw [e]; exact il
  refine lawF (s := s) rfl rfl a hd hu B D TT hks lks (fun q hq => by rw [get_range hq]; exact (f6 q hq).1) (fun q hq => by rw [get_range hq]; exact (f6 q hq).2.1) il2 F N (R := fun s' => wpAny (model PG w) (A.deeper (envOfC "law" (scopeOf w.params 109) L' fa (.ref cd))) (execs ((lBody w.params).drop 7) (envOfC "law" (scopeOf w.params 109) L' fa (.ref cd))) Q E s') (fun s' h => by rw [List.drop_drop]; exact h) fun g h tk6 mx hle6 B D TT F N => ?_
  have le36 : tk3 ≤ tk6 := Nat.le_trans hle4 (Nat.le_trans hle5 hle6)
  exact lawG (s := s) (τ := τ) rfl rfl a hd hu B D TT hC hS hks lks ie iz le4 lz4 f1 f2 (hTe.le le36) (Nat.lt_of_lt_of_le htk (Nat.le_trans hle2 (Nat.le_trans hle3 le36))) f4 f5 F N hQ
end
end
section
theorem law_main : PySem.Challenge.rw_tr0008_01.Holds := by
  refine hd0 (by
    k_go0
    rename Fr _ _ _ _ => F
    rename News _ _ _ _ => N
    rename CellsAre _ _ _ => CA
    rename Below _ _ _ _ => K0
    rename Heap.IsList _ _ _ => hL
    rename IntsAre _ _ => hI
    rename Frag.In _ _ => KX
    rename Top _ _ _ _ _ _ => T
    rename (¬ (_ < _)) => hlen
    obtain ⟨o3, o2, o1, hcells, ho3, ho2, ho1⟩ := CA.three
    rw [hcells] at N
    have N' := news_sub N (l' := (_, o1) :: (_, o2) :: (_, o3) :: []) (by
      intro p hp
      simp only [List.mem_cons, List.not_mem_nil, or_false] at hp ⊢
      rcases hp with rfl | rfl | rfl
      · exact .inr (.inr rfl)
      · exact .inr (.inl rfl)
      · exact .inl rfl)
    have am := (⟨⟨_, K0, KX, T⟩, (fun c hc => nomatch hc), rfl⟩ : AmbW _ _ _ _ callerA [] _)
    obtain ⟨B, _, _⟩ := am.open
    trace_state
    refine law_exec am (by decide) (by decide) B (fun c hc => nomatch hc) .refl ho1 ho2 ho3 hL hI (by (first | lia | omega)) (Fr_nm F _ (nms1 rfl)) N' ?hQ
    case hQ =>
      intro g' h tk m TT F'
      have F2 : Fr _ _ h m := ⟨F'.ns, fun c o e => F'.keep c o (TT.other c o e (fun hm => nomatch hm)), by have z := F'.above; rw [TT.size] at z; exact z⟩
      show GoodW _ _ _ _ _ (.ok (.ret (.bool true))) _
      refine goodW_bool F2 (by assumption) (raisesW_false ?hn) ?hp
      case hn => wrow_none_raised
      case hp => wrow_post)
end
end
end
end
end Mine
theorem PySem.Challenge.cw_tr0008_01_holds : PySem.Challenge.rw_tr0008_01.Holds := by
  exact Mine.law_main
