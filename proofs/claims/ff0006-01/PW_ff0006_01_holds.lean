import PyProof.Rows.All
import Wide.All
import OpenK.AllK
import Wide.FinOn
import PySem.Challenge.RW_ff0006_01
open PySem PySem.W PyProof.Rows PySem.Calls
set_option Elab.async false
set_option maxRecDepth 100000
set_option maxHeartbeats 8000000
namespace Mine
open_top hd1 for PySem.Challenge.rw_ff0006_01
section
open PySem PySem.W PyProof.Rows PySem.Calls

def KeptBut (l : List Addr) (h h' : Heap) : Prop := ∀ b o, h.get? b = some o → b ∉ l → h'.get? b = some o

@[reducible] def Ar (D U : Nat) (env : Env) (outer : List Env) : Around :=
  { handled := none, depth := D, frames := some (env :: outer), guards := none, units := U }

theorem codeAny_weaker {M : Model} {D U dp un : Nat} {fr : Option (List Env)} {gd : Option (List Code)} {c : Code} {R : Result → Shared → Prop} {s : Shared}
    (h : codeAny M { handled := none, depth := D, frames := fr, guards := none, units := U } c R s) (hd : dp ≤ D) (hu : un ≤ U) :
    codeAny M { handled := none, depth := dp, frames := fr, guards := gd, units := un } c R s :=
  fun Γ p hc hΓ => h Γ p hc ⟨hΓ.1, Nat.le_trans hΓ.2.1 hd, hΓ.2.2.1, fun _ x => (by cases x), Nat.le_trans hΓ.2.2.2.2 hu⟩

theorem wpAny_weaker {M : Model} {α : Type} {t : Sem α} {Q : α → Shared → Prop} {E : Value → Shared → Prop} {D U dp un : Nat} {fr : Option (List Env)} {gd : Option (List Code)} {s : Shared}
    (h : wpAny M { handled := none, depth := D, frames := fr, guards := none, units := U } t Q E s) (hd : dp ≤ D) (hu : un ≤ U) :
    wpAny M { handled := none, depth := dp, frames := fr, guards := gd, units := un } t Q E s :=
  fun Γ p hΓ => h Γ p ⟨hΓ.1, Nat.le_trans hΓ.2.1 hd, hΓ.2.2.1, fun _ x => (by cases x), Nat.le_trans hΓ.2.2.2.2 hu⟩

/-- what a call of the def at f gives, from any state that bears `pre` -/
def Spec (prog : Program) (w : World) (base : Heap) (D : Nat) (f : Addr) (args : Args) (pre : List (Addr × Obj)) (post : Value → List (Addr × Obj) → Prop) : Prop :=
  ∀ (A₀ : Around) (env : Env) (outer : List Env) (h₀ : Heap) (L : Addr) (m : Str → Option Value) (s : Shared) (R : Result → Shared → Prop),
    Below A₀ base outer h₀ → Fr h₀ L s.heap m → env.frame = some L → env.scope.kind = .function → News h₀ L s.heap pre →
    (∀ r led h' tk', post r led → Fr h₀ L h' m → News h₀ L h' led → KeptBut (pre.map (·.1)) s.heap h' →
      (∀ p ∈ led, p.1 ∈ pre.map (·.1) ∨ s.heap.get? p.1 = none) → R (.ok (.ret r)) { s with heap := h', toks := tk' }) →
    codeAny (model prog w) (Ar D (10 * D) env outer) (.call (.ref f) args) R s

def Ends (s : Shared) (g : Heap) (post : Value → List (Addr × Obj) → Prop) (r : Value) (s' : Shared) : Prop :=
  ∃ L' m' led h' tk', s' = { s with heap := h', toks := tk' } ∧ Fr g L' h' m' ∧ News g L' h' led ∧ post r led

theorem Ends.mk {s : Shared} {g : Heap} {post : Value → List (Addr × Obj) → Prop} {r : Value} {L' : Addr} {m' : Str → Option Value} {led : List (Addr × Obj)} {h' : Heap} {tk' : Nat}
    (F : Fr g L' h' m') (N : News g L' h' led) (p : post r led) : Ends s g post r { s with heap := h', toks := tk' } := ⟨L', m', led, h', tk', rfl, F, N, p⟩

theorem Ends.mk' {s : Shared} {g : Heap} {post : Value → List (Addr × Obj) → Prop} {r : Value} {L' : Addr} {m' : Str → Option Value} {led act : List (Addr × Obj)} {h' : Heap} {tk' : Nat}
    (F : Fr g L' h' m') (N : News g L' h' act) (hs : ∀ p ∈ led, p ∈ act) (p : post r led) : Ends s g post r { s with heap := h', toks := tk' } := ⟨L', m', led, h', tk', rfl, F, fun p hp => N p (hs p hp), p⟩

section
variable {prog : Program} {w : World} {base : Heap} {D : Nat} {K : Frag} {p : Program} {loose : List Str} {mean : ExcName → Option Value} {mg mb : Str → Option Value}
  {name qual : Str} {params : Arguments} {body : List Stmt} {scope : Scope} {dV kV doc pm cdv ct oc : Value} {an od : Option Addr} {osl : Array (Option Value)} {f : Addr} {args : Args} {binds : List (Str × Value)}
  {pre : List (Addr × Obj)} {post : Value → List (Addr × Obj) → Prop}

theorem out_of {h₀ : Heap} {L : Addr} {m : Str → Option Value} {s : Shared} {R : Result → Shared → Prop}
    (F : Fr h₀ L s.heap m) (N : News h₀ L s.heap pre)
    (hret : ∀ r led h' tk', post r led → Fr h₀ L h' m → News h₀ L h' led → KeptBut (pre.map (·.1)) s.heap h' →
      (∀ p ∈ led, p.1 ∈ pre.map (·.1) ∨ s.heap.get? p.1 = none) → R (.ok (.ret r)) { s with heap := h', toks := tk' })
    {r : Value} {s' : Shared} (e : Ends s (hideAll s.heap (pre.map (·.1))) post r s') : R (.ok (.ret r)) s' := by
  obtain ⟨L', m', led, h', tk', rfl, F', N', hp⟩ := e
  have hkb : KeptBut (pre.map (·.1)) s.heap h' := fun b o e n => F'.keep b o (hideAll_get _ e n)
  have nm : ∀ b o, h₀.get? b = some o → b ∉ pre.map (·.1) := fun b o e q => by
    obtain ⟨p, hp, rfl⟩ := List.mem_map.mp q
    rw [(N p hp).2.2] at e; cases e
  obtain ⟨oL, es, ep, hL, hLd, hLk, hLf⟩ := F.ns
  have nL : L ∉ pre.map (·.1) := fun q => by
    obtain ⟨p, hp, e⟩ := List.mem_map.mp q
    exact (N p hp).2.1 e
  have fr : ∀ p ∈ led, p.1 ∈ pre.map (·.1) ∨ s.heap.get? p.1 = none := fun p hp => by
    by_cases hb : p.1 ∈ pre.map (·.1)
    · exact .inl hb
    · refine .inr ?_
      cases q : s.heap.get? p.1 with
      | none => rfl
      | some o => have := (N' p hp).2.2; rw [hideAll_get _ q hb] at this; cases this
  refine hret r led h' tk' hp ⟨⟨oL, es, ep, hkb _ _ hL nL, hLd, hLk, hLf⟩, fun b o e => hkb b o (F.keep b o e) (nm b o e), F.above⟩ (fun p hp => ⟨(N' p hp).1, fun q => ?_, ?_⟩) hkb fr
  · have := (N' p hp).2.2
    rw [q, hideAll_get _ hL nL] at this; cases this
  · cases q : h₀.get? p.1 with
    | none => rfl
    | some o => have := (N' p hp).2.2; rw [hideAll_get _ (F.keep _ _ q) (nm _ _ q)] at this; cases this

theorem enter (X : K.In base) (T : Top p loose mean mg mb base)
    (ho : K.lookup f = some ⟨oc, od, .func (fnOf name qual params body scope dV kV doc pm an cdv ct), osl⟩) (hcd : codeIn K cdv qual = true) (hroom : D < recursionLimit)
    (hbind : ∀ s : Shared, K.In s.heap → BindsTo s (fnOf name qual params body scope dV kV doc pm an cdv ct) args binds) (hloc : ∀ y ∈ binds, scope.names.lookup y.1 = some .local)
    (h : ∀ (s : Shared) (env : Env) (outer : List Env) g L' h₁, Fr g L' h₁ (fun y => binds.reverse.lookup y) → News g L' h₁ pre → Below (Ar D (10 * D) env outer) base (env :: outer) g → K.In g → Top p loose mean mg mb g → (∀ p ∈ pre, p.1 < L') →
      wpAny (model prog w) ((Ar D (10 * D) env outer).deeper (envOf qual scope L' f cdv)) (execs body (envOf qual scope L' f cdv))
        (fun fl s' => Ends s g post (match fl with | .ret v => v | _ => .none) s') (fun _ _ => False)
        { s with heap := h₁, toks := s.toks + binds.length })
    (hco : scope.isCoroutine = false) (hgen : scope.isGenerator = false) (hk : scope.kind = .function)
    (hcell : ∀ x ∈ scope.names, x.2 ≠ .cell) : Spec prog w base D f args pre post := by
  intro A₀ env outer h₀ L m s R B F hf hke N hret
  obtain ⟨FG, BG, st, _⟩ := groundX (R := R) (A := Ar D (10 * D) env outer) B F N rfl hf hke
  have X₀ := X.keeps B.stays
  have T₀ := T.keeps B.stays
  refine codeAny_call_def (fd := fnX name qual params body scope [] dV kV doc pm an cdv ct) (body := body) (binds := binds) hroom ((X₀.keeps F.keep) _ _ ho) rfl (T₀.nolimit.keeps F.keep) (codeRec_of (X₀.keeps F.keep) hcd) rfl (hbind s (X₀.keeps F.keep)) hcell hloc (fun h₁ hns hk₁ => ?_) hco hgen hk
  refine wpAny_mono (h s env outer _ s.heap.objs.size h₁ ⟨hns, fun b o e => hk₁ b o (of_hideAll _ e), Nat.le_of_eq (hideAll_size _ _)⟩
    (fun p hp => ⟨hk₁ _ _ (N p hp).1, Nat.ne_of_lt (Heap.lt_size (N p hp).1), hideAll_none _ (List.mem_map_of_mem hp)⟩) BG (X₀.keeps st) (T₀.keeps st) (fun p hp => Heap.lt_size (N p hp).1)) (fun fl s' hl => ?_) fun _ _ y => y.elim
  exact out_of F N hret hl

theorem enterC (X : K.In base) (T : Top p loose mean mg mb base)
    (ho : K.lookup f = some ⟨oc, od, .func (fnOf name qual params body scope dV kV doc pm an cdv ct), osl⟩) (hcd : codeIn K cdv qual = true) (hroom : D < recursionLimit)
    (hbind : ∀ s : Shared, K.In s.heap → BindsTo s (fnOf name qual params body scope dV kV doc pm an cdv ct) args binds) (hkind : (binds.all fun y => scope.names.lookup y.1 == some .local || scope.names.lookup y.1 == some .cell) = true)
    (hnd : ((cellsFrom 0 scope.names []).map (·.1)).Nodup)
    (h : ∀ (s : Shared) (env : Env) (outer : List Env) g L' h₁ tk cells, Fr g L' h₁ (bindL (envOfC qual scope L' f cdv).kindOf binds fun _ => none) → News g L' h₁ (cells ++ pre) →
      CellsAre (bindC (envOfC qual scope L' f cdv).kindOf binds fun _ => none) (cellsFrom (L' + 1) scope.names []) cells →
      Below (Ar D (10 * D) env outer) base (env :: outer) g → K.In g → Top p loose mean mg mb g → (∀ p ∈ pre, p.1 < L') →
      wpAny (model prog w) ((Ar D (10 * D) env outer).deeper (envOfC qual scope L' f cdv)) (execs body (envOfC qual scope L' f cdv))
        (fun fl s' => Ends s g post (match fl with | .ret v => v | _ => .none) s') (fun _ _ => False)
        { s with heap := h₁, toks := tk })
    (hco : scope.isCoroutine = false) (hgen : scope.isGenerator = false) (hk : scope.kind = .function) : Spec prog w base D f args pre post := by
  intro A₀ env outer h₀ L m s R B F hf hke N hret
  obtain ⟨FG, BG, st, _⟩ := groundX (R := R) (A := Ar D (10 * D) env outer) B F N rfl hf hke
  have X₀ := X.keeps B.stays
  have T₀ := T.keeps B.stays
  refine codeAny_call_function hroom ((X₀.keeps F.keep) _ _ ho) rfl hco hgen rfl (codeRec_of (X₀.keeps F.keep) hcd) (hbind s (X₀.keeps F.keep) _ _ _ _ ?_)
  refine wpAny_newFunctionEnv_cells hk (kindsX hkind _) fun env' he s' x => ?_
  subst he
  refine ⟨(T₀.nolimit.keeps F.keep).keeps x.toInCall.keep, codeAny_func ?_⟩
  obtain ⟨h₁, tk, rfl, _⟩ := x.done
  have hk₁ := x.toInCall.keep
  obtain ⟨cells, NC, Y⟩ := Cl.news (h₀ := s.heap) (Nat.le_refl _) fun n c hm => ⟨x.cell n c (lookup_of_mem_nodup (cellsFrom_names scope.names 0 (s.heap.objs.size + 1) [] [] rfl ▸ hnd) hm), x.above n c hm⟩
  refine wpAny_mono (h s env outer _ s.heap.objs.size h₁ tk cells ⟨x.toInCall.ns, fun b o e => hk₁ b o (of_hideAll _ e), Nat.le_of_eq (hideAll_size _ _)⟩ (fun p hp => ?_) Y BG (X₀.keeps st) (T₀.keeps st) (fun p hp => Heap.lt_size (N p hp).1)) (fun fl s' hl => ?_) fun _ _ y => y.elim
  · rcases List.mem_append.mp hp with hp | hp
    · refine ⟨(NC p hp).1, (NC p hp).2.1, ?_⟩
      cases q : (hideAll s.heap (pre.map (·.1))).get? p.1 with
      | none => rfl
      | some o => have := (NC p hp).2.2; rw [of_hideAll _ q] at this; cases this
    · exact ⟨hk₁ _ _ (N p hp).1, Nat.ne_of_lt (Heap.lt_size (N p hp).1), hideAll_none _ (List.mem_map_of_mem hp)⟩
  · exact out_of F N hret hl

/-- to use a contract where a frame stands -/
theorem Spec.use {A₀ : Around} {env : Env} {outer : List Env} {h₀ : Heap} {L : Addr} {m : Str → Option Value} {s : Shared} {dp un : Nat} {gd : Option (List Code)} {news rest : List (Addr × Obj)} {Q : Value → Shared → Prop} {E : Value → Shared → Prop}
    {fn : List Value} {kw : List (Str × Value)} (S : Spec prog w base D f ⟨fn, kw⟩ pre post)
    (B : Below A₀ base outer h₀) (F : Fr h₀ L s.heap m) (N : News h₀ L s.heap news) (hf : env.frame = some L) (hk : env.scope.kind = .function) (hd : dp ≤ D) (hu : un ≤ 10 * D)
    (hp : ∀ p ∈ pre, p ∈ news) (hr : ∀ p ∈ rest, p ∈ news) (hoff : ∀ p ∈ rest, p.1 ∉ pre.map (·.1))
    (k : ∀ r led h' tk', post r led → Fr h₀ L h' m → News h₀ L h' (led ++ rest) → (∀ p ∈ led, p.1 ∈ pre.map (·.1) ∨ ∀ q ∈ news, q.1 ≠ p.1) → Q r { s with heap := h', toks := tk' }) :
    wpAny (model prog w) { handled := none, depth := dp, frames := some (env :: outer), guards := gd, units := un } (call (.ref f) fn kw) Q E s := by
  refine wpAny_call (codeAny_weaker ?_ hd hu)
  refine S A₀ env outer h₀ L m s _ B F hf hk (fun p h => N p (hp p h)) fun r led h' tk' hpost F' N' kb fr => ?_
  refine k r led h' tk' hpost F' (fun p h => ?_) fun p h => ?_
  · rcases List.mem_append.mp h with h | h
    · exact N' p h
    · have := N p (hr p h)
      exact ⟨kb _ _ this.1 (hoff p h), this.2⟩
  · refine (fr p h).imp id fun q r hr e => ?_
    have := (N r hr).1
    rw [e, q] at this; cases this

/-- the same, of a function that touches nothing -/
theorem Spec.use0 {A₀ : Around} {env : Env} {outer : List Env} {h₀ : Heap} {L : Addr} {m : Str → Option Value} {s : Shared} {dp un : Nat} {gd : Option (List Code)} {news : List (Addr × Obj)} {Q : Value → Shared → Prop} {E : Value → Shared → Prop}
    {fn : List Value} {kw : List (Str × Value)} {P : Value → Prop} (S : Spec prog w base D f ⟨fn, kw⟩ [] (fun r led => P r ∧ led = []))
    (B : Below A₀ base outer h₀) (F : Fr h₀ L s.heap m) (N : News h₀ L s.heap news) (hf : env.frame = some L) (hk : env.scope.kind = .function) (hd : dp ≤ D) (hu : un ≤ 10 * D)
    (k : ∀ r h' tk', P r → Fr h₀ L h' m → News h₀ L h' news → Q r { s with heap := h', toks := tk' }) :
    wpAny (model prog w) { handled := none, depth := dp, frames := some (env :: outer), guards := gd, units := un } (call (.ref f) fn kw) Q E s :=
  S.use B F N hf hk hd hu (fun _ h => nomatch h) (rest := news) (fun _ h => h) (fun _ _ => List.not_mem_nil) fun r led h' tk' hp F' N' _ => by
    obtain ⟨hp, rfl⟩ := hp
    exact k r h' tk' hp F' N'
end

theorem nin_nil {a : Addr} : a ∉ (([] : List (Addr × Obj)).map (·.1)) := by simp
theorem nin_cons {a : Addr} {p : Addr × Obj} {r : List (Addr × Obj)} (h : a ≠ p.1) (h2 : a ∉ r.map (·.1)) : a ∉ (p :: r).map (·.1) := by
  rw [List.map_cons, List.mem_cons]; rintro (q | q)
  · exact h q
  · exact h2 q
theorem off_nil {S : List Addr} : ∀ q ∈ ([] : List (Addr × Obj)), q.1 ∉ S := fun _ h => nomatch h
theorem off_cons {S : List Addr} {p : Addr × Obj} {r : List (Addr × Obj)} (h : p.1 ∉ S) (h2 : ∀ q ∈ r, q.1 ∉ S) : ∀ q ∈ p :: r, q.1 ∉ S := fun q hq => by
  rcases List.mem_cons.mp hq with rfl | hq
  · exact h
  · exact h2 q hq

theorem fresh_of {a b : Nat} {o ob : Obj} {pre led news : List (Addr × Obj)} (hfr : ∀ p ∈ led, p.1 ∈ pre.map (·.1) ∨ ∀ q ∈ news, q.1 ≠ p.1) (hm : (a, o) ∈ led) (ha : a ∉ pre.map (·.1)) (hb : (b, ob) ∈ news) : a ≠ b := by
  rcases hfr _ hm with q | q
  · exact absurd q ha
  · exact fun e => q _ hb e.symm

/-- a halt for the walk -/
structure Halt (P : Prop) : Prop where
  it : P
theorem halt {P : Prop} (h : Halt P) : P := h.it


end
section
open PySem PySem.W PyProof.Rows PySem.Calls

/-- a slice by two bounds -/
def pick {α : Type} (l : List α) (lo hi : Option Int) : List α := (l.drop (kms_lo lo l.length)).take (kms_hi hi l.length - kms_lo lo l.length)
theorem pick_len {α : Type} (l : List α) (lo hi : Option Int) : (pick l lo hi).length ≤ l.length := by
  unfold pick; simp only [List.length_take, List.length_drop]; omega
theorem pick_strs {vs : List Value} {ts : List Str} (h : StrsAre vs ts) (lo hi : Option Int) : StrsAre (pick vs lo hi) (pick ts lo hi) := by
  unfold pick; rw [h.length]; exact (h.drop' _).take' _

theorem lo_le (lo : Option Int) (n : Nat) : kms_lo lo n ≤ n := by
  cases lo with
  | none => exact Nat.zero_le _
  | some x => unfold kms_lo; dsimp only; split <;> omega
theorem hi_le (hi : Option Int) (n : Nat) : kms_hi hi n ≤ n := by
  cases hi with
  | none => exact Nat.le_refl _
  | some x => unfold kms_hi; dsimp only; split <;> omega

section
variable {prog : Program} {w : World} {A : Around} {E : Value → Shared → Prop} {s : Shared} {h₀ : Heap} {L l l2 : Addr} {m : Str → Option Value} {news news' : List (Addr × Obj)} {vs ws : List Value} {n n2 : Nat}
  {value slice : PySem.Expr} {vl vu : Value} {lo hi : Option Int}

theorem len_L {Q : Value → Shared → Prop} (N : News h₀ L s.heap news) (hm : (l, listOf vs.toArray n) ∈ news) (hz : vs.length ≤ 100000)
    (h : ∀ t k, Q (.int vs.length t) { s with toks := k }) : wpAny (model prog w) A (call (.builtin "len") [.ref l]) Q E s :=
  len_list (News.isList N hm) (by simp; omega) (by have := h (s.toks + 1) (s.toks + 1 + 1); simpa using this)

theorem truthy_L {Q : Bool → Shared → Prop} (N : News h₀ L s.heap news) (hm : (l, listOf vs.toArray n) ∈ news) (hz : vs.length ≤ 100000)
    (h : ∀ k, Q (decide (0 < vs.length)) { s with toks := k }) : wpAny (model prog w) A (truthy (.ref l)) Q E s :=
  wpAny_truthy_list (News.isList N hm) (by simp; omega) (by
    have h1 := h (s.toks + 1 + 1)
    have e : (!vs.toArray.isEmpty) = decide (0 < vs.length) := by cases vs <;> simp
    rw [e]; exact h1)

theorem get_L {k : Int} {t : Tok} {Q : Value → Shared → Prop} (N : News h₀ L s.heap news) (hm : (l, listOf vs.toArray n) ∈ news) (h0 : 0 ≤ k) (h1 : k < vs.length) (hz : vs.length ≤ 100000)
    (h : ∀ v, vs[k.toNat]? = some v → Q v s) : wpAny (model prog w) A (getItem (.ref l) (.int k t)) Q E s := by
  have hk : k.toNat < vs.length := by omega
  refine wpAny_getItem_list (News.isList N hm) h0 (by omega) (x := vs[k.toNat]) (by simp [hk]) (h _ (by simp [hk]))
theorem sub_L {k : Int} {t : Tok} {Q : Value → Shared → Prop} (N : News h₀ L s.heap news) (hm : (l, listOf vs.toArray n) ∈ news) (h0 : 0 ≤ k) (h1 : k < vs.length) (hz : vs.length ≤ 100000)
    (h : ∀ v, vs[k.toNat]? = some v → Q v s)
    (hs : subscripted slice false (.ref l) (.int k t) = operate [.ref l, .int k t] (getItem (.ref l) (.int k t))) (hg : ∀ r, letTemporaryGo value (.ref l) r = pure ()) :
    wpAny (model prog w) A (subscriptTail value slice (.ref l) (.int k t)) Q E s := by
  have hk : k.toNat < vs.length := by omega
  exact item_list (News.isList N hm) h0 (by omega) (x := vs[k.toNat]) (by simp [hk]) (h _ (by simp [hk])) hs hg

theorem get_S {ts : List Str} {k : Int} {t : Tok} {Q : Value → Shared → Prop} (hi : StrsAre vs ts) (N : News h₀ L s.heap news) (hm : (l, listOf vs.toArray n) ∈ news) (h0 : 0 ≤ k) (h1 : k < vs.length) (hz : vs.length ≤ 100000)
    (h : ∀ x u, ts[k.toNat]? = some x → Q (.str x u) s) : wpAny (model prog w) A (getItem (.ref l) (.int k t)) Q E s :=
  get_L N hm h0 h1 hz fun v hv => by obtain ⟨x, u, rfl, hx⟩ := hi.item _ _ hv; exact h x u hx
theorem sub_S {ts : List Str} {k : Int} {t : Tok} {Q : Value → Shared → Prop} (hi : StrsAre vs ts) (N : News h₀ L s.heap news) (hm : (l, listOf vs.toArray n) ∈ news) (h0 : 0 ≤ k) (h1 : k < vs.length) (hz : vs.length ≤ 100000)
    (h : ∀ x u, ts[k.toNat]? = some x → Q (.str x u) s)
    (hs : subscripted slice false (.ref l) (.int k t) = operate [.ref l, .int k t] (getItem (.ref l) (.int k t))) (hg : ∀ r, letTemporaryGo value (.ref l) r = pure ()) :
    wpAny (model prog w) A (subscriptTail value slice (.ref l) (.int k t)) Q E s :=
  sub_L N hm h0 h1 hz (fun v hv => by obtain ⟨x, u, rfl, hx⟩ := hi.item _ _ hv; exact h x u hx) hs hg

theorem get_SL {ts : List Str} {k : Int} {t : Tok} {Q : Value → Shared → Prop} (hl : ∀ x ∈ ts, x.length ≤ 100) (hi : StrsAre vs ts) (N : News h₀ L s.heap news) (hm : (l, listOf vs.toArray n) ∈ news) (h0 : 0 ≤ k) (h1 : k < vs.length) (hz : vs.length ≤ 100000)
    (h : ∀ x u, ts[k.toNat]? = some x → x.length ≤ 100 → Q (.str x u) s) : wpAny (model prog w) A (getItem (.ref l) (.int k t)) Q E s :=
  get_S hi N hm h0 h1 hz fun x u hx => h x u hx (hl x (List.mem_of_getElem? hx))
theorem sub_SL {ts : List Str} {k : Int} {t : Tok} {Q : Value → Shared → Prop} (hl : ∀ x ∈ ts, x.length ≤ 100) (hi : StrsAre vs ts) (N : News h₀ L s.heap news) (hm : (l, listOf vs.toArray n) ∈ news) (h0 : 0 ≤ k) (h1 : k < vs.length) (hz : vs.length ≤ 100000)
    (h : ∀ x u, ts[k.toNat]? = some x → x.length ≤ 100 → Q (.str x u) s)
    (hs : subscripted slice false (.ref l) (.int k t) = operate [.ref l, .int k t] (getItem (.ref l) (.int k t))) (hg : ∀ r, letTemporaryGo value (.ref l) r = pure ()) :
    wpAny (model prog w) A (subscriptTail value slice (.ref l) (.int k t)) Q E s :=
  sub_S hi N hm h0 h1 hz (fun x u hx => h x u hx (hl x (List.mem_of_getElem? hx))) hs hg

theorem slice_L {Q : Value → Shared → Prop} (F : Fr h₀ L s.heap m) (N : News h₀ L s.heap news) (hm : (l, listOf vs.toArray n) ∈ news) (pl : IsPart vl lo) (pu : IsPart vu hi) (hz : vs.length ≤ 100000)
    (h : ∀ D h', Fr h₀ L h' m → News h₀ L h' ((D, listOf (pick vs lo hi).toArray 0) :: news) → (∀ p ∈ news, p.1 < D) → Q (.ref D) { s with heap := h' })
    (hs : subscripted slice false (.ref l) (.ref s.heap.objs.size) = operate [.ref s.heap.objs.size, .ref l] (getItem (.ref l) (.ref s.heap.objs.size))) (ht : ∀ r, letTemporaryGo value (.ref l) r = pure ()) :
    wpAny (model prog w) A (subscriptTail value slice (.ref l) (.ref s.heap.objs.size)) Q E { s with heap := s.heap.push { cls := .type "slice", data := .fields #[vl, vu, .none] } } :=
  kms_slice_lit F N (News.isList N hm) pl pu (zs := pick vs lo hi) (by rw [List.toList_toArray]; rfl) h hs ht (by rw [List.size_toArray, sizeLine_eq]; omega)

theorem cat_L {Q : Value → Shared → Prop} (F : Fr h₀ L s.heap m) (N : News h₀ L s.heap news) (hm : (l, listOf vs.toArray n) ∈ news) (hm2 : (l2, listOf ws.toArray n2) ∈ news) (hz : vs.length + ws.length ≤ 100000)
    (h : ∀ D h', Fr h₀ L h' m → News h₀ L h' ((D, listOf (vs ++ ws).toArray 0) :: news) → (∀ p ∈ news, p.1 < D) → Q (.ref D) { s with heap := h' }) :
    wpAny (model prog w) A (binaryOp .Add (.ref l) (.ref l2)) Q E s :=
  kmk_add_lit F N (News.isList N hm) (News.isList N hm2) (zs := vs ++ ws) (by rw [List.toList_toArray, List.toList_toArray]) h (by rw [List.toList_toArray, List.toList_toArray, sizeLine_eq]; omega)

theorem take_ins {x : Int} {y : Value} (h0 : 0 ≤ x) (h1 : x ≤ vs.length) : kl_ins vs x y = vs.take x.toNat ++ y :: vs.drop x.toNat := by
  unfold kl_ins
  rw [if_neg (by omega)]
  have : min x.toNat vs.length = x.toNat := by omega
  rw [this]
theorem fits_small {x : Int} (h0 : 0 ≤ x) (h1 : x ≤ 100000) : Builtin.List.listFitsIndex x = true := fitsIndex_of h0 (by omega)

theorem insert_L {x : Int} {u : Tok} {y : Value} {Q : Value → Shared → Prop} (F : Fr h₀ L s.heap m) (N : News h₀ L s.heap news) (h0 : 0 ≤ x) (h1 : x ≤ vs.length) (hz : vs.length ≤ 100000)
    (U : Upd l (listOf vs.toArray n) (listOf (vs.take x.toNat ++ y :: vs.drop x.toNat).toArray (n + 1)) news news') (h : ∀ h', Fr h₀ L h' m → News h₀ L h' news' → Q .none { s with heap := h' }) :
    wpAny (model prog w) A (call (.builtin "list.insert") [.ref l, .int x u, y]) Q E s :=
  kl_insert F N (fits_small h0 (by omega)) (by rw [List.toList_toArray]; exact take_ins h0 h1) U (by rw [List.toList_toArray, sizeLine_eq]; omega) h

theorem cut_at : ∀ (vs : List Value) (k : Nat) (h : k < vs.length), kl_cut vs k = some (vs.take k, vs[k], vs.drop (k + 1))
  | x :: r, 0, _ => by simp [kl_cut]
  | x :: r, k + 1, h => by
    have := cut_at r k (by simpa using h)
    simp [kl_cut, this]
theorem seq_at {k : Int} {n : Nat} (h0 : 0 ≤ k) (h1 : k < n) : seqIndex? k n = some k.toNat := by
  unfold seqIndex?
  have : ¬ k < 0 := by omega
  simp [this, h0, h1]

theorem pop_L {x : Int} {u : Tok} {Q : Value → Shared → Prop} (F : Fr h₀ L s.heap m) (N : News h₀ L s.heap news) (h0 : 0 ≤ x) (h1 : x < vs.length) (hz : vs.length ≤ 100000)
    (U : Upd l (listOf vs.toArray n) (listOf (vs.take x.toNat ++ vs.drop (x.toNat + 1)).toArray (n + 1)) news news') (h : ∀ y h', vs[x.toNat]? = some y → Fr h₀ L h' m → News h₀ L h' news' → Q y { s with heap := h' }) :
    wpAny (model prog w) A (call (.builtin "list.pop") [.ref l, .int x u]) Q E s :=
  have hk : x.toNat < vs.length := by omega
  kl_popAt F N (fits_small h0 (by omega)) (by rw [List.size_toArray]; exact seq_at h0 h1) (by rw [List.toList_toArray]; exact cut_at vs _ hk) U (by rw [List.toList_toArray, sizeLine_eq]; omega) fun h' => h _ h' (by simp [hk])

theorem del_at : ∀ (vs : List Value) (k : Nat) (h : k < vs.length), ki_delL vs k = some (vs.take k ++ vs.drop (k + 1))
  | x :: r, 0, _ => by simp [ki_delL]
  | x :: r, k + 1, h => by
    have := del_at r k (by simpa using h)
    simp [ki_delL, this]
theorem del_L {x : Int} {u : Tok} {Q : Unit → Shared → Prop} (F : Fr h₀ L s.heap m) (N : News h₀ L s.heap news) (h0 : 0 ≤ x) (h1 : x < vs.length) (hz : vs.length ≤ 100000)
    (U : Upd l (listOf vs.toArray n) (listOf (vs.take x.toNat ++ vs.drop (x.toNat + 1)).toArray (n + 1)) news news') (h : ∀ h', Fr h₀ L h' m → News h₀ L h' news' → Q () { s with heap := h' }) :
    wpAny (model prog w) A (delItem (.ref l) (.int x u)) Q E s :=
  have hk : x.toNat < vs.length := by omega
  ki_del F N (fits_small h0 (by omega)) (by rw [List.size_toArray]; exact seq_at h0 h1) (by rw [List.toList_toArray]; exact del_at vs _ hk) U (by rw [List.toList_toArray, sizeLine_eq]; omega) h

theorem set_at : ∀ (vs : List Value) (k : Nat) (v : Value) (h : k < vs.length), ki_setL vs k v = some (vs.set k v)
  | x :: r, 0, _, _ => by simp [ki_setL]
  | x :: r, k + 1, v, h => by
    have := set_at r k v (by simpa using h)
    simp [ki_setL, this]
theorem set_L {x : Int} {u : Tok} {v : Value} {Q : Unit → Shared → Prop} (F : Fr h₀ L s.heap m) (N : News h₀ L s.heap news) (h0 : 0 ≤ x) (h1 : x < vs.length) (hz : vs.length ≤ 100000)
    (U : Upd l (listOf vs.toArray n) (listOf (vs.set x.toNat v).toArray n) news news') (h : ∀ h', Fr h₀ L h' m → News h₀ L h' news' → Q () { s with heap := h' }) :
    wpAny (model prog w) A (setItem (.ref l) (.int x u) v) Q E s :=
  have hk : x.toNat < vs.length := by omega
  ki_set F N h0 (by omega) (by rw [List.toList_toArray]; exact set_at vs _ v hk) U h

/-- equality of data lists -/
theorem canAll_strs : ∀ {ts : List Str}, (∀ x ∈ ts, PyData.strOk x = true) → PyData.canLayAll0 (ts.map .str) = true
  | [], _ => rfl
  | x :: r, h => by
    show (PyData.canLay0 (.str x) && PyData.canLayAll0 (r.map .str)) = true
    rw [canAll_strs fun y hy => h y (.tail _ hy)]
    have := h x (.head _)
    simp [PyData.canLay0, this]
theorem depth_strs : ∀ (ts : List Str), PyData.depthAll (ts.map .str) = 0
  | [] => rfl
  | x :: r => by
    show max 0 (PyData.depthAll (r.map .str)) = 0
    rw [depth_strs r]; rfl
theorem eqv_strs : ∀ (ts us : List Str), PyData.eqvAll (ts.map .str) (us.map .str) = decide (ts = us)
  | [], [] => by simp [PyData.eqvAll]
  | [], _ :: _ => by simp [PyData.eqvAll]
  | _ :: _, [] => by simp [PyData.eqvAll]
  | x :: r, y :: q => by
    show (PyData.eqv (.str x) (.str y) && PyData.eqvAll (r.map .str) (q.map .str)) = _
    rw [eqv_strs r q]
    show ((x == y) && _) = _
    by_cases h : x = y <;> simp [h]
theorem shaped_strs {ts : List Str} (h : ∀ x ∈ ts, PyData.strOk x = true) : SeqAt.shaped (.list (ts.map .str)) = true := by
  unfold SeqAt.shaped
  show (PyData.canLayAll0 (ts.map .str) && decide (PyData.depthAll (ts.map .str) + 1 ≤ 64)) = true
  rw [canAll_strs h, depth_strs]; rfl
theorem reads_strs {ts : List Str} (h : StrsAre vs ts) (N : News h₀ L s.heap news) (hm : (l, listOf vs.toArray n) ∈ news) : Reads s.heap (.ref l) (.list (ts.map .str)) (l :: []) :=
  .list (N.get hm) rfl rfl (by rw [List.toList_toArray]; exact h.reads _)

theorem eq_SS {ts us : List Str} {Q : Value → Shared → Prop} (h1 : StrsAre vs ts) (h2 : StrsAre ws us) (N : News h₀ L s.heap news) (hm : (l, listOf vs.toArray n) ∈ news) (hm2 : (l2, listOf ws.toArray n2) ∈ news)
    (o1 : ∀ x ∈ ts, PyData.strOk x = true) (o2 : ∀ x ∈ us, PyData.strOk x = true) (hu : A.units + 64 < cLine) (h : Q (.bool (decide (ts = us))) s) : wpAny (model prog w) A (compareOp .Eq (.ref l) (.ref l2)) Q E s :=
  SeqAt.compareEq_shaped (reads_strs h1 N hm) (reads_strs h2 N hm2) (shaped_strs o1) (shaped_strs o2) hu (by
    show Q (.bool (PyData.eqvAll (ts.map .str) (us.map .str))) s
    rw [eqv_strs]; exact h)
theorem ne_SS {ts us : List Str} {Q : Value → Shared → Prop} (h1 : StrsAre vs ts) (h2 : StrsAre ws us) (N : News h₀ L s.heap news) (hm : (l, listOf vs.toArray n) ∈ news) (hm2 : (l2, listOf ws.toArray n2) ∈ news)
    (o1 : ∀ x ∈ ts, PyData.strOk x = true) (o2 : ∀ x ∈ us, PyData.strOk x = true) (hu : A.units + 64 < cLine) (h : Q (.bool (!decide (ts = us))) s) : wpAny (model prog w) A (compareOp .NotEq (.ref l) (.ref l2)) Q E s :=
  SeqAt.compareNe_shaped (reads_strs h1 N hm) (reads_strs h2 N hm2) (shaped_strs o1) (shaped_strs o2) hu (by
    show Q (.bool (!PyData.eqvAll (ts.map .str) (us.map .str))) s
    rw [eqv_strs]; exact h)
end

section
variable {prog : Program} {w : World} {A : Around} {E : Value → Shared → Prop} {s : Shared} {K : Frag} {x C : Addr} {ox : Obj} {od : Obj} {name : Str} {pl : Sem Bool} {h₀ : Heap} {L : Addr} {m : Str → Option Value}
/-- the name of a method form that is no method: an attribute got -/
theorem method_got {Q : Value × List Value → Shared → Prop} {f tf : Value} (F : Fr h₀ L s.heap m) (X₀ : K.In h₀) (I : InstAt s.heap x ox C (some od)) (hg : plainGet K C name = true)
    (hf : findIn K (.ref C) name = some (some f)) (ht : ∀ M, Looks M s.heap (typeOf f) tf) (hn : (tf != .type "function" && tf != .type "method_descriptor" && tf != .type "wrapper_descriptor") = true)
    (h : wpAny (model prog w) A (getAttr (.ref x) name) (fun v => Q (v, [])) E s) : wpAny (model prog w) A (getMethod (.ref x) name pl) Q E s := by
  have X := X₀.keeps F.keep
  obtain ⟨hga, hk⟩ := plainGet_of hg
  have hcan := PySem.F.canon_object_ga
  unfold getMethod specialOf
  refine wpAny_bind (wpAny_bind (I.type.here ((looks_findIn X hga).here ?_)))
  dsimp only
  rw [hcan, if_neg (by decide)]
  refine wpAny_bind (wpAny_bind (I.type.here ((looks_findIn X hk).here ?_)))
  refine wpAny_bind (wpAny_bind (I.type.here ((looks_findIn X hf).here (wpAny_bind ((ht _).here ?_)))))
  rw [if_pos hn]
  exact wpAny_bind (wpAny_mono h (fun v s' hv => wpAny_pure hv) fun _ _ y => y)
end

end
section
open PySem PySem.W PyProof.Rows PySem.Calls

/-- an object that is a namespace of these bindings -/
def NsOf (o : Obj) (mc : Str → Option Value) : Prop := ∀ (h : Heap) (a : Addr), h.get? a = some o → h.Ns a mc
theorem nsOf_of {h : Heap} {a : Addr} {mc : Str → Option Value} (x : h.Ns a mc) : ∃ o, h.get? a = some o ∧ NsOf o mc := by
  obtain ⟨o, es, ep, ho, r⟩ := x
  exact ⟨o, ho, fun h' a' e => ⟨o, es, ep, e, r⟩⟩

/-- the end of an element of a comprehension -/
def CStep (h₀ : Heap) (L : Addr) (m : Str → Option Value) (own : List (Addr × Obj)) (s₁ : Shared) (J : List (Addr × Obj) → Prop) (s₂ : Shared) : Prop :=
  ∃ h' tk news', s₂ = { s₁ with heap := h', toks := tk } ∧ Fr h₀ L h' m ∧ News h₀ L h' (news' ++ own) ∧ (∀ p ∈ news', ∀ q ∈ own, p.1 ≠ q.1) ∧ J news'
theorem CStep.mk {h₀ : Heap} {L : Addr} {m : Str → Option Value} {own : List (Addr × Obj)} {s₁ : Shared} {J : List (Addr × Obj) → Prop} {h' : Heap} {tk : Nat} {news' : List (Addr × Obj)}
    (F : Fr h₀ L h' m) (N : News h₀ L h' (news' ++ own)) (hs : ∀ p ∈ news', ∀ q ∈ own, p.1 ≠ q.1) (j : J news') : CStep h₀ L m own s₁ J { s₁ with heap := h', toks := tk } :=
  ⟨h', tk, news', rfl, F, N, hs, j⟩

section
variable {prog : Program} {w : World} {A : Around} {E : Value → Shared → Prop} {env : Env} {h₀ : Heap} {L : Addr} {m : Str → Option Value}

/-- the tests and the element, as a turn of a comprehension has them -/
def CTurn (prog : Program) (w : World) (A : Around) (env : Env) (ifs : List Expr) (elt : Expr) (scope : Scope) (cl : List (Str × Addr)) (C : Addr) (yes : Value → Shared → Prop) (no : Shared → Prop) (s : Shared) : Prop :=
  match ifs with
  | [] => wpAny (model prog w) A (eval elt (compEnvC scope cl C env)) yes (fun _ _ => False) s
  | [c] => wpAny (model prog w) A (isTrue c (compEnvC scope cl C env) (eval c (compEnvC scope cl C env))) (fun ok s₁ => if ok = true then wpAny (model prog w) A (eval elt (compEnvC scope cl C env)) yes (fun _ _ => False) s₁ else no s₁) (fun _ _ => False) s
  | _ => False

theorem comp_block_inv {elt iter : Expr} {x : Str} {px : Pos} {ifs : List Expr} {scope : Scope} {cl : List (Str × Addr)} {pos : Pos} {s₂ : Shared} {I : Addr} {fp wr : List Addr} {n : Nat} {P : Nat → Value → Prop}
    {St : Nat → Heap → Prop} (W : Walks prog w A I fp wr n P St) (hsz : n ≤ 100000) (J : Nat → List Value → List (Addr × Obj) → Prop) {news : List (Addr × Obj)} {RR : Value → Addr → Result → Shared → Prop}
    (hcell : ∀ y ∈ scope.names, y.2 ≠ .cell) (hkind : scope.kind = .function) (hx : scope.names.lookup x = some .local)
    (hal : ∀ i h, St i h → ∀ b ∈ fp, ∃ o, h.get? b = some o)
    (hst : St 0 s₂.heap) (F : Fr h₀ L s₂.heap m) (N : News h₀ L s₂.heap news) (hLf : L ∉ fp) (hwr : ∀ b ∈ wr, h₀.get? b = none) (hnf : ∀ p ∈ news, p.1 ∉ fp) (hJ : J 0 [] news)
    (turn : ∀ i v ys news₁ s₁ own C oC mc, (∃ h tk, s₁ = { s₂ with heap := h, toks := tk }) → i < n → P i v → J i ys news₁ → ys.length ≤ i → Fr h₀ L s₁.heap m → News h₀ L s₁.heap (news₁ ++ own) → (∀ p ∈ news₁, ∀ q ∈ own, p.1 ≠ q.1) →
      (C, oC) ∈ own → NsOf oC mc → mc x = some v →
      CTurn prog w A env ifs elt scope cl C (fun y => CStep h₀ L m own s₁ (J (i + 1) (ys ++ [y]))) (CStep h₀ L m own s₁ (J (i + 1) ys)) s₁)
    (hRR : ∀ D C h' tk ys nD mc news', s₂.heap.get? D = none → s₂.heap.get? C = none → D ≠ C → h'.Ns C mc → h'.get? D = some (listOf ys.toArray nD) → Fr h₀ L h' m → News h₀ L h' news' → (∀ p ∈ news', p.1 ≠ D ∧ p.1 ≠ C) → J n ys news' → ys.length ≤ n →
      L ≠ C → (∀ b ∈ fp, b ∉ wr → ∀ o, s₂.heap.get? b = some o → h'.get? b = some o) → s₂.heap.objs.size ≤ D → RR (.ref D) C (.ok .next) { s₂ with heap := h', toks := tk }) :
    wpAny (model prog w) A (newList []) (fun acc s₃ => wpAny (model prog w) A (newFunctionEnv scope env.globals cl [] env.qual none .none (some env)) (fun cenv s₄ =>
      codeAny (model prog w) A (.compStart (.ListComp elt [⟨.Name x px, iter, ifs, 0⟩] scope pos) 0 (.ref I) acc { cenv with scope := relabel scope env }) (RR acc cenv.locals) s₄) E s₃) E s₂ := by
  refine wpAny_newObj_type (wpAny_newFunctionEnv hcell (by intro y hy; simp at hy) (fun h₁ hns₁ hsb₁ => ?_) hkind)
  dsimp only at hns₁ hsb₁ ⊢
  generalize hH2 : s₂.heap.push { cls := .type "list", dict := none, data := .seq ([] : List Value).toArray } = H2 at hns₁ hsb₁ ⊢
  have hC : H2.objs.size = s₂.heap.objs.size + 1 := by rw [← hH2, Heap.size_push]
  have hDC : s₂.heap.objs.size ≠ H2.objs.size := by rw [hC]; exact Nat.ne_of_lt (Nat.lt_succ_self _)
  have below : ∀ b, b < s₂.heap.objs.size → b ≠ H2.objs.size ∧ b ≠ s₂.heap.objs.size := fun b hb => ⟨by rw [hC]; exact Nat.ne_of_lt (Nat.lt_succ_of_lt hb), Nat.ne_of_lt hb⟩
  have belowA : ∀ b o, s₂.heap.get? b = some o → b ≠ H2.objs.size ∧ b ≠ s₂.heap.objs.size := fun b o e => below b (Heap.lt_size e)
  have old : ∀ b o, s₂.heap.get? b = some o → h₁.get? b = some o := fun b o e => hsb₁.extBut b o (below b (Heap.lt_size e)).1 (Heap.get?_push_of_some _ (hH2 ▸ Heap.get?_push_of_some _ e))
  have hacc : h₁.get? s₂.heap.objs.size = some (listOf ([] : List Value).toArray 0) := hsb₁.extBut _ _ hDC (Heap.get?_push_of_some _ (hH2 ▸ Heap.get?_push_size _ rfl))
  have hst₁ : St 0 h₁ := W.frame _ _ _ hst fun b _ o e => old b o e
  have fresh : ∀ a, s₂.heap.objs.size ≤ a → s₂.heap.get? a = none := fun a ha => by
    cases e : s₂.heap.get? a with
    | none => rfl
    | some o' => exact absurd (Heap.lt_size e) (Nat.not_lt.mpr ha)
  obtain ⟨oL, _, _, hoL, _⟩ := id F.ns
  have hLlt := Heap.lt_size hoL
  have hfp : ∀ b ∈ fp, b < s₂.heap.objs.size := fun b hb => by obtain ⟨o, ho⟩ := hal 0 _ hst b hb; exact Heap.lt_size ho
  have hDf : s₂.heap.objs.size ∉ fp := fun hm => Nat.lt_irrefl _ (hfp _ hm)
  have hCf : H2.objs.size ∉ fp := fun hm => by have := hfp _ hm; rw [hC] at this; exact Nat.lt_irrefl _ (Nat.lt_of_succ_lt this)
  generalize hDe : s₂.heap.objs.size = D at *
  generalize hCe : H2.objs.size = C at *
  have hLC : L ≠ C := (below L hLlt).1
  have hLD : L ≠ D := (below L hLlt).2
  have hLw : L ∉ wr := fun h => hLf (W.sub _ h)
  have hDw : D ∉ wr := fun h => hDf (W.sub _ h)
  have hCw : C ∉ wr := fun h => hCf (W.sub _ h)
  have h0D : h₀.get? D = none := by
    cases q : h₀.get? D with
    | none => rfl
    | some o => exact absurd rfl (belowA D _ (F.keep _ _ q)).2
  have h0C : h₀.get? C = none := by
    cases q : h₀.get? C with
    | none => rfl
    | some o => exact absurd rfl (belowA C _ (F.keep _ _ q)).1
  have h0w : ∀ b o, h₀.get? b = some o → b ∉ wr := fun b o e hb => by rw [hwr b hb] at e; cases e
  have loop : ∀ s₃ : Shared, s₃ = { s₂ with heap := h₁, toks := s₂.toks + ([] : List (Str × Value)).length } →
      codeAny (model prog w) A (.compLoop (.ListComp elt [⟨.Name x px, iter, ifs, 0⟩] scope pos) 0 (.ref I) (.ref D) (compEnvC scope cl C env)) (RR (.ref D) C) s₃ := by
    rintro s₃ rfl
    have hE : ∀ (e : Value) (s' : Shared), False → notedBy (model prog w) A (compEnvC scope cl C env) (fun e s' => RR (.ref D) C (.error e) s') e s' := fun _ _ h => h.elim
    refine codeAny_compLoop_tests
      (fun k s' => ∃ h' tk ys news' i mc nD, s' = { s₂ with heap := h', toks := tk } ∧ St i h' ∧ Fr h₀ L h' m ∧ News h₀ L h' news' ∧ h'.get? D = some (listOf ys.toArray nD) ∧ h'.Ns C mc ∧ J i ys news' ∧
        (∀ p ∈ news', p.1 ∉ fp ∧ p.1 ≠ D ∧ p.1 ≠ C) ∧ (∀ b ∈ fp, b ∉ wr → ∀ o, s₂.heap.get? b = some o → h'.get? b = some o) ∧ ys.length ≤ i ∧ i ≤ n ∧ k = n + 1 - i) ?_ (n + 1)
      ⟨h₁, _, [], news, 0, _, 0, rfl, hst₁, ⟨F.ns.at' fun o e => old _ o e, fun b o e => old b o (F.keep b o e), F.above⟩, (fun p hp => ⟨old _ _ (N p hp).1, (N p hp).2⟩), hacc, hns₁, hJ,
        (fun p hp => ⟨hnf p hp, (belowA _ _ (N p hp).1).2, (belowA _ _ (N p hp).1).1⟩), (fun b _ _ o e => old b o e), Nat.le_refl _, Nat.zero_le _, rfl⟩
    rintro k s' ⟨h', tk, ys, news', i, mc, nD, rfl, hst', F', N', hD', hn', hJ', hsep, hkp, hys, hi, rfl⟩
    have next : ∀ h₂ : Heap, (∀ b o, b ∉ wr → h'.get? b = some o → h₂.get? b = some o) → Fr h₀ L h₂ m ∧ News h₀ L h₂ news' ∧ h₂.get? D = some (listOf ys.toArray nD) ∧ h₂.Ns C mc := fun h₂ hk₂ =>
      ⟨⟨F'.ns.at' fun o e => hk₂ _ o hLw e, fun b o e => hk₂ b o (h0w b o e) (F'.keep b o e), F'.above⟩, (fun p hp => ⟨hk₂ _ _ (fun hq => (hsep p hp).1 (W.sub _ hq)) (N' p hp).1, (N' p hp).2⟩), hk₂ _ _ hDw hD', hn'.at' fun o e => hk₂ _ o hCw e⟩
    by_cases hlt : i < n
    · refine W.item i _ _ _ hlt hst' fun v h₂ tk₂ hP hst₂ hk₂ => ?_
      obtain ⟨F₂, N₂, hD₂, hn₂⟩ := next h₂ hk₂
      have hxl : (compEnvC scope cl C env).kindOf x = some .local := lookup_relabel_local hx
      have hkl : (compEnvC scope cl C env).scope.kind = .function := hkind
      refine wpAny_assign_Name (wpAny_storeName_local hxl hn₂ (fun h₃ hn₃ hs₃ => ?_) (by show (scope.kind == .class || (scope.kind == .module && _)) = false; rw [hkind]; rfl))
      have keep₃ : ∀ b o, b ≠ C → h₂.get? b = some o → h₃.get? b = some o := fun b o hb e => (hs₃.2 b hb).trans e
      have F₃ : Fr h₀ L h₃ m := ⟨F₂.ns.at' fun o e => keep₃ _ o hLC e, fun b o e => keep₃ b o (fun q => by rw [q, h0C] at e; cases e) (F₂.keep b o e), F₂.above⟩
      have N₃ : News h₀ L h₃ news' := fun p hp => ⟨keep₃ _ _ (hsep p hp).2.2 (N₂ p hp).1, (N₂ p hp).2⟩
      have hD₃ : h₃.get? D = some (listOf ys.toArray nD) := keep₃ _ _ hDC hD₂
      have hst₃ : St (i + 1) h₃ := W.frame _ _ _ hst₂ fun b hb o e => keep₃ b o (fun q => hCf (q ▸ hb)) e
      obtain ⟨oC, hoC, hnC⟩ := nsOf_of hn₃
      have hoC' : h₃.get? C = some oC := hoC
      have Nown : News h₀ L h₃ (ownOf h₀ (C :: D :: fp) h₃) := news_ownOf (by
        intro hq
        rcases List.mem_cons.mp hq with h | h
        · exact hLC h
        · rcases List.mem_cons.mp h with h | h
          · exact hLD h
          · exact hLf h)
      have mC : (C, oC) ∈ ownOf h₀ (C :: D :: fp) h₃ := mem_ownOf (.head _) h0C hoC'
      have mD : (D, listOf ys.toArray nD) ∈ ownOf h₀ (C :: D :: fp) h₃ := mem_ownOf (.tail _ (.head _)) h0D hD₃
      have sep₃ : ∀ p ∈ news', ∀ q ∈ ownOf h₀ (C :: D :: fp) h₃, p.1 ≠ q.1 := fun p hp q hq e => by
        have h1 := ownOf_sub q hq
        rw [← e] at h1
        rcases List.mem_cons.mp h1 with h | h
        · exact (hsep p hp).2.2 h
        · rcases List.mem_cons.mp h with h | h
          · exact (hsep p hp).2.1 h
          · exact (hsep p hp).1 h
      have T := turn i v ys news' { s₂ with heap := h₃, toks := tk₂ + 1 } (ownOf h₀ (C :: D :: fp) h₃) C oC _ ⟨_, _, rfl⟩ hlt hP hJ' hys F₃ (N₃.append Nown) sep₃ mC hnC (by simp)
      have nextI : ∀ {Jn : List (Addr × Obj) → Prop} {s₅ : Shared} {ys' : List Value} {nD' : Nat}, ys' = ys → nD' = nD → CStep h₀ L m (ownOf h₀ (C :: D :: fp) h₃) { s₂ with heap := h₃, toks := tk₂ + 1 } Jn s₅ →
          ∃ h₅ tk₅ news₅ mc₅, s₅ = { s₂ with heap := h₅, toks := tk₅ } ∧ St (i + 1) h₅ ∧ Fr h₀ L h₅ m ∧ News h₀ L h₅ news₅ ∧ h₅.get? D = some (listOf ys'.toArray nD') ∧ h₅.Ns C mc₅ ∧ Jn news₅ ∧ (∀ p ∈ news₅, p.1 ∉ fp ∧ p.1 ≠ D ∧ p.1 ≠ C) ∧ (∀ b ∈ fp, b ∉ wr → ∀ o, s₂.heap.get? b = some o → h₅.get? b = some o) := by
        rintro Jn s₅ ys' nD' rfl rfl ⟨h₅, tk₅, news₅, rfl, F₅, N₅, sep₅, J₅⟩
        have hown : ∀ b ∈ C :: D :: fp, ∀ o, h₃.get? b = some o → h₅.get? b = some o := fun b hb o e => by
          cases hn : h₀.get? b with
          | some o₀ =>
            have h1 := F₃.keep b o₀ hn
            rw [e] at h1
            cases h1
            exact F₅.keep b _ hn
          | none => exact (N₅ _ (List.mem_append_right _ (mem_ownOf hb hn e))).1
        refine ⟨h₅, tk₅, news₅, _, rfl, W.frame _ _ _ hst₃ fun b hb o e => hown b (.tail _ (.tail _ hb)) o e, F₅, (fun p hp => N₅ p (List.mem_append_left _ hp)), hown D (.tail _ (.head _)) _ hD₃, hn₃.at' fun o e => hown C (.head _) o e, J₅, (fun p hp => ⟨fun hq => ?_, fun hq => sep₅ p hp _ mD hq, fun hq => sep₅ p hp _ mC hq⟩),
          fun b hb hw o e => hown b (.tail _ (.tail _ hb)) o (keep₃ b o (fun q => hCf (q ▸ hb)) (hk₂ b o hw (hkp b hb hw o e)))⟩
        obtain ⟨ob, hob⟩ := hal _ _ hst₃ _ hq
        exact sep₅ p hp _ (mem_ownOf (.tail _ (.tail _ hq)) (N₅ p (List.mem_append_left _ hp)).2.2 hob) rfl
      have fin : ∀ y s₅, CStep h₀ L m (ownOf h₀ (C :: D :: fp) h₃) { s₂ with heap := h₃, toks := tk₂ + 1 } (J (i + 1) (ys ++ [y])) s₅ →
          wpAny (model prog w) A (call (.builtin "list.append") [.ref D, y]) (fun _ s₅ => ∃ k', k' < n + 1 - i ∧ ∃ h' tk ys news' i mc nD, s₅ = { s₂ with heap := h', toks := tk } ∧ St i h' ∧ Fr h₀ L h' m ∧ News h₀ L h' news' ∧ h'.get? D = some (listOf ys.toArray nD) ∧ h'.Ns C mc ∧ J i ys news' ∧
        (∀ p ∈ news', p.1 ∉ fp ∧ p.1 ≠ D ∧ p.1 ≠ C) ∧ (∀ b ∈ fp, b ∉ wr → ∀ o, s₂.heap.get? b = some o → h'.get? b = some o) ∧ ys.length ≤ i ∧ i ≤ n ∧ k' = n + 1 - i) (notedBy (model prog w) A (compEnvC scope cl C env) fun e s' => RR (.ref D) C (.error e) s') s₅ := by
        rintro y s₅ hc
        obtain ⟨h₅, tk₅, news₅, mc₅, rfl, hst₅, F₅, N₅, hD₅, hn₅, J₅, sep₅, kp₅⟩ := nextI rfl rfl hc
        refine append_at hD₅ (fun h₆ hs₆ hD₆ => ?_) (by rw [List.size_toArray, sizeLine_eq]; omega)
        have keep₆ : ∀ b o, b ≠ D → h₅.get? b = some o → h₆.get? b = some o := fun b o hb e => (hs₆.2 b hb).trans e
        refine ⟨n + 1 - (i + 1), by omega, h₆, tk₅, ys ++ [y], news₅, i + 1, mc₅, nD + 1, rfl, W.frame _ _ _ hst₅ fun b hb o e => keep₆ b o (fun q => hDf (q ▸ hb)) e,
          ⟨F₅.ns.at' fun o e => keep₆ _ o hLD e, fun b o e => keep₆ b o (fun q => by rw [q, h0D] at e; cases e) (F₅.keep b o e), F₅.above⟩,
          (fun p hp => ⟨keep₆ _ _ (sep₅ p hp).2.1 (N₅ p hp).1, (N₅ p hp).2⟩), by rw [hD₆]; simp, hn₅.at' fun o e => keep₆ _ o (Ne.symm hDC) e, J₅, sep₅, (fun b hb hw o e => keep₆ b o (fun q => hDf (q ▸ hb)) (kp₅ b hb hw o e)), by simp; omega, by omega, rfl⟩
      have skip : ∀ s₅, CStep h₀ L m (ownOf h₀ (C :: D :: fp) h₃) { s₂ with heap := h₃, toks := tk₂ + 1 } (J (i + 1) ys) s₅ →
          ∃ k', k' < n + 1 - i ∧ ∃ h' tk ys news' i mc nD, s₅ = { s₂ with heap := h', toks := tk } ∧ St i h' ∧ Fr h₀ L h' m ∧ News h₀ L h' news' ∧ h'.get? D = some (listOf ys.toArray nD) ∧ h'.Ns C mc ∧ J i ys news' ∧
        (∀ p ∈ news', p.1 ∉ fp ∧ p.1 ≠ D ∧ p.1 ≠ C) ∧ (∀ b ∈ fp, b ∉ wr → ∀ o, s₂.heap.get? b = some o → h'.get? b = some o) ∧ ys.length ≤ i ∧ i ≤ n ∧ k' = n + 1 - i := by
        rintro s₅ hc
        obtain ⟨h₅, tk₅, news₅, mc₅, rfl, hst₅, F₅, N₅, hD₅, hn₅, J₅, sep₅, kp₅⟩ := nextI (ys' := ys) (nD' := nD) rfl rfl hc
        exact ⟨n + 1 - (i + 1), by omega, h₅, tk₅, ys, news₅, i + 1, mc₅, nD, rfl, hst₅, F₅, N₅, hD₅, hn₅, J₅, sep₅, kp₅, by omega, by omega, rfl⟩
      unfold CTurn at T
      match ifs, T with
      | [], T =>
        refine wpAny_tests_nil ?_
        rw [if_pos rfl]
        exact wpAny_mono T fin hE
      | [c], T =>
        refine wpAny_tests_one (wpAny_mono T (fun ok s₄ h₄ => ?_) hE)
        cases ok with
        | true =>
          rw [if_pos rfl] at h₄ ⊢
          exact wpAny_mono h₄ fin hE
        | false =>
          rw [if_neg (by decide)] at h₄ ⊢
          exact skip _ h₄
    · have hin : i = n := by omega
      subst hin
      refine W.done _ _ _ hst' fun h₂ tk₂ hk₂ => ?_
      obtain ⟨F₂, N₂, hD₂, hn₂⟩ := next h₂ hk₂
      exact hRR D C h₂ tk₂ ys nD mc news' (fresh _ (Nat.le_refl _)) (fresh _ (by omega)) hDC hn₂ hD₂ F₂ N₂ (fun p hp => (hsep p hp).2) hJ' hys hLC (fun b hb hw o e => hk₂ b o hw (hkp b hb hw o e)) (by first | exact Nat.le_refl _ | exact Nat.le_of_eq hDe)
  exact codeAny_compStart_list (loop _ rfl) (W.self 0 _ _ _ hst₁ (loop _ rfl))

/-- what stands before a comprehension's iterator: the invariant, its turn, and what comes behind -/
def CompAt (prog : Program) (w : World) (A : Around) (env : Env) (h₀ : Heap) (L : Addr) (m : Str → Option Value) (x : Str) (ifs : List Expr) (elt : Expr) (scope : Scope) (cl : List (Str × Addr))
    (fin : Addr → Addr → Shared → Prop) (it : Value) (s₂ : Shared) : Prop :=
  ∃ (I : Addr) (fp wr : List Addr) (n : Nat) (P : Nat → Value → Prop) (St : Nat → Heap → Prop) (news : List (Addr × Obj)) (J : Nat → List Value → List (Addr × Obj) → Prop),
    it = .ref I ∧ Walks prog w A I fp wr n P St ∧ n ≤ 100000 ∧ (∀ i h, St i h → ∀ b ∈ fp, ∃ o, h.get? b = some o) ∧ St 0 s₂.heap ∧ Fr h₀ L s₂.heap m ∧ News h₀ L s₂.heap news ∧ L ∉ fp ∧ (∀ b ∈ wr, h₀.get? b = none) ∧ (∀ p ∈ news, p.1 ∉ fp) ∧ J 0 [] news ∧
    (∀ i v ys news₁ s₁ own C oC mc, (∃ h tk, s₁ = { s₂ with heap := h, toks := tk }) → i < n → P i v → J i ys news₁ → ys.length ≤ i → Fr h₀ L s₁.heap m → News h₀ L s₁.heap (news₁ ++ own) → (∀ p ∈ news₁, ∀ q ∈ own, p.1 ≠ q.1) →
      (C, oC) ∈ own → NsOf oC mc → mc x = some v →
      CTurn prog w A env ifs elt scope cl C (fun y => CStep h₀ L m own s₁ (J (i + 1) (ys ++ [y]))) (CStep h₀ L m own s₁ (J (i + 1) ys)) s₁) ∧
    (∀ D C h' tk ys nD oC mc news', D ≠ C → News h₀ L h' ((C, oC) :: (D, listOf ys.toArray nD) :: news') → NsOf oC mc → Fr h₀ L h' m → (∀ p ∈ news', p.1 ≠ D ∧ p.1 ≠ C) → J n ys news' → ys.length ≤ n →
      (∀ b ∈ fp, b ∉ wr → ∀ o, s₂.heap.get? b = some o → h'.get? b = some o ∧ b ≠ D ∧ b ≠ C) → s₂.heap.objs.size ≤ D → fin D C { s₂ with heap := h', toks := tk })

theorem block_of {elt iter : Expr} {x : Str} {px : Pos} {ifs : List Expr} {scope : Scope} {cl : List (Str × Addr)} {pos : Pos} {s₂ : Shared} {fin : Addr → Addr → Shared → Prop} {RR : Value → Addr → Result → Shared → Prop} {it : Value}
    (hcell : ∀ y ∈ scope.names, y.2 ≠ .cell) (hkind : scope.kind = .function) (hx : scope.names.lookup x = some .local)
    (h : CompAt prog w A env h₀ L m x ifs elt scope cl fin it s₂) (hRR : ∀ D C s', fin D C s' → RR (.ref D) C (.ok .next) s') :
    wpAny (model prog w) A (newList []) (fun acc s₃ => wpAny (model prog w) A (newFunctionEnv scope env.globals cl [] env.qual none .none (some env)) (fun cenv s₄ =>
      codeAny (model prog w) A (.compStart (.ListComp elt [⟨.Name x px, iter, ifs, 0⟩] scope pos) 0 it acc { cenv with scope := relabel scope env }) (RR acc cenv.locals) s₄) E s₃) E s₂ := by
  obtain ⟨I, fp, wr, n, P, St, news, J, rfl, W, hsz, hal, hst, F, N, hLf, hwr, hnf, hJ, turn, done⟩ := h
  refine comp_block_inv W hsz J hcell hkind hx hal hst F N hLf hwr hnf hJ turn fun D C h' tk ys nD mc news' hD hC hDC hn hD' F' N' hs hJ' hl hLC hk hDs => ?_
  obtain ⟨oC, hoC, hnC⟩ := nsOf_of hn
  have z : ∀ b, s₂.heap.get? b = none → b ≠ L ∧ h₀.get? b = none := by
    intro b hb
    constructor
    · intro q
      obtain ⟨o, _, _, ho, _⟩ := F.ns
      rw [← q, hb] at ho
      cases ho
    · cases q : h₀.get? b with
      | none => rfl
      | some o =>
        have := F.keep b o q
        rw [hb] at this
        cases this
  refine hRR D C _ (done D C h' tk ys nD oC mc news' hDC (fun p hp => ?_) hnC F' hs hJ' hl (fun b hb hw o e => ⟨hk b hb hw o e, (fun q => by rw [q, hD] at e; cases e), fun q => by rw [q, hC] at e; cases e⟩) hDs)
  rcases List.mem_cons.mp hp with rfl | hp
  · exact ⟨hoC, z C hC⟩
  · rcases List.mem_cons.mp hp with rfl | hp
    · exact ⟨hD', z D hD⟩
    · exact N' p hp

def FinE (h₀ : Heap) (L : Addr) (m : Str → Option Value) (Q : Value → Shared → Prop) (D C : Addr) (s' : Shared) : Prop :=
  ∃ led oC mc, NsOf oC mc ∧ News h₀ L s'.heap ((C, oC) :: led) ∧ (∀ p ∈ led, p.1 ≠ C) ∧ Fr h₀ L s'.heap m ∧ ∀ h', Fr h₀ L h' m → News h₀ L h' led → Q (.ref D) { s' with heap := h' }
/-- what holds behind the assignment of what a comprehension made -/
def AfterA (h₀ : Heap) (L : Addr) (C : Addr) (Q : Flow → Shared → Prop) (s'' : Shared) : Prop :=
  ∃ m'' led oC mc, NsOf oC mc ∧ News h₀ L s''.heap ((C, oC) :: led) ∧ (∀ p ∈ led, p.1 ≠ C) ∧ Fr h₀ L s''.heap m'' ∧ ∀ h', Fr h₀ L h' m'' → News h₀ L h' led → Q .next { s'' with heap := h' }
theorem AfterA.mk {h₀ : Heap} {L C : Addr} {Q : Flow → Shared → Prop} {s'' : Shared} {m'' : Str → Option Value} {led : List (Addr × Obj)} {oC : Obj} {mc : Str → Option Value} (hn : NsOf oC mc) (N : News h₀ L s''.heap ((C, oC) :: led)) (F : Fr h₀ L s''.heap m'') (hs : ∀ p ∈ led, p.1 ≠ C)
    (k : ∀ h', Fr h₀ L h' m'' → News h₀ L h' led → Q .next { s'' with heap := h' }) : AfterA h₀ L C Q s'' := ⟨m'', led, oC, mc, hn, N, hs, F, k⟩
def FinA (prog : Program) (w : World) (A : Around) (env : Env) (h₀ : Heap) (L : Addr) (y : Str) (py : Pos) (Q : Flow → Shared → Prop) (E : Value → Shared → Prop) (D C : Addr) (s' : Shared) : Prop :=
  wpAny (model prog w) A (assign (.Name y py) env (.ref D)) (fun _ s'' => AfterA h₀ L C Q s'') E s'

theorem let_go {m' : Str → Option Value} {C : Addr} {oC : Obj} {led : List (Addr × Obj)} {h h' : Heap} (N : News h₀ L h ((C, oC) :: led)) (hne : ∀ p ∈ led, p.1 ≠ C) (F : Fr h₀ L h m') (hs : Heap.SameBut C h h') :
    Fr h₀ L h' m' ∧ News h₀ L h' led := by
  obtain ⟨hoC, hCL, h0C⟩ := N _ (.head _)
  refine ⟨F.change hs hCL h0C, fun p hp => ?_⟩
  have := N p (.tail _ hp)
  exact ⟨(hs.2 _ (hne p hp)).trans this.1, this.2⟩

theorem comp_eval {elt iter : Expr} {x : Str} {px : Pos} {ifs : List Expr} {scope : Scope} {cl : List (Str × Addr)} {pos : Pos} {s : Shared} {Q : Value → Shared → Prop}
    (hF : Fr h₀ L s.heap m) (hclos : closureFor scope env = pure cl) (hcell : ∀ y ∈ scope.names, y.2 ≠ .cell) (hkind : scope.kind = .function)
    (hnames : ∀ y ∈ scope.names, y.2 = .local → scope.names.lookup y.1 = some .local) (hx : scope.names.lookup x = some .local)
    (hs : ∀ x, foldedSetIterable iter env x = pure x)
    (h : wpAny (model prog w) A (eval iter env) (fun xv s₁ => wpAny (model prog w) A (pyIter xv) (fun it s₂ =>
      CompAt prog w A env h₀ L m x ifs elt scope cl (FinE h₀ L m Q) it s₂) E s₁) E s) :
    wpAny (model prog w) A (eval (.ListComp elt [⟨.Name x px, iter, ifs, 0⟩] scope pos) env) Q E s := by
  rw [eval_ListComp]
  refine wpAny_comprehension_free (use := none) rfl hs hclos hkind hnames (wpAny_mono h (fun xv s₁ h₁ => wpAny_mono h₁ (fun it s₂ h₂ => ?_) fun _ _ e => e) fun _ _ e => e)
  refine block_of (RR := fun acc C => compPost (model prog w) A E none Q acc C) hcell hkind hx h₂ fun D C s' hf => ?_
  obtain ⟨led, oC, mc, hnC, N, hne, F, k⟩ := hf
  refine ⟨mc, hnC _ _ (N _ (.head _)).1, fun h' hs' => ?_⟩
  obtain ⟨F', N'⟩ := let_go N hne F hs'
  exact k h' F' N'

theorem comp_assign {elt iter : Expr} {x y : Str} {px py : Pos} {ifs : List Expr} {scope : Scope} {cl : List (Str × Addr)} {pos spos : Pos} {s : Shared} {Q : Flow → Shared → Prop}
    (hF : Fr h₀ L s.heap m) (hsw : swapsWith (.ListComp elt [⟨.Name x px, iter, ifs, 0⟩] scope pos) (some (.Name y py)) spos.line env = pure true)
    (hclos : closureFor scope env = pure cl) (hcell : ∀ y ∈ scope.names, y.2 ≠ .cell) (hkind : scope.kind = .function)
    (hnames : ∀ y ∈ scope.names, y.2 = .local → scope.names.lookup y.1 = some .local) (hx : scope.names.lookup x = some .local)
    (hs : ∀ x, foldedSetIterable iter env x = pure x)
    (h : wpAny (model prog w) A (eval iter env) (fun xv s₁ => wpAny (model prog w) A (pyIter xv) (fun it s₂ =>
      CompAt prog w A env h₀ L m x ifs elt scope cl (FinA prog w A env h₀ L y py Q E) it s₂) E s₁) E s) :
    wpAny (model prog w) A (exec (.Assign [.Name y py] (.ListComp elt [⟨.Name x px, iter, ifs, 0⟩] scope pos) spos) env) Q E s := by
  rw [exec_Assign_Name_used _ _ _ _ hsw]
  refine wpAny_bind (wpAny_standAt (wpAny_bind ?_))
  show wpAny _ A (do let _ ← comprehension (.ListComp elt [⟨.Name x px, iter, ifs, 0⟩] scope pos) scope env _ (newList []) false (eval iter env) (some (assign (.Name y py) env))) _ _ s
  refine wpAny_bind (wpAny_mono (wpAny_comprehension_free (use := some (assign (.Name y py) env)) (Q := fun _ s' => Q .next s') rfl hs hclos hkind hnames
    (wpAny_mono h (fun xv s₁ h₁ => wpAny_mono h₁ (fun it s₂ h₂ => ?_) fun _ _ e => e) fun _ _ e => e)) (fun _ s' hq => wpAny_pure (wpAny_pure hq)) fun _ _ e => e)
  refine block_of (RR := fun acc C => compPost (model prog w) A E (some (assign (.Name y py) env)) (fun _ s' => Q .next s') acc C) hcell hkind hx h₂ fun D C s' hf => ?_
  refine wpAny_mono hf (fun _ s'' hf' => ?_) fun _ _ e => e
  obtain ⟨m'', led, oC, mc, hnC, N, hne, F, k⟩ := hf'
  refine ⟨mc, hnC _ _ (N _ (.head _)).1, fun h' hs' => ?_⟩
  obtain ⟨F', N'⟩ := let_go N hne F hs'
  exact k h' F' N'

/-- over a made list -/
theorem compAt_list {l : Addr} {vs : List Value} {k : Nat} {x : Str} {ifs : List Expr} {elt : Expr} {scope : Scope} {cl : List (Str × Addr)} {fin : Addr → Addr → Shared → Prop} {s : Shared} {news : List (Addr × Obj)}
    (J : Nat → List Value → List (Addr × Obj) → Prop) (hh : A.handled = none) (F : Fr h₀ L s.heap m) (N : News h₀ L s.heap ((l, listOf vs.toArray k) :: news)) (hne : ∀ p ∈ news, p.1 ≠ l) (hz : vs.length ≤ 100000) (hJ : J 0 [] news)
    (turn : ∀ i v ys news₁ s₁ own C oC mc, (∃ h tk, s₁ = { s with heap := h, toks := tk }) → vs[i]? = some v → J i ys news₁ → ys.length ≤ i → Fr h₀ L s₁.heap m → News h₀ L s₁.heap (news₁ ++ own) → (∀ p ∈ news₁, ∀ q ∈ own, p.1 ≠ q.1) →
      (C, oC) ∈ own → NsOf oC mc → mc x = some v →
      CTurn prog w A env ifs elt scope cl C (fun y => CStep h₀ L m own s₁ (J (i + 1) (ys ++ [y]))) (CStep h₀ L m own s₁ (J (i + 1) ys)) s₁)
    (done : ∀ D C h' tk ys nD oC mc news', News h₀ L h' ((C, oC) :: (D, listOf ys.toArray nD) :: (l, listOf vs.toArray k) :: news') → NsOf oC mc → Fr h₀ L h' m →
      (∀ p ∈ (D, listOf ys.toArray nD) :: (l, listOf vs.toArray k) :: news', p.1 ≠ C) → l ≠ D → (∀ p ∈ news', p.1 ≠ D) → (∀ p ∈ (l, listOf vs.toArray k) :: news, p.1 < D) → J vs.length ys news' → ys.length ≤ vs.length → fin D C { s with heap := h', toks := tk }) :
    wpAny (model prog w) A (pyIter (.ref l)) (fun it s₂ => CompAt prog w A env h₀ L m x ifs elt scope cl fin it s₂) E s := by
  obtain ⟨hol, hlL, h0l⟩ := N _ (.head _)
  have hll : s.heap.IsList l vs.toArray := ⟨_, hol, rfl, k, rfl⟩
  have hlt := Heap.lt_size hol
  have hLlt : L < s.heap.objs.size := by obtain ⟨o, _, _, ho, _⟩ := F.ns; exact Heap.lt_size ho
  have hne' : l ≠ s.heap.objs.size := Nat.ne_of_lt hlt
  refine wpAny_pyIter_list hll ?_
  have W := Walks.list (prog := prog) (w := w) hh s.heap.objs.size l hne' vs.toArray
  have hsz : vs.toArray.size = vs.length := List.size_toArray ..
  have h0n : h₀.get? s.heap.objs.size = none := by
    cases q : h₀.get? s.heap.objs.size with
    | none => rfl
    | some o => exact absurd (Heap.lt_size (F.keep _ _ q)) (Nat.lt_irrefl _)
  refine ⟨_, _, _, _, _, _, news, J, rfl, W, by rw [hsz]; exact hz, ?_, ⟨⟨_, Heap.get?_push_size _ rfl, rfl, rfl⟩, hll.at fun o e => Heap.get?_push_of_some _ e⟩, F.push _, (fun p hp => ⟨Heap.get?_push_of_some _ (N p (.tail _ hp)).1, (N p (.tail _ hp)).2⟩), ?_, ?_, ?_, hJ, ?_, ?_⟩
  · rintro i h ⟨⟨o, ho, _⟩, ⟨o', ho', _⟩⟩ b hb
    rcases List.mem_cons.mp hb with rfl | hb
    · exact ⟨o, ho⟩
    · rw [List.mem_singleton.mp hb]; exact ⟨o', ho'⟩
  · intro hb
    rcases List.mem_cons.mp hb with h | hb
    · exact Nat.ne_of_lt hLlt h
    · exact hlL (List.mem_singleton.mp hb).symm
  · intro b hb
    rw [List.mem_singleton.mp hb]; exact h0n
  · intro p hp hb
    rcases List.mem_cons.mp hb with h | hb
    · exact Nat.ne_of_lt (Heap.lt_size (N p (.tail _ hp)).1) h
    · exact hne p hp (List.mem_singleton.mp hb)
  · rintro i v ys news₁ s₁ own C oC mc ⟨hh', tk', rfl⟩ hi hP hJ' hys F₁ N₁ hsep hC hn hx
    exact turn i v ys news₁ _ own C oC mc ⟨_, _, rfl⟩ (by simpa using hP) hJ' hys F₁ N₁ hsep hC hn hx
  · intro D C h' tk ys nD oC mc news' hDC N' hn F' hs hJ' hl hk hDs
    rw [Heap.size_push] at hDs
    rw [hsz] at hJ' hl
    have hkl := hk l (by simp) (by simp [hne']) _ (Heap.get?_push_of_some _ hol)
    refine done D C h' tk ys nD oC mc news' (fun p hp => ?_) hn F' (fun p hp => ?_) hkl.2.1 (fun p hp => (hs p hp).1) (fun p hp => Nat.lt_of_lt_of_le (Nat.lt_succ_of_lt (Heap.lt_size (N p hp).1)) hDs) hJ' hl
    · rcases List.mem_cons.mp hp with rfl | hp
      · exact N' _ (.head _)
      · rcases List.mem_cons.mp hp with rfl | hp
        · exact N' _ (.tail _ (.head _))
        · rcases List.mem_cons.mp hp with rfl | hp
          · exact ⟨hkl.1, hlL, h0l⟩
          · exact N' _ (.tail _ (.tail _ hp))
    · rcases List.mem_cons.mp hp with rfl | hp
      · exact hDC
      · rcases List.mem_cons.mp hp with rfl | hp
        · exact hkl.2.2
        · exact (hs p hp).2

@[reducible] def rangeObj (a b : Int) (t u v : Tok) : Obj := { cls := .type "range", dict := none, data := .fields #[.int a t, .int b u, .int 1 v], slots := #[] }

/-- over a range by ones -/
theorem compAt_range {r : Addr} {a b : Int} {t u v' : Tok} {x : Str} {ifs : List Expr} {elt : Expr} {scope : Scope} {cl : List (Str × Addr)} {fin : Addr → Addr → Shared → Prop} {s : Shared} {news news₀ : List (Addr × Obj)} (n : Nat)
    (J : Nat → List Value → List (Addr × Obj) → Prop) (hh : A.handled = none) (F : Fr h₀ L s.heap m) (N : News h₀ L s.heap news₀) (hr : (r, rangeObj a b t u v') ∈ news₀) (hsub : ∀ p ∈ news, p ∈ news₀)
    (hn : (b - a).toNat = n) (ha : -100000 ≤ a ∧ a ≤ 100000) (hb : -100000 ≤ b ∧ b ≤ 100000) (hz : n ≤ 100000) (hJ : J 0 [] news)
    (turn : ∀ (i : Nat) (tv : Tok) ys news₁ s₁ own C oC mc, (∃ h tk, s₁ = { s with heap := h, toks := tk }) → i < n → J i ys news₁ → ys.length ≤ i → Fr h₀ L s₁.heap m → News h₀ L s₁.heap (news₁ ++ own) → (∀ p ∈ news₁, ∀ q ∈ own, p.1 ≠ q.1) →
      (C, oC) ∈ own → NsOf oC mc → mc x = some (.int (a + i) tv) →
      CTurn prog w A env ifs elt scope cl C (fun y => CStep h₀ L m own s₁ (J (i + 1) (ys ++ [y]))) (CStep h₀ L m own s₁ (J (i + 1) ys)) s₁)
    (done : ∀ D C h' tk ys nD oC mc news', News h₀ L h' ((C, oC) :: (D, listOf ys.toArray nD) :: news') → NsOf oC mc → Fr h₀ L h' m →
      (∀ p ∈ (D, listOf ys.toArray nD) :: news', p.1 ≠ C) → (∀ p ∈ news', p.1 ≠ D) → (∀ p ∈ news₀, p.1 < D) → J n ys news' → ys.length ≤ n → fin D C { s with heap := h', toks := tk }) :
    wpAny (model prog w) A (pyIter (.ref r)) (fun it s₂ => CompAt prog w A env h₀ L m x ifs elt scope cl fin it s₂) E s := by
  have hor := (N _ hr).1
  have hlt := Heap.lt_size hor
  have hLlt : L < s.heap.objs.size := by obtain ⟨o, _, _, ho, _⟩ := F.ns; exact Heap.lt_size ho
  have hsz : Builtin.Range.rangeSize a b 1 = (n : Int) := by rw [rangeSize_nat, hn]
  have hsm : Builtin.Range.small a b 1 = true := small_one (by omega) (by omega) (by omega) (by omega)
  refine wpAny_pyIter_range hor hsm ?_
  rw [hsz]
  have W := Walks.range (prog := prog) (w := w) hh s.heap.objs.size a 1 n
  have h0n : h₀.get? s.heap.objs.size = none := by
    cases q : h₀.get? s.heap.objs.size with
    | none => rfl
    | some o => exact absurd (Heap.lt_size (F.keep _ _ q)) (Nat.lt_irrefl _)
  refine ⟨_, _, _, _, _, _, news, J, rfl, W, hz, ?_, ?_, F.push _, (fun p hp => ⟨Heap.get?_push_of_some _ (N p (hsub p hp)).1, (N p (hsub p hp)).2⟩), ?_, ?_, ?_, hJ, ?_, ?_⟩
  · intro i h ho b hb
    rw [List.mem_singleton.mp hb]
    exact ⟨_, ho⟩
  · have e1 : a + ((0 : Nat) : Int) * 1 = a := by omega
    have e2 : (n : Int) - ((0 : Nat) : Int) = n := by omega
    show IsRangeIter _ _ _ _ _
    rw [e1, e2]
    exact Heap.get?_push_size _ rfl
  · intro hb
    exact Nat.ne_of_lt hLlt (List.mem_singleton.mp hb)
  · intro b hb
    rw [List.mem_singleton.mp hb]; exact h0n
  · intro p hp hb
    exact Nat.ne_of_lt (Heap.lt_size (N p (hsub p hp)).1) (List.mem_singleton.mp hb)
  · rintro i v ys news₁ s₁ own C oC mc ⟨hh', tk', rfl⟩ hi ⟨tv, rfl⟩ hJ' hys F₁ N₁ hsep hC hn hx
    rw [Int.mul_one] at hx
    exact turn i tv ys news₁ _ own C oC mc ⟨_, _, rfl⟩ hi hJ' hys F₁ N₁ hsep hC hn hx
  · intro D C h' tk ys nD oC mc news' hDC N' hn F' hs hJ' hl hk hDs
    rw [Heap.size_push] at hDs
    refine done D C h' tk ys nD oC mc news' N' hn F' (fun p hp => ?_) (fun p hp => (hs p hp).1) (fun p hp => Nat.lt_of_lt_of_le (Nat.lt_succ_of_lt (Heap.lt_size (N p hp).1)) hDs) hJ' hl
    rcases List.mem_cons.mp hp with rfl | hp
    · exact hDC
    · exact (hs p hp).2
end

end
section
open PySem PySem.W PyProof.Rows PySem.Calls

section
variable {prog : Program} {w : World} {A : Around} {E : Value → Shared → Prop} {s : Shared} {h₀ : Heap} {L : Addr} {m : Str → Option Value} {news : List (Addr × Obj)} {env : Env}

theorem range1_L {Q : Value → Shared → Prop} {n : Int} {t : Tok} (F : Fr h₀ L s.heap m) (N : News h₀ L s.heap news)
    (h : ∀ r h' tk t₁ u₁ v₁, Fr h₀ L h' m → News h₀ L h' ((r, rangeObj 0 n t₁ u₁ v₁) :: news) → (∀ p ∈ news, p.1 < r) → Q (.ref r) { s with heap := h', toks := tk }) :
    wpAny (model prog w) A (call (.type "range") [.int n t]) Q E s :=
  range1_rows F N fun h' tk t₁ u₁ v₁ hr F' N' hk => h _ h' tk t₁ u₁ v₁ F' (news_pushed F N hk hr rfl) fun p hp => Heap.lt_size (N p hp).1
theorem range2_L {Q : Value → Shared → Prop} {a b : Int} {t u : Tok} (F : Fr h₀ L s.heap m) (N : News h₀ L s.heap news)
    (h : ∀ r h' tk t₁ u₁ v₁, Fr h₀ L h' m → News h₀ L h' ((r, rangeObj a b t₁ u₁ v₁) :: news) → (∀ p ∈ news, p.1 < r) → Q (.ref r) { s with heap := h', toks := tk }) :
    wpAny (model prog w) A (call (.type "range") [.int a t, .int b u]) Q E s :=
  range2_rows F N fun h' tk t₁ u₁ v₁ hr F' N' hk => h _ h' tk t₁ u₁ v₁ F' (news_pushed F N hk hr rfl) fun p hp => Heap.lt_size (N p hp).1

/-- names within a comprehension's block -/
theorem nmC {M : Model} {scope : Scope} {cl : List (Str × Addr)} {C : Addr} {oC : Obj} {mc : Str → Option Value} {x : Str} {pos : Pos} {v : Value} {Q : Value → Shared → Prop} (N : News h₀ L s.heap news) (hm : (C, oC) ∈ news) (hn : NsOf oC mc)
    (hv : mc x = some v) (h : Q v s) (hk : (compEnvC scope cl C env).scope.kind = .function) (hx : (compEnvC scope cl C env).kindOf x = some .local) (hd : (x == ("__debug__" : Str)) = false) :
    wpAny M A (eval (.Name x pos) (compEnvC scope cl C env)) Q E s := wpAny_Name (wpAny_loadName_local hk hx (hn _ _ (N.get hm)) hv h) hd
theorem nmCc {M : Model} {scope : Scope} {cl : List (Str × Addr)} {C c : Addr} {o : Obj} {x : Str} {pos : Pos} {v : Value} {Q : Value → Shared → Prop} (N : News h₀ L s.heap news) (hc : cl.lookup x = some c) (hm : (c, o) ∈ news) (hd : o.data = .cell (some v))
    (h : Q v s) (hk : (compEnvC scope cl C env).scope.kind = .function) (hx : (compEnvC scope cl C env).kindOf x = some .cell) (hb : (x == ("__debug__" : Str)) = false) :
    wpAny M A (eval (.Name x pos) (compEnvC scope cl C env)) Q E s := wpAny_Name (wpAny_loadName_cell hk hx hc ⟨o, N.get hm, hd⟩ h) hb

def WStep (h₀ : Heap) (L : Addr) (s : Shared) (J : Nat → (Str → Option Value) → List (Addr × Obj) → Prop) (Q : Flow → Shared → Prop) (n : Nat) (f : Flow) (s₃ : Shared) : Prop :=
  match f with
  | .next | .cont => ∃ h' tk m₂ news₂ n', s₃ = { s with heap := h', toks := tk } ∧ Fr h₀ L h' m₂ ∧ News h₀ L h' news₂ ∧ n' < n ∧ J n' m₂ news₂
  | .brk => Q .next s₃
  | .ret v => Q (.ret v) s₃
theorem WStep.next {J : Nat → (Str → Option Value) → List (Addr × Obj) → Prop} {Q : Flow → Shared → Prop} {n n' : Nat} {h' : Heap} {tk : Nat} {m₂ : Str → Option Value} {news₂ : List (Addr × Obj)} (F : Fr h₀ L h' m₂) (N : News h₀ L h' news₂) (hn : n' < n)
    (j : J n' m₂ news₂) : WStep h₀ L s J Q n .next { s with heap := h', toks := tk } := ⟨h', tk, m₂, news₂, n', rfl, F, N, hn, j⟩

theorem While_J {test : Expr} {body orelse : List Stmt} {pos : Pos} {Q : Flow → Shared → Prop} (J : Nat → (Str → Option Value) → List (Addr × Obj) → Prop) (n₀ : Nat) (hJ : J n₀ m news) (F : Fr h₀ L s.heap m) (N : News h₀ L s.heap news)
    (hE : PassesOwn (model prog w) A env E)
    (turn : ∀ n m₁ news₁ h₁ tk₁, Fr h₀ L h₁ m₁ → News h₀ L h₁ news₁ → J n m₁ news₁ →
      wpAny (model prog w) A (isTrue test env (eval test env)) (fun b s₂ =>
        if b = true then wpAny (model prog w) A (execs body env) (WStep h₀ L s J Q n) E s₂ else wpAny (model prog w) A (execs orelse env) Q E s₂) E { s with heap := h₁, toks := tk₁ }) :
    wpAny (model prog w) A (exec (.While test body orelse pos) env) Q E s := by
  refine wpAny_While (codeAny_whileLoop (fun n s' => ∃ h₁ tk₁ m₁ news₁, s' = { s with heap := h₁, toks := tk₁ } ∧ Fr h₀ L h₁ m₁ ∧ News h₀ L h₁ news₁ ∧ J n m₁ news₁) ?_ n₀ ⟨s.heap, s.toks, m, news, rfl, F, N, hJ⟩)
  rintro n s' ⟨h₁, tk₁, m₁, news₁, rfl, F₁, N₁, J₁⟩
  refine wpAny_mono (turn n m₁ news₁ h₁ tk₁ F₁ N₁ J₁) (fun b s₂ h₂ => ?_) hE
  cases b with
  | false =>
    simp only [Bool.false_eq_true, if_false] at h₂ ⊢
    exact wpAny_mono h₂ (fun _ _ x => x) hE
  | true =>
    simp only [if_true] at h₂ ⊢
    refine wpAny_mono h₂ (fun f s₃ h₃ => ?_) hE
    cases f with
    | next =>
      obtain ⟨h', tk, m₂, news₂, n', rfl, F₂, N₂, hn, J₂⟩ := h₃
      exact ⟨n', hn, h', tk, m₂, news₂, rfl, F₂, N₂, J₂⟩
    | cont =>
      obtain ⟨h', tk, m₂, news₂, n', rfl, F₂, N₂, hn, J₂⟩ := h₃
      exact ⟨n', hn, h', tk, m₂, news₂, rfl, F₂, N₂, J₂⟩
    | brk => exact h₃
    | ret v => exact h₃
/-- the end of a loop, whichever way -/
def WExit (h₀ : Heap) (L : Addr) (s : Shared) (X : (Str → Option Value) → List (Addr × Obj) → Prop) (f : Flow) (s₃ : Shared) : Prop :=
  f = .next ∧ ∃ h' tk m₂ news₂, s₃ = { s with heap := h', toks := tk } ∧ Fr h₀ L h' m₂ ∧ News h₀ L h' news₂ ∧ X m₂ news₂
theorem WExit.mk {X : (Str → Option Value) → List (Addr × Obj) → Prop} {h' : Heap} {tk : Nat} {m₂ : Str → Option Value} {news₂ : List (Addr × Obj)} (F : Fr h₀ L h' m₂) (N : News h₀ L h' news₂) (x : X m₂ news₂) : WExit h₀ L s X .next { s with heap := h', toks := tk } := ⟨rfl, h', tk, m₂, news₂, rfl, F, N, x⟩
theorem While_X {test : Expr} {body orelse : List Stmt} {pos : Pos} {Q : Flow → Shared → Prop} (J : Nat → (Str → Option Value) → List (Addr × Obj) → Prop) (X : (Str → Option Value) → List (Addr × Obj) → Prop) (n₀ : Nat) (hJ : J n₀ m news) (F : Fr h₀ L s.heap m) (N : News h₀ L s.heap news)
    (hE : PassesOwn (model prog w) A env E)
    (turn : ∀ n m₁ news₁ h₁ tk₁, Fr h₀ L h₁ m₁ → News h₀ L h₁ news₁ → J n m₁ news₁ →
      wpAny (model prog w) A (isTrue test env (eval test env)) (fun b s₂ =>
        if b = true then wpAny (model prog w) A (execs body env) (WStep h₀ L s J (WExit h₀ L s X) n) E s₂ else wpAny (model prog w) A (execs orelse env) (WExit h₀ L s X) E s₂) E { s with heap := h₁, toks := tk₁ })
    (k : ∀ h' tk m' news', Fr h₀ L h' m' → News h₀ L h' news' → X m' news' → Q .next { s with heap := h', toks := tk }) :
    wpAny (model prog w) A (exec (.While test body orelse pos) env) Q E s :=
  wpAny_mono (While_J J n₀ hJ F N hE turn) (fun f s₃ x => by obtain ⟨rfl, h', tk, m₂, news₂, rfl, F₂, N₂, x⟩ := x; exact k h' tk m₂ news₂ F₂ N₂ x) (fun _ _ y => y)
/-- one statement apart: what stands behind it -/
theorem join_X {M : Model} {st : Stmt} {Q : Flow → Shared → Prop} (X : (Str → Option Value) → List (Addr × Obj) → Prop) (F : Fr h₀ L s.heap m)
    (h : wpAny M A (exec st env) (WExit h₀ L s X) E s)
    (k : ∀ h' tk m' news', Fr h₀ L h' m' → News h₀ L h' news' → X m' news' → Q .next { s with heap := h', toks := tk }) :
    wpAny M A (exec st env) Q E s :=
  wpAny_mono h (fun f s₃ x => by obtain ⟨rfl, h', tk, m₂, news₂, rfl, F₂, N₂, x⟩ := x; exact k h' tk m₂ news₂ F₂ N₂ x) (fun _ _ y => y)
end

end
section
open PySem PySem.W PyProof.Rows PySem.Calls

@[reducible] def tup2 (x y : Value) : Obj := { cls := .type "tuple", data := .seq #[x, y] }
@[reducible] def tup3 (x y z : Value) : Obj := { cls := .type "tuple", data := .seq #[x, y, z] }

/-- these values are refs to pairs (text, int) that lie in tl -/
structure It2 (tl : List (Addr × Obj)) (ws : List Value) (ds : List (Str × Int)) : Prop where
  len : ws.length = ds.length
  at_ : ∀ (j : Nat) (v : Value), ws[j]? = some v → ∃ (a : Addr) (t t' : Tok) (d : Str × Int), v = Value.ref a ∧ ds[j]? = some d ∧ (a, tup2 (.str d.1 t) (.int d.2 t')) ∈ tl
structure It3 (tl : List (Addr × Obj)) (ws : List Value) (ds : List (Str × Int × Str)) : Prop where
  len : ws.length = ds.length
  at_ : ∀ (j : Nat) (v : Value), ws[j]? = some v → ∃ (a : Addr) (t t' t'' : Tok) (d : Str × Int × Str), v = Value.ref a ∧ ds[j]? = some d ∧ (a, tup3 (.str d.1 t) (.int d.2.1 t') (.str d.2.2 t'')) ∈ tl

theorem It2.nil {tl} : It2 tl [] [] := ⟨rfl, fun j v h => by simp at h⟩
theorem It3.nil {tl} : It3 tl [] [] := ⟨rfl, fun j v h => by simp at h⟩
theorem It2.mono {tl tl' ws ds} (h : It2 tl ws ds) (hs : ∀ p ∈ tl, p ∈ tl') : It2 tl' ws ds :=
  ⟨h.len, fun j v hv => by obtain ⟨a, t, t', d, e, hd, hm⟩ := h.at_ j v hv; exact ⟨a, t, t', d, e, hd, hs _ hm⟩⟩
theorem It3.mono {tl tl' ws ds} (h : It3 tl ws ds) (hs : ∀ p ∈ tl, p ∈ tl') : It3 tl' ws ds :=
  ⟨h.len, fun j v hv => by obtain ⟨a, t, t', t'', d, e, hd, hm⟩ := h.at_ j v hv; exact ⟨a, t, t', t'', d, e, hd, hs _ hm⟩⟩
theorem It2.drop {tl ws ds} (h : It2 tl ws ds) (k : Nat) : It2 tl (ws.drop k) (ds.drop k) :=
  ⟨by rw [List.length_drop, List.length_drop, h.len], fun j v hv => by
    rw [List.getElem?_drop] at hv ⊢
    exact h.at_ _ v hv⟩
theorem It3.drop {tl ws ds} (h : It3 tl ws ds) (k : Nat) : It3 tl (ws.drop k) (ds.drop k) :=
  ⟨by rw [List.length_drop, List.length_drop, h.len], fun j v hv => by
    rw [List.getElem?_drop] at hv ⊢
    exact h.at_ _ v hv⟩
theorem It2.take {tl ws ds} (h : It2 tl ws ds) (k : Nat) : It2 tl (ws.take k) (ds.take k) :=
  ⟨by rw [List.length_take, List.length_take, h.len], fun j v hv => by
    rw [List.getElem?_take] at hv ⊢
    split at hv
    · rename_i hj; rw [if_pos hj]; exact h.at_ _ v hv
    · cases hv⟩
theorem It3.take {tl ws ds} (h : It3 tl ws ds) (k : Nat) : It3 tl (ws.take k) (ds.take k) :=
  ⟨by rw [List.length_take, List.length_take, h.len], fun j v hv => by
    rw [List.getElem?_take] at hv ⊢
    split at hv
    · rename_i hj; rw [if_pos hj]; exact h.at_ _ v hv
    · cases hv⟩
theorem It2.append {tl ws ds ws' ds'} (h : It2 tl ws ds) (h' : It2 tl ws' ds') : It2 tl (ws ++ ws') (ds ++ ds') :=
  ⟨by rw [List.length_append, List.length_append, h.len, h'.len], fun j v hv => by
    rw [List.getElem?_append] at hv ⊢
    rw [← h.len]
    split at hv
    · rename_i hj; rw [if_pos hj]; exact h.at_ _ v hv
    · rename_i hj; rw [if_neg hj]; exact h'.at_ _ v hv⟩
theorem It3.append {tl ws ds ws' ds'} (h : It3 tl ws ds) (h' : It3 tl ws' ds') : It3 tl (ws ++ ws') (ds ++ ds') :=
  ⟨by rw [List.length_append, List.length_append, h.len, h'.len], fun j v hv => by
    rw [List.getElem?_append] at hv ⊢
    rw [← h.len]
    split at hv
    · rename_i hj; rw [if_pos hj]; exact h.at_ _ v hv
    · rename_i hj; rw [if_neg hj]; exact h'.at_ _ v hv⟩
theorem It2.one {tl a x t k t'} (h : (a, tup2 (.str x t) (.int k t')) ∈ tl) : It2 tl [.ref a] [(x, k)] :=
  ⟨rfl, fun j v hv => by
    cases j with
    | zero => cases hv; exact ⟨a, t, t', (x, k), rfl, rfl, h⟩
    | succ j => simp at hv⟩
theorem It3.one {tl a x t k t' y t''} (h : (a, tup3 (.str x t) (.int k t') (.str y t'')) ∈ tl) : It3 tl [.ref a] [(x, k, y)] :=
  ⟨rfl, fun j v hv => by
    cases j with
    | zero => cases hv; exact ⟨a, t, t', t'', (x, k, y), rfl, rfl, h⟩
    | succ j => simp at hv⟩
theorem It2.pick {tl ws ds} (h : It2 tl ws ds) (lo hi : Option Int) : It2 tl (pick ws lo hi) (Mine.pick ds lo hi) := by
  unfold Mine.pick; rw [h.len]; exact (h.drop _).take _
theorem It3.pick {tl ws ds} (h : It3 tl ws ds) (lo hi : Option Int) : It3 tl (pick ws lo hi) (Mine.pick ds lo hi) := by
  unfold Mine.pick; rw [h.len]; exact (h.drop _).take _

/-- a list of (text, int, text), as data -/
def d3 (d : Str × Int × Str) : PyData := .tuple [.str d.1, .int d.2.1, .str d.2.2]

section
variable {prog : Program} {w : World} {A : Around} {E : Value → Shared → Prop} {s : Shared} {h₀ : Heap} {L l l2 : Addr} {m : Str → Option Value} {news tl : List (Addr × Obj)} {vs ws : List Value} {n n2 : Nat}

theorem It3.cons_inv {v : Value} {ds : List (Str × Int × Str)} (h : It3 tl (v :: vs) ds) : ∃ (a : Addr) (t t' t'' : Tok) (d : Str × Int × Str) (r : List (Str × Int × Str)), v = Value.ref a ∧ ds = d :: r ∧ (a, tup3 (.str d.1 t) (.int d.2.1 t') (.str d.2.2 t'')) ∈ tl ∧ It3 tl vs r := by
  obtain ⟨a, t, t', t'', d, e, hd, hm⟩ := h.at_ 0 v rfl
  cases ds with
  | nil => cases hd
  | cons d' r =>
    cases hd
    refine ⟨a, t, t', t'', d, r, e, rfl, hm, by simpa using h.len, fun j v hv => ?_⟩
    have := h.at_ (j + 1) v (by simpa using hv)
    simpa using this

theorem It3.reads {h : Heap} (N : News h₀ L h news) (hs : ∀ p ∈ tl, p ∈ news) : ∀ {ws : List Value} {ds : List (Str × Int × Str)}, It3 tl ws ds → ∃ as, ReadsAll h ws (ds.map d3) as
  | [], ds, x => by
    have : ds = [] := List.eq_nil_of_length_eq_zero x.len.symm
    subst this
    exact ⟨_, .nil⟩
  | v :: r, ds, x => by
    obtain ⟨a, t, t', t'', d, q, rfl, rfl, hm, x'⟩ := x.cons_inv
    obtain ⟨as, ra⟩ := It3.reads N hs x'
    exact ⟨_, .cons (.tuple (N.get (hs _ hm)) rfl rfl (.cons (.str _ _) (.cons (.int _ _) (.cons (.str _ _) .nil)))) ra⟩

theorem canAll_d3 : ∀ {ds : List (Str × Int × Str)}, (∀ d ∈ ds, PyData.strOk d.1 = true ∧ PyData.strOk d.2.2 = true) → PyData.canLayAll0 (ds.map d3) = true
  | [], _ => rfl
  | d :: r, h => by
    have h1 := h d (.head _)
    have h2 := canAll_d3 fun y hy => h y (.tail _ hy)
    show (PyData.canLay0 (d3 d) && PyData.canLayAll0 (r.map d3)) = true
    rw [h2]
    simp [d3, PyData.canLay0, PyData.canLayAll0, h1]
theorem depth_d3 : ∀ (ds : List (Str × Int × Str)), PyData.depthAll (ds.map d3) ≤ 1
  | [] => Nat.zero_le _
  | d :: r => by
    show max (PyData.depth (d3 d)) (PyData.depthAll (r.map d3)) ≤ 1
    have h1 : PyData.depth (d3 d) = 1 := rfl
    have := depth_d3 r
    omega
theorem eqv_d3 : ∀ (ds es : List (Str × Int × Str)), PyData.eqvAll (ds.map d3) (es.map d3) = decide (ds = es)
  | [], [] => by simp [PyData.eqvAll]
  | [], _ :: _ => by simp [PyData.eqvAll]
  | _ :: _, [] => by simp [PyData.eqvAll]
  | x :: r, y :: q => by
    show (PyData.eqv (d3 x) (d3 y) && PyData.eqvAll (r.map d3) (q.map d3)) = _
    rw [eqv_d3 r q]
    have : PyData.eqv (d3 x) (d3 y) = decide (x = y) := by
      obtain ⟨x1, x2, x3⟩ := x
      obtain ⟨y1, y2, y3⟩ := y
      simp only [d3, PyData.eqv, PyData.eqvAll, Bool.and_true]
      by_cases h1 : x1 = y1 <;> by_cases h2 : x2 = y2 <;> by_cases h3 : x3 = y3 <;> simp [h1, h2, h3]
    rw [this]
    by_cases h : x = y <;> simp [h]
theorem shaped_d3 {ds : List (Str × Int × Str)} (h : ∀ d ∈ ds, PyData.strOk d.1 = true ∧ PyData.strOk d.2.2 = true) : SeqAt.shaped (.list (ds.map d3)) = true := by
  unfold SeqAt.shaped
  show (PyData.canLayAll0 (ds.map d3) && decide (PyData.depthAll (ds.map d3) + 1 ≤ 64)) = true
  rw [canAll_d3 h]
  have := depth_d3 ds
  simp
  omega
theorem reads_d3 {ds : List (Str × Int × Str)} (h : It3 tl vs ds) (hs : ∀ p ∈ tl, p ∈ news) (N : News h₀ L s.heap news) (hm : (l, listOf vs.toArray n) ∈ news) : ∃ as, Reads s.heap (.ref l) (.list (ds.map d3)) as := by
  obtain ⟨as, ra⟩ := It3.reads N hs h
  exact ⟨_, .list (N.get hm) rfl rfl (by rw [List.toList_toArray]; exact ra)⟩

theorem eq_33 {ds es : List (Str × Int × Str)} {tl' : List (Addr × Obj)} {Q : Value → Shared → Prop} (h1 : It3 tl vs ds) (h2 : It3 tl' ws es) (hs : ∀ p ∈ tl, p ∈ news) (hs' : ∀ p ∈ tl', p ∈ news) (N : News h₀ L s.heap news) (hm : (l, listOf vs.toArray n) ∈ news) (hm2 : (l2, listOf ws.toArray n2) ∈ news)
    (o1 : ∀ d ∈ ds, PyData.strOk d.1 = true ∧ PyData.strOk d.2.2 = true) (o2 : ∀ d ∈ es, PyData.strOk d.1 = true ∧ PyData.strOk d.2.2 = true) (hu : A.units + 64 < cLine) (h : Q (.bool (decide (ds = es))) s) : wpAny (model prog w) A (compareOp .Eq (.ref l) (.ref l2)) Q E s := by
  obtain ⟨as, ra⟩ := reads_d3 h1 hs N hm
  obtain ⟨bs, rb⟩ := reads_d3 h2 hs' N hm2
  exact SeqAt.compareEq_shaped ra rb (shaped_d3 o1) (shaped_d3 o2) hu (by
    show Q (.bool (PyData.eqvAll (ds.map d3) (es.map d3))) s
    rw [eqv_d3]; exact h)
theorem ne_33 {ds es : List (Str × Int × Str)} {tl' : List (Addr × Obj)} {Q : Value → Shared → Prop} (h1 : It3 tl vs ds) (h2 : It3 tl' ws es) (hs : ∀ p ∈ tl, p ∈ news) (hs' : ∀ p ∈ tl', p ∈ news) (N : News h₀ L s.heap news) (hm : (l, listOf vs.toArray n) ∈ news) (hm2 : (l2, listOf ws.toArray n2) ∈ news)
    (o1 : ∀ d ∈ ds, PyData.strOk d.1 = true ∧ PyData.strOk d.2.2 = true) (o2 : ∀ d ∈ es, PyData.strOk d.1 = true ∧ PyData.strOk d.2.2 = true) (hu : A.units + 64 < cLine) (h : Q (.bool (!decide (ds = es))) s) : wpAny (model prog w) A (compareOp .NotEq (.ref l) (.ref l2)) Q E s := by
  obtain ⟨as, ra⟩ := reads_d3 h1 hs N hm
  obtain ⟨bs, rb⟩ := reads_d3 h2 hs' N hm2
  exact SeqAt.compareNe_shaped ra rb (shaped_d3 o1) (shaped_d3 o2) hu (by
    show Q (.bool (!PyData.eqvAll (ds.map d3) (es.map d3))) s
    rw [eqv_d3]; exact h)

/-- moving what is made to its place -/
theorem news_mv {h : Heap} {p : Addr × Obj} {B t own : List (Addr × Obj)} (N : News h₀ L h (p :: ((B ++ t) ++ own))) : News h₀ L h ((B ++ p :: t) ++ own) := fun q hq => N q (by
  simp only [List.mem_append, List.mem_cons] at hq ⊢
  rcases hq with (h | h | h) | h
  · exact .inr (.inl (.inl h))
  · exact .inl h
  · exact .inr (.inl (.inr h))
  · exact .inr (.inr h))
theorem news_sub {h : Heap} {a b : List (Addr × Obj)} (N : News h₀ L h a) (hs : ∀ p ∈ b, p ∈ a) : News h₀ L h b := fun p hp => N p (hs p hp)

def ifs : List (Str × Value) → (Str → Option Value) → Str → Option Value
  | [], m, z => m z
  | p :: r, m, z => if z = p.1 then some p.2 else ifs r m z
theorem ifs_eq {m : Str → Option Value} : ∀ {l : List (Str × Value)}, (∀ p ∈ l, m p.1 = some p.2) → ∀ z, ifs l m z = m z
  | [], _, _ => rfl
  | p :: r, h, z => by
    unfold ifs
    by_cases hz : z = p.1
    · rw [if_pos hz, hz, h p (.head _)]
    · rw [if_neg hz, ifs_eq (fun q hq => h q (.tail _ hq))]
/-- a frame, with what is known of its names written out -/
theorem fr_eta {h : Heap} (l : List (Str × Value)) (F : Fr h₀ L h m) (hl : ∀ p ∈ l, m p.1 = some p.2) : Fr h₀ L h (fun z => ifs l m z) := by
  rw [show (fun z => ifs l m z) = m from funext (ifs_eq hl)]; exact F
theorem ne_of_all {l : List (Addr × Obj)} {d : Addr} (h : ∀ p ∈ l, p.1 < d) : ∀ p ∈ l, p.1 ≠ d := fun p hp => Nat.ne_of_lt (h p hp)
theorem take_step {α : Type} {l : List α} {i : Nat} {y : α} (h : l[i]? = some y) : l.take (i + 1) = l.take i ++ [y] := by
  rw [List.take_add_one, h]; rfl

/-- what stays, and what is made behind it -/
def MT (base : List (Addr × Obj)) (T : List (Addr × Obj) → Prop) (n₁ : List (Addr × Obj)) : Prop := ∃ t, n₁ = base ++ t ∧ OwnOff t (base.map (·.1)) ∧ T t

theorem CStep.new {own tups base : List (Addr × Obj)} {s₁ : Shared} {T : List (Addr × Obj) → Prop} {h' : Heap} {tk : Nat} {p : Addr × Obj} (F : Fr h₀ L h' m) (N : News h₀ L h' (p :: ((base ++ tups) ++ own)))
    (l : ∀ q ∈ ((base ++ tups) ++ own), q.1 < p.1) (hs : ∀ q ∈ base ++ tups, ∀ r ∈ own, q.1 ≠ r.1) (ho : OwnOff tups (base.map (·.1))) (j : T (p :: tups)) :
    CStep h₀ L m own s₁ (MT base T) { s₁ with heap := h', toks := tk } :=
  CStep.mk F (news_mv N) (fun q hq r hr => by
    rcases List.mem_append.mp hq with h | h
    · exact hs q (List.mem_append_left _ h) r hr
    · rcases List.mem_cons.mp h with rfl | h
      · exact Nat.ne_of_gt (l r (List.mem_append_right _ hr))
      · exact hs q (List.mem_append_right _ h) r hr) ⟨_, rfl, fun q hq b hb => by
    rcases List.mem_cons.mp hq with rfl | h
    · obtain ⟨r, hr, rfl⟩ := List.mem_map.mp hb
      exact Nat.ne_of_gt (l r (List.mem_append_left _ (List.mem_append_left _ hr)))
    · exact ho q h b hb, j⟩
theorem CStep.same {own tups base : List (Addr × Obj)} {s₁ : Shared} {T : List (Addr × Obj) → Prop} {h' : Heap} {tk : Nat} (F : Fr h₀ L h' m) (N : News h₀ L h' ((base ++ tups) ++ own))
    (hs : ∀ q ∈ base ++ tups, ∀ r ∈ own, q.1 ≠ r.1) (ho : OwnOff tups (base.map (·.1))) (j : T tups) : CStep h₀ L m own s₁ (MT base T) { s₁ with heap := h', toks := tk } :=
  CStep.mk F N hs ⟨_, rfl, ho, j⟩

/-- over a range, what is made kept behind -/
theorem compAt_rangeT {env : Env} {r : Addr} {a b : Int} {t u v' : Tok} {x : Str} {ifs : List Expr} {elt : Expr} {scope : Scope} {cl : List (Str × Addr)} {fin : Addr → Addr → Shared → Prop}
    (T : Nat → List Value → List (Addr × Obj) → Prop) (F : Fr h₀ L s.heap m) (N : News h₀ L s.heap ((r, rangeObj a b t u v') :: news)) (n : Nat) (hh : A.handled = none)
    (hn : (b - a).toNat = n) (ha : -100000 ≤ a ∧ a ≤ 100000) (hb : -100000 ≤ b ∧ b ≤ 100000) (hz : n ≤ 100000) (hT : T 0 [] [])
    (turn : ∀ (i : Nat) (tv : Tok) ys tups h₁ tk₁ own C oC mc, i < n → T i ys tups → ys.length ≤ i → Fr h₀ L h₁ m → News h₀ L h₁ ((news ++ tups) ++ own) → (∀ p ∈ news ++ tups, ∀ q ∈ own, p.1 ≠ q.1) → OwnOff tups (news.map (·.1)) →
      (C, oC) ∈ tups ++ own → NsOf oC mc → mc x = some (.int (a + i) tv) →
      CTurn prog w A env ifs elt scope cl C (fun y => CStep h₀ L m own { s with heap := h₁, toks := tk₁ } (MT news (T (i + 1) (ys ++ [y]))))
        (CStep h₀ L m own { s with heap := h₁, toks := tk₁ } (MT news (T (i + 1) ys))) { s with heap := h₁, toks := tk₁ })
    (done : ∀ D C h' tk ys nD oC mc tups, News h₀ L h' ((C, oC) :: (D, listOf ys.toArray nD) :: (news ++ tups)) → NsOf oC mc → Fr h₀ L h' m →
      (∀ p ∈ (D, listOf ys.toArray nD) :: (news ++ tups), p.1 ≠ C) → (∀ p ∈ news, p.1 < D) → OwnOff tups (D :: news.map (·.1)) → T n ys tups → ys.length ≤ n → fin D C { s with heap := h', toks := tk }) :
    wpAny (model prog w) A (pyIter (.ref r)) (fun it s₂ => CompAt prog w A env h₀ L m x ifs elt scope cl fin it s₂) E s := by
  refine compAt_range n (fun i ys => MT news (T i ys)) hh F N (.head _) (news := news) (fun p hp => .tail _ hp) hn ha hb hz ⟨[], by simp, (fun _ h => nomatch h), hT⟩ ?_ ?_
  · rintro i tv ys news₁ s₁ own C oC mc ⟨h₁, tk₁, rfl⟩ hi ⟨t, rfl, ho, ht⟩ hys F₁ N₁ hs hC hn hx
    exact turn i tv ys t h₁ tk₁ own C oC mc hi ht hys F₁ N₁ hs ho (List.mem_append_right _ hC) hn hx
  · rintro D C h' tk ys nD oC mc news' N' hn F' hs hs' hl' ⟨t, rfl, ho, ht⟩ hl
    exact done D C h' tk ys nD oC mc t N' hn F' hs (fun p hp => hl' p (.tail _ hp)) (fun p hp b hb => by
      rcases List.mem_cons.mp hb with rfl | hb
      · exact hs' p (List.mem_append_right _ hp)
      · exact ho p hp b hb) ht hl

/-- over a list -/
theorem compAt_listT {env : Env} {k : Nat} {x : Str} {ifs : List Expr} {elt : Expr} {scope : Scope} {cl : List (Str × Addr)} {fin : Addr → Addr → Shared → Prop}
    (T : Nat → List Value → List (Addr × Obj) → Prop) (F : Fr h₀ L s.heap m) (N : News h₀ L s.heap ((l, listOf vs.toArray k) :: news)) (hh : A.handled = none) (hne : ∀ p ∈ news, p.1 ≠ l) (hz : vs.length ≤ 100000) (hT : T 0 [] [])
    (turn : ∀ (i : Nat) v ys tups h₁ tk₁ own C oC mc, vs[i]? = some v → T i ys tups → ys.length ≤ i → Fr h₀ L h₁ m → News h₀ L h₁ ((news ++ tups) ++ own) → (∀ p ∈ news ++ tups, ∀ q ∈ own, p.1 ≠ q.1) → OwnOff tups (news.map (·.1)) →
      (C, oC) ∈ tups ++ own → NsOf oC mc → mc x = some v →
      CTurn prog w A env ifs elt scope cl C (fun y => CStep h₀ L m own { s with heap := h₁, toks := tk₁ } (MT news (T (i + 1) (ys ++ [y]))))
        (CStep h₀ L m own { s with heap := h₁, toks := tk₁ } (MT news (T (i + 1) ys))) { s with heap := h₁, toks := tk₁ })
    (done : ∀ D C h' tk ys nD oC mc tups, News h₀ L h' ((C, oC) :: (D, listOf ys.toArray nD) :: (l, listOf vs.toArray k) :: (news ++ tups)) → NsOf oC mc → Fr h₀ L h' m →
      (∀ p ∈ (D, listOf ys.toArray nD) :: (l, listOf vs.toArray k) :: (news ++ tups), p.1 ≠ C) → (∀ p ∈ (l, listOf vs.toArray k) :: news, p.1 < D) → OwnOff tups (D :: news.map (·.1)) → T vs.length ys tups → ys.length ≤ vs.length → fin D C { s with heap := h', toks := tk }) :
    wpAny (model prog w) A (pyIter (.ref l)) (fun it s₂ => CompAt prog w A env h₀ L m x ifs elt scope cl fin it s₂) E s := by
  refine compAt_list (fun i ys => MT news (T i ys)) hh F N hne hz ⟨[], by simp, (fun _ h => nomatch h), hT⟩ ?_ ?_
  · rintro i v ys news₁ s₁ own C oC mc ⟨h₁, tk₁, rfl⟩ hv ⟨t, rfl, ho, ht⟩ hys F₁ N₁ hs hC hn hx
    exact turn i v ys t h₁ tk₁ own C oC mc hv ht hys F₁ N₁ hs ho (List.mem_append_right _ hC) hn hx
  · rintro D C h' tk ys nD oC mc news' N' hn F' hs hlD hs' hl' ⟨t, rfl, ho, ht⟩ hl
    exact done D C h' tk ys nD oC mc t N' hn F' hs hl' (fun p hp b hb => by
      rcases List.mem_cons.mp hb with rfl | hb
      · exact hs' p (List.mem_append_right _ hp)
      · exact ho p hp b hb) ht hl
end
theorem int_to {x y : Int} {t : Tok} (h : x = y) : some (Value.int x t) = some (Value.int y t) := by rw [h]
theorem bool_to {x y : Bool} (h : x = y) : some (Value.bool x) = some (Value.bool y) := by rw [h]
theorem ltN {a b : Nat} (h : a < b) : a < b := h

end
section
open PySem PySem.W PyProof.Rows PySem.Calls

section
variable {M : Model} {A : Around} {R : GenEnd} {Y : Protocol} {n : Nat} {s₀ : Shared} {c : Code} {fs : List Frame} {s : Shared} {env : Env}
  {K : Flow → Sem Fin} {H : Value → Sem Fin} {gd : Bool → Bool} {lv : List Value → List Value}

/-- a for within a generator: its loop is a call of its own -/
theorem seg_For {target iter : Expr} {body orelse : List Stmt} {pos : Pos} (hs : ∀ x, foldedSetIterable iter env x = pure x)
    (h : wpAny M (A.over c fs) (eval iter env) (fun x s₁ => wpAny M (A.over c fs) (pyIter x) (fun it s₂ =>
      ∀ p, Seg M A R Y n s₀ (.forLoop target it body orelse env) (M.den (.forLoop target it body orelse env))
        (.ret (fun r => ((match r with | .ok f => (.pure f : Sem Flow) | .error e => .raise e).onRaise fun (x : Value) => do
        if (← field x 1) == Value.none then unsupported "frame.own-activation:exception-without-traceback"
        setFlight x env.frame).wrap K H gd lv) none (gd false) (lv []) c p [] :: fs) s₂) (fun _ _ => False) s₁) (fun _ _ => False) s) :
    Seg M A R Y n s₀ c ((exec (.For target iter body orelse pos) env).wrap K H gd lv) fs s := by
  rw [exec_For]
  refine seg_bind_wrap (wpAny_standAt ?_)
  refine seg_bind_wrap (wpAny_mono h (fun x s₁ h₁ => ?_) fun _ _ y => y.elim)
  refine seg_bind_wrap (wpAny_of_eq (hs x) ?_)
  refine seg_bind_wrap (wpAny_standAt ?_)
  refine seg_bind_wrap (wpAny_holding (wpAny_mono h₁ (fun it s₂ h₂ => ?_) fun _ _ y => y.elim))
  exact seg_call h₂
end

/-- a tuple of three -/
def IsT3 (o : Obj) : Prop := ∃ x y z, o = tup3 x y z

/-- since the last wake: all that is old but the frame, the list at S, and all tuples of three stay -/
def Snc (S L' : Addr) (s₀ s : Shared) : Prop :=
  ∃ h' tk, s = { s₀ with heap := h', toks := tk } ∧ ∀ b o, b ≠ L' → (b ≤ S ∨ IsT3 o) → s₀.heap.get? b = some o → h'.get? b = some o
theorem Snc.refl {S L' : Addr} (s : Shared) : Snc S L' s s := ⟨s.heap, s.toks, rfl, fun _ _ _ _ e => e⟩
theorem Snc.step {S L' : Addr} {s₀ s : Shared} (x : Snc S L' s₀ s) {h' : Heap} {tk : Nat} (hk : ∀ b o, b ≠ L' → (b ≤ S ∨ IsT3 o) → s.heap.get? b = some o → h'.get? b = some o) :
    Snc S L' s₀ { s with heap := h', toks := tk } := by
  obtain ⟨h₁, tk₁, rfl, hk₁⟩ := x
  exact ⟨h', tk, rfl, fun b o h1 h2 e => hk b o h1 h2 (hk₁ b o h1 h2 e)⟩

/-- the protocol of a generator that yields n tuples -/
def xProto (S L' : Addr) (n : Nat) (P : Nat → Obj → Prop) : Protocol := fun m s₀ v s kap =>
  ∃ T o, v = .ref T ∧ S < T ∧ s.heap.get? T = some o ∧ IsT3 o ∧ P (n - 1 - m) o ∧ Snc S L' s₀ s ∧
    ∀ s'' : Shared, (∀ b o, b ≠ S → s.heap.get? b = some o → s''.heap.get? b = some o) → S < s''.heap.objs.size → kap (.send .none) s''
def xEnd (S L' : Addr) : GenEnd := fun n s₀ r s₁ => r = .ok (.ret .none) ∧ (n = 0 ∧ Snc S L' s₀ s₁)

/-- the item at a place: of the words and the pairs -/
def XI (G : Nat → Value → Value → Prop) (vs : List Value) (j : Nat) (o : Obj) : Prop :=
  ∃ sv ov v, G j sv ov ∧ vs[j]? = some v ∧ o = tup3 sv ov v

section
variable {prog : Program} {w : World} {A : Around} {S L' f : Nat} {cd : Value} {qual : Str} {scope : Scope}
  {pv ps po pq pt ys yo yv yq yp ipos : Pos} {k1 k2 k3 : Nat} {iter : Expr} {vs ws : List Value} {tl : List (Addr × Obj)}
  {nv nsr no : Str} {G : Nat → Value → Value → Prop}

/-- the loop of xitems -/
theorem seg_xloop {z TI TO i1 i2 l1 l2 : Nat} {kf : Result → Sem Fin} {lf : List Value} {cf : Code} {pf : Pos} {kpf : List Value} (hh : A.handled = none)
    (D : ZipApart z TI TO i1 i2 l1 l2) (hlen : ws.length = vs.length)
    (hws : ∀ (j : Nat) (v : Value), ws[j]? = some v → ∃ a sv ov, v = Value.ref a ∧ (a, tup2 sv ov) ∈ tl ∧ G j sv ov)
    (hz : S < z ∧ S < TI ∧ S < TO ∧ S < i1 ∧ S < i2 ∧ l1 < S ∧ l2 < S ∧ l1 ≠ L' ∧ l2 ≠ L' ∧ L' < S) (htl : ∀ p ∈ tl, p.1 < S ∧ p.1 ≠ L')
    (k1v : (envOf qual scope L' f cd).kindOf nv = some .local) (k1s : (envOf qual scope L' f cd).kindOf nsr = some .local) (k1o : (envOf qual scope L' f cd).kindOf no = some .local)
    (hfun : scope.kind = .function) (hco : scope.isCoroutine = false) (hne : nv ≠ nsr ∧ nv ≠ no ∧ nsr ≠ no) (hdb : (nv == ("__debug__" : Str)) = false ∧ (nsr == ("__debug__" : Str)) = false ∧ (no == ("__debug__" : Str)) = false)
    (hfin : ∀ s₀ s₁, Snc S L' s₀ s₁ → Seg (model prog w) A (xEnd S L') (xProto S L' vs.length (XI G vs)) 0 s₀ cf (kf (.ok .next)) [] s₁) :
    ∀ (k i : Nat) (s₀ s : Shared) (m : Str → Option Value), vs.length - i = k → i ≤ vs.length → (IsZip s.heap z TI TO .none ∧ IsPair s.heap TI (.ref i1) (.ref i2) ∧ (∃ a b, IsPair s.heap TO a b) ∧ s.heap.IsListIter i1 l1 i ∧ s.heap.IsListIter i2 l2 i ∧ s.heap.IsList l1 vs.toArray ∧ s.heap.IsList l2 ws.toArray) →
      s.heap.Ns L' m → (∀ p ∈ tl, s.heap.get? p.1 = some p.2) → Snc S L' s₀ s →
      Seg (model prog w) A (xEnd S L') (xProto S L' vs.length (XI G vs)) (vs.length - i) s₀
        (.forLoop (.Tuple [.Name nv pv, .Tuple [.Name nsr ps, .Name no po] k1 pq] k2 pt) (.ref z) [.Expr (.Yield (some (.Tuple [.Name nsr ys, .Name no yo, .Name nv yv] k3 yq)) yp) ipos] [] (envOf qual scope L' f cd))
        ((model prog w).den (.forLoop (.Tuple [.Name nv pv, .Tuple [.Name nsr ps, .Name no po] k1 pq] k2 pt) (.ref z) [.Expr (.Yield (some (.Tuple [.Name nsr ys, .Name no yo, .Name nv yv] k3 yq)) yp) ipos] [] (envOf qual scope L' f cd))) [.ret kf none false lf cf pf kpf] s := by
  have hint : interactive (envOf qual scope L' f cd) = false := by unfold interactive; show (scope.kind == .module && _) = false; rw [hfun]; rfl
  generalize hT : Expr.Tuple [.Name nv pv, .Tuple [.Name nsr ps, .Name no po] k1 pq] k2 pt = tgt
  generalize hB : [Stmt.Expr (.Yield (some (.Tuple [.Name nsr ys, .Name no yo, .Name nv yv] k3 yq)) yp) ipos] = bd
  have hh' : (A.over (.forLoop tgt (.ref z) bd [] (envOf qual scope L' f cd)) [.ret kf none false lf cf pf kpf]).handled = none := hh
  have W := WalksT.zip2 (prog := prog) (w := w) hh' z TI TO i1 i2 l1 l2 D vs.toArray ws.toArray
  have hmin : min vs.toArray.size ws.toArray.size = vs.length := by simp [hlen]
  rw [hmin] at W
  have hw : ∀ b : Nat, b ∈ [z, TO, i1, i2] → S < b := fun b hb => by
    simp only [List.mem_cons, List.not_mem_nil, or_false] at hb
    rcases hb with rfl | rfl | rfl | rfl <;> omega
  have hfp : ∀ b : Nat, b ∈ [z, TI, TO, i1, i2, l1, l2] → b ≠ S ∧ b ≠ L' := fun b hb => by
    simp only [List.mem_cons, List.not_mem_nil, or_false] at hb
    rcases hb with rfl | rfl | rfl | rfl | rfl | rfl | rfl <;> omega
  have nT3 : ∀ {h : Heap} {j : Nat} {b : Addr} {o : Obj}, (IsZip h z TI TO .none ∧ IsPair h TI (.ref i1) (.ref i2) ∧ (∃ a b, IsPair h TO a b) ∧ h.IsListIter i1 l1 j ∧ h.IsListIter i2 l2 j ∧ h.IsList l1 vs.toArray ∧ h.IsList l2 ws.toArray) →
      (b ≤ S ∨ IsT3 o) → h.get? b = some o → b ∉ [z, TO, i1, i2] := by
    rintro h j b o ⟨q1, _, ⟨a', b', q3⟩, ⟨o4, q4, q4', _⟩, ⟨o5, q5, q5', _⟩, _⟩ hb e hm
    have hgt := hw b hm
    rcases hb with hb | ⟨x, y, z', rfl⟩
    · exact absurd hgt (Nat.not_lt.mpr hb)
    · simp only [List.mem_cons, List.not_mem_nil, or_false] at hm
      rcases hm with rfl | rfl | rfl | rfl
      · rw [q1] at e; exact absurd (congrArg Obj.cls (Option.some.inj e)) (by simp)
      · rw [q3] at e; have := congrArg Obj.data (Option.some.inj e); simp at this
      · rw [q4] at e; rw [Option.some.inj e] at q4'; exact absurd q4' (by simp)
      · rw [q5] at e; rw [Option.some.inj e] at q5'; exact absurd q5' (by simp)
  intro k
  induction k with
  | zero =>
    intro i s₀ s m hk hi hst hn ht hsn
    have hin : i = vs.length := by omega
    subst hin
    show Seg _ A _ _ _ s₀ _ ((forTurn tgt (.ref z) bd [] (envOf qual scope L' f cd)).onRaise (fun x => do noteFrame x (envOf qual scope L' f cd); theTreesLotGoes x)) _ s
    rw [Sem.onRaise_eq_wrap]
    unfold forTurn
    refine seg_bind_wrap (wpAny_standAt ?_)
    refine seg_bind_wrap (wpAny_onRaise (W.done _ _ _ hst fun h' tk hk' => ?_))
    rw [Nat.sub_self]
    refine seg_again rfl ?_
    show Seg _ A _ _ _ s₀ _ ((execs [] (envOf qual scope L' f cd)).onRaise _ >>= _) _ _
    exact seg_leaf (.ok .next) (hfin _ _ (hsn.step fun b o h1 h2 e => hk' b o (nT3 hst h2 e) e))
  | succ k ih =>
    intro i s₀ s m hk hi hst hn ht hsn
    have hlt : i < vs.length := by omega
    show Seg _ A _ _ _ s₀ _ ((forTurn tgt (.ref z) bd [] (envOf qual scope L' f cd)).onRaise (fun x => do noteFrame x (envOf qual scope L' f cd); theTreesLotGoes x)) _ s
    rw [Sem.onRaise_eq_wrap]
    unfold forTurn
    refine seg_bind_wrap (wpAny_standAt ?_)
    refine seg_bind_wrap (wpAny_onRaise (W.item i _ _ _ hlt hst fun T vals h₁ tk₁ hP hT₁ htup hmid hk₁ => ?_))
    obtain ⟨x, y, hx, hy, rfl⟩ := hP
    obtain ⟨a, sv, ov, rfl, hatl, hG⟩ := hws i y (by simpa using hy)
    have haS : @LT.lt Nat _ a S ∧ a ≠ L' := htl _ hatl
    refine seg_bind_wrap ?_
    rw [← hT]
    refine W.go _ _ _ i T _ _ _ hmid fun h₂ hst₂ hk₂ => ?_
    have hTw : T ∉ [z, TO, i1, i2] := W.apart i T _ hmid
    have htup₂ : h₂.IsTuple T #[x, .ref a] := by
      obtain ⟨oT, e1, e2⟩ := htup
      exact ⟨oT, hk₂ _ _ hTw e1, e2⟩
    have nLw : L' ∉ [z, TO, i1, i2] := fun hm => by have := hw _ hm; omega
    have naw : a ∉ [z, TO, i1, i2] := fun hm => by have := hw _ hm; omega
    have keep₂ : ∀ b o, b ∉ [z, TO, i1, i2] → s.heap.get? b = some o → h₂.get? b = some o := fun b o hb e => hk₂ b o hb (hk₁ b o hb e)
    have hn₂ : h₂.Ns L' m := hn.at' fun o e => keep₂ _ o nLw e
    refine seg_bind_wrap ?_
    refine wpAny_assign_Tuple hh' htup₂ rfl rfl fun h₃ hs₃ => ?_
    have up₃ : ∀ b o, h₂.get? b = some o → h₃.get? b = some o := fun b o e => hs₃ b o (Nat.ne_of_lt (Heap.lt_size e)) e
    refine wpAny_assignInOrder_more (wpAny_assign_Name (wpAny_storeName_local k1v (hn₂.at' fun o e => up₃ _ o e) (fun h₄ hn₄ hs₄ => ?_) (by show (scope.kind == .class || (scope.kind == .module && _)) = false; rw [hfun]; rfl)))
    have up₄ : ∀ b o, b ≠ L' → h₂.get? b = some o → h₄.get? b = some o := fun b o hb e => hs₄.extBut b o hb (up₃ b o e)
    have ha₄ : h₄.get? a = some (tup2 sv ov) := up₄ _ _ haS.2 (keep₂ _ _ naw (ht _ hatl))
    refine wpAny_assignInOrder_more ?_
    refine wpAny_assign_Tuple (x1 := k1) hh' (items := #[sv, ov]) ⟨_, ha₄, rfl, _, rfl⟩ rfl rfl fun h₅ hs₅ => ?_
    have up₅ : ∀ b o, b ≠ L' → h₂.get? b = some o → h₅.get? b = some o := fun b o hb e => hs₅ b o (Nat.ne_of_lt (Heap.lt_size (up₄ b o hb e))) (up₄ b o hb e)
    have hn₅ := hn₄.at' (h' := h₅) fun o e => hs₅ _ o (Nat.ne_of_lt (Heap.lt_size e)) e
    refine wpAny_assignInOrder_more (wpAny_assign_Name (wpAny_storeName_local k1s hn₅ (fun h₆ hn₆ hs₆ => ?_) (by show (scope.kind == .class || (scope.kind == .module && _)) = false; rw [hfun]; rfl)))
    refine wpAny_assignInOrder_more (wpAny_assign_Name (wpAny_storeName_local k1o hn₆ (fun h₇ hn₇ hs₇ => ?_) (by show (scope.kind == .class || (scope.kind == .module && _)) = false; rw [hfun]; rfl)))
    have up₇ : ∀ b o, b ≠ L' → h₂.get? b = some o → h₇.get? b = some o := fun b o hb e => hs₇.extBut b o hb (hs₆.extBut b o hb (up₅ b o hb e))
    refine wpAny_assignInOrder_none (wpAny_assignInOrder_none ?_)
    have hst₇ := W.frame (i + 1) _ h₇ hst₂ fun b hb o e => up₇ b o (hfp b hb).2 e
    rw [Sem.bind_eq_wrap', Sem.wrap_wrap]
    rw [← hB]
    refine seg_execs_cons ?_
    obtain ⟨mm, hmm⟩ : ∃ mm, vs.length - i = mm + 1 := ⟨vs.length - (i + 1), by omega⟩
    rw [hmm]
    refine seg_Expr_Yield rfl rfl rfl ?_ hco hint
    refine wpAny_Tuple ?_
    refine spliced_cons (wpAny_Name (wpAny_loadName_local hfun k1s hn₇ (v := sv) ?_ ?_) hdb.2.1)
    · simp [hne.2.2]
    refine spliced_cons (wpAny_Name (wpAny_loadName_local hfun k1o hn₇ (v := ov) ?_ ?_) hdb.2.2)
    · simp
    refine spliced_cons (wpAny_Name (wpAny_loadName_local hfun k1v hn₇ (v := x) ?_ ?_) hdb.1)
    · simp [hne.2.1, hne.1]
    refine wpAny_pure ⟨by rw [sizeLine_eq]; simp, ?_⟩
    intro kap hkap
    have lt₇ : @LT.lt Nat _ S h₇.objs.size := by
      have : @LT.lt Nat _ z h₇.objs.size := Heap.lt_size hst₇.1
      omega
    refine ⟨h₇.objs.size, _, rfl, lt₇, Heap.get?_push_size _ rfl, ⟨sv, ov, x, rfl⟩, (by rw [show vs.length - 1 - mm = i by omega]; exact ⟨sv, ov, x, hG, by simpa using hx, rfl⟩), ?_, ?_⟩
    · exact hsn.step fun b o h1 h2 e => Heap.get?_push_of_some _ (up₇ b o h1 (keep₂ b o (nT3 hst h2 e) e))
    · intro s'' hal hS''
      refine hkap .none s'' ?_
      show Seg _ _ _ _ _ _ _ (Sem.wrap _ _ _ _ (execs [] _)) _ _
      refine seg_execs_nil ?_
      rw [hT, hB]
      refine seg_again rfl ?_
      have e1 : vs.length - (i + 1) = mm := by omega
      rw [← e1]
      have al : ∀ b o, b ≠ S → h₇.get? b = some o → s''.heap.get? b = some o := fun b o hb e => hal b o hb (Heap.get?_push_of_some _ e)
      refine ih (i + 1) s'' s'' _ (by omega) hlt ?_ (hn₇.at' fun o e => al _ o (by show L' ≠ S; omega) e) ?_ (Snc.refl _)
      · exact W.frame (i + 1) _ s''.heap hst₇ fun b hb o e => al b o (hfp b hb).1 e
      · intro p hp
        have hp' : @LT.lt Nat _ p.1 S ∧ p.1 ≠ L' := htl p hp
        exact al _ _ (by omega) (up₇ _ _ hp'.2 (keep₂ _ _ (fun hm => by have := hw _ hm; omega) (ht p hp)))

/-- what `zip(self.data, self.items)` gives where the generator starts -/
def ZipAt (S l1 l2 : Nat) (vs ws : List Value) (s : Shared) (v : Value) (s₂ : Shared) : Prop :=
  ∃ (z TI TO i1 i2 : Nat) (h' : Heap) (tk : Nat), v = .ref z ∧ s₂ = { s with heap := h', toks := tk } ∧ ZipApart z TI TO i1 i2 l1 l2 ∧ (S < z ∧ S < TI ∧ S < TO ∧ S < i1 ∧ S < i2) ∧
    (IsZip h' z TI TO .none ∧ IsPair h' TI (.ref i1) (.ref i2) ∧ (∃ a b, IsPair h' TO a b) ∧ h'.IsListIter i1 l1 0 ∧ h'.IsListIter i2 l2 0 ∧ h'.IsList l1 vs.toArray ∧ h'.IsList l2 ws.toArray) ∧
    ∀ b o, s.heap.get? b = some o → h'.get? b = some o

theorem seg_xfresh {l1 l2 : Nat} {fpos : Pos} (hh : A.handled = none) (hlen : ws.length = vs.length)
    (hws : ∀ (j : Nat) (v : Value), ws[j]? = some v → ∃ a sv ov, v = Value.ref a ∧ (a, tup2 sv ov) ∈ tl ∧ G j sv ov)
    (hz : l1 < S ∧ l2 < S ∧ l1 ≠ L' ∧ l2 ≠ L' ∧ L' < S) (htl : ∀ p ∈ tl, p.1 < S ∧ p.1 ≠ L')
    (k1v : (envOf qual scope L' f cd).kindOf nv = some .local) (k1s : (envOf qual scope L' f cd).kindOf nsr = some .local) (k1o : (envOf qual scope L' f cd).kindOf no = some .local)
    (hfun : scope.kind = .function) (hco : scope.isCoroutine = false) (hne : nv ≠ nsr ∧ nv ≠ no ∧ nsr ≠ no) (hdb : (nv == ("__debug__" : Str)) = false ∧ (nsr == ("__debug__" : Str)) = false ∧ (no == ("__debug__" : Str)) = false)
    (hfold : ∀ x, foldedSetIterable iter (envOf qual scope L' f cd) x = pure x)
    (s : Shared) (m : Str → Option Value) (hn : s.heap.Ns L' m) (ht : ∀ p ∈ tl, s.heap.get? p.1 = some p.2)
    (hiter : ∀ (A' : Around), A'.handled = none → wpAny (model prog w) A' (eval iter (envOf qual scope L' f cd)) (ZipAt S l1 l2 vs ws s) (fun _ _ => False) s) :
    Seg (model prog w) A (xEnd S L') (xProto S L' vs.length (XI G vs)) vs.length s
      (.func [.For (.Tuple [.Name nv pv, .Tuple [.Name nsr ps, .Name no po] k1 pq] k2 pt) iter [.Expr (.Yield (some (.Tuple [.Name nsr ys, .Name no yo, .Name nv yv] k3 yq)) yp) ipos] [] fpos] (envOf qual scope L' f cd))
      ((model prog w).den (.func [.For (.Tuple [.Name nv pv, .Tuple [.Name nsr ps, .Name no po] k1 pq] k2 pt) iter [.Expr (.Yield (some (.Tuple [.Name nsr ys, .Name no yo, .Name nv yv] k3 yq)) yp) ipos] [] fpos] (envOf qual scope L' f cd))) [] s := by
  refine seg_func (seg_execs_cons (seg_For hfold ?_))
  refine wpAny_mono (hiter _ hh) (fun v s₂ h₂ => ?_) fun _ _ y => y
  obtain ⟨z, TI, TO, i1, i2, h', tk, rfl, rfl, D, hz', hst, hk⟩ := h₂
  refine wpAny_pyIter_zip hst.1 fun p => ?_
  refine seg_xloop (kpf := []) (k := vs.length) (i := 0) (tl := tl) hh D hlen hws ⟨hz'.1, hz'.2.1, hz'.2.2.1, hz'.2.2.2.1, hz'.2.2.2.2, hz⟩ htl k1v k1s k1o hfun hco hne hdb
    ?_ s { s with heap := h', toks := tk } m (Nat.sub_zero _) (Nat.zero_le _) hst (hn.at' fun o e => hk _ o e) (fun p hp => hk _ _ (ht p hp)) ⟨h', tk, rfl, fun b o _ _ e => hk b o e⟩
  intro s₀ s₁ hs
  exact seg_end (.ok (.ret .none)) ⟨rfl, rfl, hs⟩
end

/-- a generator at work that has given j of n -/
def GAt (prog : Program) (w : World) (A : Around) (P : Nat → Obj → Prop) (n : Nat) (a g S L' : Nat) (j : Nat) (s : Shared) : Prop :=
  s.heap.IsGen a g ∧ s.heap.NoLimit ∧ ∃ gs, s.gens[g]? = some gs ∧ ∀ (s'' : Shared), (∀ b o, b ≠ S → s.heap.get? b = some o → s''.heap.get? b = some o) → S < s''.heap.objs.size →
    gs.Goes (model prog w) A (xEnd S L') (xProto S L' n P) (n - j) (.send .none) s''
/-- what stays behind a generator's turns -/
structure Trk (g S L' : Nat) (s₀ s : Shared) : Prop where
  drawn : s.drawn = s₀.drawn
  os : s.os = s₀.os
  gens : GenOnly g s₀.gens s.gens
  keep : ∀ (b : Nat) o, b < S → b ≠ L' → s₀.heap.get? b = some o → s.heap.get? b = some o
/-- what has been made -/
def MadeX (P : Nat → Obj → Prop) (S : Nat) (j : Nat) (acc : Array Value) (h : Heap) : Prop :=
  acc.size = j ∧ ∀ i, i < j → ∃ (T : Nat) (o : Obj), acc[i]? = some (.ref T) ∧ S < T ∧ h.get? T = some o ∧ IsT3 o ∧ P i o

section
variable {prog : Program} {w : World} {A : Around} {P : Nat → Obj → Prop} {n a g S L' : Nat}
theorem GAt.list {s : Shared} {j : Nat} (x : GAt prog w A P n a g S L' j s) {h' : Heap} {tk : Nat} (ha : a ≠ S) (hc : cStatics ≠ S) (hk : ∀ b o, b ≠ S → s.heap.get? b = some o → h'.get? b = some o) :
    GAt prog w A P n a g S L' j { s with heap := h', toks := tk } := by
  obtain ⟨hg, hl, gs, hgs, hgo⟩ := x
  refine ⟨?_, hl.at fun o e => hk _ o hc e, gs, hgs, fun s'' hal hS => hgo s'' (fun b o hb e => hal b o hb (hk b o hb e)) hS⟩
  obtain ⟨o, nm, qn, ho, r⟩ := hg
  exact ⟨o, nm, qn, hk a o ha ho, r⟩

theorem extend_x (hh : A.handled = none) (hroom : A.in1.depth < recursionLimit) (hn : n ≤ sizeLine) (res : Value) {R : Result → Shared → Prop} {s₀ : Shared}
    (ha : a < S) (haL : a ≠ L') (hc : @LT.lt Nat _ cStatics S) (hcL : cStatics ≠ L') (hLS : L' < S) :
    ∀ (k j : Nat) (s : Shared) (acc : Array Value) (c : Nat), n - j = k → j ≤ n → GAt prog w A.in1.in1 P n a g S L' j s → s.heap.get? S = some { cls := .type "list", dict := none, data := .seq acc c, slots := #[] } → MadeX P S j acc s.heap → Trk g S L' s₀ s →
      (∀ s' acc' c', s'.heap.get? S = some { cls := .type "list", dict := none, data := .seq acc' c', slots := #[] } → MadeX P S n acc' s'.heap → Trk g S L' s₀ s' → s'.gens[g]? = some .finished → R (.ok (.ret res)) s') →
      codeAny (model prog w) A (.builtin "list.extend.loop" ⟨[.ref S, .ref a, res], []⟩) R s := by
  intro k
  induction k with
  | zero =>
    intro j s acc c hk hj hst hS hacc ht hR
    have hin : j = n := by omega
    subst hin
    obtain ⟨hg, hl, gs, hgs, hgo⟩ := hst
    rw [Nat.sub_self] at hgo
    refine codeAny_builtin PySem.F.entry_extend_loop ?_
    rw [Around.under_plainId PySem.F.plain_extend_loop _]
    show wpAny _ A.in1 (pyNext (.ref a) >>= _) _ _ s
    refine wpAny_bind (wpAny_pyNext_gen (P := fun n s₀ s₁ => n = 0 ∧ Snc S L' s₀ s₁) hh hl hroom hg hgs (hgo _ (fun _ _ _ e => e) (Heap.lt_size hS)) (fun v s₁ gs' hv => ?_) (fun s₁ hp h' hk => ?_))
    · obtain ⟨T, o, _, _, _, _, _, _, hkap⟩ := hv
      exact (hkap ⟨s₁.heap.push default, s₁.gens, s₁.drawn, s₁.toks, s₁.os⟩ (fun _ _ _ e => Heap.get?_push_of_some _ e) (by
        obtain ⟨h₁, tk₁, rfl, hk₁⟩ := ‹Snc S L' _ s₁›
        have := Heap.lt_size (hk₁ S _ (Nat.ne_of_gt hLS) (.inl (Nat.le_refl _)) hS)
        show @LT.lt Nat _ S (h₁.push default).objs.size
        rw [Heap.size_push]; exact Nat.lt_succ_of_lt this)).elim
    · obtain ⟨_, h₁, tk₁, rfl, hk₁⟩ := hp
      have kp : ∀ b o, b ≠ L' → (b ≤ S ∨ IsT3 o) → s.heap.get? b = some o → h'.get? b = some o := fun b o h1 h2 e => hk b o (hk₁ b o h1 h2 e)
      refine wpAny_pure (hR _ acc c (kp S _ (Nat.ne_of_gt hLS) (.inl (Nat.le_refl _)) hS) ⟨hacc.1, fun i hi => ?_⟩ ⟨ht.drawn, ht.os, ht.gens.trans ((GenOnly.setGen s g .running).trans (GenOnly.setGen _ g .finished)), fun b o h1 h2 e => kp b o h2 (.inl (Nat.le_of_lt h1)) (ht.keep b o h1 h2 e)⟩ (setGen_self (gs := .running) (setGen_self hgs)))
      obtain ⟨T, o, e1, e2, e3, e4, e5⟩ := hacc.2 i hi
      exact ⟨T, o, e1, e2, kp T o (by omega) (.inr e4) e3, e4, e5⟩
  | succ k ih =>
    intro j s acc c hk hj hst hS hacc ht hR
    have hlt : j < n := by omega
    obtain ⟨hg, hl, gs, hgs, hgo⟩ := hst
    obtain ⟨mm, hmm⟩ : ∃ mm, n - j = mm + 1 := ⟨n - (j + 1), by omega⟩
    rw [hmm] at hgo
    refine codeAny_builtin PySem.F.entry_extend_loop ?_
    rw [Around.under_plainId PySem.F.plain_extend_loop _]
    show wpAny _ A.in1 (pyNext (.ref a) >>= _) _ _ s
    refine wpAny_bind (wpAny_pyNext_gen (P := fun n s₀ s₁ => n = 0 ∧ Snc S L' s₀ s₁) hh hl hroom hg hgs (hgo _ (fun _ _ _ e => e) (Heap.lt_size hS)) (fun v s₁ gs' hv => ?_) (fun s₁ hp h' hk => ?_))
    · obtain ⟨T, o, rfl, hT, hTo, hT3, hPo, ⟨h₁, tk₁, rfl, hk₁⟩, hkap⟩ := hv
      have kp : ∀ b o, b ≠ L' → (b ≤ S ∨ IsT3 o) → s.heap.get? b = some o → h₁.get? b = some o := hk₁
      have hS' : h₁.get? S = _ := kp S _ (Nat.ne_of_gt hLS) (.inl (Nat.le_refl _)) hS
      have hidx : n - 1 - (mm + 1 - 1) = j := by omega
      rw [hidx] at hPo
      have h2 : @Eq Nat (n - (j + 1)) mm := by omega
      have hg' : h₁.IsGen a g := by
        obtain ⟨oa, nm, qn, ho, r⟩ := hg
        exact ⟨oa, nm, qn, kp a oa haL (.inl (Nat.le_of_lt ha)) ho, r⟩
      have gat : GAt prog w A.in1.in1 P n a g S L' (j + 1) ((({ s.setGen g .running with heap := h₁, toks := tk₁ } : Shared)).setGen g gs') :=
        ⟨hg', hl.at fun o e => kp _ o hcL (.inl (Nat.le_of_lt hc)) e, gs', setGen_self (gs := .running) (setGen_self hgs), fun s'' hal hSs => by rw [h2]; exact hkap s'' hal hSs⟩
      show wpAny _ A.in1 (updateSeq S (·.push (.ref T)) >>= _) _ _ _
      refine wpAny_bind ?_
      refine wpAny_updateSeq hS' rfl (wpAny_pure ⟨plainId_quiet PySem.F.plain_extend_loop _, ih (j + 1) _ (acc.push (.ref T)) _ (by omega) hlt
        (gat.list (Nat.ne_of_lt ha) (Nat.ne_of_lt hc) fun b o hb e => (Heap.get?_update_other _ _ (Ne.symm hb)).trans e) (Heap.get?_update_self _ hS' rfl) ⟨by rw [Array.size_push, hacc.1], fun i hi => ?_⟩ ⟨ht.drawn, ht.os, ht.gens.trans ((GenOnly.setGen s g .running).trans (GenOnly.setGen _ g gs')), fun b o h1 h2 e => ?_⟩ hR⟩)
        (by rw [hacc.1]; omega) (by show (acc.push (.ref T)).size ≤ sizeLine + 1; rw [Array.size_push, hacc.1]; omega)
      · by_cases hi' : i < j
        · obtain ⟨T', o', e1, e2, e3, e4, e5⟩ := hacc.2 i hi'
          exact ⟨T', o', by rw [Array.getElem?_push_lt (by rw [hacc.1]; exact hi')]; simpa [hacc.1, hi'] using e1, e2, (Heap.get?_update_other _ _ (Nat.ne_of_lt e2)).trans (kp T' o' (by omega) (.inr e4) e3), e4, e5⟩
        · have : i = j := by omega
          subst this
          exact ⟨T, o, by rw [← hacc.1, Array.getElem?_push_size], hT, (Heap.get?_update_other _ _ (Nat.ne_of_lt hT)).trans hTo, hT3, hPo⟩
      · exact (Heap.get?_update_other _ _ (Nat.ne_of_gt h1)).trans (kp b o h2 (.inl (Nat.le_of_lt h1)) (ht.keep b o h1 h2 e))
    · exact absurd hp.1 (Nat.succ_ne_zero mm)

theorem init_x (hh : A.handled = none) (hroom : A.in1.depth < recursionLimit) (hn : n ≤ sizeLine) {R : Result → Shared → Prop} {s : Shared}
    (ha : a < S) (haL : a ≠ L') (hc : @LT.lt Nat _ cStatics S) (hcL : cStatics ≠ L') (hLS : L' < S) (hst : GAt prog w A.in1.in1 P n a g S L' 0 s) (hS : s.heap.get? S = some { cls := .type "list", data := .seq #[] })
    (hR : ∀ s' acc' c', s'.heap.get? S = some { cls := .type "list", dict := none, data := .seq acc' c', slots := #[] } → MadeX P S n acc' s'.heap → Trk g S L' s s' → s'.gens[g]? = some .finished → R (.ok (.ret .none)) s') :
    wpAny (model prog w) A.in1 (Builtin.«list.__init__» ⟨[.ref S, .ref a], []⟩)
      (fun fin s' => match fin with | .done f => R (.ok f) s' | .again c' => c'.quiet = true ∧ codeAny (model prog w) A c' R s') (fun e s' => R (.error e) s') s := by
  show wpAny _ A.in1 (do let old ← Builtin.List.listItems (.ref S); Builtin.List.listUpdate (.ref S) (fun _ => #[]); letGo old.toList.reverse; Builtin.List.listExtendWith (.ref S) (.ref a) .none) _ _ s
  refine wpAny_bind ?_
  unfold Builtin.List.listItems
  refine wpAny_bind (wpAny_seqItems hS rfl (wpAny_pure ?_))
  show wpAny _ A.in1 (updateSeq S (fun _ => #[]) >>= fun _ => letGo (#[] : Array Value).toList.reverse >>= fun _ => Builtin.List.listExtendWith (.ref S) (.ref a) .none) _ _ s
  refine wpAny_bind (wpAny_updateSeq hS rfl ?_)
  have hS₂ := Heap.get?_update_self (Obj.mapSeq (fun _ => (#[] : Array Value))) hS rfl
  have oth₂ : ∀ b o, b ≠ S → s.heap.get? b = some o → (s.heap.update S (Obj.mapSeq (fun _ => (#[] : Array Value)))).get? b = some o :=
    fun b o hb e => (Heap.get?_update_other _ _ (Ne.symm hb)).trans e
  refine wpAny_bind (wpAny_letGo ?_)
  have hg₂ := (hst.list (tk := s.toks) (Nat.ne_of_lt ha) (Nat.ne_of_lt hc) oth₂)
  have hSI : S ≠ a := Nat.ne_of_gt ha
  unfold Builtin.List.listExtendWith
  refine wpAny_bind (wpAny_typeOf hg₂.1.typeIs ?_)
  have h1 : Builtin.List.listSameRef (.ref S) (.ref a) = false := by simp [Builtin.List.listSameRef, hSI]
  have h2 : (Value.type "generator" == Value.type "list") = false := by decide
  have h3 : (Value.type "generator" == Value.type "tuple") = false := by decide
  simp only [h1, h2, h3, Bool.or_false, Bool.false_eq_true, if_false]
  refine wpAny_bind (wpAny_pyIter_gen hg₂.1 ?_)
  refine wpAny_bind (wpAny_holding ?_)
  unfold Builtin.List.listLengthHint
  refine wpAny_bind (wpAny_specialOf hg₂.1.typeIs PySem.F.gen_no_len ?_)
  show wpAny _ A.in1 (specialOf (Value.ref a) (Str.ofString "__length_hint__") >>= _) _ _ _
  refine wpAny_bind (wpAny_specialOf hg₂.1.typeIs PySem.F.gen_no_hint ?_)
  refine wpAny_pure ?_
  show wpAny _ A.in1 (rule "list.extend.makes-room" >>= fun _ => Builtin.List.listTouch (.ref S) >>= fun _ =>
    again (.builtin "list.extend.loop" ⟨[.ref S, .ref a, .none], []⟩)) _ _ _
  refine wpAny_bind (wpAny_rule ?_)
  refine wpAny_bind ?_
  show wpAny _ A.in1 (updateSeq S (·.push .none) >>= fun _ => updateSeq S (·.pop)) _ _ _
  refine wpAny_bind (wpAny_updateSeq hS₂ rfl ?_)
  have hS₃ := Heap.get?_update_self (Obj.mapSeq (·.push Value.none)) hS₂ rfl
  refine wpAny_updateSeq (hz := by seq_fits) hS₃ rfl ?_
  have hS₄ := Heap.get?_update_self (Obj.mapSeq (·.pop)) hS₃ rfl
  have oth₄ := fun (b : Addr) (o : Obj) (hb : b ≠ S) (e : s.heap.get? b = some o) =>
    (Heap.get?_update_other _ (Obj.mapSeq (·.pop)) (Ne.symm hb)).trans ((Heap.get?_update_other _ (Obj.mapSeq (·.push Value.none)) (Ne.symm hb)).trans (oth₂ b o hb e))
  refine wpAny_pure ⟨plainId_quiet PySem.F.plain_extend_loop _, extend_x (s₀ := s) hh hroom hn .none ha haL hc hcL hLS n 0 _ _ _ rfl (Nat.zero_le _) (hst.list (Nat.ne_of_lt ha) (Nat.ne_of_lt hc) oth₄) hS₄ ⟨rfl, fun i hi => absurd hi (Nat.not_lt_zero _)⟩
    ⟨rfl, rfl, ⟨rfl, fun _ _ => rfl⟩, fun b o h1 h2 e => oth₄ b o (Nat.ne_of_lt h1) e⟩ hR⟩

theorem call_list_x (hh : A.handled = none) (hroom : A.in1.in1.depth < recursionLimit) (hn : n ≤ sizeLine) {Q : Value → Shared → Prop} {E : Value → Shared → Prop} {s : Shared} (hSe : S = s.heap.objs.size)
    (ha : a < S) (haL : a ≠ L') (hc : @LT.lt Nat _ cStatics S) (hcL : cStatics ≠ L') (hLS : L' < S)
    (hst : ∀ h', (∀ b o, s.heap.get? b = some o → h'.get? b = some o) → GAt prog w A.in1.in1.in1 P n a g S L' 0 { s with heap := h' })
    (hQ : ∀ s' acc' c', s'.heap.get? S = some { cls := .type "list", dict := none, data := .seq acc' c', slots := #[] } → MadeX P S n acc' s'.heap → Trk g S L' s s' → s'.gens[g]? = some .finished → Q (.ref S) s') :
    wpAny (model prog w) A (call (.type "list") [.ref a]) Q E s := by
  refine callType_codes (Q₁ := fun obj s₁ => obj = .ref s.heap.objs.size ∧ s₁ = { s with heap := s.heap.push { cls := .type "list", data := .seq #[] } }) PySem.F.called_list (PySem.F.typeCall_list_1 _) PySem.F.entry_list_init
    (code_list_new _ ⟨rfl, rfl⟩) fun obj s₁ h₁ => ?_
  obtain ⟨rfl, rfl⟩ := h₁
  have hS : (s.heap.push { cls := .type "list", data := .seq #[] }).get? s.heap.objs.size = some { cls := .type "list", data := .seq #[] } := Heap.get?_push_size _ rfl
  refine ⟨⟨_, hS, rfl⟩, PySem.F.args_list_init_2 _ _, ?_⟩
  rw [← hSe] at hS ⊢
  refine init_x (A := A.in1) hh hroom hn ha haL hc hcL hLS (hst _ fun b o e => Heap.get?_push_of_some _ e) hS fun s' acc' c' h1 h2 h3 h4 => ?_
  refine ⟨rfl, hQ s' acc' c' h1 h2 ⟨h3.drawn, h3.os, h3.gens, fun b o e1 e2 e => h3.keep b o e1 e2 (Heap.get?_push_of_some _ e)⟩ h4⟩
end

/-- a generator new made, over the words vs and their pairs ds -/
def pairG (ds : List (Str × Int)) (j : Nat) (sv ov : Value) : Prop := ∃ d t t', ds[j]? = some d ∧ sv = .str d.1 t ∧ ov = .int d.2 t'
def GenNew (prog : Program) (w : World) (vs : List Value) (ds : List (Str × Int)) (a g L' : Nat) (h : Heap) (gens : Array GenState) : Prop :=
  h.IsGen a g ∧ h.NoLimit ∧ L' < a ∧ cStatics ≠ L' ∧ ∃ c, gens[g]? = some (.fresh c) ∧ ∀ (A : Around) (S : Nat) (s'' : Shared), A.handled = none → h.objs.size ≤ S → (∀ b o, b ≠ S → h.get? b = some o → s''.heap.get? b = some o) → S < s''.heap.objs.size →
    Seg (model prog w) A (xEnd S L') (xProto S L' vs.length (XI (pairG ds) vs)) vs.length s'' c ((model prog w).den c) [] s''

def zip3 (ds : List (Str × Int)) (ts : List Str) : List (Str × Int × Str) := List.zipWith (fun d x => (d.1, d.2, x)) ds ts

def tl3 (h : Heap) (us : List Value) : List (Addr × Obj) := us.filterMap fun v => match v with | .ref T => (h.get? T).map fun o => (T, o) | _ => none
theorem made_It3 {S n : Nat} {acc : Array Value} {h : Heap} {vs : List Value} {ds : List (Str × Int)} {ts : List Str} (M : MadeX (XI (pairG ds) vs) S n acc h) (hv : StrsAre vs ts) (hn : n = vs.length) (hd : ds.length = vs.length) :
    It3 (tl3 h acc.toList) acc.toList (zip3 ds ts) ∧ ∀ p ∈ tl3 h acc.toList, S < p.1 ∧ h.get? p.1 = some p.2 := by
  have hl : (zip3 ds ts).length = n := by unfold zip3; rw [List.length_zipWith, hd, ← hv.length]; omega
  refine ⟨⟨by rw [hl]; simpa using M.1, fun j v hj => ?_⟩, fun p hp => ?_⟩
  · have hjn : j < n := by
      have := (List.getElem?_eq_some_iff.mp hj).1
      have e := M.1
      simp at this; omega
    obtain ⟨T, o, e1, e2, e3, _, ⟨sv, ov, v', ⟨d, t, t', hdj, rfl, rfl⟩, hvj, rfl⟩⟩ := M.2 j hjn
    obtain ⟨x, u, rfl, hx⟩ := hv.item _ _ hvj
    rw [← Array.getElem?_toList, hj] at e1
    cases e1
    refine ⟨T, t, t', u, (d.1, d.2, x), rfl, by unfold zip3; rw [List.getElem?_zipWith, hdj, hx], ?_⟩
    unfold tl3
    rw [List.mem_filterMap]
    exact ⟨.ref T, List.mem_of_getElem? hj, by simp only [e3]; rfl⟩
  · unfold tl3 at hp
    rw [List.mem_filterMap] at hp
    obtain ⟨v, hv', hm⟩ := hp
    obtain ⟨j, hj, rfl⟩ := List.mem_iff_getElem.mp hv'
    have hjn : j < n := by have e := M.1; simp at hj; omega
    obtain ⟨T, o, e1, e2, e3, _⟩ := M.2 j hjn
    have e4 : acc.toList[j] = .ref T := by
      have : acc.toList[j]? = some (.ref T) := by rw [Array.getElem?_toList]; exact e1
      rw [List.getElem?_eq_getElem hj] at this
      exact Option.some.inj this
    rw [e4] at hm
    simp only [e3, Option.map_some, Option.some.injEq] at hm
    subst hm
    exact ⟨e2, e3⟩

theorem allBare_only {g : Nat} {a b : Array GenState} (ha : AllBare a) (x : GenOnly g a b) (hf : b[g]? = some .finished) : AllBare b := fun y hy => by
  obtain ⟨i, hi, rfl⟩ := Array.mem_iff_getElem.mp hy
  by_cases e : i = g
  · subst e
    rw [Array.getElem?_eq_getElem hi] at hf
    rw [Option.some.inj hf]; rfl
  · have h1 := x.2 i e
    rw [Array.getElem?_eq_getElem hi] at h1
    obtain ⟨hi', e'⟩ := Array.getElem?_eq_some_iff.mp h1.symm
    exact e' ▸ ha _ (Array.getElem_mem hi')

section
variable {prog : Program} {w : World} {A : Around} {E : Value → Shared → Prop} {s : Shared} {h₀ : Heap} {L : Addr} {m : Str → Option Value} {news : List (Addr × Obj)}
theorem list_gen {vs : List Value} {ds : List (Str × Int)} {ts : List Str} {a g L' : Nat} {Q : Value → Shared → Prop} (G : GenNew prog w vs ds a g L' s.heap s.gens) (hB : AllBare s.gens) (F : Fr h₀ L s.heap m) (N : News h₀ L s.heap news)
    (hoff : L ≠ L' ∧ h₀.get? L' = none ∧ ∀ p ∈ news, p.1 ≠ L') (hh : A.handled = none) (hroom : A.in1.in1.depth < recursionLimit) (hv : StrsAre vs ts) (hd : ds.length = vs.length) (hz : vs.length ≤ 100000)
    (k : ∀ D us nD tups h' tk' gens', AllBare gens' → Fr h₀ L h' m → News h₀ L h' ((D, listOf us.toArray nD) :: (tups ++ news)) → (∀ p ∈ news, p.1 < D) → (∀ p ∈ tups, @LT.lt Nat _ D p.1) → It3 tups us (zip3 ds ts) →
      Q (.ref D) { s with heap := h', toks := tk', gens := gens' }) :
    wpAny (model prog w) A (call (.type "list") [.ref a]) Q E s := by
  obtain ⟨hg, hl, hLa, hcL, c, hc, hgo⟩ := G
  have ha : a < s.heap.objs.size := by obtain ⟨o, _, _, ho, _⟩ := hg; exact Heap.lt_size ho
  have hcs : @LT.lt Nat _ cStatics s.heap.objs.size := by obtain ⟨mc, ⟨o, _, _, ho, _⟩, _⟩ := hl; exact Heap.lt_size ho
  refine call_list_x (S := s.heap.objs.size) (L' := L') (g := g) (P := XI (pairG ds) vs) (n := vs.length) hh hroom (by rw [sizeLine_eq]; omega) rfl ha (Nat.ne_of_gt hLa) hcs hcL (by omega) (fun h' hk => ?_) fun s' acc c' e1 e2 e3 e4 => ?_
  · refine ⟨hg.keeps hk, hl.keeps hk, _, hc, fun s'' hal hS => ⟨rfl, ?_⟩⟩
    rw [Nat.sub_zero]
    exact hgo _ _ s'' hh (Nat.le_refl _) (fun b o hb e => hal b o hb (hk b o e)) hS
  · obtain ⟨I3, tlp⟩ := made_It3 e2 hv rfl hd
    have old : ∀ b o, s.heap.get? b = some o → b ≠ L' → s'.heap.get? b = some o := fun b o e hb => e3.keep b o (Heap.lt_size e) hb e
    have fresh : ∀ b : Nat, s.heap.objs.size ≤ b → b ≠ L ∧ h₀.get? b = none := fun b hb => by
      obtain ⟨oL, _, _, hoL, _⟩ := F.ns
      have hLlt : @LT.lt Nat _ L s.heap.objs.size := Heap.lt_size hoL
      refine ⟨by omega, ?_⟩
      cases q : h₀.get? b with
      | none => rfl
      | some o =>
        have : @LT.lt Nat _ b s.heap.objs.size := Heap.lt_size (F.keep _ _ q)
        omega
    have es : s' = { s with heap := s'.heap, toks := s'.toks, gens := s'.gens } := by
      obtain ⟨h1, g1, d1, t1, o1⟩ := s'
      have hd1 := e3.drawn
      have ho1 := e3.os
      simp only at hd1 ho1
      rw [hd1, ho1]
    rw [es]
    refine k s.heap.objs.size acc.toList c' (tl3 s'.heap acc.toList) s'.heap s'.toks s'.gens (allBare_only hB e3.gens e4) ⟨F.ns.at' fun o e => old _ o e hoff.1, fun b o e => old b o (F.keep b o e) (fun q => by rw [q, hoff.2.1] at e; cases e), F.above⟩ (fun p hp => ?_)
      (fun p hp => Heap.lt_size (N p hp).1) (fun p hp => (tlp p hp).1) I3
    rcases List.mem_cons.mp hp with rfl | hp
    · exact ⟨by simpa using e1, fresh _ (Nat.le_refl _)⟩
    · rcases List.mem_append.mp hp with hp | hp
      · exact ⟨(tlp p hp).2, fresh _ (Nat.le_of_lt (tlp p hp).1)⟩
      · exact ⟨old _ _ (N p hp).1 (hoff.2.2 p hp), (N p hp).2⟩
end

section
variable {prog : Program} {w : World} {base : Heap} {K : Frag} {p : Program} {loose : List Str} {mean : ExcName → Option Value} {mg mb : Str → Option Value}
  {name qual : Str} {params : Arguments} {scope : Scope} {dV kV doc pm cdv ct oc : Value} {an od : Option Addr} {osl : Array (Option Value)} {f : Nat} {binds : List (Str × Value)}
  {pre : List (Addr × Obj)} {pv ps po pq pt ys yo yv yq yp ipos fpos : Pos} {k1 k2 k3 : Nat} {iter : Expr} {vs ws : List Value} {tl : List (Addr × Obj)} {ds : List (Str × Int)} {nv nsr no : Str}
/-- the call of a generator def of this shape -/
theorem xgen (X : K.In base) (T : Top p loose mean mg mb base)
    (ho : K.lookup f = some ⟨oc, od, .func (fnOf name qual params [.For (.Tuple [.Name nv pv, .Tuple [.Name nsr ps, .Name no po] k1 pq] k2 pt) iter [.Expr (.Yield (some (.Tuple [.Name nsr ys, .Name no yo, .Name nv yv] k3 yq)) yp) ipos] [] fpos] scope dV kV doc pm an cdv ct), osl⟩)
    (hcd : codeIn K cdv qual = true) {fn : List Value}
    (hbind : ∀ s : Shared, K.In s.heap → BindsTo s (fnOf name qual params [.For (.Tuple [.Name nv pv, .Tuple [.Name nsr ps, .Name no po] k1 pq] k2 pt) iter [.Expr (.Yield (some (.Tuple [.Name nsr ys, .Name no yo, .Name nv yv] k3 yq)) yp) ipos] [] fpos] scope dV kV doc pm an cdv ct) ⟨fn, []⟩ binds)
    (hloc : ∀ y ∈ binds, scope.names.lookup y.1 = some .local)
    (hco : scope.isCoroutine = false) (hgen : scope.isGenerator = true) (hfun : scope.kind = .function) (hcell : ∀ x ∈ scope.names, x.2 ≠ .cell)
    (k1v : ∀ L' : Nat, (envOf qual scope L' f cdv).kindOf nv = some .local) (k1s : ∀ L' : Nat, (envOf qual scope L' f cdv).kindOf nsr = some .local) (k1o : ∀ L' : Nat, (envOf qual scope L' f cdv).kindOf no = some .local)
    (hne : nv ≠ nsr ∧ nv ≠ no ∧ nsr ≠ no) (hdb : (nv == ("__debug__" : Str)) = false ∧ (nsr == ("__debug__" : Str)) = false ∧ (no == ("__debug__" : Str)) = false)
    (hfold : ∀ (L' : Nat) x, foldedSetIterable iter (envOf qual scope L' f cdv) x = pure x)
    {l1 l2 n1 n2 : Nat} (hlen : ws.length = vs.length) (hI : It2 tl ws ds) (hm1 : (l1, listOf vs.toArray n1) ∈ pre) (hm2 : (l2, listOf ws.toArray n2) ∈ pre) (htl : ∀ p ∈ tl, p ∈ pre)
    (hiter : ∀ (g : Heap) (L' S : Nat) (s : Shared) (A' A1 : Around) (o1 : List Env), A'.handled = none → Below A1 base o1 g → Fr g L' s.heap (fun y => binds.reverse.lookup y) → News g L' s.heap pre → K.In g → Top p loose mean mg mb g → l1 < S → l2 < S → S < s.heap.objs.size →
      wpAny (model prog w) A' (eval iter (envOf qual scope L' f cdv)) (ZipAt S l1 l2 vs ws s) (fun _ _ => False) s)
    {A₀ : Around} {env : Env} {outer : List Env} {h₀ : Heap} {L : Addr} {m : Str → Option Value} {s : Shared} {dp un : Nat} {gd : Option (List Code)} {news : List (Addr × Obj)} {Q : Value → Shared → Prop} {E : Value → Shared → Prop}
    (B : Below A₀ base outer h₀) (F : Fr h₀ L s.heap m) (N : News h₀ L s.heap news) (hf : env.frame = some L) (hk : env.scope.kind = .function) (hroom : dp < recursionLimit) (hB : AllBare s.gens) (hp : ∀ p ∈ pre, p ∈ news)
    (k : ∀ (a g L' : Nat) h' tk' gens', AllBare gens' → Fr h₀ L h' m → News h₀ L h' news → (L ≠ L' ∧ h₀.get? L' = none ∧ ∀ p ∈ news, p.1 ≠ L') → GenNew prog w vs ds a g L' h' gens' → Q (.ref a) { s with heap := h', toks := tk', gens := gens' }) :
    wpAny (model prog w) { handled := none, depth := dp, frames := some (env :: outer), guards := gd, units := un } (call (.ref f) fn) Q E s := by
  have Np : News h₀ L s.heap pre := fun q hq => N q (hp q hq)
  obtain ⟨FG, BG, st, _⟩ := groundX (R := fun _ _ => True) (A := Ar dp un env outer) B F Np rfl hf hk
  have X₀ := X.keeps B.stays
  have T₀ := T.keeps B.stays
  have X' := X₀.keeps st
  have T' := T₀.keeps st
  refine wpAny_call (codeAny_call_generator hroom ((X₀.keeps F.keep) _ _ ho) rfl hco hgen rfl (codeRec_of (X₀.keeps F.keep) hcd) (hbind s (X₀.keeps F.keep) _ _ _ _ ?_))
  have nol : s.heap.NoLimit := T₀.nolimit.keeps F.keep
  refine wpAny_newFunctionEnv hcell hloc (fun h₁ hns₁ hsb₁ => ⟨nol.fresh _ hsb₁, ?_⟩) hfun
  have hk₁ : ∀ b o, s.heap.get? b = some o → h₁.get? b = some o := fun b o e => hsb₁.extBut b o (Nat.ne_of_lt (Heap.lt_size e)) (Heap.get?_push_of_some _ e)
  have hsz : h₁.objs.size = s.heap.objs.size + 1 := by rw [hsb₁.1, Heap.size_push]
  obtain ⟨oL, _, _, hoL, _⟩ := id F.ns
  have hLlt : @LT.lt Nat _ L s.heap.objs.size := Heap.lt_size hoL
  have hcs : @LT.lt Nat _ cStatics s.heap.objs.size := by obtain ⟨mc, ⟨o, _, _, ho, _⟩, _⟩ := nol; exact Heap.lt_size ho
  have hkp : ∀ b o, s.heap.get? b = some o → (h₁.push { cls := .type "generator", data := .fields #[.int s.gens.size 0, .str name (s.toks + binds.length), .str qual (s.toks + binds.length + 1)] }).get? b = some o := fun b o e => Heap.get?_push_of_some _ (hk₁ b o e)
  refine k h₁.objs.size s.gens.size s.heap.objs.size _ _ _ (hB.push rfl) (F.keeps hkp) (fun q hq => ⟨hkp _ _ (N q hq).1, (N q hq).2⟩) ⟨Nat.ne_of_lt hLlt, ?_, fun q hq => Nat.ne_of_lt (Heap.lt_size (N q hq).1)⟩ ⟨⟨_, _, _, Heap.get?_push_size _ rfl, rfl, rfl, rfl⟩, nol.keeps hkp, (by show s.heap.objs.size < h₁.objs.size; omega), Nat.ne_of_lt hcs, _, Array.getElem?_push_size .., ?_⟩
  · cases q : h₀.get? s.heap.objs.size with
    | none => rfl
    | some o => exact absurd (Heap.lt_size (F.keep _ _ q)) (Nat.lt_irrefl _)
  · intro A S s'' hA hS hal hSs
    have hz2 : (h₁.push { cls := .type "generator", data := .fields #[.int s.gens.size 0, .str name (s.toks + binds.length), .str qual (s.toks + binds.length + 1)] }).objs.size = s.heap.objs.size + 2 := by rw [Heap.size_push, hsz]
    have hS' : s.heap.objs.size + 2 ≤ S := by rw [← hz2]; exact hS
    have ltn : ∀ q ∈ pre, @LT.lt Nat _ q.1 s.heap.objs.size := fun q hq => Heap.lt_size (Np q hq).1
    have up : ∀ (b : Nat) o, s.heap.get? b = some o → s''.heap.get? b = some o := fun b o e => by
      have : @LT.lt Nat _ b s.heap.objs.size := Heap.lt_size e
      exact hal b o (by show b ≠ S; omega) (hkp b o e)
    have hn'' : s''.heap.Ns s.heap.objs.size (fun x => binds.reverse.lookup x) := (hns₁.push _).at' fun o e => hal _ o (by show s.heap.objs.size ≠ S; omega) e
    have l1s := ltn _ hm1
    have l2s := ltn _ hm2
    refine seg_xfresh (L' := s.heap.objs.size) (l1 := l1) (l2 := l2) (tl := tl) hA hlen (fun j v hj => ?_) ⟨by omega, by omega, by omega, by omega, by show s.heap.objs.size < S; omega⟩ (fun q hq => ?_) (k1v _) (k1s _) (k1o _) hfun hco hne hdb (hfold _) s'' _ hn'' (fun q hq => up _ _ (Np q (htl q hq)).1) fun A' hA' => ?_
    · obtain ⟨a, t, t', d, e, hd, hm⟩ := hI.at_ j v hj
      exact ⟨a, _, _, e, hm, d, t, t', hd, rfl, rfl⟩
    · have := ltn q (htl q hq)
      exact ⟨(by show @LT.lt Nat _ q.1 S; omega), Nat.ne_of_lt this⟩
    · refine hiter (hideAll s.heap (pre.map (·.1))) s.heap.objs.size S s'' A' _ _ hA' BG ⟨hn'', fun b o e => up b o (of_hideAll _ e), Nat.le_of_eq (hideAll_size _ _)⟩
        (fun q hq => ⟨up _ _ (Np q hq).1, Nat.ne_of_lt (ltn q hq), hideAll_none _ (List.mem_map_of_mem hq)⟩) X' T' (by omega) (by omega) hSs
end

end
section
open PySem PySem.W PyProof.Rows PySem.Calls

/-- an own exception's class and its dict -/
def EP (C de : Addr) (o : Obj) : Prop := o.cls = .ref C ∧ o.dict = some de
theorem EP.map {C de : Addr} {o : Obj} {f : Array Value → Array Value} (x : EP C de o) : EP C de (Obj.mapFields f o) := by
  obtain ⟨c, d, da, sl⟩ := o
  cases da <;> exact x

/-- the exception e of class C with dict de, with a traceback, its head in flight fl -/
def TrD (h base : Heap) (e C de : Addr) (fl : Value) : Prop :=
  ∃ oe vs T oT ts, h.get? e = some oe ∧ EP C de oe ∧ oe.data = .fields vs ∧ vs[1]? = some (.ref T) ∧ base.get? T = none ∧ T ≠ e ∧ h.get? T = some oT ∧ oT.data = .fields ts ∧ ts[3]? = some fl

def FlyD (base : Heap) (l : List Env) (e C de : Addr) (fl : Value) (h : Heap) : Prop :=
  base.StaysIn h ∧ base.get? e = none ∧ h.FunFrames base l ∧ TrD h base e C de fl
theorem FlyD.there {base h : Heap} {l : List Env} {e C de : Addr} {fl : Value} (x : FlyD base l e C de fl h) : ∃ oe, h.get? e = some oe ∧ EP C de oe := by
  obtain ⟨_, _, _, oe, _, _, _, _, h1, h2, _⟩ := x
  exact ⟨oe, h1, h2⟩

section
variable {M : Model} {A : Around} {E : Value → Shared → Prop} {s : Shared} {base : Heap} {env : Env} {outer : List Env} {L e C de : Addr} {Q : Unit → Shared → Prop}

/-- what a record changes leaves what is none -/
theorem slots_upd {h : Heap} {a : Addr} {o : Obj} {vs : Array Value} {f : Array Value → Array Value} (ho : h.get? a = some o) (hd : o.data = .fields vs) : h.UpToSlots (h.update a (Obj.mapFields f)) := fun b ob hb hn => by
  by_cases q : a = b
  · subst q; rw [ho] at hb; cases hb; exact absurd hd (hn vs)
  · exact ⟨ob.slots, (Heap.get?_update_other _ _ q).trans hb⟩

/-- a new head of the traceback -/
theorem entryD {oe : Obj} {vs : Array Value} {head : Value} {hadNext : Bool}
    (hfr : A.frames = some (env :: outer)) (hl : s.heap.FunFrames base (env :: outer)) (hf : env.frame = some L)
    (he : s.heap.get? e = some oe) (hP : EP C de oe) (hkb : base.StaysIn s.heap) (hen : base.get? e = none) (hd : oe.data = .fields vs) (hsz : 1 < vs.size)
    (h : ∀ h', FlyD base (env :: outer) e C de (rawInt L) h' → s.heap.UpToSlots h' → Q () { s with heap := h' }) :
    wpAny M A (do let a ← frameOf env; let pl ← entryPlaceOf L hadNext; let b ← EntryCells.newEntry head a .none (rawInt L) .none pl; setField (.ref e) 1 b) Q E s := by
  have hene : e ∉ (env :: outer).filterMap (·.frame) := fun hm => by
    obtain ⟨_, o, ho, hnf⟩ := hl.mem hm
    rw [he] at ho
    exact hnf vs (Option.some.inj ho ▸ hd)
  refine wpAny_bind (wpAny_frameOf_fun hfr hl hf fun h₁ hs₁ => ?_)
  refine wpAny_bind (wpAny_entryPlaceOf fun pl hpl => ?_)
  unfold EntryCells.newEntry newFields
  refine wpAny_bind (wpAny_newObj_type ?_ (hpl.sizeOk5 _ _ _ _ _))
  have up₁ : s.heap.UpToSlots h₁ := fun b o hb _ => hs₁.2.2 b o hb
  have he₁ : h₁.get? e = some oe := (hs₁.2.1 e hene).trans he
  have kb₁ : base.StaysIn h₁ := fun b o hbo => (hs₁.2.1 b fun hm => by rw [(hl.mem hm).1] at hbo; cases hbo).trans (hkb b o hbo)
  have fl₁ : h₁.FunFrames base (env :: outer) := hl.of_keeps fun b o hb hnf => by obtain ⟨sl, hs⟩ := hs₁.2.2 b o hb; exact ⟨_, hs, rfl⟩
  generalize hob : ({ cls := .type "traceback", dict := none, data := .fields ([head, .ref L, .none, rawInt L, .none] ++ (if pl.isEmpty then List.replicate 6 Value.none else pl)).toArray } : Obj) = ob
  have hobd : ob.data = .fields ([head, .ref L, .none, rawInt L, .none] ++ (if pl.isEmpty then List.replicate 6 Value.none else pl)).toArray := by rw [← hob]
  have he₂ := Heap.get?_push_of_some (h := h₁) ob he₁
  refine wpAny_setField he₂ hd hsz ?_
  have hTe : h₁.objs.size ≠ e := Nat.ne_of_gt (Heap.lt_size he₁)
  have hd₃ := Obj.data_mapFields hd (·.setIfInBounds 1 (Value.ref h₁.objs.size))
  have he₃ := Heap.get?_update_self (Obj.mapFields (·.setIfInBounds 1 (Value.ref h₁.objs.size))) he₂ (Obj.isFreed_of_fields hd₃)
  have up₂ : h₁.UpToSlots ((h₁.push ob).update e (Obj.mapFields (·.setIfInBounds 1 (Value.ref h₁.objs.size)))) :=
    (Heap.UpToSlots.of_keeps fun b o hb => Heap.get?_push_of_some _ hb).trans (slots_upd he₂ hd)
  refine h _ ⟨fun b o hbo => ?_, hen, fl₁.of_keeps fun b o hb hnf => ?_, ?_⟩ (up₁.trans up₂)
  · exact (Heap.get?_update_other _ _ (fun q => by rw [← q, hen] at hbo; cases hbo)).trans (Heap.get?_push_of_some _ (kb₁ b o hbo))
  · obtain ⟨sl, hs⟩ := up₂ b o hb hnf
    exact ⟨_, hs, rfl⟩
  · refine ⟨_, _, h₁.objs.size, ob, _, he₃, hP.map, hd₃, by simp [hsz], kb₁.fresh, hTe, ?_, hobd, ?_⟩
    · exact (Heap.get?_update_other _ _ (Ne.symm hTe)).trans (Heap.get?_push_size _ (by rw [← hob]; rfl))
    · first | (simp; done) | (rcases hpl with rfl | ⟨_, _, _, _, _, _, _, rfl⟩ <;> simp)

/-- the first frame -/
theorem noteFirstD {oe : Obj} {vs : Array Value} (hfr : A.frames = some (env :: outer)) (hl : s.heap.FunFrames base (env :: outer)) (hf : env.frame = some L)
    (he : s.heap.get? e = some oe) (hP : EP C de oe) (hkb : base.StaysIn s.heap) (hen : base.get? e = none) (hd : oe.data = .fields vs) (h1 : vs[1]? = some .none)
    (h : ∀ h', FlyD base (env :: outer) e C de (rawInt L) h' → s.heap.UpToSlots h' → Q () { s with heap := h' }) : wpAny M A (noteFrame (.ref e) env) Q E s := by
  unfold noteFrame
  simp only [hf]
  refine wpAny_bind (wpAny_field he hd h1 ?_)
  rw [if_neg (by decide)]
  exact entryD hfr hl hf he hP hkb hen hd (Array.getElem?_eq_some_iff.mp h1).1 h

/-- the frames outward -/
theorem noteNextD (hfr : A.frames = some (env :: outer)) (hf : env.frame = some L) (x : FlyD base (env :: outer) e C de .none s.heap)
    (h : ∀ h', FlyD base (env :: outer) e C de (rawInt L) h' → s.heap.UpToSlots h' → Q () { s with heap := h' }) : wpAny M A (noteFrame (.ref e) env) Q E s := by
  obtain ⟨hkb, hen, hl, oe, vs, T, oT, ts, he, hP, hd, h1, hnT, hTe, hT, hdT, h3⟩ := x
  unfold noteFrame
  simp only [hf]
  refine wpAny_bind (wpAny_field he hd h1 ?_)
  rw [if_pos (show (Value.ref T != Value.none) = true from by simp)]
  refine wpAny_bind (wpAny_field hT hdT h3 ?_)
  rw [if_neg (show ¬ ((Value.none == rawInt L) = true) from by simp [rawInt])]
  refine wpAny_bind (wpAny_setField hT hdT (Array.getElem?_eq_some_iff.mp h3).1 ?_)
  have up : s.heap.UpToSlots (s.heap.update T (Obj.mapFields (·.setIfInBounds 3 Value.none))) := slots_upd hT hdT
  refine entryD hfr (hl.of_keeps fun b o hb hnf => by obtain ⟨sl, hs⟩ := up b o hb hnf; exact ⟨_, hs, rfl⟩) hf ((Heap.get?_update_other _ _ hTe).trans he) hP
    (fun b o hbo => (Heap.get?_update_other _ _ fun q => by rw [← q, hnT] at hbo; cases hbo).trans (hkb b o hbo)) hen hd (Array.getElem?_eq_some_iff.mp h1).1 fun h' k1 k2 => h h' k1 (up.trans k2)

theorem flightD {l : List Env} {fl : Value} (x : FlyD base l e C de fl s.heap) (h : ∀ h', FlyD base l e C de .none h' → s.heap.UpToSlots h' → Q () { s with heap := h' }) : wpAny M A (setFlight (.ref e) none) Q E s := by
  obtain ⟨hkb, hen, hl, oe, vs, T, oT, ts, he, hP, hd, h1, hnT, hTe, hT, hdT, h3⟩ := x
  have hsz3 : 3 < ts.size := (Array.getElem?_eq_some_iff.mp h3).1
  unfold setFlight
  refine wpAny_bind (wpAny_field he hd h1 ?_)
  rw [if_pos (show (Value.ref T != Value.none) = true from by simp)]
  have up : s.heap.UpToSlots (s.heap.update T (Obj.mapFields (·.setIfInBounds 3 ((none : Option Addr).elim Value.none fun f => rawInt f)))) := slots_upd hT hdT
  refine wpAny_setField hT hdT hsz3 (h _ ⟨fun b o hbo => (Heap.get?_update_other _ _ fun q => by rw [← q, hnT] at hbo; cases hbo).trans (hkb b o hbo), hen,
    hl.of_keeps fun b o hb hnf => by obtain ⟨sl, hs⟩ := up b o hb hnf; exact ⟨_, hs, rfl⟩, oe, vs, T, _, _, (Heap.get?_update_other _ _ hTe).trans he, hP, hd, h1, hnT, hTe, Heap.get?_update_self _ hT (Obj.isFreed_of_fields (Obj.data_mapFields hdT _)), Obj.data_mapFields hdT _, by simp [hsz3]⟩ up)

theorem FlyD.outward {fl : Value} {h : Heap} (x : FlyD base (env :: outer) e C de fl h) : FlyD base outer e C de fl h := ⟨x.1, x.2.1, x.2.2.1.2.2, x.2.2.2⟩

theorem leavesFirstD {oe : Obj} {vs : Array Value} (hfr : A.frames = some (env :: outer)) (hl : s.heap.FunFrames base (env :: outer)) (hf : env.frame = some L)
    (he : s.heap.get? e = some oe) (hP : EP C de oe) (hkb : base.StaysIn s.heap) (hen : base.get? e = none) (hd : oe.data = .fields vs) (h1 : vs[1]? = some .none)
    (h : ∀ h', FlyD base outer e C de .none h' → s.heap.UpToSlots h' → Q () { s with heap := h' }) : wpAny M A (leaving env (.ref e)) Q E s := by
  unfold leaving
  refine wpAny_bind (noteFirstD hfr hl hf he hP hkb hen hd h1 fun h₁ x₁ u₁ => flightD x₁ fun h₂ x₂ u₂ => ?_)
  exact h h₂ x₂.outward (u₁.trans u₂)
end

section
variable {prog : Program} {w : World} {A : Around} {E : Value → Shared → Prop} {h : Heap} {g : Array GenState} {d : Drawn} {t : Nat} {os : OsState}
variable {nm q : Str} {C N : Addr} {bs bm bmB : List Value} {hdct : Bool} {sn : List Str} {sub : List Value} {ab : Bool} {col : Option Bool} {dd : Option Addr} {k0 k1 k2 k3 k5 : Option Value} {B Bn newId nid initId inN : String} {bmN : List Value}

/-- an own exception class with an __init__ of its own, made, over own bases -/
theorem type_call_own (Fn : ExcBaseFacts Bn newId inN bmN) (hBn : bmB.contains (.type Bn) = true) (F : ExcBaseFacts B nid initId bmB) (T : OwnTail h bmB bm) {mN : Str → Option Value} {rest : List Value} {fI : Addr} {oI : Obj} {Q : Fin → Shared → Prop}
    (hC : h.get? C = some (excClassObj nm q C N bs bm hdct sn sub ab col dd k0 k1 k2 k3 k5 newId)) (hn : h.Ns N mN) (hi : mN "__init__" = some (.ref fI)) (hfI : h.get? fI = some oI) (hfc : oI.cls = .type "function")
    (hq : ∀ h' e, Heap.MadeExcOf h h' e (.ref C) rest → wpAny (model prog w) A (call (.ref fI) (.ref e :: rest)) (fun r s' => r = .none ∧ Q (.done (.ret (.ref e))) s') E ⟨h', g, d, t, os⟩) (hrest : rest.length ≤ sizeLine := by size_fits) :
    wpAny (model prog w) A (Builtin.«type.__call__» ⟨.ref C :: rest, []⟩) Q E ⟨h, g, d, t, os⟩ := by
  repeat (first | with_reducible refine wpAny_loadPart_at hC ?_ | with_reducible refine wpAny_madeBy_exc hC ?_ | wp_step)
  refine codeAny_call_builtin_code (Code.quiet_builtin _ Fn.quiet) (wpAny_check_new_subU Fn hBn T hC ?_)
  refine codeAny_exc_new_subU Fn hBn F T hC ?_ hrest
  show wpAny _ _ _ _ _ _
  have up : ∀ b o, h.get? b = some o → ((h.push { cls := .type "tuple", data := .seq rest.toArray }).push { cls := .ref C, data := .fields #[.ref h.objs.size, .none, .none, .none, .bool false, .none] }).get? b = some o :=
    fun b o e => Heap.get?_push_of_some _ (Heap.get?_push_of_some _ e)
  have hC₁ := up _ _ hC
  have hfI₁ := up _ _ hfI
  have hn₁ := hn.at' fun o e => up _ o e
  have T₁ := T.keeps up
  have hget : ((h.push { cls := .type "tuple", data := .seq rest.toArray }).push
      { cls := .ref C, data := .fields #[.ref h.objs.size, .none, .none, .none, .bool false, .none] }).get? (h.objs.size + 1) = some
      { cls := .ref C, data := .fields #[.ref h.objs.size, .none, .none, .none, .bool false, .none] } := by heap_get
  have hcC : (Value.ref C :: bm).contains (.ref C) = true := by simp
  unfold isInstance
  repeat (first | with_reducible refine wpAny_loadPart_at hget ?_ | (with_reducible refine wpAny_isSubtype_exc hC₁ ?_; rw [hcC]) | wp_step)
  show wpAny _ _ (typeLookup (.ref C) _) _ _ _
  refine wpAny_typeLookup_tail hC₁ hn₁ T₁ F.mroIs F.init.lookup ?_
  rw [hi]
  refine wpAny_holding (wpAny_bind ?_)
  unfold bindSpecial
  refine wpAny_bind (wpAny_typeOf (T := "function") ⟨_, hfI₁, hfc⟩ ?_)
  rw [if_pos (by decide)]
  refine wpAny_pure (wpAny_bind (wpAny_mono (hq _ (h.objs.size + 1) ⟨up, Heap.get?_none_of_le (Nat.le_succ _), h.objs.size, hget, Heap.get?_none_of_le (Nat.le_refl _), Heap.get?_push_of_some _ (Heap.get?_push_at rfl rfl)⟩) (fun r s' hr => ?_) fun _ _ x => x))
  obtain ⟨rfl, hQ⟩ := hr
  wp_walk
  exact hQ

theorem call_own (Fn : ExcBaseFacts Bn newId inN bmN) (hBn : bmB.contains (.type Bn) = true) (F : ExcBaseFacts B nid initId bmB) (T : OwnTail h bmB bm) {mN : Str → Option Value} {rest : List Value} {fI : Addr} {oI : Obj} {Q : Value → Shared → Prop}
    (hC : h.get? C = some (excClassObj nm q C N bs bm hdct sn sub ab col dd k0 k1 k2 k3 k5 newId)) (hn : h.Ns N mN) (hi : mN "__init__" = some (.ref fI)) (hfI : h.get? fI = some oI) (hfc : oI.cls = .type "function")
    (hq : ∀ h' e, Heap.MadeExcOf h h' e (.ref C) rest → wpAny (model prog w) (A.under (.builtin "type.__call__" ⟨.ref C :: rest, []⟩)) (call (.ref fI) (.ref e :: rest)) (fun r s' => r = .none ∧ Q (.ref e) s') E ⟨h', g, d, t, os⟩) (hrest : rest.length ≤ sizeLine := by size_fits) :
    wpAny (model prog w) A (call (.ref C) rest) Q E ⟨h, g, d, t, os⟩ := by
  have f1 := tc_lookup
  have f2 := tc_bind (.ref C)
  have hT : (⟨h, g, d, t, os⟩ : Shared).TypeIs (.ref C) "type" := ⟨_, hC, rfl⟩
  refine wpAny_call (codeAny_of_tree ?_)
  show wpAny _ _ (callAny (.ref C) _) _ _ _
  repeat (any_goals (first | assumption | with_reducible refine wpAny_loadPart_at hC ?_ | wp_step))
  refine ⟨rfl, ?_⟩
  refine codeAny_call_builtin_at (Code.quiet_builtin _ (by decide +kernel)) entry_typeCall (wpAny_check_type_call_sub hC (type_call_own (hrest := hrest) Fn hBn F T hC hn hi hfI hfc fun h' e hm => ?_))
  exact hq h' e hm

/-- raising what is made, whatever its dict -/
theorem raise_own {env : Env} {s : Shared} {x : Sem Value} {Q : Flow → Shared → Prop} (hbase : bm.contains (.type "BaseException") = true) (hh : A.handled = none)
    (hx : wpAny (model prog w) A x (fun v s₁ => ∃ e t de, v = .ref e ∧ s₁.heap.get? C = some (excClassObj nm q C N bs bm hdct sn sub ab col dd k0 k1 k2 k3 k5 newId) ∧
      s₁.heap.get? e = some { cls := .ref C, dict := de, data := .fields #[.ref t, .none, .none, .none, .bool false, .none] } ∧ E (.ref e) s₁) E s) :
    wpAny (model prog w) A (raiseStmt env (some x) none) Q E s := by
  have hcB : (Value.ref C :: bm).contains (.type "BaseException") = true := by rw [List.contains_cons, hbase, Bool.or_true]
  unfold raiseStmt
  refine wpAny_bind (wpAny_mono hx (fun v s₁ h₁ => ?_) fun _ _ x => x)
  obtain ⟨e, t, de, rfl, hC, he, hE⟩ := h₁
  obtain ⟨hp, g, d, tk, os⟩ := s₁
  repeat (first | with_reducible refine wpAny_loadPart_at he ?_ | with_reducible refine wpAny_loadPart_at hC ?_ | (with_reducible refine wpAny_isSubtype_exc hC ?_; rw [hcB]) | wp_step)
  exact wpAny_raiseNew_none hh hE
end

end
section
open PySem PySem.W PyProof.Rows PySem.Calls
section
open PySem.F
theorem xk_slot_wd_get : Slot "wrapper_descriptor" "__get__" "wrapper_descriptor.__get__" := .of (owner := "wrapper_descriptor") (n := "__get__") (by rw [typeLookup_type, builtinLookup_eq_fast]; kernel_rfl) (by decide +kernel) (by decide +kernel) (by decide +kernel)
  (by first | exact .inl (by decide +kernel) | exact .inr (by decide +kernel)) (by rw [isSubtype_type]; kernel_rfl)
theorem xk_entry_wd_get : entryFor table "wrapper_descriptor.__get__" = some Builtin.«wrapper_descriptor.__get__» := entryFor_of_tree (by kernel_rfl)
theorem xk_getArgs_wd (a b c : Value) : argsOk "wrapper_descriptor.__get__" ⟨[a, b, c], []⟩ := by unfold argsOk; kernel_rfl
theorem xk_typeOf_init : typeOf (.builtin "Exception.__init__") = pure (.type "wrapper_descriptor") := by kernel_rfl
end
section
variable {prog : Program} {w : World} {A : Around} {E : Value → Shared → Prop} {h : Heap} {g : Array GenState} {d : Drawn} {t : Nat} {os : OsState} {M : Model}
theorem xk_name : ".".intercalate ("Exception.__init__".cutAt '.').dropLast = "Exception" := by kernel_rfl
theorem xk_wd_get {x C : Addr} {ox : Obj} {Q : Fin → Shared → Prop} (hx : h.get? x = some ox) (hc : ox.cls = .ref C) (hsub : Looks M h (isSubtype (.ref C) (.type "Exception")) true)
    (hq : Q (.done (.ret (.ref h.objs.size))) ⟨h.push { cls := .type "method-wrapper", data := .fields #[.builtin "Exception.__init__", .ref x] }, g, d, t, os⟩) :
    wpAny M A (Builtin.«wrapper_descriptor.__get__» ⟨[.builtin "Exception.__init__", .ref x, .ref C], []⟩) Q E ⟨h, g, d, t, os⟩ := by
  unfold Builtin.«wrapper_descriptor.__get__»
  repeat (first | (with_reducible refine wpAny_loadPart_at hx ?_; rw [hc]) | (rw [xk_name]) | (with_reducible refine Looks.at hsub ?_) | wp_step | dsimp only)
  all_goals exact hq

theorem xk_super_ga {so D x C : Addr} {ox : Obj} {l₀ l : List Value} {K : Frag} {tk : Tok} {Q : Fin → Shared → Prop}
    (hso : h.get? so = some { cls := .type "super", dict := none, data := .fields #[.ref D, .ref x, .ref C], slots := #[] }) (hno : Looks (model prog w) h (opaqueClassAbove (.ref C)) none)
    (hC : Looks (model prog w) h (mroOf (.ref C)) l₀) (hl : (l₀.dropWhile (· != .ref D)).drop 1 = l) (X : K.In h)
    (hf : alongIn K "__init__" l = some (some (.builtin "Exception.__init__"))) (hxC : x ≠ C) (hx : h.get? x = some ox) (hc : ox.cls = .ref C) (hsub : Looks (model prog w) h (isSubtype (.ref C) (.type "Exception")) true)
    (hq : Q (.done (.ret (.ref h.objs.size))) ⟨h.push { cls := .type "method-wrapper", data := .fields #[.builtin "Exception.__init__", .ref x] }, g, d, t, os⟩) :
    wpAny (model prog w) A (Builtin.«super.__getattribute__» ⟨[.ref so, .str "__init__" tk], []⟩) Q E ⟨h, g, d, t, os⟩ := by
  have hlk := xk_slot_wd_get.lookup
  have hne : (Value.ref x == Value.ref C) = false := by simp [hxC]
  have hn : (("__init__" : Str) == ("__class__" : Str)) = false := by decide
  have hdt : ({ cls := .type "super", dict := none, data := .fields #[.ref D, .ref x, .ref C], slots := #[] } : Obj).data = .fields #[.ref D, .ref x, .ref C] := rfl
  have f0 : (#[.ref D, .ref x, .ref C] : Array Value)[0]? = some (.ref D) := rfl
  have f1 : (#[.ref D, .ref x, .ref C] : Array Value)[1]? = some (.ref x) := rfl
  have f2 : (#[.ref D, .ref x, .ref C] : Array Value)[2]? = some (.ref C) := rfl
  unfold Builtin.«super.__getattribute__»
  repeat (first
    | (with_reducible refine wpAny_field hso hdt f0 ?_) | (with_reducible refine wpAny_field hso hdt f1 ?_) | (with_reducible refine wpAny_field hso hdt f2 ?_)
    | (with_reducible refine ks_wpAny_notOpaque hno ?_)
    | (with_reducible refine Looks.at hC ?_; rw [hl])
    | (refine ks_forIn_along X (fun _ _ => rfl) rfl ?_ hf)
    | (with_reducible refine wpAny_of_eq xk_typeOf_init ?_)
    | (simp only [hn, hne, Bool.or_false, Bool.false_eq_true, if_false])
    | wp_step
    | dsimp only)
  refine codeAny_call_builtin xk_slot_wd_get.plain xk_entry_wd_get (xk_slot_wd_get.check _ _ _ _ _ _ _ _ rfl (xk_getArgs_wd _ _ _) (xk_wd_get hx hc hsub ?_))
  repeat (first | wp_step | dsimp only)
  all_goals exact hq
theorem xk_getMethod_super {so D x C : Addr} {ox : Obj} {l₀ l : List Value} {K : Frag} {pl : Sem Bool} {Q : Value × List Value → Shared → Prop}
    (hso : h.get? so = some { cls := .type "super", dict := none, data := .fields #[.ref D, .ref x, .ref C], slots := #[] }) (hno : Looks (model prog w) h (opaqueClassAbove (.ref C)) none)
    (hC : Looks (model prog w) h (mroOf (.ref C)) l₀) (hl : (l₀.dropWhile (· != .ref D)).drop 1 = l) (X : K.In h)
    (hf : alongIn K "__init__" l = some (some (.builtin "Exception.__init__"))) (hxC : x ≠ C) (hx : h.get? x = some ox) (hc : ox.cls = .ref C) (hsub : Looks (model prog w) h (isSubtype (.ref C) (.type "Exception")) true)
    (hq : Q (.ref h.objs.size, []) ⟨h.push { cls := .type "method-wrapper", data := .fields #[.builtin "Exception.__init__", .ref x] }, g, d, t + 1, os⟩) :
    wpAny (model prog w) A (getMethod (.ref so) "__init__" pl) Q E ⟨h, g, d, t, os⟩ := by
  have hlk := PySem.F.ks_slot_super_ga.lookup
  have hcan := PySem.F.ks_canon_super_ga
  have hT : ∀ t', (⟨h, g, d, t', os⟩ : Shared).TypeIs (.ref so) "super" := fun _ => ⟨_, hso, rfl⟩
  unfold getMethod
  refine wpAny_bind (wpAny_specialOf (hT _) hlk ?_)
  show wpAny _ _ (if (Manifest.canonical "super.__getattribute__" != "object.__getattribute__") = true then _ else _) _ _ _
  rw [if_pos hcan]
  unfold getAttr getAttrBy
  refine wpAny_bind (wpAny_bind (wpAny_mkText (wpAny_holding (wpAny_bind (wpAny_typeOf (hT _) (wpAny_bind (wpAny_of_eq hlk ?_)))))))
  show wpAny _ _ (getAttrByItsOwn (.ref so) (.str "__init__" t) (.type "super") (.builtin "super.__getattribute__") true false) _ _ _
  unfold getAttrByItsOwn hookBefore callGetattribute boundAndCalled
  refine wpAny_bind (wpAny_of_eq (show (if onTheHeap (.type "super") then typeLookup (.type "super") "__getattr__" else pure none) = pure none from rfl) ?_)
  refine wpAny_bind (wpAny_attempt (wpAny_holding ?_))
  show wpAny _ _ (bindSpecial (.builtin "super.__getattribute__") (.ref so) >>= _) _ _ _
  refine wpAny_bind (wpAny_of_eq (PySem.F.ks_slot_super_ga.bind _) ?_)
  refine wpAny_call_entry PySem.F.ks_slot_super_ga (hT _) PySem.F.ks_entry_super_ga (xk_super_ga hso hno hC hl X hf hxC hx hc hsub ⟨_, rfl, ?_⟩) (PySem.F.ks_gaArgs_super _ _)
  exact wpAny_pure (wpAny_pure hq)
end


end
section
open PySem PySem.W PyProof.Rows PySem.Calls Builtin Builtin.ObjectAttr
section
variable {prog : Program} {w : World} {A : Around} {E : Value → Shared → Prop} {h : Heap} {g : Array GenState} {d : Drawn} {t : Nat} {os : OsState}
variable {nm q : Str} {C N : Addr} {bs bm bmB : List Value} {hdct : Bool} {sn : List Str} {sub : List Value} {ab : Bool} {col : Option Bool} {dd : Option Addr} {k0 k1 k2 k3 k5 : Option Value} {B Bn newId nid initId inN : String} {bmN : List Value}

theorem check_bound_own (F : ExcBaseFacts B nid initId bmB) {M : Model} {e : Addr} {oe : Obj} {rest : List Value} {Q : Unit → Shared → Prop}
    (hC : h.get? C = some (excClassObj nm q C N bs bm hdct sn sub ab col dd k0 k1 k2 k3 k5 newId)) (he : h.get? e = some oe) (hcls : oe.cls = .ref C) (hq : Q () ⟨h, g, d, t, os⟩) :
    wpAny M A (checkBoundCall initId ⟨.ref e :: rest, []⟩) Q E ⟨h, g, d, t, os⟩ := by
  have hshort := F.noStar
  simp only [checkBoundCall, F.initKind, F.initRow]
  repeat (first | (with_reducible refine wpAny_loadPart_at he ?_; rw [hcls]) | with_reducible refine wpAny_loadPart_at hC ?_ | wp_step)
  refine wpAny_onRaise ?_
  rw [show ∀ (a b : String) (n : Nat), Bind.check ⟨.positional, "*", B, .self, [⟨"args", .varPos, false⟩]⟩ a b n (List.map (fun x => x.fst) ({ pos := Value.ref e :: rest } : Args).kw) = pure () from
    fun a b n => check_star_args _ _ _ _ _ _]
  exact wpAny_pure hq

/-- the bound __init__ of the exceptions, called with one thing -/
theorem mw_call {mw e : Addr} {t0 : Addr} {a1 a2 a3 a4 a5 v : Value} {Q : Value → Shared → Prop} (hmw : h.get? mw = some { cls := .type "method-wrapper", data := .fields #[.builtin "Exception.__init__", .ref e] })
    (hC : h.get? C = some (excClassObj nm q C N bs bm hdct sn sub ab col dd k0 k1 k2 k3 k5 newId))
    (he : h.get? e = some { cls := .ref C, data := .fields #[.ref t0, a1, a2, a3, a4, a5] })
    (hq : ∀ h', h'.get? h.objs.size = some { cls := .type "tuple", data := .seq #[v] } → h'.get? e = some { cls := .ref C, data := .fields #[.ref h.objs.size, a1, a2, a3, a4, a5] } → (∀ b o, b ≠ e → h.get? b = some o → h'.get? b = some o) →
      h'.objs.size = h.objs.size + 1 → Q .none ⟨h', g, d, t, os⟩) :
    wpAny (model prog w) A (call (.ref mw) [v]) Q E ⟨h, g, d, t, os⟩ := by
  have F := PySem.F.excBase_Exception
  refine wpAny_call (codeAny_of_tree ?_)
  show wpAny _ A.in1 (callAny (.ref mw) _) _ _ _
  unfold callAny
  refine wpAny_bind (wpAny_load hmw ?_)
  dsimp only
  rw [if_pos (by decide)]
  refine wpAny_bind (check_bound_own F hC he rfl ?_)
  refine wpAny_pure ⟨Code.quiet_builtin _ (by decide +kernel), codeAny_builtin F.initEntry ?_⟩
  unfold Builtin.«BaseException.__init__» Builtin.BaseException.bexcPut
  have he1 := Heap.get?_push_of_some { cls := .type "tuple", data := .seq [v].toArray } he
  refine wpAny_bind (wpAny_newTuple ?_)
  refine wpAny_bind (wpAny_bind (wpAny_field he1 rfl rfl (wpAny_bind (wpAny_setField_rec he1 (by simp) fun h2 he2 hs2 => ?_))))
  refine wpAny_letGo (wpAny_pure ?_)
  have hlt := Heap.lt_size he
  refine hq h2 ?_ (by simpa using he2) (fun b o hb e => hs2.extBut b o hb (Heap.get?_push_of_some _ e)) (by rw [hs2.1, Heap.size_push])
  exact hs2.extBut _ _ (Nat.ne_of_gt hlt) (Heap.get?_push_size _ rfl)
end

/-- the class and its mro, told of the written part -/
def mroL (K : Frag) (C : Addr) (l : List Value) : Prop := (clsIn K C).map (fun cd => (cd.mro, cd.hasDict)) = some (l, true)

section
variable {prog : Program} {w : World} {A : Around} {K : Frag} {C e : Addr} {s : Shared} {h₀ : Heap} {L : Addr} {m : Str → Option Value} {news news' : List (Addr × Obj)} {R : Result → Shared → Prop} {name : Str} {v : Value}
theorem osaE {ox : Obj} {od : Option Obj} {tk : Tok} {l : List Value} (X : K.In s.heap) (I : InstAt s.heap e ox C od) (hm : mroL K C l) (hrf : refuseLoop (.ref e) "__setattr__" l = pure ()) (hob : l.contains (.type "object") = true)
    (ht : takerIn K C name = some none)
    (h : ∀ b, wpAny (model prog w) A.in1 (storeInOwnDict (.ref e) (.ref C) (.str name tk) name v b)
      (fun fin s' => match fin with | .done f => R (.ok f) s' | .again c' => c'.quiet = true ∧ codeAny (model prog w) A c' R s') (fun e s' => R (.error e) s') s) :
    codeAny (model prog w) A (.call (.builtin "object.__setattr__") ⟨[.ref e, .str name tk, v], []⟩) R s := by
  have SF := PySem.F.store_object
  obtain ⟨cd, hc, ho⟩ := Option.map_eq_some_iff.mp hm
  obtain ⟨hmro, hdct⟩ := Prod.mk.inj ho
  subst hmro
  have ne : cd.mro.isEmpty = false := by cases q : cd.mro with | nil => rw [q] at hob; cases hob | cons _ _ => rfl
  have sub : Looks (model prog w) s.heap (isInstance (.ref e) (.type "object")) true := I.type.andThen (looks_mroIn X (by unfold mroIn; rw [hc, Option.bind_some, if_neg (by rw [ne]; decide), hob]))
  refine codeAny_call_builtin SF.slot.plain SF.entry (@check_slot (model prog w) _ _ s "object.__setattr__" "object" "__setattr__" (.ref e) [.str name tk, v] [] _ SF.kind SF.split sub (SF.args (.ref e) (.str name tk) v) ?_)
  obtain ⟨attr, ha, hr⟩ := Option.bind_eq_some_iff.mp ht
  have hm : Looks (model prog w) s.heap (mroOf (.ref C)) cd.mro := (looks_clsIn X hc).andThen .now
  have L3 : Looks (model prog w) s.heap (storeTaker? attr) none := by
    cases attr with
    | none => exact .now
    | some a =>
      obtain ⟨b, hb, hb2⟩ := Option.map_eq_some_iff.mp hr
      refine (looks_takesIn X hb).andThen ?_
      cases b with
      | true => cases hb2
      | false => exact .now
  rw [osa_eq, refuse_eq]
  refine wpAny_bind (wpAny_bind (I.type.here (wpAny_bind (hm.here ?_))))
  rw [hrf]
  refine wpAny_pure (wpAny_bind (I.type.here (wpAny_bind ((looks_findIn X ha).here (wpAny_bind (L3.here ?_))))))
  exact h _

theorem set_exc_new {ox : Obj} {l : List Value} {vs : Array Value} {Q : Unit → Shared → Prop} {E : Value → Shared → Prop} (F : Fr h₀ L s.heap m) (N : News h₀ L s.heap news) (X₀ : K.In h₀) (I : InstAt s.heap e ox C none) (hd : ox.data = .fields vs)
    (hs : findIn K (.ref C) "__setattr__" = some (some (.builtin "object.__setattr__"))) (hm : mroL K C l) (hrf : refuseLoop (.ref e) "__setattr__" l = pure ()) (hob : l.contains (.type "object") = true) (ht : takerIn K C name = some none)
    (U : Upd e ox { ox with dict := some s.heap.objs.size } news news')
    (h : ∀ h', Fr h₀ L h' m → News h₀ L h' ((s.heap.objs.size, dictOf [⟨PyData.keyHash w.params name, .str name (s.toks + 1), v⟩] 1) :: news') → (∀ p ∈ news, p.1 < s.heap.objs.size) → Q () { s with heap := h', toks := s.toks + 2 }) :
    wpAny (model prog w) A (setAttr (.ref e) name v) Q E s := by
  have X := X₀.keeps F.keep
  refine set_plain X I hs (osaE (s := { s with toks := s.toks + 1 }) X I hm hrf hob ht fun b => ?_)
  obtain ⟨cd, hc, ho⟩ := Option.map_eq_some_iff.mp hm
  obtain ⟨hmro, hdct⟩ := Prod.mk.inj ho
  obtain ⟨hx, hcl, hn, hdi⟩ := I
  obtain ⟨oc, odi, oda, osl⟩ := ox
  dsimp only at hcl hd hdi
  subst hcl hd
  cases odi with
  | some _ => exact hdi.elim
  | none =>
  refine wpAny_bind (wpAny_pure (wpAny_bind (wpAny_bind (wpAny_loadPart hx (wpAny_bind ((looks_clsIn X hc) _ _ _ _ (fun _ _ e => e) ?_))))))
  rw [hdct]
  have F1 := F.push (o := { cls := .type "dict", data := .dict #[] })
  have N1 : News h₀ L (s.heap.push { cls := .type "dict", data := .dict #[] }) ((s.heap.objs.size, { cls := .type "dict", data := .dict #[] }) :: news) := N.push F _
  have ll : ∀ p ∈ news, p.1 < s.heap.objs.size := fun p hp => Heap.lt_size (N p hp).1
  obtain ⟨pre, post, rfl, rfl, a, b⟩ := U.split
  have he1 := (N1 (e, _) (.tail _ (List.mem_append_right _ (.head _)))).1
  have nde : e ≠ s.heap.objs.size := Nat.ne_of_lt (Heap.lt_size hx)
  obtain ⟨F2, N2⟩ := news_upd (pre := (s.heap.objs.size, { cls := .type "dict", data := .dict #[] }) :: pre) (f := fun o => { o with dict := some s.heap.objs.size }) F1 N1 (fun p hp => by
    rcases List.mem_cons.mp hp with rfl | hp
    · exact Ne.symm nde
    · exact a p hp) b rfl rfl
  refine wpAny_bind (wpAny_alloc (wpAny_bind (wpAny_update he1 (wpAny_bind (wpAny_pure (a := some s.heap.objs.size) ?_)))))
  refine wpAny_pure (wpAny_bind (wpAny_pure (wpAny_bind ?_)))
  have off : ∀ p ∈ pre ++ (e, (⟨.ref C, some s.heap.objs.size, .fields vs, osl⟩ : Obj)) :: post, p.1 ≠ s.heap.objs.size := fun p hp => by
    rcases List.mem_append.mp hp with h | h
    · exact Nat.ne_of_lt (ll p (List.mem_append_left _ h))
    · rcases List.mem_cons.mp h with rfl | h
      · exact nde
      · exact Nat.ne_of_lt (ll p (List.mem_append_right _ (.tail _ h)))
  obtain ⟨F3, N3⟩ := news_upd (pre := []) (post := pre ++ (e, ⟨.ref C, some s.heap.objs.size, .fields vs, osl⟩) :: post) (f := Obj.putName name (PyData.keyHash w.params name) (.str name (s.toks + 1)) v)
    (o' := dictOf [⟨PyData.keyHash w.params name, .str name (s.toks + 1), v⟩] 1) F2 N2 (fun _ h => nomatch h) off (by rfl) rfl
  have D := (N2 (s.heap.objs.size, _) (.head _)).1
  have D' := (N3 (s.heap.objs.size, _) (.head _)).1
  unfold nsSet
  refine wpAny_bind (wpAny_bind (wpAny_askSetting (wpAny_pure (wpAny_bind (wpAny_mkText (wpAny_bind (wpAny_loadPart D ?_)))))))
  dsimp only
  rw [aRefKeyMayBeTheName_at, if_neg (by simp)]
  refine wpAny_updatePart D ?_
  refine wpAny_bind (wpAny_lookBehind D' (pastItsLine_dict (by simp [sizeLine_eq])) ?_)
  exact wpAny_pure (h _ F3 N3 ll)
end

end
section
open PySem PySem.W PyProof.Rows PySem.Calls

section
variable {M : Model} {A : Around} {E : Value → Shared → Prop} {s : Shared}
theorem callWith_mw {pos : Pos} {mw : Addr} {x : Sem Value} {vs : Array Value} {Q : Value → Shared → Prop}
    (h : wpAny M A (spliced [(false, x)]) (fun vs' s₁ => Halt (s₁.heap.get? mw = some { cls := .type "method-wrapper", data := .fields vs } ∧ wpAny M A (call (.ref mw) vs') Q E s₁)) E s) :
    wpAny M A (callWith pos (.ref mw) [] [(false, x)] []) Q E s := by
  unfold callWith
  refine wpAny_bind (wpAny_holding (evalArgs_plain (wpAny_mono h (fun vs' s₁ h₁ => wpAny_bind (wpAny_standAt ?_)) fun _ _ x => x)))
  obtain ⟨hmw, h₁⟩ := h₁.it
  unfold keeperOf
  refine wpAny_bind (wpAny_bind (wpAny_load hmw (wpAny_pure ?_)))
  exact wpAny_bind (wpAny_mono h₁ (fun r s₂ hr => wpAny_bind (wpAny_holding (wpAny_point (wpAny_pure hr)))) fun _ _ x => x)
end

end
section
open PySem PySem.W PyProof.Rows PySem.Calls
theorem xk_slot_ga : Slot "BaseException" "__getattribute__" "BaseException.__getattribute__" := .of (owner := "BaseException") (n := "__getattribute__") (by rw [typeLookup_type, builtinLookup_eq_fast]; kernel_rfl) (by decide +kernel) (by decide +kernel) (by decide +kernel) (by first | exact .inl (by decide +kernel) | exact .inr (by decide +kernel)) (by rw [isSubtype_type]; kernel_rfl)
theorem xk_entry_ga : entryFor table "BaseException.__getattribute__" = some Builtin.«object.__getattribute__» :=
  entryFor_alias (id' := "object.__getattribute__") (by kernel_rfl) (by first | rfl | decide +kernel) (by decide +kernel) (by kernel_rfl)
theorem xk_args_ga (a b : Value) : argsOk "BaseException.__getattribute__" ⟨[a, b], []⟩ := by unfold argsOk; kernel_rfl
section
variable {prog : Program} {w : World} {A : Around} {E : Value → Shared → Prop} {s : Shared} {K : Frag} {x C : Addr} {ox : Obj} {name : Str} {v : Value} {h₀ : Heap} {L : Addr} {m : Str → Option Value} {news news' : List (Addr × Obj)} {es es' : List DictEntry} {n n' : Nat}
theorem get_exc {expr : Bool} {Q : Value → Shared → Prop} (F : Fr h₀ L s.heap m) (X₀ : K.In h₀) (I : InstAt s.heap x ox C (some (dictOf es n)))
    (hga : findIn K (.ref C) "__getattribute__" = some (some (.builtin "BaseException.__getattribute__"))) (hk : findIn K (.ref C) "__getattr__" = some none) (hsub : subIn K (.ref C) (.type "BaseException") = some true) (hh : hasDictIn K C = true)
    (ha : findIn K (.ref C) name = some none) (hl : getL name es = some (some v)) (hv : handedIn v = true) (h : Q v { s with toks := s.toks + 1 }) :
    wpAny (model prog w) A (getAttr (.ref x) name expr) Q E s := by
  have X := X₀.keeps F.keep
  have hf : findObj K C (some (dictOf es n)) name = some (.value v) := findObj_own hh ha rfl (by rw [lookIn_dict]; exact hl)
  refine wpAny_bind (wpAny_mkText (wpAny_holding (wpAny_bind (I.type _ _ _ _ (fun _ _ e => e) (wpAny_bind (looks_findIn X hga _ _ _ _ (fun _ _ e => e) ?_))))))
  dsimp only
  rw [show (onTheHeap (.ref C) && Value.builtin "BaseException.__getattribute__" == Value.builtin "object.__getattribute__") = false from by rw [show (Value.builtin "BaseException.__getattribute__" == Value.builtin "object.__getattribute__") = false from by decide +kernel, Bool.and_false], if_neg (by decide)]
  refine wpAny_bind (looks_hook X (mc := .ref C) (r := none) (by rw [if_pos (by rfl)]; exact hk) _ _ _ _ (fun _ _ e => e) (wpAny_bind (wpAny_attempt (wpAny_holding ?_))))
  unfold callGetattribute
  rw [show (expr && onTheHeap (Value.builtin "BaseException.__getattribute__")) = false from Bool.and_false _, if_neg (by decide)]
  unfold boundAndCalled
  rw [xk_slot_ga.bind]
  refine wpAny_bind (wpAny_pure ?_)
  show wpAny _ _ (call (.builtin "BaseException.__getattribute__") [.ref x, .str name s.toks]) _ _ _
  refine wpAny_call ?_
  refine codeAny_call_builtin xk_slot_ga.plain xk_entry_ga ?_
  refine @check_slot (model prog w) _ _ { s with toks := s.toks + 1 } "BaseException.__getattribute__" "BaseException" "__getattribute__" (.ref x) [.str name s.toks] [] _ (by decide +kernel) (by decide +kernel) (I.type.andThen (looks_subIn X hsub)) (xk_args_ga _ _) ?_
  obtain ⟨hh', g, d, t, os⟩ := s
  have L0 := I.type (M := model prog w)
  have L1 := looks_find (M := model prog w) X I hf
  refine wpAny_bind (wpAny_pure (wpAny_bind (wpAny_pure (wpAny_bind (L0.at (wpAny_bind (L1.at ?_)))))))
  refine wpAny_pure ?_
  show wpAny _ _ (handedOut v) _ _ _
  rw [handedOut_of hv]; exact wpAny_pure h

theorem set_exc_more {ox : Obj} {e dx : Addr} {l : List Value} {Q : Unit → Shared → Prop} (F : Fr h₀ L s.heap m) (N : News h₀ L s.heap news) (X₀ : K.In h₀) (I : InstAt s.heap e ox C (some (dictOf es n))) (hd : ox.dict = some dx)
    (hs : findIn K (.ref C) "__setattr__" = some (some (.builtin "object.__setattr__"))) (hm : mroL K C l) (hrf : refuseLoop (.ref e) "__setattr__" l = pure ()) (hob : l.contains (.type "object") = true) (ht : takerIn K C name = some none)
    (hl : (getL name es).isSome = true) (e0 : (putL name (PyData.keyHash w.params name) (.str name (s.toks + 1)) v es, putN name es n) = (es', n'))
    (U : Upd dx (dictOf es n) (dictOf es' n') news news') (hz : es'.length ≤ 1000)
    (h : ∀ h', Fr h₀ L h' m → News h₀ L h' news' → Q () { s with heap := h', toks := s.toks + 2 }) :
    wpAny (model prog w) A (setAttr (.ref e) name v) Q E s := by
  have X := X₀.keeps F.keep
  refine set_plain X I hs (osaE (s := { s with toks := s.toks + 1 }) X I hm hrf hob ht fun b => ?_)
  obtain ⟨cd, hc, ho⟩ := Option.map_eq_some_iff.mp hm
  obtain ⟨hmro, hdct⟩ := Prod.mk.inj ho
  obtain ⟨pre, post, rfl, rfl, h1, h2⟩ := U.split
  obtain ⟨e1, e2⟩ := Prod.mk.inj e0
  obtain ⟨U1, U2⟩ := news_upd (f := Obj.putName name (PyData.keyHash w.params name) (.str name (s.toks + 1)) v) (o' := dictOf es' n') F N h1 h2 (by rw [putName_dict, e1, e2]) rfl
  have D := (N (dx, dictOf es n) (by simp)).1
  have D' := (U2 (dx, dictOf es' n') (by simp)).1
  obtain ⟨hx, hcl, hn, -⟩ := I
  obtain ⟨oc, odi, oda, osl⟩ := ox
  dsimp only at hcl hd
  subst hcl hd
  refine wpAny_bind (wpAny_pure (wpAny_bind (wpAny_bind (wpAny_loadPart hx (wpAny_bind ((looks_clsIn X hc) _ _ _ _ (fun _ _ e => e) ?_))))))
  rw [hdct]
  refine wpAny_pure (a := some dx) (wpAny_bind (wpAny_pure (wpAny_bind ?_)))
  unfold nsSet
  refine wpAny_bind (wpAny_bind (wpAny_askSetting (wpAny_pure (wpAny_bind (wpAny_mkText (wpAny_bind (wpAny_loadPart D ?_)))))))
  dsimp only
  have hl' : (lookIn name (dictOf es n)).isSome = true := by rw [lookIn_dict]; exact hl
  unfold lookIn at hl'
  dsimp only at hl'
  have c : (!es.toArray.any (·.key.isStr name) && es.toArray.any (·.refKey)) = false := by
    rw [← Array.any_toList, ← Array.any_toList]
    split at hl'
    · rename_i en he
      rw [List.any_eq_true.mpr ⟨en, List.mem_of_find?_eq_some he, List.find?_some he⟩]; rfl
    · split at hl'
      · cases hl'
      · rename_i z; rw [Bool.not_eq_true] at z; rw [z, Bool.and_false]
  rw [aRefKeyMayBeTheName_at, c]
  refine wpAny_updatePart D ?_
  refine wpAny_bind (wpAny_lookBehind D' (pastItsLine_dict (by rw [List.size_toArray, sizeLine_eq]; omega)) ?_)
  exact wpAny_pure (h _ U1 U2)
end

end
section
open PySem PySem.W PyProof.Rows PySem.Calls

def RaisableO (E : Value → Shared → Prop) (v : Value) (s₁ : Shared) : Prop :=
  ∃ (e t : Addr) (de : Option Addr) (nm q : Str) (C N : Addr) (bs bm : List Value) (hdct : Bool) (sn : List Str) (sub : List Value) (ab : Bool) (col : Option Bool) (dd : Option Addr) (k0 k1 k2 k3 k5 : Option Value) (newId : String),
    v = .ref e ∧ s₁.heap.get? C = some (excClassObj nm q C N bs bm hdct sn sub ab col dd k0 k1 k2 k3 k5 newId) ∧ bm.contains (.type "BaseException") = true ∧
    s₁.heap.get? e = some { cls := .ref C, dict := de, data := .fields #[.ref t, .none, .none, .none, .bool false, .none] } ∧ E (.ref e) s₁

section
variable {prog : Program} {w : World} {A : Around} {E : Value → Shared → Prop} {s : Shared} {env : Env}
theorem Raise_own {x : Expr} {pos : Pos} {Q : Flow → Shared → Prop} (hh : A.handled = none)
    (h : wpAny (model prog w) A (eval x env) (RaisableO E) E s) : wpAny (model prog w) A (exec (.Raise (some x) none pos) env) Q E s := by
  show wpAny _ A (do standAt pos; raiseStmt env (some (do let v ← eval x env; standAt pos; pure v)) none) Q E s
  refine wpAny_bind (wpAny_standAt ?_)
  unfold raiseStmt
  dsimp only
  refine wpAny_bind (wpAny_bind (wpAny_mono h (fun v s₁ h₁ => wpAny_bind (wpAny_standAt (wpAny_pure ?_))) fun _ _ x => x))
  obtain ⟨e, t, de, nm, q, C, N, bs, bm, hdct, sn, sub, ab, col, dd, k0, k1, k2, k3, k5, newId, rfl, hC, hbase, he, hE⟩ := h₁
  have := raise_own (A := A) (env := env) (x := pure (.ref e)) (s := s₁) (Q := Q) (E := E) (prog := prog) (w := w) hbase hh (wpAny_pure ⟨e, t, de, rfl, hC, he, hE⟩)
  unfold raiseStmt at this
  dsimp only at this
  exact this
end

def RaisedD (base : Heap) (l : List Env) (e C de : Addr) (news : List (Addr × Obj)) (h : Heap) : Prop :=
  ∃ B, base.StaysIn B ∧ (∀ q ∈ news, B.get? q.1 = some q.2 ∧ base.get? q.1 = none) ∧ FlyD B l e C de .none h

theorem flyD_base {base B h : Heap} {l : List Env} {e C de : Addr} {fl : Value} (k : base.StaysIn B) (x : FlyD B l e C de fl h) : FlyD base l e C de fl h := by
  obtain ⟨f1, f2, f3, oe, vs, T, oT, ts, a1, a2, a3, a4, a5, a6⟩ := x
  exact ⟨fun b o q => f1 b o (k b o q), fresh_of_stays k f2, funFrames_base k f3, oe, vs, T, oT, ts, a1, a2, a3, a4, fresh_of_stays k a5, a6⟩

section
variable {M : Model} {A : Around} {E : Value → Shared → Prop} {s' : Shared} {base g h : Heap} {outer : List Env} {L a e C de : Addr} {m : Str → Option Value} {name : Str} {scope : Scope} {cd : Value} {Q : Unit → Shared → Prop} {news : List (Addr × Obj)}
theorem leave_raiseD {oe : Obj} {vs : Array Value} (K : Below A base outer g) (F : Fr g L h m) (N : News g L h ((e, oe) :: news)) (hoff : ∀ q ∈ news, q.1 ≠ e) (hP : EP C de oe) (hd : oe.data = .fields vs) (h1 : vs[1]? = some .none) (hs : s'.heap = h)
    (hQ : ∀ h', RaisedD base outer e C de news h' → g.UpToSlots h' → Q () { s' with heap := h' }) (hk : scope.kind = .function := by rfl) :
    wpAny M (A.deeper (envOf name scope L a cd)) (leaving (envOf name scope L a cd) (.ref e)) Q E s' := by
  subst hs
  have K' := K.push (name := name) (a := a) (cd := cd) F hk
  have hin : ∀ env ∈ (envOf name scope L a cd :: outer), ∀ b, env.frame = some b → b ∈ e :: (envOf name scope L a cd :: outer).filterMap (·.frame) := fun env he b hb => .tail _ (List.mem_filterMap.mpr ⟨env, he, hb⟩)
  have Ne := N (e, oe) (.head _)
  have ne0 : base.get? e = none := fresh_of_stays K.stays Ne.2.2
  have st : base.StaysIn (hideAll s'.heap (e :: (envOf name scope L a cd :: outer).filterMap (·.frame))) := fun b o q => hideAll_get _ (K'.stays b o q) fun hm => by
    rcases List.mem_cons.mp hm with rfl | hm
    · rw [ne0] at q; cases q
    · rw [(K'.frames.mem hm).1] at q; cases q
  have hl : ∀ q ∈ news, (hideAll s'.heap (e :: (envOf name scope L a cd :: outer).filterMap (·.frame))).get? q.1 = some q.2 ∧ base.get? q.1 = none := fun q hq => by
    refine ⟨hideAll_get _ (N q (.tail _ hq)).1 fun hm => ?_, fresh_of_stays K.stays (N q (.tail _ hq)).2.2⟩
    rcases List.mem_cons.mp hm with h | hm
    · exact hoff q hq h
    · obtain ⟨env, he, hf⟩ := List.mem_filterMap.mp hm
      rcases List.mem_cons.mp he with rfl | he
      · exact (N q (.tail _ hq)).2.1 (Option.some.inj hf).symm
      · obtain ⟨o, ho, _⟩ := (K.frames.mem (List.mem_filterMap.mpr ⟨env, he, hf⟩)).2
        rw [(N q (.tail _ hq)).2.2] at ho; cases ho
  refine leavesFirstD (base := hideAll s'.heap (e :: (envOf name scope L a cd :: outer).filterMap (·.frame))) K'.stack (funFrames_hide K'.frames hin) rfl Ne.1 hP (fun b o q => of_hideAll _ q) (hideAll_none _ (.head _)) hd h1 fun h' x u => ?_
  exact hQ h' ⟨_, st, hl, x⟩ ((Heap.UpToSlots.of_keeps F.keep).trans u)

variable {KF : Frag} {p : Program} {loose : List Str} {mg mb : Str → Option Value} {x n : Str} {prog : Program} {w : World} {A₀ : Around} {h₀ : Heap} {b₀ : Stmt} {suite : List Stmt} {pos np : Pos} {rest : List ExceptHandler}
  {nm q : Str} {Nn : Addr} {bs bm : List Value} {hdct : Bool} {sn : List Str} {sub : List Value} {ab : Bool} {col : Option Bool} {dd : Option Addr} {k0 k1 k2 k3 k5 : Option Value} {newId : String}
theorem caught_D {Q : Flow → Shared → Prop} (K : Below A₀ h₀ outer h₀) (F : Fr h₀ L h m) (hsm : h.UpToSlots s'.heap) (R : RaisedD h₀ (envOf name scope L a cd :: outer) e C de news s'.heap)
    (X : KF.In h₀) (T : TopRead p loose mg mb h₀) (ex : nsIn KF mainGlobals x = some (some (.ref C))) (hC : KF.lookup C = some (excClassObj nm q C Nn bs bm hdct sn sub ab col dd k0 k1 k2 k3 k5 newId)) (hbase : bm.contains (.type "BaseException") = true)
    (k : ∀ h' tk oe vs, Fr h₀ L h' (fun y => if y = n then some (.ref e) else m y) → News h₀ L h' ((e, oe) :: news) → EP C de oe → oe.data = .fields vs →
      wpAny (model prog w) ((A₀.deeper (envOf name scope L a cd)).mark (some (.ref e))) (execs (b₀ :: suite) (envOf name scope L a cd))
        (fun f s₄ => wpAny (model prog w) (A₀.deeper (envOf name scope L a cd)) (do bindName (envOf name scope L a cd) n .none; unbindBehindTheSuite (envOf name scope L a cd) n pos) (fun _ s₅ => Q f s₅) E s₄)
        (AsSuiteRaised (model prog w) ((A₀.deeper (envOf name scope L a cd)).mark (some (.ref e))) (envOf name scope L a cd) n pos (notedBy (model prog w) ((A₀.deeper (envOf name scope L a cd)).mark (some (.ref e))) (envOf name scope L a cd) (cameBackBy (model prog w) (A₀.deeper (envOf name scope L a cd)) (envOf name scope L a cd) E)))
        { s' with heap := h', toks := tk })
    (hk : scope.kind = .function := by rfl) (hlo : (envOf name scope L a cd).kindOf n = some .local := by rfl) (hx : (envOf name scope L a cd).kindOf x = some .globalImplicit := by rfl) (hdb : (x == ("__debug__" : Str)) = false := by decide) :
    wpAny (model prog w) (A₀.deeper (envOf name scope L a cd)) (noteFrame (.ref e) (envOf name scope L a cd))
      (fun _ s₂ => wpAny (model prog w) (A₀.deeper (envOf name scope L a cd)) (setFlight (.ref e) none) (fun _ s₃ =>
        wpAny (model prog w) (A₀.deeper (envOf name scope L a cd)) (handleBy (.ref e) (envOf name scope L a cd) (.ExceptHandler (some (.Name x np)) (some n) (b₀ :: suite) pos :: rest)) Q E s₃) E s₂) E s' := by
  obtain ⟨B, hB, hl, hfl⟩ := R
  have hL : B.get? L = none := by
    obtain ⟨_, ⟨L', _, hf, hn', _⟩, _⟩ := hfl.2.2.1
    obtain rfl : L = L' := Option.some.inj hf
    exact hn'
  refine noteNextD (Around.frames_deeper K.stack) rfl hfl fun h₄ hfl₄ hsm₄ => ?_
  refine flightD hfl₄ fun h₅ hfl₅ hsm₅' => ?_
  have hsm₅ := hsm₄.trans hsm₅'
  have hb₅ := flyD_base hB hfl₅
  have F₅ := F.of_stays hb₅.1 (hsm.trans hsm₅)
  obtain ⟨ob, hob, hobP⟩ := hb₅.there
  refine wpAny_handleBy_cons (codeAny_handlers_test (name_K F₅ X T ex ?_ hk hx hdb)) (by intro q; cases q)
  refine wpAny_excMatches_sub_self ((X.keeps F₅.keep) _ _ hC) hob hobP.1 hbase (codeAny_handlers_suite_as ?_)
  refine flightD hfl₅ fun h₆ hfl₆ hsm₆ => ?_
  have hb₆ := flyD_base hB hfl₆
  have F₆ := F.of_stays hb₆.1 ((hsm.trans hsm₅).trans hsm₆)
  obtain ⟨_, hen, _, oe, ws, TT, oT, ts, hoe, hoeP, hoed, _⟩ := hb₆
  have Nl : News h₀ L h₆ ((e, oe) :: news) := fun q hq => by
    rcases List.mem_cons.mp hq with rfl | hq
    · refine ⟨hoe, fun z => ?_, hen⟩
      obtain ⟨oL, es, ep, hoL, hLd, _⟩ := F₆.ns
      have z' : e = L := z
      rw [z'] at hoe
      rw [hoL] at hoe
      cases hoe
      rw [hLd] at hoed; cases hoed
    · exact ⟨hfl₆.1 _ _ (hl q hq).1, (fun z => by have := (hl q hq).1; rw [z, hL] at this; cases this), (hl q hq).2⟩
  refine stN F₆ (news := (e, oe) :: news) Nl (fun h₇ F₇ N₇ => ?_) hk hlo
  exact k h₇ _ oe ws F₇ N₇ hoeP hoed
end

end
section
open PySem PySem.W PyProof.Rows PySem.Calls

def RaisedDS (base G : Heap) (l : List Env) (e C de : Addr) (news : List (Addr × Obj)) (h : Heap) : Prop :=
  ∃ B, base.StaysIn B ∧ (∀ b o, G.get? b = some o → b ∉ l.filterMap (·.frame) → B.get? b = some o) ∧ (∀ q ∈ news, B.get? q.1 = some q.2 ∧ G.get? q.1 = none ∧ base.get? q.1 = none) ∧ FlyD B l e C de .none h

section
variable {M : Model} {A : Around} {E : Value → Shared → Prop} {s' : Shared} {base g h : Heap} {outer : List Env} {L a e C de : Addr} {m : Str → Option Value} {name : Str} {scope : Scope} {cd : Value} {Q : Unit → Shared → Prop} {news : List (Addr × Obj)}
theorem leave_raiseDS {oe : Obj} {vs : Array Value} (K : Below A base outer g) (F : Fr g L h m) (N : News g L h ((e, oe) :: news)) (hoff : ∀ q ∈ news, q.1 ≠ e) (hP : EP C de oe) (hd : oe.data = .fields vs) (h1 : vs[1]? = some .none) (hs : s'.heap = h)
    (hQ : ∀ h', RaisedDS base g outer e C de news h' → g.UpToSlots h' → Q () { s' with heap := h' }) (hk : scope.kind = .function := by rfl) :
    wpAny M (A.deeper (envOf name scope L a cd)) (leaving (envOf name scope L a cd) (.ref e)) Q E s' := by
  subst hs
  have K' := K.push (name := name) (a := a) (cd := cd) F hk
  have hin : ∀ env ∈ (envOf name scope L a cd :: outer), ∀ b, env.frame = some b → b ∈ e :: (envOf name scope L a cd :: outer).filterMap (·.frame) := fun env he b hb => .tail _ (List.mem_filterMap.mpr ⟨env, he, hb⟩)
  have Ne := N (e, oe) (.head _)
  have ne0 : base.get? e = none := fresh_of_stays K.stays Ne.2.2
  have st : base.StaysIn (hideAll s'.heap (e :: (envOf name scope L a cd :: outer).filterMap (·.frame))) := fun b o q => hideAll_get _ (K'.stays b o q) fun hm => by
    rcases List.mem_cons.mp hm with rfl | hm
    · rw [ne0] at q; cases q
    · rw [(K'.frames.mem hm).1] at q; cases q
  have sg : ∀ b o, g.get? b = some o → b ∉ outer.filterMap (·.frame) → (hideAll s'.heap (e :: (envOf name scope L a cd :: outer).filterMap (·.frame))).get? b = some o := fun b o q nm => hideAll_get _ (F.keep b o q) fun hm => by
    rcases List.mem_cons.mp hm with rfl | hm
    · rw [Ne.2.2] at q; cases q
    · rcases kts_mem hm with z | z
      · rw [z, kts_self F] at q; cases q
      · exact nm z
  have hl : ∀ q ∈ news, (hideAll s'.heap (e :: (envOf name scope L a cd :: outer).filterMap (·.frame))).get? q.1 = some q.2 ∧ g.get? q.1 = none ∧ base.get? q.1 = none := fun q hq => by
    refine ⟨hideAll_get _ (N q (.tail _ hq)).1 fun hm => ?_, (N q (.tail _ hq)).2.2, fresh_of_stays K.stays (N q (.tail _ hq)).2.2⟩
    rcases List.mem_cons.mp hm with h | hm
    · exact hoff q hq h
    · obtain ⟨env, he, hf⟩ := List.mem_filterMap.mp hm
      rcases List.mem_cons.mp he with rfl | he
      · exact (N q (.tail _ hq)).2.1 (Option.some.inj hf).symm
      · obtain ⟨o, ho, _⟩ := (K.frames.mem (List.mem_filterMap.mpr ⟨env, he, hf⟩)).2
        rw [(N q (.tail _ hq)).2.2] at ho; cases ho
  refine leavesFirstD (base := hideAll s'.heap (e :: (envOf name scope L a cd :: outer).filterMap (·.frame))) K'.stack (funFrames_hide K'.frames hin) rfl Ne.1 hP (fun b o q => of_hideAll _ q) (hideAll_none _ (.head _)) hd h1 fun h' x u => ?_
  exact hQ h' ⟨_, st, sg, hl, x⟩ ((Heap.UpToSlots.of_keeps F.keep).trans u)

variable {KF : Frag} {p : Program} {loose : List Str} {mean : ExcName → Option Value} {mg mb : Str → Option Value} {x n : Str} {prog : Program} {w : World} {A₀ : Around} {G : Heap} {b₀ : Stmt} {suite : List Stmt} {pos np : Pos} {rest : List ExceptHandler}
  {nm q : Str} {Nn : Addr} {bs bm : List Value} {hdct : Bool} {sn : List Str} {sub : List Value} {ab : Bool} {col : Option Bool} {dd : Option Addr} {k0 k1 k2 k3 k5 : Option Value} {newId : String}
theorem caught_DS {Q : Flow → Shared → Prop} (R : RaisedDS base G (envOf name scope L a cd :: outer) e C de news s'.heap) (F : Fr g L G m) (K : Below A₀ base outer g) (hsm : G.UpToSlots s'.heap) (XB : KF.In base) (TB : Top p loose mean mg mb base)
    (ex : nsIn KF mainGlobals x = some (some (.ref C))) (hC : KF.lookup C = some (excClassObj nm q C Nn bs bm hdct sn sub ab col dd k0 k1 k2 k3 k5 newId)) (hbase : bm.contains (.type "BaseException") = true)
    (k : ∀ h' g' tk oe vs, KtsTurn (outer.filterMap (·.frame)) g g' → Fr g' L h' (fun y => if y = n then some (.ref e) else m y) → News g' L h' ((e, oe) :: news) → EP C de oe → oe.data = .fields vs → Below A₀ base outer g' → KF.In g' → Top p loose mean mg mb g' →
      wpAny (model prog w) ((A₀.deeper (envOf name scope L a cd)).mark (some (.ref e))) (execs (b₀ :: suite) (envOf name scope L a cd))
        (fun f s₄ => wpAny (model prog w) (A₀.deeper (envOf name scope L a cd)) (do bindName (envOf name scope L a cd) n .none; unbindBehindTheSuite (envOf name scope L a cd) n pos) (fun _ s₅ => Q f s₅) E s₄)
        (AsSuiteRaised (model prog w) ((A₀.deeper (envOf name scope L a cd)).mark (some (.ref e))) (envOf name scope L a cd) n pos (notedBy (model prog w) ((A₀.deeper (envOf name scope L a cd)).mark (some (.ref e))) (envOf name scope L a cd) (cameBackBy (model prog w) (A₀.deeper (envOf name scope L a cd)) (envOf name scope L a cd) E)))
        { s' with heap := h', toks := tk })
    (hk : scope.kind = .function := by rfl) (hlo : (envOf name scope L a cd).kindOf n = some .local := by rfl) (hx : (envOf name scope L a cd).kindOf x = some .globalImplicit := by rfl) (hdb : (x == ("__debug__" : Str)) = false := by decide) :
    wpAny (model prog w) (A₀.deeper (envOf name scope L a cd)) (noteFrame (.ref e) (envOf name scope L a cd))
      (fun _ s₂ => wpAny (model prog w) (A₀.deeper (envOf name scope L a cd)) (setFlight (.ref e) none) (fun _ s₃ =>
        wpAny (model prog w) (A₀.deeper (envOf name scope L a cd)) (handleBy (.ref e) (envOf name scope L a cd) (.ExceptHandler (some (.Name x np)) (some n) (b₀ :: suite) pos :: rest)) Q E s₃) E s₂) E s' := by
  obtain ⟨B, hB, hBG, hl, hfl⟩ := R
  have hL : B.get? L = none := by
    obtain ⟨_, ⟨L', _, hf, hn', _⟩, _⟩ := hfl.2.2.1
    obtain rfl : L = L' := Option.some.inj hf
    exact hn'
  refine noteNextD (Around.frames_deeper K.stack) rfl hfl fun h₄ hfl₄ hsm₄ => ?_
  refine flightD hfl₄ fun h₅ hfl₅ hsm₅' => ?_
  have hsm₅ := hsm₄.trans hsm₅'
  obtain ⟨g₅, T₅, F₅, K₅⟩ := kts_ground K F hBG hfl₅.1 (hsm.trans hsm₅)
  have X₅ : KF.In g₅ := XB.keeps K₅.stays
  have P₅ : TopRead p loose mg mb g₅ := topRead_of (TB.keeps K₅.stays)
  obtain ⟨ob, hob, hobP⟩ := hfl₅.there
  refine wpAny_handleBy_cons (codeAny_handlers_test (name_K F₅ X₅ P₅ ex ?_ hk hx hdb)) (by intro q; cases q)
  refine wpAny_excMatches_sub_self ((X₅.keeps F₅.keep) _ _ hC) hob hobP.1 hbase (codeAny_handlers_suite_as ?_)
  refine flightD hfl₅ fun h₆ hfl₆ hsm₆ => ?_
  obtain ⟨g₆, T₆, F₆, K₆⟩ := kts_ground K F hBG hfl₆.1 ((hsm.trans hsm₅).trans hsm₆)
  obtain ⟨_, hen, _, oe, ws, TT, oT, ts, hoe, hoeP, hoed, _⟩ := id hfl₆
  have ne₆ : g₆.get? e = none := T₆.none_ _ (kts_fresh F hBG hen fun o ho m => by
    obtain ⟨_, o', ho', hd⟩ := K.frames.mem m
    rw [ho] at ho'
    cases ho'
    obtain ⟨sl, hs⟩ := ((hsm.trans hsm₅).trans hsm₆) _ _ (F.keep _ _ ho) hd
    rw [hoe] at hs
    cases hs
    exact hd _ hoed)
  have Nl : News g₆ L h₆ ((e, oe) :: news) := fun q hq => by
    rcases List.mem_cons.mp hq with rfl | hq
    · refine ⟨hoe, fun z => ?_, ne₆⟩
      obtain ⟨oL, es, ep, hoL, hLd, _⟩ := F₆.ns
      have z' : e = L := z
      rw [z'] at hoe
      rw [hoL] at hoe
      cases hoe
      rw [hLd] at hoed; cases hoed
    · exact ⟨hfl₆.1 _ _ (hl q hq).1, (fun z => by have := (hl q hq).1; rw [z, hL] at this; cases this), T₆.none_ _ (kts_none F.keep (hl q hq).2.1)⟩
  refine stN F₆ (news := (e, oe) :: news) Nl (fun h₇ F₇ N₇ => ?_) hk hlo
  exact k h₇ g₆ _ oe ws T₆ F₇ N₇ hoeP hoed K₆ (XB.keeps K₆.stays) (TB.keeps K₆.stays)
end

/-- the end of a call whose frames may have been looked at -/
def EndsK (fs : List Addr) (s : Shared) (g : Heap) (post : Value → List (Addr × Obj) → Prop) (r : Value) (s' : Shared) : Prop := ∃ g', KtsTurn fs g g' ∧ Ends s g' post r s'
theorem EndsK.of {fs : List Addr} {s : Shared} {g : Heap} {post : Value → List (Addr × Obj) → Prop} {r : Value} {s' : Shared} (e : Ends s g post r s') : EndsK fs s g post r s' := ⟨g, KtsTurn.refl, e⟩

/-- a call out of the outermost frame, which may catch -/
def Spec0 (prog : Program) (w : World) (base : Heap) (D : Nat) (f : Addr) (args : Args) (pre : List (Addr × Obj)) (post : Value → List (Addr × Obj) → Prop) : Prop :=
  ∀ (A₀ : Around) (env : Env) (h₀ : Heap) (L : Addr) (m : Str → Option Value) (s : Shared) (R : Result → Shared → Prop),
    Below A₀ base [] h₀ → Fr h₀ L s.heap m → env.frame = some L → env.scope.kind = .function → News h₀ L s.heap pre →
    (∀ r led h' tk', post r led → Fr h₀ L h' m → News h₀ L h' led → (∀ b o, s.heap.get? b = some o → b ≠ L → b ∉ pre.map (·.1) → h'.get? b = some o) →
      (∀ p ∈ led, p.1 ∈ pre.map (·.1) ∨ s.heap.get? p.1 = none) → R (.ok (.ret r)) { s with heap := h', toks := tk' }) →
    codeAny (model prog w) (Ar D (10 * D) env []) (.call (.ref f) args) R s

section
variable {prog : Program} {w : World} {base : Heap} {D : Nat} {K : Frag} {p : Program} {loose : List Str} {mean : ExcName → Option Value} {mg mb : Str → Option Value}
  {name qual : Str} {params : Arguments} {body : List Stmt} {scope : Scope} {dV kV doc pm cdv ct oc : Value} {an od : Option Addr} {osl : Array (Option Value)} {f : Addr} {args : Args} {binds : List (Str × Value)}
  {pre : List (Addr × Obj)} {post : Value → List (Addr × Obj) → Prop}
theorem enter0 (X : K.In base) (T : Top p loose mean mg mb base)
    (ho : K.lookup f = some ⟨oc, od, .func (fnOf name qual params body scope dV kV doc pm an cdv ct), osl⟩) (hcd : codeIn K cdv qual = true) (hroom : D < recursionLimit)
    (hbind : ∀ s : Shared, K.In s.heap → BindsTo s (fnOf name qual params body scope dV kV doc pm an cdv ct) args binds) (hloc : ∀ y ∈ binds, scope.names.lookup y.1 = some .local)
    (h : ∀ (s : Shared) (env : Env) g L L' h₁, env.frame = some L → Fr g L' h₁ (fun y => binds.reverse.lookup y) → News g L' h₁ pre → Below (Ar D (10 * D) env []) base [env] g → K.In g → Top p loose mean mg mb g → (∀ p ∈ pre, p.1 < L') →
      wpAny (model prog w) ((Ar D (10 * D) env []).deeper (envOf qual scope L' f cdv)) (execs body (envOf qual scope L' f cdv))
        (fun fl s' => EndsK [L] s g post (match fl with | .ret v => v | _ => .none) s') (fun _ _ => False)
        { s with heap := h₁, toks := s.toks + binds.length })
    (hco : scope.isCoroutine = false) (hgen : scope.isGenerator = false) (hk : scope.kind = .function)
    (hcell : ∀ x ∈ scope.names, x.2 ≠ .cell) : Spec0 prog w base D f args pre post := by
  intro A₀ env h₀ L m s R B F hf hke N hret
  obtain ⟨FG, BG, st, _⟩ := groundX (R := R) (A := Ar D (10 * D) env []) B F N rfl hf hke
  have X₀ := X.keeps B.stays
  have T₀ := T.keeps B.stays
  refine codeAny_call_def (fd := fnX name qual params body scope [] dV kV doc pm an cdv ct) (body := body) (binds := binds) hroom ((X₀.keeps F.keep) _ _ ho) rfl (T₀.nolimit.keeps F.keep) (codeRec_of (X₀.keeps F.keep) hcd) rfl (hbind s (X₀.keeps F.keep)) hcell hloc (fun h₁ hns hk₁ => ?_) hco hgen hk
  refine wpAny_mono (h s env _ L s.heap.objs.size h₁ hf ⟨hns, fun b o e => hk₁ b o (of_hideAll _ e), Nat.le_of_eq (hideAll_size _ _)⟩
    (fun p hp => ⟨hk₁ _ _ (N p hp).1, Nat.ne_of_lt (Heap.lt_size (N p hp).1), hideAll_none _ (List.mem_map_of_mem hp)⟩) BG (X₀.keeps st) (T₀.keeps st) (fun p hp => Heap.lt_size (N p hp).1)) (fun fl s' hl => ?_) fun _ _ y => y.elim
  obtain ⟨g', T', L', m', led, h', tk', rfl, F', N', hp⟩ := hl
  have nm : ∀ b o, h₀.get? b = some o → b ∉ pre.map (·.1) := fun b o e q => by
    obtain ⟨p, hp, rfl⟩ := List.mem_map.mp q
    rw [(N p hp).2.2] at e; cases e
  have nL0 : h₀.get? L = none := kts_self F
  obtain ⟨oL, es, ep, hL, hLd, hLk, hLf⟩ := F.ns
  have nL : L ∉ pre.map (·.1) := fun q => by
    obtain ⟨p, hp, e⟩ := List.mem_map.mp q
    exact (N p hp).2.1 e
  have kb : ∀ b o, s.heap.get? b = some o → b ≠ L → b ∉ pre.map (·.1) → h'.get? b = some o := fun b o e h1 h2 => F'.keep b o (T'.other b o (hideAll_get _ e h2) (by simpa using h1))
  obtain ⟨sl, hs⟩ := T'.up (hideAll_get (pre.map (·.1)) hL nL)
  have hL' := F'.keep _ _ hs
  refine hret _ led h' tk' hp ⟨⟨_, es, ep, hL', hLd, hLk, hLf⟩, fun b o e => kb b o (F.keep b o e) (fun q => by rw [q, nL0] at e; cases e) (nm b o e), F.above⟩ (fun p hp => ⟨(N' p hp).1, fun q => ?_, ?_⟩) kb fun p hp => ?_
  · have := (N' p hp).2.2
    rw [q, hs] at this; cases this
  · cases q : h₀.get? p.1 with
    | none => rfl
    | some o =>
      obtain ⟨sl', hs'⟩ := T'.up (hideAll_get (pre.map (·.1)) (F.keep _ _ q) (nm _ _ q))
      have := (N' p hp).2.2
      rw [hs'] at this; cases this
  · by_cases hb : p.1 ∈ pre.map (·.1)
    · exact .inl hb
    · refine .inr ?_
      cases q : s.heap.get? p.1 with
      | none => rfl
      | some o =>
        obtain ⟨sl', hs'⟩ := T'.up (hideAll_get (pre.map (·.1)) q hb)
        have := (N' p hp).2.2
        rw [hs'] at this; cases this

theorem Spec0.use {A₀ : Around} {env : Env} {h₀ : Heap} {L : Addr} {m : Str → Option Value} {s : Shared} {dp un : Nat} {gd : Option (List Code)} {news rest : List (Addr × Obj)} {Q : Value → Shared → Prop} {E : Value → Shared → Prop}
    {fn : List Value} {kw : List (Str × Value)} (S : Spec0 prog w base D f ⟨fn, kw⟩ pre post)
    (B : Below A₀ base [] h₀) (F : Fr h₀ L s.heap m) (N : News h₀ L s.heap news) (hf : env.frame = some L) (hk : env.scope.kind = .function) (hd : dp ≤ D) (hu : un ≤ 10 * D)
    (hp : ∀ p ∈ pre, p ∈ news) (hr : ∀ p ∈ rest, p ∈ news) (hoff : ∀ p ∈ rest, p.1 ∉ pre.map (·.1))
    (k : ∀ r led h' tk', post r led → Fr h₀ L h' m → News h₀ L h' (led ++ rest) → (∀ p ∈ led, p.1 ∈ pre.map (·.1) ∨ ∀ q ∈ news, q.1 ≠ p.1) → Q r { s with heap := h', toks := tk' }) :
    wpAny (model prog w) { handled := none, depth := dp, frames := some [env], guards := gd, units := un } (call (.ref f) fn kw) Q E s := by
  refine wpAny_call (codeAny_weaker ?_ hd hu)
  refine S A₀ env h₀ L m s _ B F hf hk (fun p h => N p (hp p h)) fun r led h' tk' hpost F' N' kb fr => ?_
  refine k r led h' tk' hpost F' (fun p h => ?_) fun p h => ?_
  · rcases List.mem_append.mp h with h | h
    · exact N' p h
    · have := N p (hr p h)
      exact ⟨kb _ _ this.1 this.2.1 (hoff p h), this.2⟩
  · refine (fr p h).imp id fun q r hr e => ?_
    have := (N r hr).1
    rw [e, q] at this; cases this
end

end
section
open PySem PySem.W PyProof.Rows PySem.Calls
section
variable {prog : Program} {w : World} {base : Heap} {D : Nat} {K : Frag}
/-- the call of a class whose __init__ has a contract -/
theorem Spec.cls {C fI : Addr} {A₀ : Around} {env : Env} {outer : List Env} {h₀ : Heap} {L : Addr} {m : Str → Option Value} {s : Shared} {dp un : Nat} {gd : Option (List Code)} {news pre rest : List (Addr × Obj)} {Q : Value → Shared → Prop} {E : Value → Shared → Prop}
    {fn : List Value} {kw : List (Str × Value)} {post : Addr → Addr → Value → List (Addr × Obj) → Prop}
    (S : ∀ x dx, (∀ p ∈ news, p.1 < dx) → dx < x → Spec prog w base D fI ⟨.ref x :: fn, kw⟩ ((x, instObj C dx) :: (dx, dictOf [] 0) :: pre) (post x dx))
    (X₀ : K.In base) (hm : makesIn K C = true) (hi : findIn K (.ref C) "__init__" = some (some (.ref fI))) (hfn : isFn K (.ref fI) = true)
    (B : Below A₀ base outer h₀) (F : Fr h₀ L s.heap m) (N : News h₀ L s.heap news) (hf : env.frame = some L) (hk : env.scope.kind = .function) (hd : dp + 1 ≤ D) (hu : un + 1 ≤ 10 * D)
    (hp : ∀ p ∈ pre, p ∈ news) (hr : ∀ p ∈ rest, p ∈ news) (hoff : ∀ p ∈ rest, p.1 ∉ pre.map (·.1))
    (k : ∀ x dx r led h' tk', (∀ p ∈ news, p.1 < dx) → dx < x → post x dx r led → Fr h₀ L h' m → News h₀ L h' (led ++ rest) → (∀ p ∈ led, p.1 = x ∨ p.1 = dx ∨ p.1 ∈ pre.map (·.1) ∨ ∀ q ∈ news, q.1 ≠ p.1) → r = .none ∧ Q (.ref x) { s with heap := h', toks := tk' }) :
    wpAny (model prog w) { handled := none, depth := dp, frames := some (env :: outer), guards := gd, units := un } (call (.ref C) fn kw) Q E s := by
  refine call_cls F (X₀.keeps B.stays) N hm hi hfn ?_
  intro x dx h1 F1 N1 l1 l2
  refine codeAny_weaker ?_ hd hu
  refine S x dx l1 l2 A₀ env outer h₀ L m _ _ B F1 hf hk (fun p h => ?_) fun r led h' tk' hpost F' N' kb fr => ?_
  · rcases List.mem_cons.mp h with rfl | h
    · exact N1 _ (.head _)
    · rcases List.mem_cons.mp h with rfl | h
      · exact N1 _ (.tail _ (.head _))
      · exact N1 _ (.tail _ (.tail _ (hp p h)))
  · refine k x dx r led h' tk' l1 l2 hpost F' (fun p h => ?_) fun p h => ?_
    · rcases List.mem_append.mp h with h | h
      · exact N' p h
      · have h0 := N1 p (.tail _ (.tail _ (hr p h)))
        have hlt := l1 p (hr p h)
        refine ⟨kb _ _ h0.1 (fun q => ?_), h0.2⟩
        rcases List.mem_cons.mp q with q | q
        · exact Nat.ne_of_lt (Nat.lt_trans hlt l2) q
        · rcases List.mem_cons.mp q with q | q
          · exact Nat.ne_of_lt hlt q
          · exact hoff p h q
    · rcases fr p h with q | q
      · rcases List.mem_cons.mp q with q | q
        · exact .inl q
        · rcases List.mem_cons.mp q with q | q
          · exact .inr (.inl q)
          · exact .inr (.inr (.inl q))
      · refine .inr (.inr (.inr fun q' hq' e => ?_))
        have := (N1 q' (.tail _ (.tail _ hq'))).1
        dsimp only at q
        rw [e, q] at this; cases this
end

end
section
open PySem PySem.W PyProof.Rows PySem.Calls
/-- the end of a turn of a loop over a list -/
def FStep (h₀ : Heap) (L : Addr) (own : List (Addr × Obj)) (s : Shared) (J : (Str → Option Value) → List (Addr × Obj) → Prop) (Q : Flow → Shared → Prop) (f : Flow) (s₃ : Shared) : Prop :=
  match f with
  | .next | .cont => ∃ h' tk m₂ news₂, s₃ = { s with heap := h', toks := tk } ∧ Fr h₀ L h' m₂ ∧ News h₀ L h' (news₂ ++ own) ∧ (∀ p ∈ news₂, ∀ q ∈ own, p.1 ≠ q.1) ∧ J m₂ news₂
  | .brk => Q .next s₃
  | .ret v => Q (.ret v) s₃
theorem FStep.mk {h₀ : Heap} {L : Addr} {own : List (Addr × Obj)} {s : Shared} {J : (Str → Option Value) → List (Addr × Obj) → Prop} {Q : Flow → Shared → Prop} {h' : Heap} {tk : Nat} {m₂ : Str → Option Value} {news₂ : List (Addr × Obj)}
    (F : Fr h₀ L h' m₂) (N : News h₀ L h' (news₂ ++ own)) (hs : ∀ p ∈ news₂, ∀ q ∈ own, p.1 ≠ q.1) (j : J m₂ news₂) : FStep h₀ L own s J Q .next { s with heap := h', toks := tk } := ⟨h', tk, m₂, news₂, rfl, F, N, hs, j⟩
section
variable {prog : Program} {w : World} {A : Around} {E : Value → Shared → Prop} {env : Env} {h₀ : Heap} {m : Str → Option Value}
theorem for_list {l : Addr} {vs : List Value} {k : Nat} {x : Str} {body : List Stmt} {s : Shared} {news : List (Addr × Obj)} {Q : Flow → Shared → Prop}
    (J : Nat → (Str → Option Value) → List (Addr × Obj) → Prop) (hh : A.handled = none) (F : Fr h₀ env.locals s.heap m) (N : News h₀ env.locals s.heap ((l, listOf vs.toArray k) :: news)) (hne : ∀ p ∈ news, p.1 ≠ l) (hJ : J 0 m news)
    (turn : ∀ i v m₁ news₁ h₁ tk₁ own, vs[i]? = some v → J i m₁ news₁ → Fr h₀ env.locals h₁ (fun y => if y = x then some v else m₁ y) → News h₀ env.locals h₁ (news₁ ++ own) → (∀ p ∈ news₁, ∀ q ∈ own, p.1 ≠ q.1) →
      wpAny (model prog w) A (execs body env) (FStep h₀ env.locals own { s with heap := h₁, toks := tk₁ } (J (i + 1)) Q) E { s with heap := h₁, toks := tk₁ })
    (done : ∀ h' tk m' news', Fr h₀ env.locals h' m' → News h₀ env.locals h' news' → J vs.length m' news' → Q .next { s with heap := h', toks := tk }) :
    wpAny (model prog w) A (pyIter (.ref l)) (fun it s₂ => LoopAtV prog w A h₀ env x body Q E it s₂) E s := by
  obtain ⟨hol, hlL, h0l⟩ := N _ (.head _)
  have hll : s.heap.IsList l vs.toArray := ⟨_, hol, rfl, k, rfl⟩
  have hlt := Heap.lt_size hol
  have hLlt : env.locals < s.heap.objs.size := by obtain ⟨o, _, _, ho, _⟩ := F.ns; exact Heap.lt_size ho
  have hne' : l ≠ s.heap.objs.size := Nat.ne_of_lt hlt
  refine wpAny_pyIter_list hll ?_
  have W := Walks.list (prog := prog) (w := w) hh s.heap.objs.size l hne' vs.toArray
  have hsz : vs.toArray.size = vs.length := List.size_toArray ..
  have h0n : h₀.get? s.heap.objs.size = none := by
    cases q : h₀.get? s.heap.objs.size with
    | none => rfl
    | some o => exact absurd (Heap.lt_size (F.keep _ _ q)) (Nat.lt_irrefl _)
  refine ⟨_, _, _, _, _, _, m, news, fun i m₁ n₁ => J i m₁ n₁ ∧ ∀ p ∈ n₁, p.1 ≠ l, rfl, W, ?_, ?_, ?_, ⟨⟨_, Heap.get?_push_size _ rfl, rfl, rfl⟩, hll.at fun o e => Heap.get?_push_of_some _ e⟩, F.push _, (fun p hp => ⟨Heap.get?_push_of_some _ (N p (.tail _ hp)).1, (N p (.tail _ hp)).2⟩), ⟨hJ, hne⟩, ?_, ?_⟩
  · intro hb
    rcases List.mem_cons.mp hb with h | hb
    · exact Nat.ne_of_lt hLlt h
    · exact hlL (List.mem_singleton.mp hb).symm
  · intro b hb
    rw [List.mem_singleton.mp hb]; exact h0n
  · intro p hp hb
    exact Nat.ne_of_lt (Heap.lt_size (N p (.tail _ hp)).1) (List.mem_singleton.mp hb)
  · rintro i v m₁ news₁ s₁ own ⟨h₁, tk₁, rfl⟩ hi hP ⟨hJ₁, hl₁⟩ hw hfp hown hall hst F₁ N₁
    have sep : ∀ p ∈ news₁, ∀ q ∈ own, p.1 ≠ q.1 := fun p hp q hq e => by
      have := hfp q hq
      rw [← e] at this
      rcases List.mem_cons.mp this with h | h
      · exact hw p hp (by rw [h]; exact List.mem_singleton.mpr rfl)
      · exact hl₁ p hp (List.mem_singleton.mp h)
    refine wpAny_mono (turn i v m₁ news₁ h₁ tk₁ own (by simpa using hP) hJ₁ F₁ (fun p hp => N₁ p (by
      rcases List.mem_append.mp hp with h | h
      · exact List.mem_append_right _ h
      · exact List.mem_append_left _ h)) sep) (fun f s₃ h₃ => ?_) fun _ _ e => e
    obtain ⟨⟨oS, hoS, _⟩, ⟨oL, hoL, _⟩⟩ := hst
    have mS : (s.heap.objs.size, oS) ∈ own := hall _ (.head _) h0n _ hoS
    have mL : (l, oL) ∈ own := hall _ (.tail _ (.head _)) h0l _ hoL
    have fin : ∀ f, (f = .next) → (∃ h' tk m₂ news₂, s₃ = { s with heap := h', toks := tk } ∧ Fr h₀ env.locals h' m₂ ∧ News h₀ env.locals h' (news₂ ++ own) ∧ (∀ p ∈ news₂, ∀ q ∈ own, p.1 ≠ q.1) ∧ J (i + 1) m₂ news₂) →
        LoopStepU h₀ env.locals [s.heap.objs.size] own (fun m₁ n₁ => J (i + 1) m₁ n₁ ∧ ∀ p ∈ n₁, p.1 ≠ l) { s with heap := h₁, toks := tk₁ } f s₃ := by
      rintro f rfl ⟨h', tk, m₂, news₂, rfl, F₂, N₂, hs, j⟩
      refine ⟨rfl, h', tk, m₂, news₂, rfl, F₂, (fun p hp => N₂ p (by
        rcases List.mem_append.mp hp with h | h
        · exact List.mem_append_right _ h
        · exact List.mem_append_left _ h)), (fun p hp hb => hs p hp _ mS (List.mem_singleton.mp hb)), j, fun p hp => hs p hp _ mL⟩
    cases f with
    | next => exact LoopStepV.next (fin _ rfl h₃)
    | cont => exact LoopStepV.cont (fin _ rfl h₃)
    | brk => exact LoopStepV.brk h₃
    | ret v => exact LoopStepV.ret h₃
  · rintro h' tk m' news' F' N' _ ⟨j, _⟩
    rw [hsz] at j
    exact done h' tk m' news' F' N' j
end

end
section
local macro_rules | `(tactic| ktr_enter) => `(tactic| (first
  | (k_dflt (refine' enter ?k1 ?k2 ?k6 ?k7 ?k8 ?k9 ?kB ?_ ?c2 ?c3 ?c4 ?c5)
     (case k1 => assumption)
     (case k2 => assumption)
     (case k6 => k_is)
     (case k7 => k_is)
     (case k8 => decide)
     (case k9 => first | exact fun s hs => BindsTo.of_eq rfl | exact fun s hs => binds_K hs rfl (by k_is) rfl rfl rfl)
     (case c5 => decide)
     (case kB => exact locs rfl)
     (case c2 => exact rfl)
     (case c3 => exact rfl)
     (case c4 => exact rfl)
     intro s' env' outer' g' L' h' F' N' B' X' T' lL'
     (try k_lt lL')
     (try dsimp only)
     (try k_lift B')
     (try k_fold))
  | (k_dflt (refine' enterC ?k1 ?k2 ?k6 ?k7 ?k8 ?k9 ?kB ?kD ?_ ?c2 ?c3 ?c4)
     (case k1 => assumption)
     (case k2 => assumption)
     (case k6 => k_is)
     (case k7 => k_is)
     (case k8 => decide)
     (case k9 => first | exact fun s hs => BindsTo.of_eq rfl | exact fun s hs => binds_K hs rfl (by k_is) rfl rfl rfl)
     (case kB => exact rfl)
     (case kD => decide +kernel)
     (case c2 => exact rfl)
     (case c3 => exact rfl)
     (case c4 => exact rfl)
     intro s' env' outer' g' L' h' tk' cells' F' N' Y' B' X' T' lL'
     (try k_lt lL')
     k_cells Y'
     (try simp only [List.cons_append, List.nil_append] at N')
     (try dsimp only)
     (try k_lift B')
     (try k_fold))))
example (w : World) : hd1.heap_39 w.params = hd1.heap_39 w.params ∧ PySem.Challenge.rw_ff0006_01 = PySem.Challenge.rw_ff0006_01 := by
  k_fill
  exact ⟨rfl, rfl⟩
noncomputable abbrev P1 : Program := PySem.Challenge.rw_ff0006_01.row.toRowW.prog
noncomputable abbrev loose1 : List Str := looseW hd1.view_39 [Str.ofString "StringList", Str.ofString "_law_rows"]

structure Bs (w : World) (s₀ : Shared) (mg mb : Str → Option Value) (base : Heap) : Prop where
  KX : (hd1.heap_39 w.params).In base
  X : Flt.MathXP hd1.view_39 mg base
  GL : Glob 0 mg mb (List.map itemOf (recsOf hd1.view_39)) (scalarsOf [] ++ constsW hd1.view_39) [] (namesW hd1.view_39 [Str.ofString "StringList", Str.ofString "_law_rows"]) base
  T : Top hd1.view_39 loose1 (ExcName.means s₀.heap) mg mb base
  TB : Tables hd1.view_39 w mg base
  TE : TopE hd1.view_39 loose1 mg base
  TW : TopW hd1.view_39 mg base
  M : ∃ a o, BMod base mainGlobals mg a o

theorem next_spec {w : World} {s₀ : Shared} {mg mb : Str → Option Value} {base : Heap} (bs : Bs w s₀ mg mb base)
    (st sc : Nat) (ns : List Int) (vs : List Value) (hv : IntsAre vs ns) (hl : ns.length ≤ 63) (i : Int) (t lt : Tok) (lim : Int) (hi : 0 ≤ i ∧ i ≤ 100) (hlim : 0 < lim ∧ lim < 1000) (hne : st ≠ sc) (n0 n1 : Nat) :
    Spec P1 w base 900 354 ⟨[.ref st, .int lim lt], []⟩ [(st, W.listOf #[.ref sc, .int i t] n0), (sc, W.listOf vs.toArray n1)]
      (fun r led => ∃ x tx ti, r = .int x tx ∧ 0 ≤ x ∧ x < lim ∧ led = [(st, W.listOf #[.ref sc, .int (i + 1) ti] n0), (sc, W.listOf vs.toArray n1)]) := by
  obtain ⟨KX, X, GL, T, TB, TE, TW, M, oM, hM⟩ := bs
  ktr_enter
  k_steps
  · exact Ends.mk (by assumption) (by assumption) ⟨0, _, _, rfl, by omega, by omega, rfl⟩
  · exact Ends.mk (by assumption) (by assumption) ⟨_, _, _, rfl, Int.fmod_nonneg_of_pos _ hlim.1, Int.fmod_lt_of_pos _ hlim.1, rfl⟩

def txs (n : Nat) : List (Str × Int) := (List.range n).map fun (k : Nat) => (Str.ofString "text", (k : Int))
theorem txs_succ (n : Nat) : txs (n + 1) = txs n ++ [(Str.ofString "text", (n : Int))] := by simp [txs, List.range_succ]
theorem txs_len (n : Nat) : (txs n).length = n := by simp [txs]

@[reducible] def vl (w : World) (d i : Nat) (p o : Value) (t1 t2 t3 t4 : Tok) : Obj := dictOf [⟨PyData.keyHash w.params (Str.ofString "data"), .str (Str.ofString "data") t1, .ref d⟩, ⟨PyData.keyHash w.params (Str.ofString "items"), .str (Str.ofString "items") t2, .ref i⟩, ⟨PyData.keyHash w.params (Str.ofString "parent"), .str (Str.ofString "parent") t3, p⟩, ⟨PyData.keyHash w.params (Str.ofString "parent_offset"), .str (Str.ofString "parent_offset") t4, o⟩] 4
def rowsL : List Str := ["", "a", "  b", " c d", "    e", "  ", "   f", "g h"]
def sp1 : Str := Str.ofString " "
def holdS (x : Str) : Int := (x.length : Int) - ((Txt.lstripChars x sp1).length : Int)
def blankS (x : Str) : Bool := Txt.stripChars x sp1 == Str.ofString ""
/-- does a row end what is held in (as the law says it) -/
def stopS (u : Bool) (bi : Option Int) (x : Str) : Bool := if blankS x then u else (holdS x == 0 || bi.any (fun b => decide (holdS x < b)))
def stepH (acc : Option Int) (x : Str) : Option Int := if blankS x then acc else some (match acc with | none => holdS x | some a => min a (holdS x))
def minH (l : List Str) : Option Int := l.foldl stepH none
def vO (o : Option Int) (t : Tok) : Value := match o with | none => .none | some i => .int i t
def mid {α : Type} (l : List α) (a e : Nat) : List α := (l.take e).drop a
structure IsEnd (p : Str → Bool) (ts : List Str) (a E : Nat) : Prop where
  ge : a ≤ E
  le : E ≤ ts.length
  no : ∀ k y, a ≤ k → k < E → ts[k]? = some y → p y = false
  yes : ∀ y, ts[E]? = some y → p y = true
theorem IsEnd.unique {p : Str → Bool} {ts : List Str} {a E F : Nat} (h : IsEnd p ts a E) (g : IsEnd p ts a F) : E = F := by
  rcases Nat.lt_trichotomy E F with q | q | q
  · have hl := g.le
    have := h.yes ts[E] (by simp)
    have := g.no E ts[E] h.ge q (by simp)
    simp_all
  · exact q
  · have hl := h.le
    have := g.yes ts[F] (by simp)
    have := h.no F ts[F] g.ge q (by simp)
    simp_all
theorem mid_self {α : Type} (l : List α) (a : Nat) : mid l a a = [] := by
  unfold mid; rw [List.drop_eq_nil_iff]; simp; omega
theorem mid_step {α : Type} {l : List α} {a e : Nat} {x : α} (h : l[e]? = some x) (ha : a ≤ e) : mid l a (e + 1) = mid l a e ++ [x] := by
  have he : e < l.length := (List.getElem?_eq_some_iff.mp h).1
  unfold mid
  rw [List.take_add_one, h, List.drop_append_of_le_length (by simp; omega)]
  rfl
theorem minH_step (l : List Str) (x : Str) : minH (l ++ [x]) = stepH (minH l) x := by unfold minH; rw [List.foldl_append]; rfl
def holdM (bi : Option Int) (ts : List Str) (a E : Nat) : Option Int := match bi with | some b => some b | none => minH (mid ts a E)
def wellS (ts : List Str) (b E : Nat) : Bool := match ts[E]? with | none => true | some y => blankS y || (decide (b < E) && (match ts[E - 1]? with | none => false | some z => blankS z))
def AllM (m : Str → Option Value) : List (Str × Value) → Prop | [] => True | p :: r => m p.1 = some p.2 ∧ AllM m r
theorem AllM.mem {m : Str → Option Value} : ∀ {l : List (Str × Value)}, AllM m l → ∀ p ∈ l, m p.1 = some p.2
  | [], _, _, h => nomatch h
  | _ :: _, ⟨a, b⟩, p, h => by
    rcases List.mem_cons.mp h with rfl | h
    · exact a
    · exact b.mem p h
structure RowF (x : Str) : Prop where
  nb : x.length = 0 → blankS x = true
  it : x.length ≠ 0 → (Txt.item x 0 != Str.ofString " ") = true → blankS x = false ∧ holdS x = 0
  it2 : x.length ≠ 0 → (Txt.item x 0 != Str.ofString " ") = false → blankS x = false → holdS x ≠ 0
  ls : (Txt.lstrip x).length = 0 ↔ blankS x = true
  ho : (x.length : Int) - (Txt.lstrip x).length = holdS x
  st : (Txt.strip x).length = 0 ↔ blankS x = true
  pre0 : (Txt.strip (Txt.slice x none (some 0))).length = 0
  pre1 : (Txt.strip (Txt.slice x none (some 1))).length = 0 ↔ ¬ (blankS x = false ∧ holdS x < 1)
  pre2 : (Txt.strip (Txt.slice x none (some 2))).length = 0 ↔ ¬ (blankS x = false ∧ holdS x < 2)
  pre3 : (Txt.strip (Txt.slice x none (some 3))).length = 0 ↔ ¬ (blankS x = false ∧ holdS x < 3)
  ge : 0 ≤ holdS x ∧ holdS x ≤ 10
  sz : x.length ≤ 10
  ok : PyData.strOk x = true
theorem rowF {x : Str} (h : x ∈ rowsL) : RowF x := by
  have h1 : ∀ x ∈ rowsL, (x.length = 0 → blankS x = true) ∧ (x.length ≠ 0 → (Txt.item x 0 != Str.ofString " ") = true → blankS x = false ∧ holdS x = 0) ∧ (x.length ≠ 0 → (Txt.item x 0 != Str.ofString " ") = false → blankS x = false → holdS x ≠ 0) := by decide +kernel
  have h2 : ∀ x ∈ rowsL, ((Txt.lstrip x).length = 0 ↔ blankS x = true) ∧ ((x.length : Int) - (Txt.lstrip x).length = holdS x) ∧ ((Txt.strip x).length = 0 ↔ blankS x = true) := by decide +kernel
  have h3 : ∀ x ∈ rowsL, ((Txt.strip (Txt.slice x none (some 0))).length = 0) ∧ ((Txt.strip (Txt.slice x none (some 1))).length = 0 ↔ ¬ (blankS x = false ∧ holdS x < 1)) ∧ ((Txt.strip (Txt.slice x none (some 2))).length = 0 ↔ ¬ (blankS x = false ∧ holdS x < 2)) ∧ ((Txt.strip (Txt.slice x none (some 3))).length = 0 ↔ ¬ (blankS x = false ∧ holdS x < 3)) := by decide +kernel
  have h4 : ∀ x ∈ rowsL, (0 ≤ holdS x ∧ holdS x ≤ 10) ∧ x.length ≤ 10 ∧ PyData.strOk x = true := by decide +kernel
  obtain ⟨a1, a2, a3⟩ := h1 x h
  obtain ⟨b1, b2, b3⟩ := h2 x h
  obtain ⟨c0, c1, c2, c3⟩ := h3 x h
  obtain ⟨d1, d2, d3⟩ := h4 x h
  exact ⟨a1, a2, a3, b1, b2, b3, c0, c1, c2, c3, d1, d2, d3⟩
theorem RowF.pre {x : Str} (f : RowF x) {b : Int} (h0 : 0 ≤ b ∧ b ≤ 3) : (Txt.strip (Txt.slice x none (some b))).length = 0 ↔ ¬ (blankS x = false ∧ holdS x < b) := by
  have := f.ge
  obtain rfl | rfl | rfl | rfl : b = 0 ∨ b = 1 ∨ b = 2 ∨ b = 3 := by omega
  · exact ⟨fun _ q => by omega, fun _ => f.pre0⟩
  · exact f.pre1
  · exact f.pre2
  · exact f.pre3
theorem stop_blank {u : Bool} {bi : Option Int} {x : Str} (h : blankS x = true) : stopS u bi x = u := by unfold stopS; rw [if_pos h]
theorem stop_zero {u : Bool} {bi : Option Int} {x : Str} (h : blankS x = false) (h0 : holdS x = 0) : stopS u bi x = true := by unfold stopS; rw [if_neg (by simp [h]), h0]; rfl
theorem stop_pre {u : Bool} {b : Int} {x : Str} (h : blankS x = false) (h0 : holdS x < b) : stopS u (some b) x = true := by unfold stopS; rw [if_neg (by simp [h])]; simp [h0]
theorem stop_none {u : Bool} {x : Str} (h : blankS x = false) (h0 : holdS x ≠ 0) : stopS u none x = false := by unfold stopS; rw [if_neg (by simp [h])]; simp [h0]
theorem stop_some {u : Bool} {b : Int} {x : Str} (h : blankS x = false) (h0 : holdS x ≠ 0) (h1 : ¬ holdS x < b) : stopS u (some b) x = false := by unfold stopS; rw [if_neg (by simp [h])]; simp [h0, h1]
theorem no_step {p : Str → Bool} {ts : List Str} {a e : Nat} {x : Str} (h : ∀ k y, a ≤ k → k < e → ts[k]? = some y → p y = false) (hx : ts[e]? = some x) (hp : p x = false) : ∀ k y, a ≤ k → k < e + 1 → ts[k]? = some y → p y = false := fun k y h1 h2 h3 => by
  by_cases q : k = e
  · subst q; rw [hx] at h3; cases h3; exact hp
  · exact h k y h1 (by omega) h3
theorem isEnd_at {p : Str → Bool} {ts : List Str} {a e : Nat} {x : Str} (ha : a ≤ e) (h : ∀ k y, a ≤ k → k < e → ts[k]? = some y → p y = false) (hx : ts[e]? = some x) (hp : p x = true) : IsEnd p ts a e :=
  ⟨ha, Nat.le_of_lt (List.getElem?_eq_some_iff.mp hx).1, h, fun y hy => by rw [hx] at hy; cases hy; exact hp⟩
theorem isEnd_out {p : Str → Bool} {ts : List Str} {a e : Nat} (ha : a ≤ e) (h : ∀ k y, a ≤ k → k < e → ts[k]? = some y → p y = false) (he : e = ts.length) : IsEnd p ts a e :=
  ⟨ha, Nat.le_of_eq he, h, fun y hy => by rw [he] at hy; simp at hy⟩
theorem well_out {ts : List Str} {b e : Nat} (he : e = ts.length) : wellS ts b e = true := by unfold wellS; rw [he]; simp
theorem well_blank {ts : List Str} {b e : Nat} {x : Str} (hx : ts[e]? = some x) (hb : blankS x = true) : wellS ts b e = true := by unfold wellS; rw [hx]; simp [hb]
theorem well_at {ts : List Str} {b e : Nat} {x z : Str} (hx : ts[e]? = some x) (hb : blankS x = false) (hbe : b < e) (hz : ts[e - 1]? = some z) : wellS ts b e = blankS z := by unfold wellS; rw [hx, hz]; simp [hb, hbe]
theorem well_no {ts : List Str} {b e : Nat} {x : Str} (hx : ts[e]? = some x) (hb : blankS x = false) (hbe : ¬ b < e) : wellS ts b e = false := by unfold wellS; rw [hx]; simp [hb, hbe]
theorem step_blank {acc : Option Int} {x : Str} (h : blankS x = true) : stepH acc x = acc := by unfold stepH; rw [if_pos h]
theorem step_none {x : Str} (h : blankS x = false) : stepH none x = some (holdS x) := by unfold stepH; rw [if_neg (by simp [h])]
theorem step_some {x : Str} {a : Int} (h : blankS x = false) : stepH (some a) x = some (if holdS x < a then holdS x else a) := by
  unfold stepH; rw [if_neg (by simp [h])]; dsimp only; congr 1; split <;> omega
def cutS (h : Int) (y : Str) : Str := Txt.slice y (some h) none
def dueL (ts : List Str) (b a E : Nat) (first H : Option Int) (st : Bool) : List Str :=
  (match first with | none => [] | some f => (mid ts b a).map (cutS f)) ++ (mid ts a E).map (fun y => match H with | some h => if h ≠ 0 ∧ st = true then cutS h y else y | none => y)
theorem pick_mid {α : Type} {l : List α} {a b : Nat} (h : a ≤ b) (h1 : b ≤ l.length) : pick l (some (a : Int)) (some (b : Int)) = mid l a b := by
  unfold pick mid kms_lo kms_hi
  dsimp only
  rw [if_neg (by omega), if_neg (by omega), Int.toNat_natCast, Int.toNat_natCast, Nat.min_eq_left h1, Nat.min_eq_left (by omega), List.drop_take]
theorem pick_all {α : Type} (l : List α) : pick l (some 0) none = l := by unfold pick kms_lo kms_hi; simp
theorem pick_no {α : Type} (l : List α) : pick l none (some 0) = [] := by unfold pick kms_lo kms_hi; simp
theorem pick_hd {α : Type} {a : α} (l : List α) : pick (a :: l) none (some 1) = [a] := by unfold pick kms_lo kms_hi; simp
theorem pick_tl {α : Type} {a : α} (l : List α) : pick (a :: l) (some 1) none = l := by unfold pick kms_lo kms_hi; simp
theorem mid_strs {vs : List Value} {ts : List Str} (h : StrsAre vs ts) (a e : Nat) : StrsAre (mid vs a e) (mid ts a e) := (h.take' _).drop' _
theorem mid_mem {α : Type} {l : List α} {a e : Nat} {x : α} (h : x ∈ mid l a e) : x ∈ l := List.mem_of_mem_take (List.mem_of_mem_drop h)
theorem mid_len {α : Type} {l : List α} {a e : Nat} (h : e ≤ l.length) : (mid l a e).length = e - a := by unfold mid; simp; omega
theorem mid_cons {α : Type} {l : List α} {b e : Nat} {x : α} (hx : l[b]? = some x) (h : b < e) : mid l b e = x :: mid l (b + 1) e := by
  unfold mid
  have hb : b < (l.take e).length := by have := (List.getElem?_eq_some_iff.mp hx).1; simp; omega
  rw [List.drop_eq_getElem_cons hb]
  congr
  have := (List.getElem?_eq_some_iff.mp hx).2
  simpa using this
theorem dueL_zero {ts : List Str} {b E : Nat} {H : Option Int} {st : Bool} (h : ∀ i ∈ H, i = 0 ∨ st = false) : dueL ts b b E none H st = mid ts b E := by
  unfold dueL
  dsimp only
  rw [List.nil_append]
  refine (List.map_congr_left fun y _ => ?_).trans (List.map_id _)
  cases H with
  | none => rfl
  | some i =>
    dsimp only
    rw [if_neg]; rfl
    rintro ⟨q, r⟩
    rcases h i rfl with h | h
    · exact q h
    · rw [r] at h; cases h
theorem dueL_cut {ts : List Str} {b E : Nat} {i : Int} (h : i ≠ 0) : dueL ts b b E none (some i) true = (mid ts b E).map (cutS i) := by
  unfold dueL
  dsimp only
  rw [List.nil_append]
  refine List.map_congr_left fun y _ => ?_
  rw [if_pos ⟨h, rfl⟩]
theorem dueL_zero1 {ts : List Str} {b E : Nat} {x : Str} {f : Int} {H : Option Int} {st : Bool} (hx : ts[b]? = some x) (h : ∀ i ∈ H, i = 0 ∨ st = false) : dueL ts b (b + 1) E (some f) H st = cutS f x :: mid ts (b + 1) E := by
  have := dueL_zero (ts := ts) (b := b + 1) (E := E) h
  unfold dueL at this ⊢
  dsimp only at this ⊢
  rw [List.nil_append] at this
  rw [this, mid_cons hx (Nat.lt_succ_self b), mid_self]; rfl
theorem dueL_cut1 {ts : List Str} {b E : Nat} {x : Str} {f i : Int} (hx : ts[b]? = some x) (h : i ≠ 0) : dueL ts b (b + 1) E (some f) (some i) true = cutS f x :: (mid ts (b + 1) E).map (cutS i) := by
  have := dueL_cut (ts := ts) (b := b + 1) (E := E) h
  unfold dueL at this ⊢
  dsimp only at this ⊢
  rw [List.nil_append] at this
  rw [this, mid_cons hx (Nat.lt_succ_self b), mid_self]; rfl
theorem minH_le {l : List Str} (h : ∀ x ∈ l, x ∈ rowsL) : ∀ i ∈ minH l, 0 ≤ i ∧ i ≤ 10 := by
  unfold minH
  have : ∀ (l : List Str) (acc : Option Int), (∀ x ∈ l, x ∈ rowsL) → (∀ i ∈ acc, 0 ≤ i ∧ i ≤ 10) → ∀ i ∈ l.foldl stepH acc, 0 ≤ i ∧ i ≤ 10 := by
    intro l
    induction l with
    | nil => exact fun acc _ h => h
    | cons x r ih =>
      intro acc hl ha
      refine ih _ (fun y hy => hl y (.tail _ hy)) ?_
      have f := (rowF (hl x (.head _))).ge
      intro i hi
      unfold stepH at hi
      split at hi
      · exact ha i hi
      · cases hi
        cases acc with
        | none => exact f
        | some a => have := ha a rfl; dsimp only; omega
  exact this l none h fun i hi => nomatch hi
theorem set0_strs {vs : List Value} {x y : Str} {r : List Str} {t : Tok} (h : StrsAre vs (x :: r)) : StrsAre (vs.set (Int.toNat 0) (.str y t)) (y :: r) := by
  cases h with
  | cons _ _ h => exact .cons _ _ h
def fstO (bi fi : Option Int) : Option Int := match fi with | none => bi | some f => some f
def aOf (b : Nat) (first : Option Int) : Nat := match first with | none => b | some _ => b + 1
/-- what get_indented gives -/
def IndPost (w : World) (x dx l m : Nat) (vs ws : List Value) (ts : List Str) (p o : Value) (t1 t2 t3 t4 tb : Tok) (n0 n1 : Nat) (b : Nat) (u st : Bool) (bi fi : Option Int) (r : Value) (led : List (Addr × Obj)) : Prop :=
  ∃ (R x' dx' D I n2 n3 : Nat) (u1 u2 u3 u4 th : Tok) (us : List Value) (E : Nat), r = .ref R ∧ IsEnd (stopS u bi) ts (aOf b (fstO bi fi)) E ∧
    StrsAre us (dueL ts b (aOf b (fstO bi fi)) E (fstO bi fi) (holdM bi ts (aOf b (fstO bi fi)) E) st) ∧
    (x' ≠ dx' ∧ x' ≠ D ∧ x' ≠ I ∧ dx' ≠ D ∧ dx' ≠ I ∧ D ≠ I) ∧ (∀ y ∈ [x, dx, l, m], y < x' ∧ y < dx' ∧ y < D ∧ y < I) ∧ (∀ y ∈ [x, dx, l, m, x', dx', D, I], y < R) ∧
    led = [(R, tup3 (.ref x') (.int ((holdM bi ts (aOf b (fstO bi fi)) E).getD 0) th) (.bool (wellS ts b E))), (x', instObj 310 dx'), (dx', vl w D I (.ref x) (.int b tb) u1 u2 u3 u4), (D, W.listOf us.toArray n2), (I, W.listOf (mid ws b E).toArray n3),
      (x, instObj 310 dx), (dx, vl w l m p o t1 t2 t3 t4), (l, W.listOf vs.toArray n0), (m, W.listOf ws.toArray n1)]
local macro_rules | `(tactic| walk_at "call ref") => `(tactic| (k_here; (with_reducible first | show wpAny _ _ (call (Value.ref 125) _ _) _ _ _ | show wpAny _ _ (call (Value.ref 283) _ _) _ _ _); refine halt ?_))
def EndsT (p : Str → Bool) (ts : List Str) (a i : Nat) (ys : List Value) : Prop :=
  (ys = [] ∧ ∀ k y, a ≤ k → k < a + i → ts[k]? = some y → p y = false) ∨ ∃ (E : Nat) (t : Tok) (ys' : List Value), ys = .int E t :: ys' ∧ IsEnd p ts a E ∧ E < a + i
theorem EndsT.zero {p : Str → Bool} {ts : List Str} {a : Nat} : EndsT p ts a 0 [] := .inl ⟨rfl, fun k y h1 h2 => by omega⟩
theorem EndsT.yes {p : Str → Bool} {ts : List Str} {a i : Nat} {ys : List Value} {x : Str} {z : Int} {t : Tok} (h : EndsT p ts a i ys) (hx : ts[a + i]? = some x) (hp : p x = true) (hz : z = ((a + i : Nat) : Int)) : EndsT p ts a (i + 1) (ys ++ [.int z t]) := by
  rcases h with ⟨rfl, h⟩ | ⟨E, t', ys', rfl, hE, hl⟩
  · exact .inr ⟨a + i, t, [], by rw [hz]; rfl, isEnd_at (by omega) h hx hp, by omega⟩
  · exact .inr ⟨E, t', ys' ++ [.int z t], rfl, hE, by omega⟩
theorem EndsT.no {p : Str → Bool} {ts : List Str} {a i : Nat} {ys : List Value} {x : Str} (h : EndsT p ts a i ys) (hx : ts[a + i]? = some x) (hp : p x = false) : EndsT p ts a (i + 1) ys := by
  rcases h with ⟨rfl, h⟩ | ⟨E, t', ys', rfl, hE, hl⟩
  · exact .inl ⟨rfl, no_step h hx hp⟩
  · exact .inr ⟨E, t', ys', rfl, hE, by omega⟩
def nbS (x : Str) : Bool := !blankS x
theorem nb_yes {l : List Str} {i : Nat} {y : Str} (h : l[i]? = some y) (hy : blankS y = false) : (l.take (i + 1)).filter nbS = (l.take i).filter nbS ++ [y] := by
  rw [take_step h, List.filter_append]; simp [nbS, hy]
theorem nb_no {l : List Str} {i : Nat} {y : Str} (h : l[i]? = some y) (hy : blankS y = true) : (l.take (i + 1)).filter nbS = (l.take i).filter nbS := by
  rw [take_step h, List.filter_append]; simp [nbS, hy]
theorem minH_foldl : ∀ (l : List Str) (acc : Option Int), (l.foldl stepH acc = none → acc = none ∧ l.filter nbS = []) ∧ ∀ m, l.foldl stepH acc = some m → (acc = some m ∨ m ∈ (l.filter nbS).map holdS) ∧ (∀ a ∈ acc, m ≤ a) ∧ ∀ y ∈ (l.filter nbS).map holdS, m ≤ y
  | [], acc => ⟨fun h => ⟨h, rfl⟩, fun m h => ⟨.inl h, fun a ha => by rw [show acc = some m from h] at ha; cases ha; exact Int.le_refl _, fun y hy => nomatch hy⟩⟩
  | x :: r, acc => by
    obtain ⟨h1, h2⟩ := minH_foldl r (stepH acc x)
    cases hb : blankS x with
    | true =>
      have e : stepH acc x = acc := step_blank hb
      have e2 : (x :: r).filter nbS = r.filter nbS := by simp [nbS, hb]
      rw [e] at h1 h2
      rw [e2, List.foldl_cons, e]
      exact ⟨h1, h2⟩
    | false =>
      have e2 : (x :: r).filter nbS = x :: r.filter nbS := by simp [nbS, hb]
      rw [e2, List.foldl_cons]
      cases acc with
      | none =>
        rw [step_none hb] at h1 h2 ⊢
        refine ⟨fun h => (nomatch (h1 h).1), fun m h => ?_⟩
        obtain ⟨a1, a2, a3⟩ := h2 m h
        refine ⟨.inr ?_, fun a ha => (nomatch ha), fun y hy => ?_⟩
        · rw [List.map_cons]
          rcases a1 with a1 | a1
          · cases a1; exact .head _
          · exact .tail _ a1
        · rw [List.map_cons] at hy
          rcases List.mem_cons.mp hy with rfl | hy
          · exact a2 _ rfl
          · exact a3 y hy
      | some a =>
        rw [step_some hb] at h1 h2 ⊢
        refine ⟨fun h => (nomatch (h1 h).1), fun m h => ?_⟩
        obtain ⟨a1, a2, a3⟩ := h2 m h
        have a4 := a2 _ rfl
        refine ⟨?_, fun a' ha => by cases ha; split at a4 <;> omega, fun y hy => ?_⟩
        · rw [List.map_cons]
          rcases a1 with a1 | a1
          · cases a1
            split
            · exact .inr (.head _)
            · exact .inl rfl
          · exact .inr (.tail _ a1)
        · rw [List.map_cons] at hy
          rcases List.mem_cons.mp hy with rfl | hy
          · split at a4 <;> omega
          · exact a3 y hy
theorem minH_of {l : List Str} {M : Int} (h : M ∈ (l.filter nbS).map holdS) (h2 : ∀ y ∈ (l.filter nbS).map holdS, M ≤ y) : minH l = some M := by
  obtain ⟨a1, a2⟩ := minH_foldl l none
  cases q : l.foldl stepH none with
  | none => rw [(a1 q).2] at h; cases h
  | some m =>
    obtain ⟨b1, _, b3⟩ := a2 m q
    rcases b1 with b1 | b1
    · cases b1
    · show l.foldl stepH none = _
      rw [q, Int.le_antisymm (b3 M h) (h2 m b1)]
theorem minH_no {l : List Str} (h : (l.filter nbS).length = 0) : minH l = none := by
  obtain ⟨a1, a2⟩ := minH_foldl l none
  cases q : l.foldl stepH none with
  | none => exact q
  | some m =>
    obtain ⟨b1, _, _⟩ := a2 m q
    rw [List.eq_nil_of_length_eq_zero h] at b1
    rcases b1 with b1 | b1 <;> cases b1

end
section
local macro_rules | `(tactic| ktr_units) => `(tactic| first | assumption | omega | (simp only [List.length_append, List.length_cons, List.length_nil, List.length_take, List.length_drop, List.length_set]; omega))
local macro_rules | `(tactic| k_ne) => `(tactic| (refine neN ?_; (try dsimp only); first | assumption | exact Ne.symm (by assumption) | omega))
local macro_rules | `(tactic| walk_at "call builtin:len") => `(tactic| (k_here; (with_reducible show wpAny _ _ (call (Value.builtin "len") [Value.ref _]) _ _ _); k_dflt (refine' len_L ?N ?m ?z ?_; (case N => k_asm); (case m => k_mem); (case z => ktr_units); k_whole); intro _ _))
local macro_rules | `(tactic| walk_at "truthy ref") => `(tactic| (k_here; k_dflt (refine' truthy_L ?N ?m ?z ?_; (case N => k_asm); (case m => k_mem); (case z => ktr_units); k_whole); intro _))
local macro_rules | `(tactic| walk_at "getItem ref int") => `(tactic| (k_here; (with_reducible show wpAny _ _ (getItem (Value.ref _) (Value.int _ _)) _ _ _); k_dflt (first
  | (refine' get_SL ?l ?S ?N ?m ?a ?b ?z ?_; (case N => k_asm); (case m => k_mem); (case S => with_reducible assumption); (case l => with_reducible assumption); (case a => ktr_units); (case b => ktr_units); (case z => ktr_units); k_whole; intro _ _ _ _)
  | (refine' get_S ?S ?N ?m ?a ?b ?z ?_; (case N => k_asm); (case m => k_mem); (case S => with_reducible assumption); (case a => ktr_units); (case b => ktr_units); (case z => ktr_units); k_whole; intro _ _ _)
  | (refine' get_L ?N ?m ?a ?b ?z ?_; (case N => k_asm); (case m => k_mem); (case a => ktr_units); (case b => ktr_units); (case z => ktr_units); k_whole; intro _ _))))
local macro_rules | `(tactic| walk_at "subscriptTail") => `(tactic| (k_here; (with_reducible show wpAny _ _ (subscriptTail _ _ (Value.ref _) (Value.int _ _)) _ _ _); k_dflt (first
  | (refine' sub_SL ?l ?S ?N ?m ?a ?b ?z ?_ ?s ?g; (case N => k_asm); (case m => k_mem); (case S => with_reducible assumption); (case l => with_reducible assumption); (case a => ktr_units); (case b => ktr_units); (case z => ktr_units); (case s => with_unfolding_all rfl); (case g => (intro _; with_unfolding_all rfl)); k_whole; intro _ _ _ _)
  | (refine' sub_S ?S ?N ?m ?a ?b ?z ?_ ?s ?g; (case N => k_asm); (case m => k_mem); (case S => with_reducible assumption); (case a => ktr_units); (case b => ktr_units); (case z => ktr_units); (case s => with_unfolding_all rfl); (case g => (intro _; with_unfolding_all rfl)); k_whole; intro _ _ _)
  | (refine' sub_L ?N ?m ?a ?b ?z ?_ ?s ?g; (case N => k_asm); (case m => k_mem); (case a => ktr_units); (case b => ktr_units); (case z => ktr_units); (case s => with_unfolding_all rfl); (case g => (intro _; with_unfolding_all rfl)); k_whole; intro _ _))))
local macro_rules | `(tactic| walk_at "subscriptTail Attribute Name Constant ref int") => `(tactic| (k_here; (with_reducible show wpAny _ _ (subscriptTail _ _ (Value.ref _) (Value.int _ _)) _ _ _); k_dflt (first
  | (refine' sub_SL ?l ?S ?N ?m ?a ?b ?z ?_ ?s ?g; (case N => k_asm); (case m => k_mem); (case S => with_reducible assumption); (case l => with_reducible assumption); (case a => ktr_units); (case b => ktr_units); (case z => ktr_units); (case s => with_unfolding_all rfl); (case g => (intro _; with_unfolding_all rfl)); k_whole; intro _ _ _ _)
  | (refine' sub_S ?S ?N ?m ?a ?b ?z ?_ ?s ?g; (case N => k_asm); (case m => k_mem); (case S => with_reducible assumption); (case a => ktr_units); (case b => ktr_units); (case z => ktr_units); (case s => with_unfolding_all rfl); (case g => (intro _; with_unfolding_all rfl)); k_whole; intro _ _ _)
  | (refine' sub_L ?N ?m ?a ?b ?z ?_ ?s ?g; (case N => k_asm); (case m => k_mem); (case a => ktr_units); (case b => ktr_units); (case z => ktr_units); (case s => with_unfolding_all rfl); (case g => (intro _; with_unfolding_all rfl)); k_whole; intro _ _))))
local macro_rules | `(tactic| walk_at "subscriptTail") => `(tactic| (k_here; (with_reducible show wpAny _ _ (subscriptTail _ (PySem.Expr.Slice _ _ none _) (Value.ref _) (Value.ref _)) _ _ _); k_dflt (refine' slice_L ?F ?N ?m ?p ?q ?z ?_ ?s ?t; (case F => k_asm); (case N => k_asm); (case m => k_mem); (case p => kmk_part); (case q => kmk_part); (case z => ktr_units); (case s => with_unfolding_all rfl); (case t => (intro _; with_unfolding_all rfl)); k_whole); intro D' h' F' N' l1; (try k_lt l1); (try k_sweep)))
local macro_rules | `(tactic| walk_at "subscriptTail Name Slice ref ref") => `(tactic| (k_here; (with_reducible show wpAny _ _ (subscriptTail _ (PySem.Expr.Slice _ _ none _) (Value.ref _) (Value.ref _)) _ _ _); k_dflt (refine' slice_L ?F ?N ?m ?p ?q ?z ?_ ?s ?t; (case F => k_asm); (case N => k_asm); (case m => k_mem); (case p => kmk_part); (case q => kmk_part); (case z => ktr_units); (case s => with_unfolding_all rfl); (case t => (intro _; with_unfolding_all rfl)); k_whole); intro D' h' F' N' l1; (try k_lt l1); (try k_sweep)))
local macro_rules | `(tactic| walk_at "binaryOp Add ref ref") => `(tactic| (k_here; k_dflt (refine' cat_L ?F ?N ?m ?q ?z ?_; (case F => k_asm); (case N => k_asm); (case m => k_mem); (case q => k_mem); (case z => ktr_units); k_whole); intro D' h' F' N' l1; (try k_lt l1); (try k_sweep)))
local macro_rules | `(tactic| walk_at "call type:range") => `(tactic| (k_here; k_dflt (first
  | (refine' range1_L ?F ?N ?_; (case F => k_asm); (case N => k_asm); k_whole)
  | (refine' range2_L ?F ?N ?_; (case F => k_asm); (case N => k_asm); k_whole)); intro r' h' tk' t' u' v' F' N' l1; (try k_lt l1); (try k_sweep)))
local macro_rules | `(tactic| walk_at "compareOp Eq ref ref") => `(tactic| (k_here; k_dflt (refine' eq_SS ?a ?b ?N ?m ?q ?o ?p ?u ?_; (case N => k_asm); (case m => k_mem); (case q => k_mem); (case a => with_reducible assumption); (case b => with_reducible assumption); (case o => with_reducible assumption); (case p => with_reducible assumption); (case u => exact Nat.le_of_ble_eq_true rfl); k_whole)))
local macro_rules | `(tactic| walk_at "compareOp NotEq ref ref") => `(tactic| (k_here; k_dflt (refine' ne_SS ?a ?b ?N ?m ?q ?o ?p ?u ?_; (case N => k_asm); (case m => k_mem); (case q => k_mem); (case a => with_reducible assumption); (case b => with_reducible assumption); (case o => with_reducible assumption); (case p => with_reducible assumption); (case u => exact Nat.le_of_ble_eq_true rfl); k_whole)))
local macro_rules | `(tactic| walk_at "getMethod ref") => `(tactic| (k_here; (with_reducible show wpAny _ _ (getMethod (Value.ref _) (PySem.Str.ofString "__class__") _) _ _ _); k_dflt (refine' method_got ?F ?X ?I ?g ?f ?t ?n ?_; (case F => k_asm); (case X => k_asm); (case I => k_inst); (case g => k_is); (case f => k_is); (case t => exact fun M => Looks.of_pure KF.type_class); (case n => decide +kernel); k_whole)))
local macro_rules | `(tactic| walk_at "eval Name") => `(tactic| (k_here; (with_reducible show wpAny _ _ (eval (PySem.Expr.Name _ _) (compEnvC _ _ _ _)) _ _ _); k_dflt (first
  | (refine' nmC ?N ?m ?n ?v ?_ ?k ?x ?d; (case x => rfl); (case N => k_asm); (case m => k_mem); (case n => with_reducible assumption); (case v => first | with_reducible assumption | rfl); (case k => rfl); (case d => decide); k_whole)
  | (refine' nmCc ?N ?c ?m ?d ?_ ?k ?x ?b; (case x => rfl); (case c => rfl); (case N => k_asm); (case m => k_mem); (case d => k_asm); (case k => rfl); (case b => decide); k_whole))))
local macro_rules | `(tactic| walk_at "eval ListComp") => `(tactic| (k_here; refine halt ?_))
local macro_rules | `(tactic| walk_at "exec Assign cons ListComp") => `(tactic| (k_here; (with_reducible show wpAny _ _ (exec (PySem.Stmt.Assign [PySem.Expr.Name _ _] _ _) _) _ _ _); refine halt ?_))
local macro_rules | `(tactic| ktr_unf) => `(tactic| ((with_reducible apply comp_eval); (case hF => k_asm); (case hclos => with_unfolding_all rfl); (case hcell => decide); (case hkind => with_unfolding_all rfl); (case hnames => decide); (case hx => with_unfolding_all rfl); (case hs => intro _; with_unfolding_all rfl)))
local macro_rules | `(tactic| ktr_rel) => `(tactic| ((with_reducible apply comp_assign); (case hF => k_asm); (case hsw => with_unfolding_all rfl); (case hclos => with_unfolding_all rfl); (case hcell => decide); (case hkind => with_unfolding_all rfl); (case hnames => decide); (case hx => with_unfolding_all rfl); (case hs => intro _; with_unfolding_all rfl)))
local macro_rules | `(tactic| walk_at "exec While") => `(tactic| (k_here; refine halt ?_))
local macro_rules | `(tactic| walk_at "pyIter ref") => `(tactic| (k_here; refine halt ?_))
local macro_rules | `(tactic| k_lt $h:ident) => `(tactic| (have lAll := $h; replace $h := allLt_of $h; simp only [AllLt, and_true] at $h:ident))
local macro_rules | `(tactic| k_mem) => `(tactic| ((repeat (first | exact List.Mem.head _ | refine' List.Mem.tail _ ?_)); (all_goals first | assumption | exact List.mem_append_left _ (by assumption) | exact List.mem_append_right _ (by assumption))))
local macro_rules | `(tactic| k_all) => `(tactic| exact OwnOff.ne (by assumption) (by k_mem))
local macro_rules | `(tactic| k_ownIn) => `(tactic| ((repeat (first | exact List.forall_mem_nil _ | refine List.forall_mem_cons.mpr ⟨by k_mem, ?_⟩)); (all_goals (intro p hp; k_mem))))
local macro_rules | `(tactic| ktu_offL) => `(tactic| (repeat' (first | exact off_nil | exact nin_nil | refine off_cons ?_ ?_ | refine nin_cons (neN ?_) ?_)) <;> ((try dsimp only); omega))
local macro_rules | `(tactic| walk_at "setItem") => `(tactic| (k_here; k_dflt (refine' set_L ?F ?N ?a ?b ?z ?U ?_; (case F => k_asm); (case N => k_asm); (case a => ktr_units); (case b => ktr_units); (case z => ktr_units); (case U => k_upd); k_whole); intro h' F' N'))
local macro_rules | `(tactic| kst_all) => `(tactic| (repeat' (first | exact List.forall_mem_nil _ | refine List.forall_mem_cons.mpr ⟨ltN ?_, ?_⟩)) <;> ((try dsimp only); omega))
local macro_rules | `(tactic| ktr_enter) => `(tactic| (first
  | (k_dflt (refine' enter ?k1 ?k2 ?k6 ?k7 ?k8 ?k9 ?kB ?_ ?c2 ?c3 ?c4 ?c5)
     (case k1 => assumption)
     (case k2 => assumption)
     (case k6 => k_is)
     (case k7 => k_is)
     (case k8 => decide)
     (case k9 => first | exact fun s hs => BindsTo.of_eq rfl | exact fun s hs => binds_K hs rfl (by k_is) rfl rfl rfl)
     (case c5 => decide)
     (case kB => exact locs rfl)
     (case c2 => exact rfl)
     (case c3 => exact rfl)
     (case c4 => exact rfl)
     intro s' env' outer' g' L' h' F' N' B' X' T' lL'
     (try k_lt lL')
     (try dsimp only)
     (try k_lift B')
     (try k_fold))
  | (k_dflt (refine' enterC ?k1 ?k2 ?k6 ?k7 ?k8 ?k9 ?kB ?kD ?_ ?c2 ?c3 ?c4)
     (case k1 => assumption)
     (case k2 => assumption)
     (case k6 => k_is)
     (case k7 => k_is)
     (case k8 => decide)
     (case k9 => first | exact fun s hs => BindsTo.of_eq rfl | exact fun s hs => binds_K hs rfl (by k_is) rfl rfl rfl)
     (case kB => exact rfl)
     (case kD => decide +kernel)
     (case c2 => exact rfl)
     (case c3 => exact rfl)
     (case c4 => exact rfl)
     intro s' env' outer' g' L' h' tk' cells' F' N' Y' B' X' T' lL'
     (try k_lt lL')
     k_cells Y'
     (try simp only [List.cons_append, List.nil_append] at N')
     (try dsimp only)
     (try k_lift B')
     (try k_fold))))
example (w : World) : hd1.heap_39 w.params = hd1.heap_39 w.params ∧ PySem.Challenge.rw_ff0006_01 = PySem.Challenge.rw_ff0006_01 := by
  k_fill
  exact ⟨rfl, rfl⟩
theorem part_spec {w : World} {s₀ : Shared} {mg mb : Str → Option Value} {base : Heap} (bs : Bs w s₀ mg mb base)
    (x dx l m : Nat) (vs ws : List Value) (p o : Value) (t1 t2 t3 t4 ta tb : Tok) (hl : vs.length ≤ 1000) (hw : ws.length = vs.length) (n0 n1 : Nat) (a b : Int) :
    Spec P1 w base 800 125 ⟨[.ref x, .int a ta, .int b tb], []⟩ [(x, instObj 310 dx), (dx, vl w l m p o t1 t2 t3 t4), (l, W.listOf vs.toArray n0), (m, W.listOf ws.toArray n1)]
      (fun r led => ∃ (x' dx' D I n2 n3 : Nat) (u1 u2 u3 u4 : Tok), r = .ref x' ∧ x' ≠ dx' ∧ x' ≠ D ∧ x' ≠ I ∧ dx' ≠ D ∧ dx' ≠ I ∧ D ≠ I ∧
        (∀ y ∈ [x, dx, l, m], y < x' ∧ y < dx' ∧ y < D ∧ y < I) ∧
        led = [(x', instObj 310 dx'), (dx', vl w D I (.ref x) (.int a ta) u1 u2 u3 u4), (D, W.listOf (pick vs (some a) (some b)).toArray n2), (I, W.listOf (pick ws (some a) (some b)).toArray n3),
          (x, instObj 310 dx), (dx, vl w l m p o t1 t2 t3 t4), (l, W.listOf vs.toArray n0), (m, W.listOf ws.toArray n1)]) := by
  obtain ⟨KX, X, GL, T, TB, TE, TW, M, oM, hM⟩ := bs
  have e1 := pick_len vs (some a) (some b)
  have e2 : (pick ws (some a) (some b)).length = (pick vs (some a) (some b)).length := by unfold pick; rw [hw]; simp only [List.length_take, List.length_drop, hw]
  ktr_enter
  k_steps
  · refine' Ends.mk' (by k_asm) (by k_asm) ?zhs ⟨_, _, _, _, _, _, _, _, _, _, rfl, ?_, ?_, ?_, ?_, ?_, ?_, ?_, rfl⟩
    (case zhs => k_ownIn)
    all_goals first | omega | (simp only [List.forall_mem_cons, List.forall_mem_nil, List.not_mem_nil, false_implies, implies_true, and_true]; omega)
  · (refine Halt.mk ?_)
    ktr_unf
    k_steps
    (refine Halt.mk ?_)
    refine compAt_rangeT (fun i ys tups => ys = [] ∧ tups = []) (by k_asm) (by k_asm) 0 rfl (by omega) (by omega) (by omega) (by omega) ⟨rfl, rfl⟩ ?_ ?_
    · intro i tv ys tups h₁ tk₁ own C oC mc hi
      exact absurd hi (Nat.not_lt_zero _)
    · rintro D C h' tk ys nD oC mc tups N' hn F' hs1 hs2 ho ⟨rfl, rfl⟩ hl'
      simp only [List.append_nil] at N' hs1
      have e3 : pick ws (some a) (some b) = [] := List.eq_nil_of_length_eq_zero (by omega)
      have e4 : pick vs (some a) (some b) = [] := List.eq_nil_of_length_eq_zero (by omega)
      have e5 : (pick vs (some a) (some b)).length = ([] : List Value).length := by rw [e4]
      have e6 : (pick vs (some a) (some b)).length = 0 := by rw [e4]; rfl
      k_lt hs2
      refine ⟨_, _, _, hn, N', hs1, F', ?_⟩
      intro h'' F'' N''
      k_steps
      refine' Ends.mk' (by k_asm) (by k_asm) ?zhs2 ⟨_, _, _, _, _, _, _, _, _, _, rfl, ?_, ?_, ?_, ?_, ?_, ?_, ?_, rfl⟩
      (case zhs2 => rw [e3]; k_ownIn)
      all_goals first | omega | (simp only [List.forall_mem_cons, List.forall_mem_nil, List.not_mem_nil, false_implies, implies_true, and_true]; omega)

end
section
local macro_rules | `(tactic| ktr_units) => `(tactic| first | assumption | omega | (simp only [List.length_append, List.length_cons, List.length_nil, List.length_take, List.length_drop, List.length_set]; omega))
local macro_rules | `(tactic| k_ne) => `(tactic| (refine neN ?_; (try dsimp only); first | assumption | exact Ne.symm (by assumption) | omega))
local macro_rules | `(tactic| walk_at "call builtin:len") => `(tactic| (k_here; (with_reducible show wpAny _ _ (call (Value.builtin "len") [Value.ref _]) _ _ _); k_dflt (refine' len_L ?N ?m ?z ?_; (case N => k_asm); (case m => k_mem); (case z => ktr_units); k_whole); intro _ _))
local macro_rules | `(tactic| walk_at "truthy ref") => `(tactic| (k_here; k_dflt (refine' truthy_L ?N ?m ?z ?_; (case N => k_asm); (case m => k_mem); (case z => ktr_units); k_whole); intro _))
local macro_rules | `(tactic| walk_at "getItem ref int") => `(tactic| (k_here; (with_reducible show wpAny _ _ (getItem (Value.ref _) (Value.int _ _)) _ _ _); k_dflt (first
  | (refine' get_SL ?l ?S ?N ?m ?a ?b ?z ?_; (case N => k_asm); (case m => k_mem); (case S => with_reducible assumption); (case l => with_reducible assumption); (case a => ktr_units); (case b => ktr_units); (case z => ktr_units); k_whole; intro _ _ _ _)
  | (refine' get_S ?S ?N ?m ?a ?b ?z ?_; (case N => k_asm); (case m => k_mem); (case S => with_reducible assumption); (case a => ktr_units); (case b => ktr_units); (case z => ktr_units); k_whole; intro _ _ _)
  | (refine' get_L ?N ?m ?a ?b ?z ?_; (case N => k_asm); (case m => k_mem); (case a => ktr_units); (case b => ktr_units); (case z => ktr_units); k_whole; intro _ _))))
local macro_rules | `(tactic| walk_at "subscriptTail") => `(tactic| (k_here; (with_reducible show wpAny _ _ (subscriptTail _ _ (Value.ref _) (Value.int _ _)) _ _ _); k_dflt (first
  | (refine' sub_SL ?l ?S ?N ?m ?a ?b ?z ?_ ?s ?g; (case N => k_asm); (case m => k_mem); (case S => with_reducible assumption); (case l => with_reducible assumption); (case a => ktr_units); (case b => ktr_units); (case z => ktr_units); (case s => with_unfolding_all rfl); (case g => (intro _; with_unfolding_all rfl)); k_whole; intro _ _ _ _)
  | (refine' sub_S ?S ?N ?m ?a ?b ?z ?_ ?s ?g; (case N => k_asm); (case m => k_mem); (case S => with_reducible assumption); (case a => ktr_units); (case b => ktr_units); (case z => ktr_units); (case s => with_unfolding_all rfl); (case g => (intro _; with_unfolding_all rfl)); k_whole; intro _ _ _)
  | (refine' sub_L ?N ?m ?a ?b ?z ?_ ?s ?g; (case N => k_asm); (case m => k_mem); (case a => ktr_units); (case b => ktr_units); (case z => ktr_units); (case s => with_unfolding_all rfl); (case g => (intro _; with_unfolding_all rfl)); k_whole; intro _ _))))
local macro_rules | `(tactic| walk_at "subscriptTail Attribute Name Constant ref int") => `(tactic| (k_here; (with_reducible show wpAny _ _ (subscriptTail _ _ (Value.ref _) (Value.int _ _)) _ _ _); k_dflt (first
  | (refine' sub_SL ?l ?S ?N ?m ?a ?b ?z ?_ ?s ?g; (case N => k_asm); (case m => k_mem); (case S => with_reducible assumption); (case l => with_reducible assumption); (case a => ktr_units); (case b => ktr_units); (case z => ktr_units); (case s => with_unfolding_all rfl); (case g => (intro _; with_unfolding_all rfl)); k_whole; intro _ _ _ _)
  | (refine' sub_S ?S ?N ?m ?a ?b ?z ?_ ?s ?g; (case N => k_asm); (case m => k_mem); (case S => with_reducible assumption); (case a => ktr_units); (case b => ktr_units); (case z => ktr_units); (case s => with_unfolding_all rfl); (case g => (intro _; with_unfolding_all rfl)); k_whole; intro _ _ _)
  | (refine' sub_L ?N ?m ?a ?b ?z ?_ ?s ?g; (case N => k_asm); (case m => k_mem); (case a => ktr_units); (case b => ktr_units); (case z => ktr_units); (case s => with_unfolding_all rfl); (case g => (intro _; with_unfolding_all rfl)); k_whole; intro _ _))))
local macro_rules | `(tactic| walk_at "subscriptTail") => `(tactic| (k_here; (with_reducible show wpAny _ _ (subscriptTail _ (PySem.Expr.Slice _ _ none _) (Value.ref _) (Value.ref _)) _ _ _); k_dflt (refine' slice_L ?F ?N ?m ?p ?q ?z ?_ ?s ?t; (case F => k_asm); (case N => k_asm); (case m => k_mem); (case p => kmk_part); (case q => kmk_part); (case z => ktr_units); (case s => with_unfolding_all rfl); (case t => (intro _; with_unfolding_all rfl)); k_whole); intro D' h' F' N' l1; (try k_lt l1); (try k_sweep)))
local macro_rules | `(tactic| walk_at "subscriptTail Name Slice ref ref") => `(tactic| (k_here; (with_reducible show wpAny _ _ (subscriptTail _ (PySem.Expr.Slice _ _ none _) (Value.ref _) (Value.ref _)) _ _ _); k_dflt (refine' slice_L ?F ?N ?m ?p ?q ?z ?_ ?s ?t; (case F => k_asm); (case N => k_asm); (case m => k_mem); (case p => kmk_part); (case q => kmk_part); (case z => ktr_units); (case s => with_unfolding_all rfl); (case t => (intro _; with_unfolding_all rfl)); k_whole); intro D' h' F' N' l1; (try k_lt l1); (try k_sweep)))
local macro_rules | `(tactic| walk_at "binaryOp Add ref ref") => `(tactic| (k_here; k_dflt (refine' cat_L ?F ?N ?m ?q ?z ?_; (case F => k_asm); (case N => k_asm); (case m => k_mem); (case q => k_mem); (case z => ktr_units); k_whole); intro D' h' F' N' l1; (try k_lt l1); (try k_sweep)))
local macro_rules | `(tactic| walk_at "call type:range") => `(tactic| (k_here; k_dflt (first
  | (refine' range1_L ?F ?N ?_; (case F => k_asm); (case N => k_asm); k_whole)
  | (refine' range2_L ?F ?N ?_; (case F => k_asm); (case N => k_asm); k_whole)); intro r' h' tk' t' u' v' F' N' l1; (try k_lt l1); (try k_sweep)))
local macro_rules | `(tactic| walk_at "compareOp Eq ref ref") => `(tactic| (k_here; k_dflt (refine' eq_SS ?a ?b ?N ?m ?q ?o ?p ?u ?_; (case N => k_asm); (case m => k_mem); (case q => k_mem); (case a => with_reducible assumption); (case b => with_reducible assumption); (case o => with_reducible assumption); (case p => with_reducible assumption); (case u => exact Nat.le_of_ble_eq_true rfl); k_whole)))
local macro_rules | `(tactic| walk_at "compareOp NotEq ref ref") => `(tactic| (k_here; k_dflt (refine' ne_SS ?a ?b ?N ?m ?q ?o ?p ?u ?_; (case N => k_asm); (case m => k_mem); (case q => k_mem); (case a => with_reducible assumption); (case b => with_reducible assumption); (case o => with_reducible assumption); (case p => with_reducible assumption); (case u => exact Nat.le_of_ble_eq_true rfl); k_whole)))
local macro_rules | `(tactic| walk_at "getMethod ref") => `(tactic| (k_here; (with_reducible show wpAny _ _ (getMethod (Value.ref _) (PySem.Str.ofString "__class__") _) _ _ _); k_dflt (refine' method_got ?F ?X ?I ?g ?f ?t ?n ?_; (case F => k_asm); (case X => k_asm); (case I => k_inst); (case g => k_is); (case f => k_is); (case t => exact fun M => Looks.of_pure KF.type_class); (case n => decide +kernel); k_whole)))
local macro_rules | `(tactic| walk_at "eval Name") => `(tactic| (k_here; (with_reducible show wpAny _ _ (eval (PySem.Expr.Name _ _) (compEnvC _ _ _ _)) _ _ _); k_dflt (first
  | (refine' nmC ?N ?m ?n ?v ?_ ?k ?x ?d; (case x => rfl); (case N => k_asm); (case m => k_mem); (case n => with_reducible assumption); (case v => first | with_reducible assumption | rfl); (case k => rfl); (case d => decide); k_whole)
  | (refine' nmCc ?N ?c ?m ?d ?_ ?k ?x ?b; (case x => rfl); (case c => rfl); (case N => k_asm); (case m => k_mem); (case d => k_asm); (case k => rfl); (case b => decide); k_whole))))
local macro_rules | `(tactic| walk_at "eval ListComp") => `(tactic| (k_here; refine halt ?_))
local macro_rules | `(tactic| walk_at "exec Assign cons ListComp") => `(tactic| (k_here; (with_reducible show wpAny _ _ (exec (PySem.Stmt.Assign [PySem.Expr.Name _ _] _ _) _) _ _ _); refine halt ?_))
local macro_rules | `(tactic| ktr_unf) => `(tactic| ((with_reducible apply comp_eval); (case hF => k_asm); (case hclos => with_unfolding_all rfl); (case hcell => decide); (case hkind => with_unfolding_all rfl); (case hnames => decide); (case hx => with_unfolding_all rfl); (case hs => intro _; with_unfolding_all rfl)))
local macro_rules | `(tactic| ktr_rel) => `(tactic| ((with_reducible apply comp_assign); (case hF => k_asm); (case hsw => with_unfolding_all rfl); (case hclos => with_unfolding_all rfl); (case hcell => decide); (case hkind => with_unfolding_all rfl); (case hnames => decide); (case hx => with_unfolding_all rfl); (case hs => intro _; with_unfolding_all rfl)))
local macro_rules | `(tactic| walk_at "exec While") => `(tactic| (k_here; refine halt ?_))
local macro_rules | `(tactic| walk_at "pyIter ref") => `(tactic| (k_here; refine halt ?_))
local macro_rules | `(tactic| k_lt $h:ident) => `(tactic| (have lAll := $h; replace $h := allLt_of $h; simp only [AllLt, and_true] at $h:ident))
local macro_rules | `(tactic| k_mem) => `(tactic| ((repeat (first | exact List.Mem.head _ | refine' List.Mem.tail _ ?_)); (all_goals first | assumption | exact List.mem_append_left _ (by assumption) | exact List.mem_append_right _ (by assumption))))
local macro_rules | `(tactic| k_all) => `(tactic| exact OwnOff.ne (by assumption) (by k_mem))
local macro_rules | `(tactic| k_ownIn) => `(tactic| ((repeat (first | exact List.forall_mem_nil _ | refine List.forall_mem_cons.mpr ⟨by k_mem, ?_⟩)); (all_goals (intro p hp; k_mem))))
local macro_rules | `(tactic| ktu_offL) => `(tactic| (repeat' (first | exact off_nil | exact nin_nil | refine off_cons ?_ ?_ | refine nin_cons (neN ?_) ?_)) <;> ((try dsimp only); omega))
local macro_rules | `(tactic| walk_at "setItem") => `(tactic| (k_here; k_dflt (refine' set_L ?F ?N ?a ?b ?z ?U ?_; (case F => k_asm); (case N => k_asm); (case a => ktr_units); (case b => ktr_units); (case z => ktr_units); (case U => k_upd); k_whole); intro h' F' N'))
local macro_rules | `(tactic| kst_all) => `(tactic| (repeat' (first | exact List.forall_mem_nil _ | refine List.forall_mem_cons.mpr ⟨ltN ?_, ?_⟩)) <;> ((try dsimp only); omega))
local macro_rules | `(tactic| ktr_enter) => `(tactic| (first
  | (k_dflt (refine' enter ?k1 ?k2 ?k6 ?k7 ?k8 ?k9 ?kB ?_ ?c2 ?c3 ?c4 ?c5)
     (case k1 => assumption)
     (case k2 => assumption)
     (case k6 => k_is)
     (case k7 => k_is)
     (case k8 => decide)
     (case k9 => first | exact fun s hs => BindsTo.of_eq rfl | exact fun s hs => binds_K hs rfl (by k_is) rfl rfl rfl)
     (case c5 => decide)
     (case kB => exact locs rfl)
     (case c2 => exact rfl)
     (case c3 => exact rfl)
     (case c4 => exact rfl)
     intro s' env' outer' g' L' h' F' N' B' X' T' lL'
     (try k_lt lL')
     (try dsimp only)
     (try k_lift B')
     (try k_fold))
  | (k_dflt (refine' enterC ?k1 ?k2 ?k6 ?k7 ?k8 ?k9 ?kB ?kD ?_ ?c2 ?c3 ?c4)
     (case k1 => assumption)
     (case k2 => assumption)
     (case k6 => k_is)
     (case k7 => k_is)
     (case k8 => decide)
     (case k9 => first | exact fun s hs => BindsTo.of_eq rfl | exact fun s hs => binds_K hs rfl (by k_is) rfl rfl rfl)
     (case kB => exact rfl)
     (case kD => decide +kernel)
     (case c2 => exact rfl)
     (case c3 => exact rfl)
     (case c4 => exact rfl)
     intro s' env' outer' g' L' h' tk' cells' F' N' Y' B' X' T' lL'
     (try k_lt lL')
     k_cells Y'
     (try simp only [List.cons_append, List.nil_append] at N')
     (try dsimp only)
     (try k_lift B')
     (try k_fold))))
example (w : World) : hd1.heap_39 w.params = hd1.heap_39 w.params ∧ PySem.Challenge.rw_ff0006_01 = PySem.Challenge.rw_ff0006_01 := by
  k_fill
  exact ⟨rfl, rfl⟩
theorem trim_spec {w : World} {s₀ : Shared} {mg mb : Str → Option Value} {base : Heap} (bs : Bs w s₀ mg mb base)
    (x dx l m : Nat) (vs : List Value) (ts : List Str) (hv : StrsAre vs ts) (hs : ∀ x ∈ ts, x.length ≤ 100) (p o : Value) (t1 t2 t3 t4 th ta : Tok) (hl : vs.length ≤ 1000) (n0 : Nat) (h a : Int) (h0 : 0 ≤ h ∧ h ≤ 100) (ha : 0 ≤ a ∧ a ≤ 1)
    (e1 : x ≠ dx) (e2 : x ≠ l) (e3 : dx ≠ l) :
    Spec P1 w base 800 283 ⟨[.ref x, .int h th], [(Str.ofString "start", .int a ta)]⟩ [(x, instObj 310 dx), (dx, vl w l m p o t1 t2 t3 t4), (l, W.listOf vs.toArray n0)]
      (fun r led => ∃ (D n1 : Nat) (us : List Value), r = .none ∧ x < D ∧ dx < D ∧ l < D ∧ StrsAre us (pick ts none (some a) ++ (pick ts (some a) none).map (cutS h)) ∧
        led = [(x, instObj 310 dx), (dx, vl w D m p o t1 t2 t3 t4), (D, W.listOf us.toArray n1), (l, W.listOf vs.toArray n0)]) := by
  obtain ⟨KX, X, GL, T, TB, TE, TW, M, oM, hM⟩ := bs
  have ep := pick_len vs none (some a)
  ktr_enter
  k_steps
  (refine Halt.mk ?_)
  ktr_unf
  k_steps
  (refine Halt.mk ?_)
  have hp := pick_strs hv (some a) none
  have hq := pick_strs hv none (some a)
  have e4 := pick_len vs (some a) none
  refine compAt_listT (fun i ys tups => tups = [] ∧ StrsAre ys (((pick ts (some a) none).take i).map (cutS h))) (by k_asm) (by k_asm) rfl (ne_of_all (by assumption)) (by omega) ⟨rfl, StrsAre.nil⟩ ?_ ?_
  · rintro i v ys tups h₁ tk₁ own C oC mc hi ⟨rfl, hT⟩ hys F₁ N₁ hs1 ho hC hn hx
    obtain ⟨y, ty, rfl, hy⟩ := hp.item _ _ hi
    have hyl : y.length ≤ 100 := hs y (by
      have := List.mem_of_getElem? hy
      unfold pick at this
      exact List.mem_of_mem_drop (List.mem_of_mem_take this))
    dsimp only [CTurn]
    simp only [List.cons_append, List.nil_append] at N₁
    k_steps
    refine CStep.same (by k_asm) (by k_asm) (by assumption) (by assumption) ⟨rfl, ?_⟩
    rw [take_step hy, List.map_append]
    exact hT.append' (.cons _ _ .nil)
  · rintro D C h' tk ys nD oC mc tups N' hn F' hs1 hs2 ho ⟨rfl, hT⟩ hl'
    simp only [List.cons_append, List.append_nil] at N' hs1
    k_lt hs2
    have hT' : StrsAre ys ((pick ts (some a) none).map (cutS h)) := by
      rw [hp.length, List.take_length] at hT
      exact hT
    have hU := (hq.append' hT').append' StrsAre.nil
    rw [List.append_nil (as := pick ts none (some a) ++ _)] at hU
    refine ⟨_, _, _, hn, N', hs1, F', ?_⟩
    intro h'' F'' N''
    k_steps
    refine' Ends.mk' (by k_asm) (by k_asm) ?zhs ⟨_, _, _, rfl, ?_, ?_, ?_, hU, rfl⟩
    (case zhs => k_ownIn)
    all_goals first | omega | simp

end
section
local macro_rules | `(tactic| ktr_units) => `(tactic| first | assumption | omega | (simp only [List.length_append, List.length_cons, List.length_nil, List.length_take, List.length_drop, List.length_set]; omega))
local macro_rules | `(tactic| k_ne) => `(tactic| (refine neN ?_; (try dsimp only); first | assumption | exact Ne.symm (by assumption) | omega))
local macro_rules | `(tactic| walk_at "call builtin:len") => `(tactic| (k_here; (with_reducible show wpAny _ _ (call (Value.builtin "len") [Value.ref _]) _ _ _); k_dflt (refine' len_L ?N ?m ?z ?_; (case N => k_asm); (case m => k_mem); (case z => ktr_units); k_whole); intro _ _))
local macro_rules | `(tactic| walk_at "truthy ref") => `(tactic| (k_here; k_dflt (refine' truthy_L ?N ?m ?z ?_; (case N => k_asm); (case m => k_mem); (case z => ktr_units); k_whole); intro _))
local macro_rules | `(tactic| walk_at "getItem ref int") => `(tactic| (k_here; (with_reducible show wpAny _ _ (getItem (Value.ref _) (Value.int _ _)) _ _ _); k_dflt (first
  | (refine' get_SL ?l ?S ?N ?m ?a ?b ?z ?_; (case N => k_asm); (case m => k_mem); (case S => with_reducible assumption); (case l => with_reducible assumption); (case a => ktr_units); (case b => ktr_units); (case z => ktr_units); k_whole; intro _ _ _ _)
  | (refine' get_S ?S ?N ?m ?a ?b ?z ?_; (case N => k_asm); (case m => k_mem); (case S => with_reducible assumption); (case a => ktr_units); (case b => ktr_units); (case z => ktr_units); k_whole; intro _ _ _)
  | (refine' get_L ?N ?m ?a ?b ?z ?_; (case N => k_asm); (case m => k_mem); (case a => ktr_units); (case b => ktr_units); (case z => ktr_units); k_whole; intro _ _))))
local macro_rules | `(tactic| walk_at "subscriptTail") => `(tactic| (k_here; (with_reducible show wpAny _ _ (subscriptTail _ _ (Value.ref _) (Value.int _ _)) _ _ _); k_dflt (first
  | (refine' sub_SL ?l ?S ?N ?m ?a ?b ?z ?_ ?s ?g; (case N => k_asm); (case m => k_mem); (case S => with_reducible assumption); (case l => with_reducible assumption); (case a => ktr_units); (case b => ktr_units); (case z => ktr_units); (case s => with_unfolding_all rfl); (case g => (intro _; with_unfolding_all rfl)); k_whole; intro _ _ _ _)
  | (refine' sub_S ?S ?N ?m ?a ?b ?z ?_ ?s ?g; (case N => k_asm); (case m => k_mem); (case S => with_reducible assumption); (case a => ktr_units); (case b => ktr_units); (case z => ktr_units); (case s => with_unfolding_all rfl); (case g => (intro _; with_unfolding_all rfl)); k_whole; intro _ _ _)
  | (refine' sub_L ?N ?m ?a ?b ?z ?_ ?s ?g; (case N => k_asm); (case m => k_mem); (case a => ktr_units); (case b => ktr_units); (case z => ktr_units); (case s => with_unfolding_all rfl); (case g => (intro _; with_unfolding_all rfl)); k_whole; intro _ _))))
local macro_rules | `(tactic| walk_at "subscriptTail Attribute Name Constant ref int") => `(tactic| (k_here; (with_reducible show wpAny _ _ (subscriptTail _ _ (Value.ref _) (Value.int _ _)) _ _ _); k_dflt (first
  | (refine' sub_SL ?l ?S ?N ?m ?a ?b ?z ?_ ?s ?g; (case N => k_asm); (case m => k_mem); (case S => with_reducible assumption); (case l => with_reducible assumption); (case a => ktr_units); (case b => ktr_units); (case z => ktr_units); (case s => with_unfolding_all rfl); (case g => (intro _; with_unfolding_all rfl)); k_whole; intro _ _ _ _)
  | (refine' sub_S ?S ?N ?m ?a ?b ?z ?_ ?s ?g; (case N => k_asm); (case m => k_mem); (case S => with_reducible assumption); (case a => ktr_units); (case b => ktr_units); (case z => ktr_units); (case s => with_unfolding_all rfl); (case g => (intro _; with_unfolding_all rfl)); k_whole; intro _ _ _)
  | (refine' sub_L ?N ?m ?a ?b ?z ?_ ?s ?g; (case N => k_asm); (case m => k_mem); (case a => ktr_units); (case b => ktr_units); (case z => ktr_units); (case s => with_unfolding_all rfl); (case g => (intro _; with_unfolding_all rfl)); k_whole; intro _ _))))
local macro_rules | `(tactic| walk_at "subscriptTail") => `(tactic| (k_here; (with_reducible show wpAny _ _ (subscriptTail _ (PySem.Expr.Slice _ _ none _) (Value.ref _) (Value.ref _)) _ _ _); k_dflt (refine' slice_L ?F ?N ?m ?p ?q ?z ?_ ?s ?t; (case F => k_asm); (case N => k_asm); (case m => k_mem); (case p => kmk_part); (case q => kmk_part); (case z => ktr_units); (case s => with_unfolding_all rfl); (case t => (intro _; with_unfolding_all rfl)); k_whole); intro D' h' F' N' l1; (try k_lt l1); (try k_sweep)))
local macro_rules | `(tactic| walk_at "subscriptTail Name Slice ref ref") => `(tactic| (k_here; (with_reducible show wpAny _ _ (subscriptTail _ (PySem.Expr.Slice _ _ none _) (Value.ref _) (Value.ref _)) _ _ _); k_dflt (refine' slice_L ?F ?N ?m ?p ?q ?z ?_ ?s ?t; (case F => k_asm); (case N => k_asm); (case m => k_mem); (case p => kmk_part); (case q => kmk_part); (case z => ktr_units); (case s => with_unfolding_all rfl); (case t => (intro _; with_unfolding_all rfl)); k_whole); intro D' h' F' N' l1; (try k_lt l1); (try k_sweep)))
local macro_rules | `(tactic| walk_at "binaryOp Add ref ref") => `(tactic| (k_here; k_dflt (refine' cat_L ?F ?N ?m ?q ?z ?_; (case F => k_asm); (case N => k_asm); (case m => k_mem); (case q => k_mem); (case z => ktr_units); k_whole); intro D' h' F' N' l1; (try k_lt l1); (try k_sweep)))
local macro_rules | `(tactic| walk_at "call type:range") => `(tactic| (k_here; k_dflt (first
  | (refine' range1_L ?F ?N ?_; (case F => k_asm); (case N => k_asm); k_whole)
  | (refine' range2_L ?F ?N ?_; (case F => k_asm); (case N => k_asm); k_whole)); intro r' h' tk' t' u' v' F' N' l1; (try k_lt l1); (try k_sweep)))
local macro_rules | `(tactic| walk_at "compareOp Eq ref ref") => `(tactic| (k_here; k_dflt (refine' eq_SS ?a ?b ?N ?m ?q ?o ?p ?u ?_; (case N => k_asm); (case m => k_mem); (case q => k_mem); (case a => with_reducible assumption); (case b => with_reducible assumption); (case o => with_reducible assumption); (case p => with_reducible assumption); (case u => exact Nat.le_of_ble_eq_true rfl); k_whole)))
local macro_rules | `(tactic| walk_at "compareOp NotEq ref ref") => `(tactic| (k_here; k_dflt (refine' ne_SS ?a ?b ?N ?m ?q ?o ?p ?u ?_; (case N => k_asm); (case m => k_mem); (case q => k_mem); (case a => with_reducible assumption); (case b => with_reducible assumption); (case o => with_reducible assumption); (case p => with_reducible assumption); (case u => exact Nat.le_of_ble_eq_true rfl); k_whole)))
local macro_rules | `(tactic| walk_at "getMethod ref") => `(tactic| (k_here; (with_reducible show wpAny _ _ (getMethod (Value.ref _) (PySem.Str.ofString "__class__") _) _ _ _); k_dflt (refine' method_got ?F ?X ?I ?g ?f ?t ?n ?_; (case F => k_asm); (case X => k_asm); (case I => k_inst); (case g => k_is); (case f => k_is); (case t => exact fun M => Looks.of_pure KF.type_class); (case n => decide +kernel); k_whole)))
local macro_rules | `(tactic| walk_at "eval Name") => `(tactic| (k_here; (with_reducible show wpAny _ _ (eval (PySem.Expr.Name _ _) (compEnvC _ _ _ _)) _ _ _); k_dflt (first
  | (refine' nmC ?N ?m ?n ?v ?_ ?k ?x ?d; (case x => rfl); (case N => k_asm); (case m => k_mem); (case n => with_reducible assumption); (case v => first | with_reducible assumption | rfl); (case k => rfl); (case d => decide); k_whole)
  | (refine' nmCc ?N ?c ?m ?d ?_ ?k ?x ?b; (case x => rfl); (case c => rfl); (case N => k_asm); (case m => k_mem); (case d => k_asm); (case k => rfl); (case b => decide); k_whole))))
local macro_rules | `(tactic| walk_at "eval ListComp") => `(tactic| (k_here; refine halt ?_))
local macro_rules | `(tactic| walk_at "exec Assign cons ListComp") => `(tactic| (k_here; (with_reducible show wpAny _ _ (exec (PySem.Stmt.Assign [PySem.Expr.Name _ _] _ _) _) _ _ _); refine halt ?_))
local macro_rules | `(tactic| ktr_unf) => `(tactic| ((with_reducible apply comp_eval); (case hF => k_asm); (case hclos => with_unfolding_all rfl); (case hcell => decide); (case hkind => with_unfolding_all rfl); (case hnames => decide); (case hx => with_unfolding_all rfl); (case hs => intro _; with_unfolding_all rfl)))
local macro_rules | `(tactic| ktr_rel) => `(tactic| ((with_reducible apply comp_assign); (case hF => k_asm); (case hsw => with_unfolding_all rfl); (case hclos => with_unfolding_all rfl); (case hcell => decide); (case hkind => with_unfolding_all rfl); (case hnames => decide); (case hx => with_unfolding_all rfl); (case hs => intro _; with_unfolding_all rfl)))
local macro_rules | `(tactic| walk_at "exec While") => `(tactic| (k_here; refine halt ?_))
local macro_rules | `(tactic| walk_at "pyIter ref") => `(tactic| (k_here; refine halt ?_))
local macro_rules | `(tactic| k_lt $h:ident) => `(tactic| (have lAll := $h; replace $h := allLt_of $h; simp only [AllLt, and_true] at $h:ident))
local macro_rules | `(tactic| k_mem) => `(tactic| ((repeat (first | exact List.Mem.head _ | refine' List.Mem.tail _ ?_)); (all_goals first | assumption | exact List.mem_append_left _ (by assumption) | exact List.mem_append_right _ (by assumption))))
local macro_rules | `(tactic| k_all) => `(tactic| exact OwnOff.ne (by assumption) (by k_mem))
local macro_rules | `(tactic| k_ownIn) => `(tactic| ((repeat (first | exact List.forall_mem_nil _ | refine List.forall_mem_cons.mpr ⟨by k_mem, ?_⟩)); (all_goals (intro p hp; k_mem))))
local macro_rules | `(tactic| ktu_offL) => `(tactic| (repeat' (first | exact off_nil | exact nin_nil | refine off_cons ?_ ?_ | refine nin_cons (neN ?_) ?_)) <;> ((try dsimp only); omega))
local macro_rules | `(tactic| walk_at "setItem") => `(tactic| (k_here; k_dflt (refine' set_L ?F ?N ?a ?b ?z ?U ?_; (case F => k_asm); (case N => k_asm); (case a => ktr_units); (case b => ktr_units); (case z => ktr_units); (case U => k_upd); k_whole); intro h' F' N'))
local macro_rules | `(tactic| kst_all) => `(tactic| (repeat' (first | exact List.forall_mem_nil _ | refine List.forall_mem_cons.mpr ⟨ltN ?_, ?_⟩)) <;> ((try dsimp only); omega))
local macro_rules | `(tactic| ktr_enter) => `(tactic| (first
  | (k_dflt (refine' enter ?k1 ?k2 ?k6 ?k7 ?k8 ?k9 ?kB ?_ ?c2 ?c3 ?c4 ?c5)
     (case k1 => assumption)
     (case k2 => assumption)
     (case k6 => k_is)
     (case k7 => k_is)
     (case k8 => decide)
     (case k9 => first | exact fun s hs => BindsTo.of_eq rfl | exact fun s hs => binds_K hs rfl (by k_is) rfl rfl rfl)
     (case c5 => decide)
     (case kB => exact locs rfl)
     (case c2 => exact rfl)
     (case c3 => exact rfl)
     (case c4 => exact rfl)
     intro s' env' outer' g' L' h' F' N' B' X' T' lL'
     (try k_lt lL')
     (try dsimp only)
     (try k_lift B')
     (try k_fold))
  | (k_dflt (refine' enterC ?k1 ?k2 ?k6 ?k7 ?k8 ?k9 ?kB ?kD ?_ ?c2 ?c3 ?c4)
     (case k1 => assumption)
     (case k2 => assumption)
     (case k6 => k_is)
     (case k7 => k_is)
     (case k8 => decide)
     (case k9 => first | exact fun s hs => BindsTo.of_eq rfl | exact fun s hs => binds_K hs rfl (by k_is) rfl rfl rfl)
     (case kB => exact rfl)
     (case kD => decide +kernel)
     (case c2 => exact rfl)
     (case c3 => exact rfl)
     (case c4 => exact rfl)
     intro s' env' outer' g' L' h' tk' cells' F' N' Y' B' X' T' lL'
     (try k_lt lL')
     k_cells Y'
     (try simp only [List.cons_append, List.nil_append] at N')
     (try dsimp only)
     (try k_lift B')
     (try k_fold))))
example (w : World) : hd1.heap_39 w.params = hd1.heap_39 w.params ∧ PySem.Challenge.rw_ff0006_01 = PySem.Challenge.rw_ff0006_01 := by
  k_fill
  exact ⟨rfl, rfl⟩
theorem stops_spec {w : World} {s₀ : Shared} {mg mb : Str → Option Value} {base : Heap} (bs : Bs w s₀ mg mb base)
    (x : Str) (t tbi : Tok) (hx : x ∈ rowsL) (u : Bool) (bi : Option Int) :
    Spec P1 w base 800 368 ⟨[.str x t, .bool u, vO bi tbi], []⟩ [] (fun r led => r = .bool (stopS u bi x) ∧ led = []) := by
  obtain ⟨KX, X, GL, T, TB, TE, TW, M, oM, hM⟩ := bs
  have f := rowF hx
  have hl := f.sz
  cases bi with
  | none =>
    dsimp only [vO]
    ktr_enter
    k_steps
    · have hb : blankS x = true := ‹(Txt.stripChars x (Str.ofString " ") == Str.ofString "") = true›
      refine' Ends.mk' (led := []) (by k_asm) (by k_asm) (List.forall_mem_nil _) ⟨?_, rfl⟩
      rw [stop_blank hb]
    · have hb : blankS x = false := ‹(Txt.stripChars x (Str.ofString " ") == Str.ofString "") = false›
      have h0 : holdS x = 0 := ‹(x.length : Int) - (Txt.lstripChars x (Str.ofString " ")).length = 0›
      refine' Ends.mk' (led := []) (by k_asm) (by k_asm) (List.forall_mem_nil _) ⟨?_, rfl⟩
      rw [stop_zero hb h0]
      show Value.bool (holdS x == 0) = _
      rw [h0]; rfl
    · have hb : blankS x = false := ‹(Txt.stripChars x (Str.ofString " ") == Str.ofString "") = false›
      have h0 : holdS x ≠ 0 := ‹(x.length : Int) - (Txt.lstripChars x (Str.ofString " ")).length ≠ 0›
      refine' Ends.mk' (led := []) (by k_asm) (by k_asm) (List.forall_mem_nil _) ⟨?_, rfl⟩
      rw [stop_none hb h0]
  | some b =>
    dsimp only [vO]
    ktr_enter
    k_steps
    · have hb : blankS x = true := ‹(Txt.stripChars x (Str.ofString " ") == Str.ofString "") = true›
      refine' Ends.mk' (led := []) (by k_asm) (by k_asm) (List.forall_mem_nil _) ⟨?_, rfl⟩
      rw [stop_blank hb]
    · have hb : blankS x = false := ‹(Txt.stripChars x (Str.ofString " ") == Str.ofString "") = false›
      have h0 : holdS x = 0 := ‹(x.length : Int) - (Txt.lstripChars x (Str.ofString " ")).length = 0›
      refine' Ends.mk' (led := []) (by k_asm) (by k_asm) (List.forall_mem_nil _) ⟨?_, rfl⟩
      rw [stop_zero hb h0]
      show Value.bool (holdS x == 0) = _
      rw [h0]; rfl
    · have hb : blankS x = false := ‹(Txt.stripChars x (Str.ofString " ") == Str.ofString "") = false›
      have h0 : holdS x ≠ 0 := ‹(x.length : Int) - (Txt.lstripChars x (Str.ofString " ")).length ≠ 0›
      refine' Ends.mk' (led := []) (by k_asm) (by k_asm) (List.forall_mem_nil _) ⟨?_, rfl⟩
      show Value.bool (decide (holdS x < b)) = _
      by_cases q : holdS x < b
      · rw [stop_pre hb q, decide_eq_true q]
      · rw [stop_some hb h0 q, decide_eq_false q]

end
section
local macro_rules | `(tactic| ktr_units) => `(tactic| first | assumption | omega | (simp only [List.length_append, List.length_cons, List.length_nil, List.length_take, List.length_drop, List.length_set]; omega))
local macro_rules | `(tactic| k_ne) => `(tactic| (refine neN ?_; (try dsimp only); first | assumption | exact Ne.symm (by assumption) | omega))
local macro_rules | `(tactic| walk_at "call builtin:len") => `(tactic| (k_here; (with_reducible show wpAny _ _ (call (Value.builtin "len") [Value.ref _]) _ _ _); k_dflt (refine' len_L ?N ?m ?z ?_; (case N => k_asm); (case m => k_mem); (case z => ktr_units); k_whole); intro _ _))
local macro_rules | `(tactic| walk_at "truthy ref") => `(tactic| (k_here; k_dflt (refine' truthy_L ?N ?m ?z ?_; (case N => k_asm); (case m => k_mem); (case z => ktr_units); k_whole); intro _))
local macro_rules | `(tactic| walk_at "getItem ref int") => `(tactic| (k_here; (with_reducible show wpAny _ _ (getItem (Value.ref _) (Value.int _ _)) _ _ _); k_dflt (first
  | (refine' get_SL ?l ?S ?N ?m ?a ?b ?z ?_; (case N => k_asm); (case m => k_mem); (case S => with_reducible assumption); (case l => with_reducible assumption); (case a => ktr_units); (case b => ktr_units); (case z => ktr_units); k_whole; intro _ _ _ _)
  | (refine' get_S ?S ?N ?m ?a ?b ?z ?_; (case N => k_asm); (case m => k_mem); (case S => with_reducible assumption); (case a => ktr_units); (case b => ktr_units); (case z => ktr_units); k_whole; intro _ _ _)
  | (refine' get_L ?N ?m ?a ?b ?z ?_; (case N => k_asm); (case m => k_mem); (case a => ktr_units); (case b => ktr_units); (case z => ktr_units); k_whole; intro _ _))))
local macro_rules | `(tactic| walk_at "subscriptTail") => `(tactic| (k_here; (with_reducible show wpAny _ _ (subscriptTail _ _ (Value.ref _) (Value.int _ _)) _ _ _); k_dflt (first
  | (refine' sub_SL ?l ?S ?N ?m ?a ?b ?z ?_ ?s ?g; (case N => k_asm); (case m => k_mem); (case S => with_reducible assumption); (case l => with_reducible assumption); (case a => ktr_units); (case b => ktr_units); (case z => ktr_units); (case s => with_unfolding_all rfl); (case g => (intro _; with_unfolding_all rfl)); k_whole; intro _ _ _ _)
  | (refine' sub_S ?S ?N ?m ?a ?b ?z ?_ ?s ?g; (case N => k_asm); (case m => k_mem); (case S => with_reducible assumption); (case a => ktr_units); (case b => ktr_units); (case z => ktr_units); (case s => with_unfolding_all rfl); (case g => (intro _; with_unfolding_all rfl)); k_whole; intro _ _ _)
  | (refine' sub_L ?N ?m ?a ?b ?z ?_ ?s ?g; (case N => k_asm); (case m => k_mem); (case a => ktr_units); (case b => ktr_units); (case z => ktr_units); (case s => with_unfolding_all rfl); (case g => (intro _; with_unfolding_all rfl)); k_whole; intro _ _))))
local macro_rules | `(tactic| walk_at "subscriptTail Attribute Name Constant ref int") => `(tactic| (k_here; (with_reducible show wpAny _ _ (subscriptTail _ _ (Value.ref _) (Value.int _ _)) _ _ _); k_dflt (first
  | (refine' sub_SL ?l ?S ?N ?m ?a ?b ?z ?_ ?s ?g; (case N => k_asm); (case m => k_mem); (case S => with_reducible assumption); (case l => with_reducible assumption); (case a => ktr_units); (case b => ktr_units); (case z => ktr_units); (case s => with_unfolding_all rfl); (case g => (intro _; with_unfolding_all rfl)); k_whole; intro _ _ _ _)
  | (refine' sub_S ?S ?N ?m ?a ?b ?z ?_ ?s ?g; (case N => k_asm); (case m => k_mem); (case S => with_reducible assumption); (case a => ktr_units); (case b => ktr_units); (case z => ktr_units); (case s => with_unfolding_all rfl); (case g => (intro _; with_unfolding_all rfl)); k_whole; intro _ _ _)
  | (refine' sub_L ?N ?m ?a ?b ?z ?_ ?s ?g; (case N => k_asm); (case m => k_mem); (case a => ktr_units); (case b => ktr_units); (case z => ktr_units); (case s => with_unfolding_all rfl); (case g => (intro _; with_unfolding_all rfl)); k_whole; intro _ _))))
local macro_rules | `(tactic| walk_at "subscriptTail") => `(tactic| (k_here; (with_reducible show wpAny _ _ (subscriptTail _ (PySem.Expr.Slice _ _ none _) (Value.ref _) (Value.ref _)) _ _ _); k_dflt (refine' slice_L ?F ?N ?m ?p ?q ?z ?_ ?s ?t; (case F => k_asm); (case N => k_asm); (case m => k_mem); (case p => kmk_part); (case q => kmk_part); (case z => ktr_units); (case s => with_unfolding_all rfl); (case t => (intro _; with_unfolding_all rfl)); k_whole); intro D' h' F' N' l1; (try k_lt l1); (try k_sweep)))
local macro_rules | `(tactic| walk_at "subscriptTail Name Slice ref ref") => `(tactic| (k_here; (with_reducible show wpAny _ _ (subscriptTail _ (PySem.Expr.Slice _ _ none _) (Value.ref _) (Value.ref _)) _ _ _); k_dflt (refine' slice_L ?F ?N ?m ?p ?q ?z ?_ ?s ?t; (case F => k_asm); (case N => k_asm); (case m => k_mem); (case p => kmk_part); (case q => kmk_part); (case z => ktr_units); (case s => with_unfolding_all rfl); (case t => (intro _; with_unfolding_all rfl)); k_whole); intro D' h' F' N' l1; (try k_lt l1); (try k_sweep)))
local macro_rules | `(tactic| walk_at "binaryOp Add ref ref") => `(tactic| (k_here; k_dflt (refine' cat_L ?F ?N ?m ?q ?z ?_; (case F => k_asm); (case N => k_asm); (case m => k_mem); (case q => k_mem); (case z => ktr_units); k_whole); intro D' h' F' N' l1; (try k_lt l1); (try k_sweep)))
local macro_rules | `(tactic| walk_at "call type:range") => `(tactic| (k_here; k_dflt (first
  | (refine' range1_L ?F ?N ?_; (case F => k_asm); (case N => k_asm); k_whole)
  | (refine' range2_L ?F ?N ?_; (case F => k_asm); (case N => k_asm); k_whole)); intro r' h' tk' t' u' v' F' N' l1; (try k_lt l1); (try k_sweep)))
local macro_rules | `(tactic| walk_at "compareOp Eq ref ref") => `(tactic| (k_here; k_dflt (refine' eq_SS ?a ?b ?N ?m ?q ?o ?p ?u ?_; (case N => k_asm); (case m => k_mem); (case q => k_mem); (case a => with_reducible assumption); (case b => with_reducible assumption); (case o => with_reducible assumption); (case p => with_reducible assumption); (case u => exact Nat.le_of_ble_eq_true rfl); k_whole)))
local macro_rules | `(tactic| walk_at "compareOp NotEq ref ref") => `(tactic| (k_here; k_dflt (refine' ne_SS ?a ?b ?N ?m ?q ?o ?p ?u ?_; (case N => k_asm); (case m => k_mem); (case q => k_mem); (case a => with_reducible assumption); (case b => with_reducible assumption); (case o => with_reducible assumption); (case p => with_reducible assumption); (case u => exact Nat.le_of_ble_eq_true rfl); k_whole)))
local macro_rules | `(tactic| walk_at "getMethod ref") => `(tactic| (k_here; (with_reducible show wpAny _ _ (getMethod (Value.ref _) (PySem.Str.ofString "__class__") _) _ _ _); k_dflt (refine' method_got ?F ?X ?I ?g ?f ?t ?n ?_; (case F => k_asm); (case X => k_asm); (case I => k_inst); (case g => k_is); (case f => k_is); (case t => exact fun M => Looks.of_pure KF.type_class); (case n => decide +kernel); k_whole)))
local macro_rules | `(tactic| walk_at "eval Name") => `(tactic| (k_here; (with_reducible show wpAny _ _ (eval (PySem.Expr.Name _ _) (compEnvC _ _ _ _)) _ _ _); k_dflt (first
  | (refine' nmC ?N ?m ?n ?v ?_ ?k ?x ?d; (case x => rfl); (case N => k_asm); (case m => k_mem); (case n => with_reducible assumption); (case v => first | with_reducible assumption | rfl); (case k => rfl); (case d => decide); k_whole)
  | (refine' nmCc ?N ?c ?m ?d ?_ ?k ?x ?b; (case x => rfl); (case c => rfl); (case N => k_asm); (case m => k_mem); (case d => k_asm); (case k => rfl); (case b => decide); k_whole))))
local macro_rules | `(tactic| walk_at "eval ListComp") => `(tactic| (k_here; refine halt ?_))
local macro_rules | `(tactic| walk_at "exec Assign cons ListComp") => `(tactic| (k_here; (with_reducible show wpAny _ _ (exec (PySem.Stmt.Assign [PySem.Expr.Name _ _] _ _) _) _ _ _); refine halt ?_))
local macro_rules | `(tactic| ktr_unf) => `(tactic| ((with_reducible apply comp_eval); (case hF => k_asm); (case hclos => with_unfolding_all rfl); (case hcell => decide); (case hkind => with_unfolding_all rfl); (case hnames => decide); (case hx => with_unfolding_all rfl); (case hs => intro _; with_unfolding_all rfl)))
local macro_rules | `(tactic| ktr_rel) => `(tactic| ((with_reducible apply comp_assign); (case hF => k_asm); (case hsw => with_unfolding_all rfl); (case hclos => with_unfolding_all rfl); (case hcell => decide); (case hkind => with_unfolding_all rfl); (case hnames => decide); (case hx => with_unfolding_all rfl); (case hs => intro _; with_unfolding_all rfl)))
local macro_rules | `(tactic| walk_at "exec While") => `(tactic| (k_here; refine halt ?_))
local macro_rules | `(tactic| walk_at "pyIter ref") => `(tactic| (k_here; refine halt ?_))
local macro_rules | `(tactic| k_lt $h:ident) => `(tactic| (have lAll := $h; replace $h := allLt_of $h; simp only [AllLt, and_true] at $h:ident))
local macro_rules | `(tactic| k_mem) => `(tactic| ((repeat (first | exact List.Mem.head _ | refine' List.Mem.tail _ ?_)); (all_goals first | assumption | exact List.mem_append_left _ (by assumption) | exact List.mem_append_right _ (by assumption))))
local macro_rules | `(tactic| k_all) => `(tactic| exact OwnOff.ne (by assumption) (by k_mem))
local macro_rules | `(tactic| k_ownIn) => `(tactic| ((repeat (first | exact List.forall_mem_nil _ | refine List.forall_mem_cons.mpr ⟨by k_mem, ?_⟩)); (all_goals (intro p hp; k_mem))))
local macro_rules | `(tactic| ktu_offL) => `(tactic| (repeat' (first | exact off_nil | exact nin_nil | refine off_cons ?_ ?_ | refine nin_cons (neN ?_) ?_)) <;> ((try dsimp only); omega))
local macro_rules | `(tactic| walk_at "setItem") => `(tactic| (k_here; k_dflt (refine' set_L ?F ?N ?a ?b ?z ?U ?_; (case F => k_asm); (case N => k_asm); (case a => ktr_units); (case b => ktr_units); (case z => ktr_units); (case U => k_upd); k_whole); intro h' F' N'))
local macro_rules | `(tactic| kst_all) => `(tactic| (repeat' (first | exact List.forall_mem_nil _ | refine List.forall_mem_cons.mpr ⟨ltN ?_, ?_⟩)) <;> ((try dsimp only); omega))
local macro_rules | `(tactic| ktr_enter) => `(tactic| (first
  | (k_dflt (refine' enter ?k1 ?k2 ?k6 ?k7 ?k8 ?k9 ?kB ?_ ?c2 ?c3 ?c4 ?c5)
     (case k1 => assumption)
     (case k2 => assumption)
     (case k6 => k_is)
     (case k7 => k_is)
     (case k8 => decide)
     (case k9 => first | exact fun s hs => BindsTo.of_eq rfl | exact fun s hs => binds_K hs rfl (by k_is) rfl rfl rfl)
     (case c5 => decide)
     (case kB => exact locs rfl)
     (case c2 => exact rfl)
     (case c3 => exact rfl)
     (case c4 => exact rfl)
     intro s' env' outer' g' L' h' F' N' B' X' T' lL'
     (try k_lt lL')
     (try dsimp only)
     (try k_lift B')
     (try k_fold))
  | (k_dflt (refine' enterC ?k1 ?k2 ?k6 ?k7 ?k8 ?k9 ?kB ?kD ?_ ?c2 ?c3 ?c4)
     (case k1 => assumption)
     (case k2 => assumption)
     (case k6 => k_is)
     (case k7 => k_is)
     (case k8 => decide)
     (case k9 => first | exact fun s hs => BindsTo.of_eq rfl | exact fun s hs => binds_K hs rfl (by k_is) rfl rfl rfl)
     (case kB => exact rfl)
     (case kD => decide +kernel)
     (case c2 => exact rfl)
     (case c3 => exact rfl)
     (case c4 => exact rfl)
     intro s' env' outer' g' L' h' tk' cells' F' N' Y' B' X' T' lL'
     (try k_lt lL')
     k_cells Y'
     (try simp only [List.cons_append, List.nil_append] at N')
     (try dsimp only)
     (try k_lift B')
     (try k_fold))))
example (w : World) : hd1.heap_39 w.params = hd1.heap_39 w.params ∧ PySem.Challenge.rw_ff0006_01 = PySem.Challenge.rw_ff0006_01 := by
  k_fill
  exact ⟨rfl, rfl⟩
theorem own_sub {t : List (Addr × Obj)} {l l' : List Addr} (h : OwnOff t l) (hs : ∀ b ∈ l', b ∈ l) : OwnOff t l' := fun p hp b hb => h p hp b (hs b hb)

theorem init_spec {w : World} {s₀ : Shared} {mg mb : Str → Option Value} {base : Heap} (bs : Bs w s₀ mg mb base)
    (x dx l : Nat) (vs : List Value) (ts : List Str) (hv : StrsAre vs ts) (hl : vs.length ≤ 63) (n0 : Nat) (tt : Tok) (h1 : l < dx) (h2 : dx < x) :
    Spec P1 w base 800 34 ⟨[.ref x, .ref l, .str (Str.ofString "text") tt], []⟩ [(x, instObj 310 dx), (dx, dictOf [] 0), (l, W.listOf vs.toArray n0)]
      (fun r led => r = .none ∧ ∃ (D I n1 n2 : Nat) (ys : List Value) (tups : List (Addr × Obj)) (t1 t2 t3 t4 : Tok), It2 tups ys (txs vs.length) ∧ OwnOff tups [x, dx, D, I, l] ∧ x < D ∧ x < I ∧ (D ≠ I) ∧
        led = (x, instObj 310 dx) :: (dx, vl w D I .none .none t1 t2 t3 t4) :: (D, W.listOf vs.toArray n1) :: (I, W.listOf ys.toArray n2) :: (l, W.listOf vs.toArray n0) :: tups) := by
  obtain ⟨KX, X, GL, T, TB, TE, TW, M, oM, hM⟩ := bs
  ktr_enter
  k_steps
  (refine Halt.mk ?_)
  ktr_unf
  k_steps
  (refine Halt.mk ?_)
  refine compAt_rangeT (fun i ys tups => It2 tups ys (txs i)) (by k_asm) (by k_asm) vs.length rfl (by omega) (by omega) (by omega) (by omega) It2.nil ?_ ?_
  · intro i tv ys tups h₁ tk₁ own C oC mc hi hT hys F₁ N₁ hs ho hC hn hx
    dsimp only [CTurn]
    simp only [List.cons_append, List.nil_append] at N₁
    k_steps
    refine CStep.new (by k_asm) (by k_asm) (by assumption) (by assumption) (by assumption) ?_
    rw [txs_succ]
    refine It2.append (hT.mono fun p hp => .tail _ hp) (It2.one (t := ?zt1) (t' := ?zt2) ?_)
    rotate_left 2
    · simp only [Int.zero_add]
      exact .head _
  · intro D C h' tk ys nD oC mc tups N' hn F' hs1 hs2 ho hT hl'
    simp only [List.cons_append, List.nil_append] at N'
    simp only [List.map_cons, List.map_nil] at ho
    k_lt hs2
    have e1 : ys.length = vs.length := by rw [hT.len, txs_len]
    refine ⟨_, _, _, hn, N', hs1, F', ?_⟩
    intro h'' F'' N''
    k_steps
    refine' Ends.mk' (by k_asm) (by k_asm) ?zhs ⟨rfl, _, _, _, _, ys, tups, _, _, _, _, hT, ?zow, ?_, ?_, ?_, rfl⟩
    (case zhs => k_ownIn)
    (case zow => exact own_sub ho (by k_ownIn))
    all_goals first | omega | exact Nat.ne_of_lt (by omega) | exact Nat.ne_of_gt (by omega)

end
section
local macro_rules | `(tactic| ktr_units) => `(tactic| first | assumption | omega | (simp only [List.length_append, List.length_cons, List.length_nil, List.length_take, List.length_drop, List.length_set]; omega))
local macro_rules | `(tactic| k_ne) => `(tactic| (refine neN ?_; (try dsimp only); first | assumption | exact Ne.symm (by assumption) | omega))
local macro_rules | `(tactic| walk_at "call builtin:len") => `(tactic| (k_here; (with_reducible show wpAny _ _ (call (Value.builtin "len") [Value.ref _]) _ _ _); k_dflt (refine' len_L ?N ?m ?z ?_; (case N => k_asm); (case m => k_mem); (case z => ktr_units); k_whole); intro _ _))
local macro_rules | `(tactic| walk_at "truthy ref") => `(tactic| (k_here; k_dflt (refine' truthy_L ?N ?m ?z ?_; (case N => k_asm); (case m => k_mem); (case z => ktr_units); k_whole); intro _))
local macro_rules | `(tactic| walk_at "getItem ref int") => `(tactic| (k_here; (with_reducible show wpAny _ _ (getItem (Value.ref _) (Value.int _ _)) _ _ _); k_dflt (first
  | (refine' get_SL ?l ?S ?N ?m ?a ?b ?z ?_; (case N => k_asm); (case m => k_mem); (case S => with_reducible assumption); (case l => with_reducible assumption); (case a => ktr_units); (case b => ktr_units); (case z => ktr_units); k_whole; intro _ _ _ _)
  | (refine' get_S ?S ?N ?m ?a ?b ?z ?_; (case N => k_asm); (case m => k_mem); (case S => with_reducible assumption); (case a => ktr_units); (case b => ktr_units); (case z => ktr_units); k_whole; intro _ _ _)
  | (refine' get_L ?N ?m ?a ?b ?z ?_; (case N => k_asm); (case m => k_mem); (case a => ktr_units); (case b => ktr_units); (case z => ktr_units); k_whole; intro _ _))))
local macro_rules | `(tactic| walk_at "subscriptTail") => `(tactic| (k_here; (with_reducible show wpAny _ _ (subscriptTail _ _ (Value.ref _) (Value.int _ _)) _ _ _); k_dflt (first
  | (refine' sub_SL ?l ?S ?N ?m ?a ?b ?z ?_ ?s ?g; (case N => k_asm); (case m => k_mem); (case S => with_reducible assumption); (case l => with_reducible assumption); (case a => ktr_units); (case b => ktr_units); (case z => ktr_units); (case s => with_unfolding_all rfl); (case g => (intro _; with_unfolding_all rfl)); k_whole; intro _ _ _ _)
  | (refine' sub_S ?S ?N ?m ?a ?b ?z ?_ ?s ?g; (case N => k_asm); (case m => k_mem); (case S => with_reducible assumption); (case a => ktr_units); (case b => ktr_units); (case z => ktr_units); (case s => with_unfolding_all rfl); (case g => (intro _; with_unfolding_all rfl)); k_whole; intro _ _ _)
  | (refine' sub_L ?N ?m ?a ?b ?z ?_ ?s ?g; (case N => k_asm); (case m => k_mem); (case a => ktr_units); (case b => ktr_units); (case z => ktr_units); (case s => with_unfolding_all rfl); (case g => (intro _; with_unfolding_all rfl)); k_whole; intro _ _))))
local macro_rules | `(tactic| walk_at "subscriptTail Attribute Name Constant ref int") => `(tactic| (k_here; (with_reducible show wpAny _ _ (subscriptTail _ _ (Value.ref _) (Value.int _ _)) _ _ _); k_dflt (first
  | (refine' sub_SL ?l ?S ?N ?m ?a ?b ?z ?_ ?s ?g; (case N => k_asm); (case m => k_mem); (case S => with_reducible assumption); (case l => with_reducible assumption); (case a => ktr_units); (case b => ktr_units); (case z => ktr_units); (case s => with_unfolding_all rfl); (case g => (intro _; with_unfolding_all rfl)); k_whole; intro _ _ _ _)
  | (refine' sub_S ?S ?N ?m ?a ?b ?z ?_ ?s ?g; (case N => k_asm); (case m => k_mem); (case S => with_reducible assumption); (case a => ktr_units); (case b => ktr_units); (case z => ktr_units); (case s => with_unfolding_all rfl); (case g => (intro _; with_unfolding_all rfl)); k_whole; intro _ _ _)
  | (refine' sub_L ?N ?m ?a ?b ?z ?_ ?s ?g; (case N => k_asm); (case m => k_mem); (case a => ktr_units); (case b => ktr_units); (case z => ktr_units); (case s => with_unfolding_all rfl); (case g => (intro _; with_unfolding_all rfl)); k_whole; intro _ _))))
local macro_rules | `(tactic| walk_at "subscriptTail") => `(tactic| (k_here; (with_reducible show wpAny _ _ (subscriptTail _ (PySem.Expr.Slice _ _ none _) (Value.ref _) (Value.ref _)) _ _ _); k_dflt (refine' slice_L ?F ?N ?m ?p ?q ?z ?_ ?s ?t; (case F => k_asm); (case N => k_asm); (case m => k_mem); (case p => kmk_part); (case q => kmk_part); (case z => ktr_units); (case s => with_unfolding_all rfl); (case t => (intro _; with_unfolding_all rfl)); k_whole); intro D' h' F' N' l1; (try k_lt l1); (try k_sweep)))
local macro_rules | `(tactic| walk_at "subscriptTail Name Slice ref ref") => `(tactic| (k_here; (with_reducible show wpAny _ _ (subscriptTail _ (PySem.Expr.Slice _ _ none _) (Value.ref _) (Value.ref _)) _ _ _); k_dflt (refine' slice_L ?F ?N ?m ?p ?q ?z ?_ ?s ?t; (case F => k_asm); (case N => k_asm); (case m => k_mem); (case p => kmk_part); (case q => kmk_part); (case z => ktr_units); (case s => with_unfolding_all rfl); (case t => (intro _; with_unfolding_all rfl)); k_whole); intro D' h' F' N' l1; (try k_lt l1); (try k_sweep)))
local macro_rules | `(tactic| walk_at "binaryOp Add ref ref") => `(tactic| (k_here; k_dflt (refine' cat_L ?F ?N ?m ?q ?z ?_; (case F => k_asm); (case N => k_asm); (case m => k_mem); (case q => k_mem); (case z => ktr_units); k_whole); intro D' h' F' N' l1; (try k_lt l1); (try k_sweep)))
local macro_rules | `(tactic| walk_at "call type:range") => `(tactic| (k_here; k_dflt (first
  | (refine' range1_L ?F ?N ?_; (case F => k_asm); (case N => k_asm); k_whole)
  | (refine' range2_L ?F ?N ?_; (case F => k_asm); (case N => k_asm); k_whole)); intro r' h' tk' t' u' v' F' N' l1; (try k_lt l1); (try k_sweep)))
local macro_rules | `(tactic| walk_at "compareOp Eq ref ref") => `(tactic| (k_here; k_dflt (refine' eq_SS ?a ?b ?N ?m ?q ?o ?p ?u ?_; (case N => k_asm); (case m => k_mem); (case q => k_mem); (case a => with_reducible assumption); (case b => with_reducible assumption); (case o => with_reducible assumption); (case p => with_reducible assumption); (case u => exact Nat.le_of_ble_eq_true rfl); k_whole)))
local macro_rules | `(tactic| walk_at "compareOp NotEq ref ref") => `(tactic| (k_here; k_dflt (refine' ne_SS ?a ?b ?N ?m ?q ?o ?p ?u ?_; (case N => k_asm); (case m => k_mem); (case q => k_mem); (case a => with_reducible assumption); (case b => with_reducible assumption); (case o => with_reducible assumption); (case p => with_reducible assumption); (case u => exact Nat.le_of_ble_eq_true rfl); k_whole)))
local macro_rules | `(tactic| walk_at "getMethod ref") => `(tactic| (k_here; (with_reducible show wpAny _ _ (getMethod (Value.ref _) (PySem.Str.ofString "__class__") _) _ _ _); k_dflt (refine' method_got ?F ?X ?I ?g ?f ?t ?n ?_; (case F => k_asm); (case X => k_asm); (case I => k_inst); (case g => k_is); (case f => k_is); (case t => exact fun M => Looks.of_pure KF.type_class); (case n => decide +kernel); k_whole)))
local macro_rules | `(tactic| walk_at "eval Name") => `(tactic| (k_here; (with_reducible show wpAny _ _ (eval (PySem.Expr.Name _ _) (compEnvC _ _ _ _)) _ _ _); k_dflt (first
  | (refine' nmC ?N ?m ?n ?v ?_ ?k ?x ?d; (case x => rfl); (case N => k_asm); (case m => k_mem); (case n => with_reducible assumption); (case v => first | with_reducible assumption | rfl); (case k => rfl); (case d => decide); k_whole)
  | (refine' nmCc ?N ?c ?m ?d ?_ ?k ?x ?b; (case x => rfl); (case c => rfl); (case N => k_asm); (case m => k_mem); (case d => k_asm); (case k => rfl); (case b => decide); k_whole))))
local macro_rules | `(tactic| walk_at "eval ListComp") => `(tactic| (k_here; refine halt ?_))
local macro_rules | `(tactic| walk_at "exec Assign cons ListComp") => `(tactic| (k_here; (with_reducible show wpAny _ _ (exec (PySem.Stmt.Assign [PySem.Expr.Name _ _] _ _) _) _ _ _); refine halt ?_))
local macro_rules | `(tactic| ktr_unf) => `(tactic| ((with_reducible apply comp_eval); (case hF => k_asm); (case hclos => with_unfolding_all rfl); (case hcell => decide); (case hkind => with_unfolding_all rfl); (case hnames => decide); (case hx => with_unfolding_all rfl); (case hs => intro _; with_unfolding_all rfl)))
local macro_rules | `(tactic| ktr_rel) => `(tactic| ((with_reducible apply comp_assign); (case hF => k_asm); (case hsw => with_unfolding_all rfl); (case hclos => with_unfolding_all rfl); (case hcell => decide); (case hkind => with_unfolding_all rfl); (case hnames => decide); (case hx => with_unfolding_all rfl); (case hs => intro _; with_unfolding_all rfl)))
local macro_rules | `(tactic| walk_at "exec While") => `(tactic| (k_here; refine halt ?_))
local macro_rules | `(tactic| walk_at "pyIter ref") => `(tactic| (k_here; refine halt ?_))
local macro_rules | `(tactic| k_lt $h:ident) => `(tactic| (have lAll := $h; replace $h := allLt_of $h; simp only [AllLt, and_true] at $h:ident))
local macro_rules | `(tactic| k_mem) => `(tactic| ((repeat (first | exact List.Mem.head _ | refine' List.Mem.tail _ ?_)); (all_goals first | assumption | exact List.mem_append_left _ (by assumption) | exact List.mem_append_right _ (by assumption))))
local macro_rules | `(tactic| k_all) => `(tactic| exact OwnOff.ne (by assumption) (by k_mem))
local macro_rules | `(tactic| k_ownIn) => `(tactic| ((repeat (first | exact List.forall_mem_nil _ | refine List.forall_mem_cons.mpr ⟨by k_mem, ?_⟩)); (all_goals (intro p hp; k_mem))))
local macro_rules | `(tactic| ktu_offL) => `(tactic| (repeat' (first | exact off_nil | exact nin_nil | refine off_cons ?_ ?_ | refine nin_cons (neN ?_) ?_)) <;> ((try dsimp only); omega))
local macro_rules | `(tactic| walk_at "setItem") => `(tactic| (k_here; k_dflt (refine' set_L ?F ?N ?a ?b ?z ?U ?_; (case F => k_asm); (case N => k_asm); (case a => ktr_units); (case b => ktr_units); (case z => ktr_units); (case U => k_upd); k_whole); intro h' F' N'))
local macro_rules | `(tactic| kst_all) => `(tactic| (repeat' (first | exact List.forall_mem_nil _ | refine List.forall_mem_cons.mpr ⟨ltN ?_, ?_⟩)) <;> ((try dsimp only); omega))
local macro_rules | `(tactic| ktr_enter) => `(tactic| (first
  | (k_dflt (refine' enter ?k1 ?k2 ?k6 ?k7 ?k8 ?k9 ?kB ?_ ?c2 ?c3 ?c4 ?c5)
     (case k1 => assumption)
     (case k2 => assumption)
     (case k6 => k_is)
     (case k7 => k_is)
     (case k8 => decide)
     (case k9 => first | exact fun s hs => BindsTo.of_eq rfl | exact fun s hs => binds_K hs rfl (by k_is) rfl rfl rfl)
     (case c5 => decide)
     (case kB => exact locs rfl)
     (case c2 => exact rfl)
     (case c3 => exact rfl)
     (case c4 => exact rfl)
     intro s' env' outer' g' L' h' F' N' B' X' T' lL'
     (try k_lt lL')
     (try dsimp only)
     (try k_lift B')
     (try k_fold))
  | (k_dflt (refine' enterC ?k1 ?k2 ?k6 ?k7 ?k8 ?k9 ?kB ?kD ?_ ?c2 ?c3 ?c4)
     (case k1 => assumption)
     (case k2 => assumption)
     (case k6 => k_is)
     (case k7 => k_is)
     (case k8 => decide)
     (case k9 => first | exact fun s hs => BindsTo.of_eq rfl | exact fun s hs => binds_K hs rfl (by k_is) rfl rfl rfl)
     (case kB => exact rfl)
     (case kD => decide +kernel)
     (case c2 => exact rfl)
     (case c3 => exact rfl)
     (case c4 => exact rfl)
     intro s' env' outer' g' L' h' tk' cells' F' N' Y' B' X' T' lL'
     (try k_lt lL')
     k_cells Y'
     (try simp only [List.cons_append, List.nil_append] at N')
     (try dsimp only)
     (try k_lift B')
     (try k_fold))))
example (w : World) : hd1.heap_39 w.params = hd1.heap_39 w.params ∧ PySem.Challenge.rw_ff0006_01 = PySem.Challenge.rw_ff0006_01 := by
  k_fill
  exact ⟨rfl, rfl⟩
local macro_rules | `(tactic| walk_at "call ref") => `(tactic| (k_here; (with_reducible first | show wpAny _ _ (call (Value.ref 125) _ _) _ _ _ | show wpAny _ _ (call (Value.ref 283) _ _) _ _ _); refine halt ?_))
local macro_rules | `(tactic| walk_at "exec If") => `(tactic| (k_here; (fail_if_success (with_reducible show wpAny _ _ _ (WExit _ _ _ _) _ _)); (with_reducible first
  | show wpAny _ _ (exec (PySem.Stmt.If (PySem.Expr.BoolOp _ (PySem.Expr.Compare (PySem.Expr.Name (PySem.Str.ofString "block_indent") _) _ _ _ :: _) _) _ _ _) _) _ _ _
  | show wpAny _ _ (exec (PySem.Stmt.If (PySem.Expr.BoolOp _ (PySem.Expr.Compare (PySem.Expr.Name (PySem.Str.ofString "first_indent") _) _ _ _ :: _) _) _ _ _) _) _ _ _
  | show wpAny _ _ (exec (PySem.Stmt.If (PySem.Expr.BoolOp _ (PySem.Expr.Name (PySem.Str.ofString "indent") _ :: _) _) _ _ _) _) _ _ _
  | show wpAny _ _ (exec (PySem.Stmt.If (PySem.Expr.Compare (PySem.Expr.Name (PySem.Str.ofString "first_indent") _) _ _ _) _ _ _) _) _ _ _
  | show wpAny _ _ (exec (PySem.Stmt.If (PySem.Expr.Compare (PySem.Expr.Name (PySem.Str.ofString "indent") _) _ _ _) _ _ _) _) _ _ _); refine halt ?_))
theorem dueL_none {ts : List Str} {b a E : Nat} {f H : Option Int} {st : Bool} (h : ∀ i ∈ H, i = 0 ∨ st = false) : dueL ts b a E f H st = dueL ts b a E f none st := by
  unfold dueL
  congr 1
  refine List.map_congr_left fun y _ => ?_
  cases H with
  | none => rfl
  | some i =>
    dsimp only
    rw [if_neg]
    rintro ⟨q, r⟩
    rcases h i rfl with h | h
    · exact q h
    · rw [r] at h; cases h
theorem dueL_trim0 {ts : List Str} {b E : Nat} {h : Int} (h0 : h ≠ 0) {st : Bool} : pick (dueL ts b b E none none st) none (some 0) ++ (pick (dueL ts b b E none none st) (some 0) none).map (cutS h) = dueL ts b b E none (some h) true := by
  rw [pick_no, pick_all, List.nil_append, dueL_cut h0, dueL_zero (H := none) (fun i hi => nomatch hi)]
theorem dueL_trim1 {ts : List Str} {b E : Nat} {f h : Int} {x : Str} (hx : ts[b]? = some x) (h0 : h ≠ 0) {st : Bool} : pick (dueL ts b (b + 1) E (some f) none st) none (some 1) ++ (pick (dueL ts b (b + 1) E (some f) none st) (some 1) none).map (cutS h) = dueL ts b (b + 1) E (some f) (some h) true := by
  rw [dueL_zero1 (H := none) hx (fun i hi => nomatch hi), pick_hd, pick_tl, dueL_cut1 hx h0]; rfl
theorem dueL_sz {ts : List Str} (hs : ∀ x ∈ ts, x.length ≤ 100) {b a E : Nat} {f : Option Int} {st : Bool} (hf : ∀ i ∈ f, 0 ≤ i) : ∀ y ∈ dueL ts b a E f none st, y.length ≤ 100 := by
  intro y hy
  unfold dueL at hy
  rcases List.mem_append.mp hy with hy | hy
  · cases f with
    | none => cases hy
    | some f =>
      obtain ⟨z, hz, rfl⟩ := List.mem_map.mp hy
      have h1 := hs z (mid_mem hz)
      have : (cutS f z).length ≤ z.length := Txt.slice_le _ _ _
      omega
  · obtain ⟨z, hz, rfl⟩ := List.mem_map.mp hy
    exact hs z (mid_mem hz)
theorem fr_etaA {h₀ h : Heap} {L : Addr} {m : Str → Option Value} (l : List (Str × Value)) (F : Fr h₀ L h m) (hl : AllM m l) : Fr h₀ L h (fun z => ifs l m z) := fr_eta l F hl.mem
theorem join_XF {M : Model} {A : Around} {E : Value → Shared → Prop} {s : Shared} {env : Env} {h₀ : Heap} {L : Addr} {m : Str → Option Value} {st : Stmt} {Q : Flow → Shared → Prop} (X : (Str → Option Value) → List (Addr × Obj) → Prop) (F : Fr h₀ L s.heap m)
    (h : Fr h₀ L s.heap m → wpAny M A (exec st env) (WExit h₀ L s X) E s)
    (k : ∀ h' tk m' news', Fr h₀ L h' m' → News h₀ L h' news' → X m' news' → Q .next { s with heap := h', toks := tk }) :
    wpAny M A (exec st env) Q E s := join_X X F (h F) k
theorem ind_spec {w : World} {s₀ : Shared} {mg mb : Str → Option Value} {base : Heap} (bs : Bs w s₀ mg mb base)
    (x dx l m : Nat) (vs ws : List Value) (ts : List Str) (hv : StrsAre vs ts) (hs : ∀ x ∈ ts, x.length ≤ 100) (hr : ∀ x ∈ ts, x ∈ rowsL) (hw : ws.length = vs.length) (p o : Value) (t1 t2 t3 t4 tb tbi tfi : Tok) (hl : vs.length ≤ 1000) (n0 n1 : Nat) (b : Nat) (u st : Bool) (bi fi : Option Int)
    (hbi : ∀ i ∈ bi, 0 ≤ i ∧ i ≤ 3) (hfi : ∀ i ∈ fi, 0 ≤ i ∧ i ≤ 4) (hb : b < vs.length) :
    Spec P1 w base 700 299 ⟨[.ref x, .int b tb, .bool u, .bool st, vO bi tbi, vO fi tfi], []⟩ [(x, instObj 310 dx), (dx, vl w l m p o t1 t2 t3 t4), (l, W.listOf vs.toArray n0), (m, W.listOf ws.toArray n1)]
      (IndPost w x dx l m vs ws ts p o t1 t2 t3 t4 tb n0 n1 b u st bi fi) := by
  have bs' := bs
  obtain ⟨KX, X, GL, T, TB, TE, TW, M, oM, hM⟩ := bs
  k_dflt (refine' enter ?k1 ?k2 ?k6 ?k7 ?k8 ?k9 ?kB ?_ ?c2 ?c3 ?c4 ?c5)
  (case k1 => assumption)
  (case k2 => assumption)
  (case k6 => k_is)
  (case k7 => k_is)
  (case k8 => decide)
  (case k9 => first | exact fun s hs => BindsTo.of_eq rfl | exact fun s hs => binds_K hs rfl (by k_is) rfl rfl rfl)
  (case c5 => decide)
  (case kB => exact locs rfl)
  (case c2 => exact rfl)
  (case c3 => exact rfl)
  (case c4 => exact rfl)
  intro s' env' outer' g' L' h' F' N' B' X' T' lL'
  (try k_lt lL')
  (try dsimp only)
  (try k_lift B')
  (try k_fold)
  replace F' := fr_etaA [(Str.ofString "self", .ref x), (Str.ofString "start", .int b tb), (Str.ofString "until_blank", .bool u), (Str.ofString "strip_indent", .bool st), (Str.ofString "block_indent", vO bi tbi), (Str.ofString "first_indent", vO fi tfi)] F' ⟨rfl, rfl, rfl, rfl, rfl, rfl, trivial⟩
  simp only [ifs] at F'
  k_steps
  refine Halt.mk ?_
  refine join_XF (fun m₁ n₁ => n₁ = [(x, instObj 310 dx), (dx, vl w l m p o t1 t2 t3 t4), (l, W.listOf vs.toArray n0), (m, W.listOf ws.toArray n1)] ∧ ∃ tf te, AllM m₁ [(Str.ofString "self", .ref x), (Str.ofString "start", .int b tb), (Str.ofString "until_blank", .bool u), (Str.ofString "strip_indent", .bool st), (Str.ofString "block_indent", vO bi tbi), (Str.ofString "first_indent", vO (fstO bi fi) tf), (Str.ofString "indent", vO bi tbi), (Str.ofString "end", .int b te)]) (by k_asm) ?_ ?_
  · intro F'
    cases bi with
    | none =>
      dsimp only [vO] at F'
      k_steps
      exact WExit.mk (by k_asm) (by k_asm) ⟨rfl, tfi, _, rfl, rfl, rfl, rfl, rfl, (by cases fi <;> rfl), rfl, rfl, trivial⟩
    | some b1 =>
      cases fi with
      | none =>
        dsimp only [vO] at F'
        k_steps
        exact WExit.mk (by k_asm) (by k_asm) ⟨rfl, tbi, _, rfl, rfl, rfl, rfl, rfl, rfl, rfl, rfl, trivial⟩
      | some f1 =>
        dsimp only [vO] at F'
        k_steps
        exact WExit.mk (by k_asm) (by k_asm) ⟨rfl, tfi, _, rfl, rfl, rfl, rfl, rfl, rfl, rfl, rfl, trivial⟩
  rintro h1 tk1 m1 n1 F1 N1 ⟨rfl, tf, te0, q1⟩
  replace F1 := fr_eta _ F1 q1.mem
  clear q1
  simp only [ifs] at F1
  k_steps
  refine Halt.mk ?_
  refine join_XF (fun m₁ n₁ => n₁ = [(x, instObj 310 dx), (dx, vl w l m p o t1 t2 t3 t4), (l, W.listOf vs.toArray n0), (m, W.listOf ws.toArray n1)] ∧ ∃ te, AllM m₁ [(Str.ofString "self", .ref x), (Str.ofString "start", .int b tb), (Str.ofString "until_blank", .bool u), (Str.ofString "strip_indent", .bool st), (Str.ofString "block_indent", vO bi tbi), (Str.ofString "first_indent", vO (fstO bi fi) tf), (Str.ofString "indent", vO bi tbi), (Str.ofString "end", .int (aOf b (fstO bi fi)) te)]) (by k_asm) ?_ ?_
  · intro F'
    cases hfo : fstO bi fi with
    | none =>
      rw [hfo] at F'
      dsimp only [vO] at F'
      k_steps
      exact WExit.mk (by k_asm) (by k_asm) ⟨rfl, te0, rfl, rfl, rfl, rfl, rfl, rfl, rfl, rfl, trivial⟩
    | some f =>
      rw [hfo] at F'
      dsimp only [vO] at F'
      k_steps
      refine' WExit.mk (by k_asm) (by k_asm) ⟨rfl, _, rfl, rfl, rfl, rfl, rfl, rfl, rfl, ?zz2, trivial⟩
      (case zz2 => refine int_to ?_; dsimp only [aOf]; omega)
  rintro h2 tk2 m2 n2 F2 N2 ⟨rfl, te1, q2⟩
  replace F2 := fr_eta _ F2 q2.mem
  clear q2
  simp only [ifs] at F2
  have hab : b ≤ aOf b (fstO bi fi) ∧ aOf b (fstO bi fi) ≤ b + 1 := by cases fstO bi fi <;> dsimp only [aOf] <;> omega
  generalize hA : aOf b (fstO bi fi) = a at F2 hab ⊢
  k_steps
  refine Halt.mk ?_
  refine While_X (fun n m₁ n₁ => n₁ = [(x, instObj 310 dx), (dx, vl w l m p o t1 t2 t3 t4), (l, W.listOf vs.toArray n0), (m, W.listOf ws.toArray n1)] ∧ ∃ (e : Nat) (te ti tl : Tok), AllM m₁ [(Str.ofString "self", .ref x), (Str.ofString "start", .int b tb), (Str.ofString "until_blank", .bool u), (Str.ofString "strip_indent", .bool st), (Str.ofString "block_indent", vO bi tbi), (Str.ofString "first_indent", vO (fstO bi fi) tf), (Str.ofString "last", .int vs.length tl), (Str.ofString "end", .int e te), (Str.ofString "indent", vO (holdM bi ts a e) ti)] ∧
        a ≤ e ∧ e ≤ vs.length ∧ n = vs.length - e ∧ (∀ k y, a ≤ k → k < e → ts[k]? = some y → stopS u bi y = false))
    (fun m₁ n₁ => n₁ = [(x, instObj 310 dx), (dx, vl w l m p o t1 t2 t3 t4), (l, W.listOf vs.toArray n0), (m, W.listOf ws.toArray n1)] ∧ ∃ (e : Nat) (te ti : Tok), AllM m₁ [(Str.ofString "self", .ref x), (Str.ofString "start", .int b tb), (Str.ofString "until_blank", .bool u), (Str.ofString "strip_indent", .bool st), (Str.ofString "block_indent", vO bi tbi), (Str.ofString "first_indent", vO (fstO bi fi) tf), (Str.ofString "blank_finish", .bool (wellS ts b e)), (Str.ofString "end", .int e te), (Str.ofString "indent", vO (holdM bi ts a e) ti)] ∧ IsEnd (stopS u bi) ts a e)
    (vs.length - a) ?_ (by k_asm) (by k_asm) PassesOwn.never ?_ ?_
  · refine ⟨rfl, a, te1, tbi, _, ⟨rfl, rfl, rfl, rfl, rfl, rfl, rfl, rfl, ?_, trivial⟩, Nat.le_refl _, by omega, rfl, fun k y h1 h2 => by omega⟩
    cases bi with
    | none => rw [holdM, mid_self]; rfl
    | some _ => rfl
  · skip
    --BEGIN
    rintro n m₁ n₁ h₁ tk₁ F₁ N₁ ⟨rfl, e, te, ti, tl, q, hae, hel, rfl, hno⟩
    replace F₁ := fr_eta _ F₁ q.mem
    clear q
    cases bi with
    | none =>
      dsimp only [vO] at F₁
      simp only [ifs] at F₁
      k_steps
      all_goals (try (with_reducible show WStep _ _ _ _ _ _ _ _))
      all_goals try (show WExit _ _ _ _ _ _)
      · have hx := ‹ts[Int.toNat (e : Int)]? = some _›
        rw [Int.toNat_natCast] at hx
        have f := rowF (hr _ (List.mem_of_getElem? hx))
        have hz := ‹ts[Int.toNat ((e : Int) - 1)]? = some _›
        rw [show ((e : Int) - 1).toNat = e - 1 by omega] at hz
        have fz := rowF (hr _ (List.mem_of_getElem? hz))
        obtain ⟨g1, g2⟩ := f.it (by omega) (by assumption)
        have hst : stopS u none _ = true := stop_zero g1 g2
        refine WExit.mk (by k_asm) (by k_asm) ⟨rfl, e, te, ti, ⟨rfl, rfl, rfl, rfl, rfl, rfl, ?_, rfl, rfl, trivial⟩, isEnd_at hae hno hx hst⟩
        rw [well_at hx g1 (by omega) hz]
        show some (Value.bool _) = some (Value.bool _)
        have := fz.st
        congr
        cases hq : blankS _ <;> simp_all
      · have hx := ‹ts[Int.toNat (e : Int)]? = some _›
        rw [Int.toNat_natCast] at hx
        have f := rowF (hr _ (List.mem_of_getElem? hx))
        obtain ⟨g1, g2⟩ := f.it (by omega) (by assumption)
        have hst : stopS u none _ = true := stop_zero g1 g2
        refine WExit.mk (by k_asm) (by k_asm) ⟨rfl, e, te, ti, ⟨rfl, rfl, rfl, rfl, rfl, rfl, ?_, rfl, rfl, trivial⟩, isEnd_at hae hno hx hst⟩
        rw [well_no hx g1 (by omega)]
        show some (Value.bool _) = some (Value.bool _)
        congr
        simp; omega
      · have hx := ‹ts[Int.toNat (e : Int)]? = some _›
        rw [Int.toNat_natCast] at hx
        have f := rowF (hr _ (List.mem_of_getElem? hx))
        have g1 : blankS _ = false := Bool.eq_false_iff.mpr fun q => absurd (f.ls.mpr q) (by omega)
        have hst : stopS u none _ = false := stop_none g1 (f.it2 (by omega) (by assumption) g1)
        have hho := f.ho
        refine Halt.mk ?_
        refine join_XF (fun m₁ n₁ => n₁ = [(x, instObj 310 dx), (dx, vl w l m p o t1 t2 t3 t4), (l, W.listOf vs.toArray n0), (m, W.listOf ws.toArray n1)] ∧ ∃ ti', AllM m₁ [(Str.ofString "self", .ref x), (Str.ofString "start", .int b tb), (Str.ofString "until_blank", .bool u), (Str.ofString "strip_indent", .bool st), (Str.ofString "block_indent", .none), (Str.ofString "first_indent", vO (fstO none fi) tf), (Str.ofString "last", .int vs.length tl), (Str.ofString "end", .int e te), (Str.ofString "indent", vO (holdM none ts a (e + 1)) ti')]) (by k_asm) ?_ ?_
        · intro F'
          cases hmn : minH (mid ts a e) with
          | none =>
            rw [show holdM none ts a e = _ from hmn] at F'
            dsimp only [vO] at F'
            k_steps
            refine WExit.mk (by k_asm) (by k_asm) ⟨rfl, ?zti1, rfl, rfl, rfl, rfl, rfl, rfl, rfl, rfl, ?zin1, trivial⟩
            case zin1 => rw [holdM, mid_step hx hae, minH_step, hmn, step_none g1, ← hho]; rfl
          | some i =>
            rw [show holdM none ts a e = _ from hmn] at F'
            dsimp only [vO] at F'
            k_steps
            refine WExit.mk (by k_asm) (by k_asm) ⟨rfl, ?zti2, rfl, rfl, rfl, rfl, rfl, rfl, rfl, rfl, ?zin2, trivial⟩
            case zin2 => rw [holdM, mid_step hx hae, minH_step, hmn, step_some g1, ← hho]; rfl
        rintro h3 tk3 m3 n3 F3 N3 ⟨rfl, ti', q3⟩
        replace F3 := fr_eta _ F3 q3.mem
        clear q3
        simp only [ifs] at F3
        k_steps
        refine WStep.next (by k_asm) (by k_asm) (n' := vs.length - (e + 1)) (by omega) ⟨rfl, e + 1, _, ti', tl, ⟨rfl, rfl, rfl, rfl, rfl, rfl, rfl, rfl, rfl, trivial⟩, by omega, by omega, rfl, no_step hno hx hst⟩
      · have hx := ‹ts[Int.toNat (e : Int)]? = some _›
        rw [Int.toNat_natCast] at hx
        have f := rowF (hr _ (List.mem_of_getElem? hx))
        have g1 := f.ls.mp (by omega)
        refine WExit.mk (by k_asm) (by k_asm) ⟨rfl, e, te, ti, ⟨rfl, rfl, rfl, rfl, rfl, rfl, ?_, rfl, rfl, trivial⟩, isEnd_at hae hno hx (by rw [stop_blank g1]; assumption)⟩
        rw [well_blank hx g1]
        rfl
      · have hx := ‹ts[Int.toNat (e : Int)]? = some _›
        rw [Int.toNat_natCast] at hx
        have f := rowF (hr _ (List.mem_of_getElem? hx))
        have g1 := f.ls.mp (by omega)
        have hst : stopS u none _ = false := (stop_blank g1).trans ‹u = false›
        refine WStep.next (by k_asm) (by k_asm) (n' := vs.length - (e + 1)) (by omega) ⟨rfl, e + 1, _, ti, tl, ⟨rfl, rfl, rfl, rfl, rfl, rfl, rfl, rfl, ?zin3, trivial⟩, by omega, by omega, rfl, no_step hno hx hst⟩
        case zin3 => rw [holdM, mid_step hx hae, minH_step, step_blank g1]; rfl
      · have hx := ‹ts[Int.toNat (e : Int)]? = some _›
        rw [Int.toNat_natCast] at hx
        have f := rowF (hr _ (List.mem_of_getElem? hx))
        have := f.nb (by omega)
        have := f.ls.mpr this
        omega
      · have hx := ‹ts[Int.toNat (e : Int)]? = some _›
        rw [Int.toNat_natCast] at hx
        have f := rowF (hr _ (List.mem_of_getElem? hx))
        have g1 := f.ls.mp (by omega)
        refine WExit.mk (by k_asm) (by k_asm) ⟨rfl, e, te, ti, ⟨rfl, rfl, rfl, rfl, rfl, rfl, ?_, rfl, rfl, trivial⟩, isEnd_at hae hno hx (by rw [stop_blank g1]; assumption)⟩
        rw [well_blank hx g1]
        rfl
      · have hx := ‹ts[Int.toNat (e : Int)]? = some _›
        rw [Int.toNat_natCast] at hx
        have f := rowF (hr _ (List.mem_of_getElem? hx))
        have g1 := f.ls.mp (by omega)
        have hst : stopS u none _ = false := (stop_blank g1).trans ‹u = false›
        refine WStep.next (by k_asm) (by k_asm) (n' := vs.length - (e + 1)) (by omega) ⟨rfl, e + 1, _, ti, tl, ⟨rfl, rfl, rfl, rfl, rfl, rfl, rfl, rfl, ?zin4, trivial⟩, by omega, by omega, rfl, no_step hno hx hst⟩
        case zin4 => rw [holdM, mid_step hx hae, minH_step, step_blank g1]; rfl
      · refine WExit.mk (by k_asm) (by k_asm) ⟨rfl, e, te, ti, ⟨rfl, rfl, rfl, rfl, rfl, rfl, ?_, rfl, rfl, trivial⟩, isEnd_out hae hno (by rw [← hv.length]; omega)⟩
        rw [well_out (by rw [← hv.length]; omega)]
        rfl
    | some bb =>
      dsimp only [holdM, vO] at F₁
      simp only [ifs] at F₁
      k_steps
      all_goals (try (with_reducible show WStep _ _ _ _ _ _ _ _))
      all_goals try (show WExit _ _ _ _ _ _)
      · have hx := ‹ts[Int.toNat (e : Int)]? = some _›
        rw [Int.toNat_natCast] at hx
        have f := rowF (hr _ (List.mem_of_getElem? hx))
        have hz := ‹ts[Int.toNat ((e : Int) - 1)]? = some _›
        rw [show ((e : Int) - 1).toNat = e - 1 by omega] at hz
        have fz := rowF (hr _ (List.mem_of_getElem? hz))
        obtain ⟨g1, g2⟩ := f.it (by omega) (by assumption)
        have hst : stopS u (some bb) _ = true := stop_zero g1 g2
        refine WExit.mk (by k_asm) (by k_asm) ⟨rfl, e, te, ti, ⟨rfl, rfl, rfl, rfl, rfl, rfl, ?_, rfl, rfl, trivial⟩, isEnd_at hae hno hx hst⟩
        rw [well_at hx g1 (by omega) hz]
        show some (Value.bool _) = some (Value.bool _)
        have := fz.st
        congr
        cases hq : blankS _ <;> simp_all
      · have hx := ‹ts[Int.toNat (e : Int)]? = some _›
        rw [Int.toNat_natCast] at hx
        have f := rowF (hr _ (List.mem_of_getElem? hx))
        obtain ⟨g1, g2⟩ := f.it (by omega) (by assumption)
        have hst : stopS u (some bb) _ = true := stop_zero g1 g2
        refine WExit.mk (by k_asm) (by k_asm) ⟨rfl, e, te, ti, ⟨rfl, rfl, rfl, rfl, rfl, rfl, ?_, rfl, rfl, trivial⟩, isEnd_at hae hno hx hst⟩
        rw [well_no hx g1 (by omega)]
        show some (Value.bool _) = some (Value.bool _)
        congr
        simp; omega
      · have hx := ‹ts[Int.toNat (e : Int)]? = some _›
        rw [Int.toNat_natCast] at hx
        have f := rowF (hr _ (List.mem_of_getElem? hx))
        have hz := ‹ts[Int.toNat ((e : Int) - 1)]? = some _›
        rw [show ((e : Int) - 1).toNat = e - 1 by omega] at hz
        have fz := rowF (hr _ (List.mem_of_getElem? hz))
        have g0 : blankS _ = false ∧ holdS _ < bb := Decidable.byContradiction fun q => absurd ((f.pre (hbi bb rfl)).mpr q) (by omega)
        obtain ⟨g1, g2⟩ := g0
        have hst : stopS u (some bb) _ = true := stop_pre g1 g2
        refine WExit.mk (by k_asm) (by k_asm) ⟨rfl, e, te, ti, ⟨rfl, rfl, rfl, rfl, rfl, rfl, ?_, rfl, rfl, trivial⟩, isEnd_at hae hno hx hst⟩
        rw [well_at hx g1 (by omega) hz]
        show some (Value.bool _) = some (Value.bool _)
        have := fz.st
        congr
        cases hq : blankS _ <;> simp_all
      · have hx := ‹ts[Int.toNat (e : Int)]? = some _›
        rw [Int.toNat_natCast] at hx
        have f := rowF (hr _ (List.mem_of_getElem? hx))
        have g0 : blankS _ = false ∧ holdS _ < bb := Decidable.byContradiction fun q => absurd ((f.pre (hbi bb rfl)).mpr q) (by omega)
        obtain ⟨g1, g2⟩ := g0
        have hst : stopS u (some bb) _ = true := stop_pre g1 g2
        refine WExit.mk (by k_asm) (by k_asm) ⟨rfl, e, te, ti, ⟨rfl, rfl, rfl, rfl, rfl, rfl, ?_, rfl, rfl, trivial⟩, isEnd_at hae hno hx hst⟩
        rw [well_no hx g1 (by omega)]
        show some (Value.bool _) = some (Value.bool _)
        congr
        simp; omega
      · have hx := ‹ts[Int.toNat (e : Int)]? = some _›
        rw [Int.toNat_natCast] at hx
        have f := rowF (hr _ (List.mem_of_getElem? hx))
        have g1 : blankS _ = false := Bool.eq_false_iff.mpr fun q => absurd (f.ls.mpr q) (by omega)
        have hst : stopS u (some bb) _ = false := stop_some g1 (f.it2 (by omega) (by assumption) g1) (fun q => (f.pre (hbi bb rfl)).mp (by omega) ⟨g1, q⟩)
        refine WStep.next (by k_asm) (by k_asm) (n' := vs.length - (e + 1)) (by omega) ⟨rfl, e + 1, _, ti, tl, ⟨rfl, rfl, rfl, rfl, rfl, rfl, rfl, rfl, ?zin5, trivial⟩, by omega, by omega, rfl, no_step hno hx hst⟩
        case zin5 => rfl
      · have hx := ‹ts[Int.toNat (e : Int)]? = some _›
        rw [Int.toNat_natCast] at hx
        have f := rowF (hr _ (List.mem_of_getElem? hx))
        have g1 := f.ls.mp (by omega)
        refine WExit.mk (by k_asm) (by k_asm) ⟨rfl, e, te, ti, ⟨rfl, rfl, rfl, rfl, rfl, rfl, ?_, rfl, rfl, trivial⟩, isEnd_at hae hno hx (by rw [stop_blank g1]; assumption)⟩
        rw [well_blank hx g1]
        rfl
      · have hx := ‹ts[Int.toNat (e : Int)]? = some _›
        rw [Int.toNat_natCast] at hx
        have f := rowF (hr _ (List.mem_of_getElem? hx))
        have g1 := f.ls.mp (by omega)
        have hst : stopS u (some bb) _ = false := (stop_blank g1).trans ‹u = false›
        refine WStep.next (by k_asm) (by k_asm) (n' := vs.length - (e + 1)) (by omega) ⟨rfl, e + 1, _, ti, tl, ⟨rfl, rfl, rfl, rfl, rfl, rfl, rfl, rfl, ?zin6, trivial⟩, by omega, by omega, rfl, no_step hno hx hst⟩
        case zin6 => rfl
      · have hx := ‹ts[Int.toNat (e : Int)]? = some _›
        rw [Int.toNat_natCast] at hx
        have f := rowF (hr _ (List.mem_of_getElem? hx))
        have := f.nb (by omega)
        have := f.ls.mpr this
        omega
      · have hx := ‹ts[Int.toNat (e : Int)]? = some _›
        rw [Int.toNat_natCast] at hx
        have f := rowF (hr _ (List.mem_of_getElem? hx))
        have g1 := f.ls.mp (by omega)
        refine WExit.mk (by k_asm) (by k_asm) ⟨rfl, e, te, ti, ⟨rfl, rfl, rfl, rfl, rfl, rfl, ?_, rfl, rfl, trivial⟩, isEnd_at hae hno hx (by rw [stop_blank g1]; assumption)⟩
        rw [well_blank hx g1]
        rfl
      · have hx := ‹ts[Int.toNat (e : Int)]? = some _›
        rw [Int.toNat_natCast] at hx
        have f := rowF (hr _ (List.mem_of_getElem? hx))
        have g1 := f.ls.mp (by omega)
        have hst : stopS u (some bb) _ = false := (stop_blank g1).trans ‹u = false›
        refine WStep.next (by k_asm) (by k_asm) (n' := vs.length - (e + 1)) (by omega) ⟨rfl, e + 1, _, ti, tl, ⟨rfl, rfl, rfl, rfl, rfl, rfl, rfl, rfl, ?zin7, trivial⟩, by omega, by omega, rfl, no_step hno hx hst⟩
        case zin7 => rfl
      · refine WExit.mk (by k_asm) (by k_asm) ⟨rfl, e, te, ti, ⟨rfl, rfl, rfl, rfl, rfl, rfl, ?_, rfl, rfl, trivial⟩, isEnd_out hae hno (by rw [← hv.length]; omega)⟩
        rw [well_out (by rw [← hv.length]; omega)]
        rfl
    --END
  rintro h3 tk3 m3 n3 F3 N3 ⟨rfl, e, te, ti, q3, hE⟩
  have hae := hE.ge
  have hel := hE.le
  have hbe' : b ≤ e := by omega
  rw [← hv.length] at hel
  replace F3 := fr_eta _ F3 q3.mem
  clear q3
  simp only [ifs] at F3
  k_steps
  refine Halt.mk ?_
  refine Spec.use (part_spec bs' x dx l m vs ws p o t1 t2 t3 t4 _ _ hl hw n0 n1 _ _) (by k_asm) (by k_asm) (by k_asm) rfl rfl (Nat.le_of_ble_eq_true rfl) (Nat.le_of_ble_eq_true rfl) (by k_ownIn) (rest := []) (List.forall_mem_nil _) (List.forall_mem_nil _) ?_
  rintro r led h' tk' ⟨x', dx', D, I, n2, n3, u1, u2, u3, u4, rfl, d1, d2, d3, d4, d5, d6, dlt, rfl⟩ F' N' hfr
  simp only [List.append_nil] at N'
  simp only [List.forall_mem_cons, List.not_mem_nil, false_implies, implies_true, and_true] at dlt
  rw [pick_mid (l := vs) hbe' hel, pick_mid (l := ws) hbe' (by omega)] at N'
  have hml : (mid vs b e).length ≤ 1000 := by rw [mid_len hel]; omega
  have hmv := mid_strs hv b e
  k_steps
  refine Halt.mk ?_
  refine join_XF (fun m₁ n₁ => (∃ (us : List Value), n₁ = [(x', instObj 310 dx'), (dx', vl w D I (.ref x) (.int b tb) u1 u2 u3 u4), (D, W.listOf us.toArray n2), (I, W.listOf (mid ws b e).toArray n3), (x, instObj 310 dx), (dx, vl w l m p o t1 t2 t3 t4), (l, W.listOf vs.toArray n0), (m, W.listOf ws.toArray n1)] ∧ us.length ≤ 1000 ∧ StrsAre us (dueL ts b a e (fstO bi fi) none st)) ∧
      AllM m₁ [(Str.ofString "self", .ref x), (Str.ofString "start", .int b tb), (Str.ofString "until_blank", .bool u), (Str.ofString "strip_indent", .bool st), (Str.ofString "block_indent", vO bi tbi), (Str.ofString "first_indent", vO (fstO bi fi) tf), (Str.ofString "block", .ref x'), (Str.ofString "blank_finish", .bool (wellS ts b e)), (Str.ofString "indent", vO (holdM bi ts a e) ti)]) (by k_asm) ?_ ?_
  · skip
    --BEGIN
    intro F'
    cases hfo : fstO bi fi with
    | none =>
      rw [hfo] at F' hA
      have hA2 : a = b := hA.symm
      dsimp only [vO] at F'
      k_steps
      refine' WExit.mk (by k_asm) (by k_asm) ⟨⟨_, rfl, hml, ?zd1⟩, rfl, rfl, rfl, rfl, rfl, rfl, rfl, rfl, rfl, trivial⟩
      (case zd1 => rw [hA2, dueL_zero (H := none) (fun i hi => nomatch hi)]; exact hmv)
    | some f =>
      rw [hfo] at F' hA
      have hA2 : a = b + 1 := hA.symm
      dsimp only [vO] at F'
      have hf4 : 0 ≤ f ∧ f ≤ 4 := by
        cases fi with
        | none => have := hbi f (show f ∈ bi from hfo); omega
        | some g => exact hfi f (show f ∈ some g from hfo)
      obtain ⟨x0, hx0⟩ : ∃ x0, ts[b]? = some x0 := ⟨_, List.getElem?_eq_getElem (by rw [← hv.length]; exact hb)⟩
      have hcons := mid_cons hx0 (show b < e by omega)
      have hs2 : ∀ y ∈ mid ts b e, y.length ≤ 100 := fun y hy => hs y (mid_mem hy)
      have hml2 : 0 < (mid vs b e).length := by rw [mid_len hel]; omega
      k_steps
      all_goals try (exfalso; omega)
      have hx1 := ‹(mid ts b e)[Int.toNat 0]? = some _›
      rw [hcons] at hx1
      cases hx1
      refine' WExit.mk (by k_asm) (by k_asm) ⟨⟨_, rfl, ?zd2, ?zd3⟩, rfl, rfl, rfl, rfl, rfl, rfl, rfl, rfl, rfl, trivial⟩
      (case zd2 => rw [List.length_set]; exact hml)
      (case zd3 => rw [hA2, dueL_zero1 (H := none) hx0 (fun i hi => nomatch hi)]; exact set0_strs (show StrsAre (mid vs b e) (x0 :: mid ts (b + 1) e) from hcons ▸ hmv))
    --END
  rintro h4 tk4 m4 n4 F4 N4 ⟨⟨us, rfl, hul, hU⟩, q4⟩
  replace F4 := fr_eta _ F4 q4.mem
  clear q4
  simp only [ifs] at F4
  k_steps
  refine Halt.mk ?_
  refine join_XF (fun m₁ n₁ => (∃ (us2 : List Value) (D2 n4 : Nat), n₁ = [(x', instObj 310 dx'), (dx', vl w D2 I (.ref x) (.int b tb) u1 u2 u3 u4), (D2, W.listOf us2.toArray n4), (I, W.listOf (mid ws b e).toArray n3), (x, instObj 310 dx), (dx, vl w l m p o t1 t2 t3 t4), (l, W.listOf vs.toArray n0), (m, W.listOf ws.toArray n1)] ∧ StrsAre us2 (dueL ts b a e (fstO bi fi) (holdM bi ts a e) st) ∧
      x' ≠ D2 ∧ dx' ≠ D2 ∧ D2 ≠ I ∧ @LT.lt Nat _ x D2 ∧ @LT.lt Nat _ dx D2 ∧ @LT.lt Nat _ l D2 ∧ @LT.lt Nat _ m D2) ∧
      AllM m₁ [(Str.ofString "block", .ref x'), (Str.ofString "blank_finish", .bool (wellS ts b e)), (Str.ofString "indent", vO (holdM bi ts a e) ti)]) (by k_asm) ?_ ?_
  · skip
    --BEGIN
    intro F'
    have hhM : ∀ i ∈ holdM bi ts a e, 0 ≤ i ∧ i ≤ 10 := by
      cases bi with
      | none => exact minH_le (fun y hy => hr y (mid_mem hy))
      | some b1 => intro i hi; cases hi; have := hbi b1 rfl; omega
    cases hHM : holdM bi ts a e with
    | none =>
      rw [hHM] at F'
      dsimp only [vO] at F'
      k_steps
      refine' WExit.mk (by k_asm) (by k_asm) ⟨⟨us, D, n2, rfl, hU, ?_, ?_, ?_, ?_, ?_, ?_, ?_⟩, rfl, rfl, rfl, trivial⟩
      all_goals first | assumption | omega
    | some hh =>
      have hh0 := hhM hh hHM
      rw [hHM] at F'
      dsimp only [vO] at F'
      cases hfo : fstO bi fi with
      | none =>
        rw [hfo] at F' hU hA
        have hA2 : a = b := hA.symm
        dsimp only [vO] at F'
        k_steps
        · subst st
          refine Halt.mk ?_
          refine Spec.use (trim_spec bs' x' dx' D I us _ hU (dueL_sz hs (fun i hi => nomatch hi)) (.ref x) (.int b tb) u1 u2 u3 u4 ti _ hul n2 hh 0 ⟨hh0.1, by omega⟩ (by omega) d1 d2 d4) (by k_asm) (by k_asm) (by k_asm) rfl rfl (Nat.le_of_ble_eq_true rfl) (Nat.le_of_ble_eq_true rfl) (by k_ownIn)
            (rest := [(I, W.listOf (mid ws b e).toArray n3), (x, instObj 310 dx), (dx, vl w l m p o t1 t2 t3 t4), (l, W.listOf vs.toArray n0), (m, W.listOf ws.toArray n1)]) (by k_ownIn) (by ktu_offL) ?_
          rintro r led h' tk' ⟨D2, n4, us2, rfl, g1, g2, g3, hus, rfl⟩ F' N' hfr2
          simp only [List.cons_append, List.nil_append] at N'
          rw [hA2, dueL_trim0 ‹hh ≠ 0›] at hus
          have hI : D2 ≠ I := fresh_of hfr2 (o := W.listOf us2.toArray n4) (ob := W.listOf (mid ws b e).toArray n3) (by k_mem) (by ktu_offL) (by k_mem)
          k_steps
          refine' WExit.mk (by k_asm) (news_sub (by k_asm) ?zw1) ⟨⟨us2, D2, n4, rfl, ?zd4, ?_, ?_, ?_, ?_, ?_, ?_, ?_⟩, rfl, rfl, rfl, trivial⟩
          (case zw1 => k_ownIn)
          (case zd4 => rw [hA2]; exact hus)
          all_goals first | assumption | omega
        · refine' WExit.mk (by k_asm) (by k_asm) ⟨⟨us, D, n2, rfl, ?zd5, ?_, ?_, ?_, ?_, ?_, ?_, ?_⟩, rfl, rfl, rfl, trivial⟩
          (case zd5 => rw [dueL_none (fun i hi => .inr (by assumption))]; exact hU)
          all_goals first | assumption | omega
        · refine' WExit.mk (by k_asm) (by k_asm) ⟨⟨us, D, n2, rfl, ?zd6, ?_, ?_, ?_, ?_, ?_, ?_, ?_⟩, rfl, rfl, rfl, trivial⟩
          (case zd6 => rw [dueL_none (fun i hi => .inl (by cases hi; assumption))]; exact hU)
          all_goals first | assumption | omega
      | some f =>
        rw [hfo] at F' hU hA
        have hA2 : a = b + 1 := hA.symm
        dsimp only [vO] at F'
        have hf4 : 0 ≤ f ∧ f ≤ 4 := by
          cases fi with
          | none => have := hbi f (show f ∈ bi from hfo); omega
          | some g => exact hfi f (show f ∈ some g from hfo)
        obtain ⟨x0, hx0⟩ : ∃ x0, ts[b]? = some x0 := ⟨_, List.getElem?_eq_getElem (by rw [← hv.length]; exact hb)⟩
        k_steps
        · subst st
          refine Halt.mk ?_
          refine Spec.use (trim_spec bs' x' dx' D I us _ hU (dueL_sz hs (fun i hi => by cases hi; exact hf4.1)) (.ref x) (.int b tb) u1 u2 u3 u4 ti _ hul n2 hh 1 ⟨hh0.1, by omega⟩ (by omega) d1 d2 d4) (by k_asm) (by k_asm) (by k_asm) rfl rfl (Nat.le_of_ble_eq_true rfl) (Nat.le_of_ble_eq_true rfl) (by k_ownIn)
            (rest := [(I, W.listOf (mid ws b e).toArray n3), (x, instObj 310 dx), (dx, vl w l m p o t1 t2 t3 t4), (l, W.listOf vs.toArray n0), (m, W.listOf ws.toArray n1)]) (by k_ownIn) (by ktu_offL) ?_
          rintro r led h' tk' ⟨D2, n4, us2, rfl, g1, g2, g3, hus, rfl⟩ F' N' hfr2
          simp only [List.cons_append, List.nil_append] at N'
          rw [hA2, dueL_trim1 hx0 ‹hh ≠ 0›] at hus
          have hI : D2 ≠ I := fresh_of hfr2 (o := W.listOf us2.toArray n4) (ob := W.listOf (mid ws b e).toArray n3) (by k_mem) (by ktu_offL) (by k_mem)
          k_steps
          refine' WExit.mk (by k_asm) (news_sub (by k_asm) ?zw2) ⟨⟨us2, D2, n4, rfl, ?zd7, ?_, ?_, ?_, ?_, ?_, ?_, ?_⟩, rfl, rfl, rfl, trivial⟩
          (case zw2 => k_ownIn)
          (case zd7 => rw [hA2]; exact hus)
          all_goals first | assumption | omega
        · refine' WExit.mk (by k_asm) (by k_asm) ⟨⟨us, D, n2, rfl, ?zd8, ?_, ?_, ?_, ?_, ?_, ?_, ?_⟩, rfl, rfl, rfl, trivial⟩
          (case zd8 => rw [dueL_none (fun i hi => .inr (by assumption))]; exact hU)
          all_goals first | assumption | omega
        · refine' WExit.mk (by k_asm) (by k_asm) ⟨⟨us, D, n2, rfl, ?zd9, ?_, ?_, ?_, ?_, ?_, ?_, ?_⟩, rfl, rfl, rfl, trivial⟩
          (case zd9 => rw [dueL_none (fun i hi => .inl (by cases hi; assumption))]; exact hU)
          all_goals first | assumption | omega
    --END
  rintro h5 tk5 m5 n5 F5 N5 ⟨⟨us2, D2, n4, rfl, hU2, e1, e2, e3, e4, e5, e6, e7⟩, q5⟩
  replace F5 := fr_eta _ F5 q5.mem
  clear q5
  simp only [ifs] at F5
  subst hA
  cases hHM : holdM bi ts (aOf b (fstO bi fi)) e with
  | none =>
    rw [hHM] at F5
    dsimp only [vO] at F5
    k_steps
    refine' Ends.mk' (by k_asm) (by k_asm) ?zfa ⟨_, _, _, _, _, _, _, _, _, _, _, _, us2, e, rfl, hE, hU2, ⟨?_, ?_, ?_, ?_, ?_, ?_⟩, ?_, ?_, rfl⟩
    (case zfa => rw [hHM]; k_ownIn)
    all_goals first | omega | assumption | (simp only [List.forall_mem_cons, List.not_mem_nil, false_implies, implies_true, and_true]; omega)
  | some hh =>
    rw [hHM] at F5
    dsimp only [vO] at F5
    k_steps
    · refine' Ends.mk' (by k_asm) (by k_asm) ?zfb ⟨_, _, _, _, _, _, _, _, _, _, _, _, us2, e, rfl, hE, hU2, ⟨?_, ?_, ?_, ?_, ?_, ?_⟩, ?_, ?_, rfl⟩
      (case zfb => rw [hHM]; k_ownIn)
      all_goals first | omega | assumption | (simp only [List.forall_mem_cons, List.not_mem_nil, false_implies, implies_true, and_true]; omega)
    · have hh0 : hh = 0 := by assumption
      subst hh
      refine' Ends.mk' (by k_asm) (by k_asm) ?zfc ⟨_, _, _, _, _, _, _, _, _, _, _, _, us2, e, rfl, hE, hU2, ⟨?_, ?_, ?_, ?_, ?_, ?_⟩, ?_, ?_, rfl⟩
      (case zfc => rw [hHM]; k_ownIn)
      all_goals first | omega | assumption | (simp only [List.forall_mem_cons, List.not_mem_nil, false_implies, implies_true, and_true]; omega)

end
section
local macro_rules | `(tactic| ktr_units) => `(tactic| first | assumption | omega | (simp only [List.length_append, List.length_cons, List.length_nil, List.length_take, List.length_drop, List.length_set]; omega))
local macro_rules | `(tactic| k_ne) => `(tactic| (refine neN ?_; (try dsimp only); first | assumption | exact Ne.symm (by assumption) | omega))
local macro_rules | `(tactic| walk_at "call builtin:len") => `(tactic| (k_here; (with_reducible show wpAny _ _ (call (Value.builtin "len") [Value.ref _]) _ _ _); k_dflt (refine' len_L ?N ?m ?z ?_; (case N => k_asm); (case m => k_mem); (case z => ktr_units); k_whole); intro _ _))
local macro_rules | `(tactic| walk_at "truthy ref") => `(tactic| (k_here; k_dflt (refine' truthy_L ?N ?m ?z ?_; (case N => k_asm); (case m => k_mem); (case z => ktr_units); k_whole); intro _))
local macro_rules | `(tactic| walk_at "getItem ref int") => `(tactic| (k_here; (with_reducible show wpAny _ _ (getItem (Value.ref _) (Value.int _ _)) _ _ _); k_dflt (first
  | (refine' get_SL ?l ?S ?N ?m ?a ?b ?z ?_; (case N => k_asm); (case m => k_mem); (case S => with_reducible assumption); (case l => with_reducible assumption); (case a => ktr_units); (case b => ktr_units); (case z => ktr_units); k_whole; intro _ _ _ _)
  | (refine' get_S ?S ?N ?m ?a ?b ?z ?_; (case N => k_asm); (case m => k_mem); (case S => with_reducible assumption); (case a => ktr_units); (case b => ktr_units); (case z => ktr_units); k_whole; intro _ _ _)
  | (refine' get_L ?N ?m ?a ?b ?z ?_; (case N => k_asm); (case m => k_mem); (case a => ktr_units); (case b => ktr_units); (case z => ktr_units); k_whole; intro _ _))))
local macro_rules | `(tactic| walk_at "subscriptTail") => `(tactic| (k_here; (with_reducible show wpAny _ _ (subscriptTail _ _ (Value.ref _) (Value.int _ _)) _ _ _); k_dflt (first
  | (refine' sub_SL ?l ?S ?N ?m ?a ?b ?z ?_ ?s ?g; (case N => k_asm); (case m => k_mem); (case S => with_reducible assumption); (case l => with_reducible assumption); (case a => ktr_units); (case b => ktr_units); (case z => ktr_units); (case s => with_unfolding_all rfl); (case g => (intro _; with_unfolding_all rfl)); k_whole; intro _ _ _ _)
  | (refine' sub_S ?S ?N ?m ?a ?b ?z ?_ ?s ?g; (case N => k_asm); (case m => k_mem); (case S => with_reducible assumption); (case a => ktr_units); (case b => ktr_units); (case z => ktr_units); (case s => with_unfolding_all rfl); (case g => (intro _; with_unfolding_all rfl)); k_whole; intro _ _ _)
  | (refine' sub_L ?N ?m ?a ?b ?z ?_ ?s ?g; (case N => k_asm); (case m => k_mem); (case a => ktr_units); (case b => ktr_units); (case z => ktr_units); (case s => with_unfolding_all rfl); (case g => (intro _; with_unfolding_all rfl)); k_whole; intro _ _))))
local macro_rules | `(tactic| walk_at "subscriptTail Attribute Name Constant ref int") => `(tactic| (k_here; (with_reducible show wpAny _ _ (subscriptTail _ _ (Value.ref _) (Value.int _ _)) _ _ _); k_dflt (first
  | (refine' sub_SL ?l ?S ?N ?m ?a ?b ?z ?_ ?s ?g; (case N => k_asm); (case m => k_mem); (case S => with_reducible assumption); (case l => with_reducible assumption); (case a => ktr_units); (case b => ktr_units); (case z => ktr_units); (case s => with_unfolding_all rfl); (case g => (intro _; with_unfolding_all rfl)); k_whole; intro _ _ _ _)
  | (refine' sub_S ?S ?N ?m ?a ?b ?z ?_ ?s ?g; (case N => k_asm); (case m => k_mem); (case S => with_reducible assumption); (case a => ktr_units); (case b => ktr_units); (case z => ktr_units); (case s => with_unfolding_all rfl); (case g => (intro _; with_unfolding_all rfl)); k_whole; intro _ _ _)
  | (refine' sub_L ?N ?m ?a ?b ?z ?_ ?s ?g; (case N => k_asm); (case m => k_mem); (case a => ktr_units); (case b => ktr_units); (case z => ktr_units); (case s => with_unfolding_all rfl); (case g => (intro _; with_unfolding_all rfl)); k_whole; intro _ _))))
local macro_rules | `(tactic| walk_at "subscriptTail") => `(tactic| (k_here; (with_reducible show wpAny _ _ (subscriptTail _ (PySem.Expr.Slice _ _ none _) (Value.ref _) (Value.ref _)) _ _ _); k_dflt (refine' slice_L ?F ?N ?m ?p ?q ?z ?_ ?s ?t; (case F => k_asm); (case N => k_asm); (case m => k_mem); (case p => kmk_part); (case q => kmk_part); (case z => ktr_units); (case s => with_unfolding_all rfl); (case t => (intro _; with_unfolding_all rfl)); k_whole); intro D' h' F' N' l1; (try k_lt l1); (try k_sweep)))
local macro_rules | `(tactic| walk_at "subscriptTail Name Slice ref ref") => `(tactic| (k_here; (with_reducible show wpAny _ _ (subscriptTail _ (PySem.Expr.Slice _ _ none _) (Value.ref _) (Value.ref _)) _ _ _); k_dflt (refine' slice_L ?F ?N ?m ?p ?q ?z ?_ ?s ?t; (case F => k_asm); (case N => k_asm); (case m => k_mem); (case p => kmk_part); (case q => kmk_part); (case z => ktr_units); (case s => with_unfolding_all rfl); (case t => (intro _; with_unfolding_all rfl)); k_whole); intro D' h' F' N' l1; (try k_lt l1); (try k_sweep)))
local macro_rules | `(tactic| walk_at "binaryOp Add ref ref") => `(tactic| (k_here; k_dflt (refine' cat_L ?F ?N ?m ?q ?z ?_; (case F => k_asm); (case N => k_asm); (case m => k_mem); (case q => k_mem); (case z => ktr_units); k_whole); intro D' h' F' N' l1; (try k_lt l1); (try k_sweep)))
local macro_rules | `(tactic| walk_at "call type:range") => `(tactic| (k_here; k_dflt (first
  | (refine' range1_L ?F ?N ?_; (case F => k_asm); (case N => k_asm); k_whole)
  | (refine' range2_L ?F ?N ?_; (case F => k_asm); (case N => k_asm); k_whole)); intro r' h' tk' t' u' v' F' N' l1; (try k_lt l1); (try k_sweep)))
local macro_rules | `(tactic| walk_at "compareOp Eq ref ref") => `(tactic| (k_here; k_dflt (refine' eq_SS ?a ?b ?N ?m ?q ?o ?p ?u ?_; (case N => k_asm); (case m => k_mem); (case q => k_mem); (case a => with_reducible assumption); (case b => with_reducible assumption); (case o => with_reducible assumption); (case p => with_reducible assumption); (case u => exact Nat.le_of_ble_eq_true rfl); k_whole)))
local macro_rules | `(tactic| walk_at "compareOp NotEq ref ref") => `(tactic| (k_here; k_dflt (refine' ne_SS ?a ?b ?N ?m ?q ?o ?p ?u ?_; (case N => k_asm); (case m => k_mem); (case q => k_mem); (case a => with_reducible assumption); (case b => with_reducible assumption); (case o => with_reducible assumption); (case p => with_reducible assumption); (case u => exact Nat.le_of_ble_eq_true rfl); k_whole)))
local macro_rules | `(tactic| walk_at "getMethod ref") => `(tactic| (k_here; (with_reducible show wpAny _ _ (getMethod (Value.ref _) (PySem.Str.ofString "__class__") _) _ _ _); k_dflt (refine' method_got ?F ?X ?I ?g ?f ?t ?n ?_; (case F => k_asm); (case X => k_asm); (case I => k_inst); (case g => k_is); (case f => k_is); (case t => exact fun M => Looks.of_pure KF.type_class); (case n => decide +kernel); k_whole)))
local macro_rules | `(tactic| walk_at "eval Name") => `(tactic| (k_here; (with_reducible show wpAny _ _ (eval (PySem.Expr.Name _ _) (compEnvC _ _ _ _)) _ _ _); k_dflt (first
  | (refine' nmC ?N ?m ?n ?v ?_ ?k ?x ?d; (case x => rfl); (case N => k_asm); (case m => k_mem); (case n => with_reducible assumption); (case v => first | with_reducible assumption | rfl); (case k => rfl); (case d => decide); k_whole)
  | (refine' nmCc ?N ?c ?m ?d ?_ ?k ?x ?b; (case x => rfl); (case c => rfl); (case N => k_asm); (case m => k_mem); (case d => k_asm); (case k => rfl); (case b => decide); k_whole))))
local macro_rules | `(tactic| walk_at "eval ListComp") => `(tactic| (k_here; refine halt ?_))
local macro_rules | `(tactic| walk_at "exec Assign cons ListComp") => `(tactic| (k_here; (with_reducible show wpAny _ _ (exec (PySem.Stmt.Assign [PySem.Expr.Name _ _] _ _) _) _ _ _); refine halt ?_))
local macro_rules | `(tactic| ktr_unf) => `(tactic| ((with_reducible apply comp_eval); (case hF => k_asm); (case hclos => with_unfolding_all rfl); (case hcell => decide); (case hkind => with_unfolding_all rfl); (case hnames => decide); (case hx => with_unfolding_all rfl); (case hs => intro _; with_unfolding_all rfl)))
local macro_rules | `(tactic| ktr_rel) => `(tactic| ((with_reducible apply comp_assign); (case hF => k_asm); (case hsw => with_unfolding_all rfl); (case hclos => with_unfolding_all rfl); (case hcell => decide); (case hkind => with_unfolding_all rfl); (case hnames => decide); (case hx => with_unfolding_all rfl); (case hs => intro _; with_unfolding_all rfl)))
local macro_rules | `(tactic| walk_at "exec While") => `(tactic| (k_here; refine halt ?_))
local macro_rules | `(tactic| walk_at "pyIter ref") => `(tactic| (k_here; refine halt ?_))
local macro_rules | `(tactic| k_lt $h:ident) => `(tactic| (have lAll := $h; replace $h := allLt_of $h; simp only [AllLt, and_true] at $h:ident))
local macro_rules | `(tactic| k_mem) => `(tactic| ((repeat (first | exact List.Mem.head _ | refine' List.Mem.tail _ ?_)); (all_goals first | assumption | exact List.mem_append_left _ (by assumption) | exact List.mem_append_right _ (by assumption))))
local macro_rules | `(tactic| k_all) => `(tactic| exact OwnOff.ne (by assumption) (by k_mem))
local macro_rules | `(tactic| k_ownIn) => `(tactic| ((repeat (first | exact List.forall_mem_nil _ | refine List.forall_mem_cons.mpr ⟨by k_mem, ?_⟩)); (all_goals (intro p hp; k_mem))))
local macro_rules | `(tactic| ktu_offL) => `(tactic| (repeat' (first | exact off_nil | exact nin_nil | refine off_cons ?_ ?_ | refine nin_cons (neN ?_) ?_)) <;> ((try dsimp only); omega))
local macro_rules | `(tactic| walk_at "setItem") => `(tactic| (k_here; k_dflt (refine' set_L ?F ?N ?a ?b ?z ?U ?_; (case F => k_asm); (case N => k_asm); (case a => ktr_units); (case b => ktr_units); (case z => ktr_units); (case U => k_upd); k_whole); intro h' F' N'))
local macro_rules | `(tactic| kst_all) => `(tactic| (repeat' (first | exact List.forall_mem_nil _ | refine List.forall_mem_cons.mpr ⟨ltN ?_, ?_⟩)) <;> ((try dsimp only); omega))
local macro_rules | `(tactic| ktr_enter) => `(tactic| (first
  | (k_dflt (refine' enter ?k1 ?k2 ?k6 ?k7 ?k8 ?k9 ?kB ?_ ?c2 ?c3 ?c4 ?c5)
     (case k1 => assumption)
     (case k2 => assumption)
     (case k6 => k_is)
     (case k7 => k_is)
     (case k8 => decide)
     (case k9 => first | exact fun s hs => BindsTo.of_eq rfl | exact fun s hs => binds_K hs rfl (by k_is) rfl rfl rfl)
     (case c5 => decide)
     (case kB => exact locs rfl)
     (case c2 => exact rfl)
     (case c3 => exact rfl)
     (case c4 => exact rfl)
     intro s' env' outer' g' L' h' F' N' B' X' T' lL'
     (try k_lt lL')
     (try dsimp only)
     (try k_lift B')
     (try k_fold))
  | (k_dflt (refine' enterC ?k1 ?k2 ?k6 ?k7 ?k8 ?k9 ?kB ?kD ?_ ?c2 ?c3 ?c4)
     (case k1 => assumption)
     (case k2 => assumption)
     (case k6 => k_is)
     (case k7 => k_is)
     (case k8 => decide)
     (case k9 => first | exact fun s hs => BindsTo.of_eq rfl | exact fun s hs => binds_K hs rfl (by k_is) rfl rfl rfl)
     (case kB => exact rfl)
     (case kD => decide +kernel)
     (case c2 => exact rfl)
     (case c3 => exact rfl)
     (case c4 => exact rfl)
     intro s' env' outer' g' L' h' tk' cells' F' N' Y' B' X' T' lL'
     (try k_lt lL')
     k_cells Y'
     (try simp only [List.cons_append, List.nil_append] at N')
     (try dsimp only)
     (try k_lift B')
     (try k_fold))))
example (w : World) : hd1.heap_39 w.params = hd1.heap_39 w.params ∧ PySem.Challenge.rw_ff0006_01 = PySem.Challenge.rw_ff0006_01 := by
  k_fill
  exact ⟨rfl, rfl⟩
local macro_rules | `(tactic| walk_at "call ref") => `(tactic| (k_here; (with_reducible show wpAny _ _ (call (Value.ref 368) _ _) _ _ _); refine halt ?_))
local macro_rules | `(tactic| walk_at "exec Assign") => `(tactic| (k_here; (fail_if_success (with_reducible show wpAny _ _ _ (WExit _ _ _ _) _ _)); (with_reducible first
  | show wpAny _ _ (exec (PySem.Stmt.Assign [PySem.Expr.Name (PySem.Str.ofString "first") _] _ _) _) _ _ _
  | show wpAny _ _ (exec (PySem.Stmt.Assign [PySem.Expr.Name (PySem.Str.ofString "ahead") _] _ _) _) _ _ _
  | show wpAny _ _ (exec (PySem.Stmt.Assign [PySem.Expr.Name (PySem.Str.ofString "end") _] _ _) _) _ _ _
  | show wpAny _ _ (exec (PySem.Stmt.Assign [PySem.Expr.Name (PySem.Str.ofString "hold") _] _ _) _) _ _ _); refine halt ?_))
local macro_rules | `(tactic| walk_at "call builtin:min") => `(tactic| (k_here; (with_reducible show wpAny _ _ (call (Value.builtin _) [Value.ref _]) _ _ _); refine halt ?_))
local macro_rules | `(tactic| walk_at "exec If") => `(tactic| (k_here; (fail_if_success (with_reducible show wpAny _ _ _ (WExit _ _ _ _) _ _)); refine halt ?_))
def DuePost (l : Nat) (vs : List Value) (ts : List Str) (n0 : Nat) (b : Nat) (u st : Bool) (bi fi : Option Int) (r : Value) (led : List (Addr × Obj)) : Prop :=
  ∃ (R D n2 : Nat) (th te : Tok) (us : List Value) (E : Nat), r = .ref R ∧ IsEnd (stopS u bi) ts (aOf b (fstO bi fi)) E ∧
    StrsAre us (dueL ts b (aOf b (fstO bi fi)) E (fstO bi fi) (holdM bi ts (aOf b (fstO bi fi)) E) st) ∧ l < D ∧ D < R ∧
    led = [(R, { cls := .type "tuple", data := .seq #[.ref D, .int ((holdM bi ts (aOf b (fstO bi fi)) E).getD 0) th, .bool (wellS ts b E), .int E te] }), (D, W.listOf us.toArray n2), (l, W.listOf vs.toArray n0)]
theorem due_spec {w : World} {s₀ : Shared} {mg mb : Str → Option Value} {base : Heap} (bs : Bs w s₀ mg mb base)
    (l : Nat) (vs : List Value) (ts : List Str) (hv : StrsAre vs ts) (hs : ∀ x ∈ ts, x.length ≤ 100) (hr : ∀ x ∈ ts, x ∈ rowsL) (tb tbi tfi : Tok) (hl : vs.length ≤ 1000) (n0 : Nat) (b : Nat) (u st : Bool) (bi fi : Option Int)
    (hbi : ∀ i ∈ bi, 0 ≤ i ∧ i ≤ 3) (hfi : ∀ i ∈ fi, 0 ≤ i ∧ i ≤ 4) (hb : b < vs.length) :
    Spec P1 w base 700 373 ⟨[.ref l, .int b tb, .bool u, .bool st, vO bi tbi, vO fi tfi], []⟩ [(l, W.listOf vs.toArray n0)] (DuePost l vs ts n0 b u st bi fi) := by
  have bs' := bs
  obtain ⟨KX, X, GL, T, TB, TE, TW, M, oM, hM⟩ := bs
  k_dflt (refine' enterC ?k1 ?k2 ?k6 ?k7 ?k8 ?k9 ?kB ?kD ?_ ?c2 ?c3 ?c4)
  (case k1 => assumption)
  (case k2 => assumption)
  (case k6 => k_is)
  (case k7 => k_is)
  (case k8 => decide)
  (case k9 => first | exact fun s hs => BindsTo.of_eq rfl | exact fun s hs => binds_K hs rfl (by k_is) rfl rfl rfl)
  (case kB => exact rfl)
  (case kD => decide +kernel)
  (case c2 => exact rfl)
  (case c3 => exact rfl)
  (case c4 => exact rfl)
  intro s' env' outer' g' L' h' tk' cells' F' N' Y' B' X' T' lL'
  (try k_lt lL')
  obtain ⟨o1, o2, o3, o4, o5, hE', d1, d2, d3, d4, d5⟩ := PyProof.Rows.kc_five Y'
  subst hE'
  clear Y'
  replace d1 : o1.data = .cell none := d1
  replace d2 : o2.data = .cell (some (vO bi tbi)) := d2
  replace d3 : o3.data = .cell (some (.bool st)) := d3
  replace d4 : o4.data = .cell (some (.bool u)) := d4
  replace d5 : o5.data = .cell (some (.ref l)) := d5
  simp only [List.cons_append, List.nil_append] at N'
  (try dsimp only)
  (try k_lift B')
  (try k_fold)
  replace F' := fr_eta [(Str.ofString "begin", .int b tb), (Str.ofString "first_hold", vO fi tfi)] F' (AllM.mem ⟨rfl, rfl, trivial⟩)
  simp only [ifs] at F'
  k_steps
  refine Halt.mk ?_
  refine join_X (fun m₁ n₁ => n₁ = [(L' + 1 + 1 + 1 + 1 + 1, o1), (L' + 1 + 1 + 1 + 1, o2), (L' + 1 + 1 + 1, o3), (L' + 1 + 1, o4), (L' + 1, o5), (l, W.listOf vs.toArray n0)] ∧ ∃ tf, AllM m₁ [(Str.ofString "begin", .int b tb), (Str.ofString "first_hold", vO fi tfi), (Str.ofString "first", vO (fstO bi fi) tf)]) (by k_asm) ?_ ?_
  · cases fi with
    | none =>
      dsimp only [vO] at F'
      k_steps
      exact WExit.mk (by k_asm) (by k_asm) ⟨rfl, tbi, rfl, rfl, rfl, trivial⟩
    | some f =>
      dsimp only [vO] at F'
      k_steps
      exact WExit.mk (by k_asm) (by k_asm) ⟨rfl, tfi, rfl, rfl, rfl, trivial⟩
  rintro h1 tk1 m1 n1 F1 N1 ⟨rfl, tf, q1⟩
  (try clear F' N')
  replace F1 := fr_eta _ F1 q1.mem
  clear q1
  simp only [ifs] at F1
  k_steps
  refine Halt.mk ?_
  refine join_X (fun m₁ n₁ => n₁ = [(L' + 1 + 1 + 1 + 1 + 1, o1), (L' + 1 + 1 + 1 + 1, o2), (L' + 1 + 1 + 1, o3), (L' + 1 + 1, o4), (L' + 1, o5), (l, W.listOf vs.toArray n0)] ∧ ∃ ta, AllM m₁ [(Str.ofString "begin", .int b tb), (Str.ofString "first_hold", vO fi tfi), (Str.ofString "first", vO (fstO bi fi) tf), (Str.ofString "ahead", .int ((aOf b (fstO bi fi) : Int) - b) ta)]) (by k_asm) ?_ ?_
  · cases hfo : fstO bi fi with
    | none =>
      rw [hfo] at F1
      dsimp only [vO] at F1
      k_steps
      refine' WExit.mk (by k_asm) (by k_asm) ⟨rfl, _, rfl, rfl, rfl, ?zz1, trivial⟩
      (case zz1 => rw [show ((aOf b none : Nat) : Int) - b = 0 by dsimp only [aOf]; omega]; rfl)
    | some f =>
      rw [hfo] at F1
      dsimp only [vO] at F1
      k_steps
      refine' WExit.mk (by k_asm) (by k_asm) ⟨rfl, _, rfl, rfl, rfl, ?zz2, trivial⟩
      (case zz2 => rw [show ((aOf b (some f) : Nat) : Int) - b = 1 by dsimp only [aOf]; omega]; rfl)
  rintro h2 tk2 m2 n2 F2 N2 ⟨rfl, ta, q2⟩
  (try clear F1 N1)
  replace F2 := fr_eta _ F2 q2.mem
  clear q2
  simp only [ifs] at F2
  have hab : b ≤ aOf b (fstO bi fi) ∧ aOf b (fstO bi fi) ≤ b + 1 := by cases fstO bi fi <;> dsimp only [aOf] <;> omega
  generalize hA : aOf b (fstO bi fi) = a at F2 hab ⊢
  k_steps
  refine Halt.mk ?_
  refine join_X (fun m₁ n₁ => ∃ (D nD : Nat) (ys : List Value), n₁ = [(D, W.listOf ys.toArray nD), (L' + 1 + 1 + 1 + 1 + 1, o1), (L' + 1 + 1 + 1 + 1, o2), (L' + 1 + 1 + 1, o3), (L' + 1 + 1, o4), (L' + 1, o5), (l, W.listOf vs.toArray n0)] ∧ @LT.lt Nat _ (L' + 5) D ∧ l < D ∧ ys.length ≤ 1000 ∧ EndsT (stopS u bi) ts a (vs.length - a) ys ∧ AllM m₁ [(Str.ofString "begin", .int b tb), (Str.ofString "first_hold", vO fi tfi), (Str.ofString "first", vO (fstO bi fi) tf), (Str.ofString "ahead", .int ((a : Int) - b) ta), (Str.ofString "ends", .ref D)]) (by k_asm) ?_ ?_
  · ktr_rel
    k_steps
    refine Halt.mk ?_
    refine compAt_rangeT (fun i ys tups => tups = [] ∧ EndsT (stopS u bi) ts a i ys) (by k_asm) (by k_asm) (vs.length - a) rfl (by omega) (by omega) (by omega) (by omega) ⟨rfl, EndsT.zero⟩ ?_ ?_
    · rintro i v ys tups h₁ tk₁ own C oC mc hi ⟨rfl, hT⟩ hys F₁ N₁ hs1 ho hC hn hx
      dsimp only [CTurn]
      simp only [List.cons_append, List.nil_append, List.append_nil] at N₁
      k_steps
      have hx1 := ‹ts[Int.toNat ((b : Int) + ((a : Int) - b) + i)]? = some _›
      rw [show ((b : Int) + ((a : Int) - b) + i).toNat = a + i by omega] at hx1
      refine Halt.mk ?_
      refine Spec.use0 (stops_spec bs' _ _ _ (hr _ (List.mem_of_getElem? hx1)) u bi) (by k_asm) (by k_asm) (by k_asm) rfl rfl (Nat.le_of_ble_eq_true rfl) (Nat.le_of_ble_eq_true rfl) ?_
      rintro r h' tk' rfl F' N'
      k_steps
      · exact CStep.same (by k_asm) (by k_asm) hs1 ho ⟨rfl, hT.yes hx1 (by assumption) (by omega)⟩
      · exact CStep.same (by k_asm) (by k_asm) hs1 ho ⟨rfl, hT.no hx1 (by assumption)⟩
    rintro D C h' tk ys nD oC mc tups N' hn F' hs1 hs2 ho ⟨rfl, hT⟩ hl'
    simp only [List.append_nil] at N' hs1
    k_lt hs2
    dsimp only [FinA]
    k_steps
    refine AfterA.mk hn (by k_asm) (by k_asm) hs1 ?_
    intro h3 F3 N3
    refine' WExit.mk F3 (news_sub N3 ?zw0) ⟨D, _, _, rfl, ?_, ?_, ?_, hT, rfl, rfl, rfl, rfl, rfl, trivial⟩
    (case zw0 => k_ownIn)
    all_goals omega
  rintro h3 tk3 m3 n3 F3 N3 ⟨D, nD, ys, rfl, hD1, hD2, hyl, hT, q3⟩
  replace F3 := fr_eta _ F3 q3.mem
  clear q3
  simp only [ifs] at F3
  k_steps
  refine Halt.mk ?_
  refine join_X (fun m₁ n₁ => n₁ = [(D, W.listOf ys.toArray nD), (L' + 1 + 1 + 1 + 1 + 1, o1), (L' + 1 + 1 + 1 + 1, o2), (L' + 1 + 1 + 1, o3), (L' + 1 + 1, o4), (L' + 1, o5), (l, W.listOf vs.toArray n0)] ∧ ∃ (E : Nat) (te : Tok), AllM m₁ [(Str.ofString "begin", .int b tb), (Str.ofString "first_hold", vO fi tfi), (Str.ofString "first", vO (fstO bi fi) tf), (Str.ofString "ahead", .int ((a : Int) - b) ta), (Str.ofString "ends", .ref D), (Str.ofString "end", .int E te)] ∧ IsEnd (stopS u bi) ts a E ∧ (0 < ys.length ↔ E < vs.length)) (by k_asm) ?_ ?_
  · rcases hT with ⟨rfl, hT⟩ | ⟨E, t, ys', rfl, hE, hlt⟩
    · k_steps
      refine' WExit.mk (by k_asm) (by k_asm) ⟨rfl, vs.length, _, ⟨rfl, rfl, rfl, rfl, rfl, ?ze1, trivial⟩, ?_, ?_⟩
      (case ze1 => refine int_to ?_; split <;> omega)
      · exact isEnd_out (by omega) (fun k y h1 h2 => hT k y h1 (by omega)) hv.length
      · exact ⟨fun h => absurd h (Nat.lt_irrefl _), fun h => absurd h (Nat.lt_irrefl _)⟩
    · k_steps
      · have hv0 := ‹(Value.int (E : Int) t :: ys')[Int.toNat 0]? = some _›
        cases hv0
        refine' WExit.mk (by k_asm) (by k_asm) ⟨rfl, E, _, ⟨rfl, rfl, rfl, rfl, rfl, rfl, trivial⟩, hE, ?_⟩
        exact ⟨fun _ => by omega, fun _ => Nat.succ_pos _⟩
      · exfalso
        rw [List.length_cons] at *
        omega
  rintro h4 tk4 m4 n4 F4 N4 ⟨rfl, E, te, q4, hE, hEn⟩
  replace F4 := fr_eta _ F4 q4.mem
  clear q4 hT
  simp only [ifs] at F4
  have hEl : E ≤ vs.length := by rw [hv.length]; exact hE.le
  have hEg := hE.ge
  have hml : (mid vs a E).length ≤ 1000 := by rw [mid_len hEl]; omega
  have hmv := mid_strs hv a E
  k_steps
  refine Halt.mk ?_
  refine join_X (fun m₁ n₁ => ∃ (D2 nD2 : Nat) (zs : List Value), n₁ = [(D2, W.listOf zs.toArray nD2), (D, W.listOf ys.toArray nD), (L' + 1 + 1 + 1 + 1 + 1, o1), (L' + 1 + 1 + 1 + 1, o2), (L' + 1 + 1 + 1, o3), (L' + 1 + 1, o4), (L' + 1, o5), (l, W.listOf vs.toArray n0)] ∧ @LT.lt Nat _ (L' + 5) D2 ∧ l < D2 ∧ D < D2 ∧ zs.length ≤ 1000 ∧ StrsAre zs ((mid ts a E).filter nbS) ∧ AllM m₁ [(Str.ofString "begin", .int b tb), (Str.ofString "first_hold", vO fi tfi), (Str.ofString "first", vO (fstO bi fi) tf), (Str.ofString "ahead", .int ((a : Int) - b) ta), (Str.ofString "ends", .ref D), (Str.ofString "end", .int E te), (Str.ofString "held", .ref D2)]) (by k_asm) ?_ ?_
  · ktr_rel
    k_steps
    refine Halt.mk ?_
    rw [show (b : Int) + ((a : Int) - b) = (a : Int) by omega, pick_mid (l := vs) hEg hEl] at *
    refine compAt_listT (fun i ys tups => tups = [] ∧ StrsAre ys (((mid ts a E).take i).filter nbS)) (by k_asm) (by k_asm) rfl (ne_of_all (by assumption)) (by omega) ⟨rfl, StrsAre.nil⟩ ?_ ?_
    · rintro i v ys tups h₁ tk₁ own C oC mc hi ⟨rfl, hT⟩ hys F₁ N₁ hs1 ho hC hn hx
      obtain ⟨y, ty, rfl, hy⟩ := hmv.item _ _ hi
      have hyl : y.length ≤ 100 := hs y (mid_mem (List.mem_of_getElem? hy))
      dsimp only [CTurn]
      simp only [List.cons_append, List.nil_append, List.append_nil] at N₁
      k_steps
      · have hb1 : blankS y = false := by have := ‹(Txt.stripChars y (Str.ofString " ") != Str.ofString "") = true›; simpa [blankS, sp1, bne] using this
        refine CStep.same (by k_asm) (by k_asm) hs1 ho ⟨rfl, ?_⟩
        rw [nb_yes hy hb1]
        exact hT.append' (.cons _ _ .nil)
      · have hb1 : blankS y = true := by have := ‹(Txt.stripChars y (Str.ofString " ") != Str.ofString "") = false›; simpa [blankS, sp1, bne] using this
        refine CStep.same (by k_asm) (by k_asm) hs1 ho ⟨rfl, ?_⟩
        rw [nb_no hy hb1]
        exact hT
    rintro D2 C h' tk zs nD2 oC mc tups N' hn F' hs1 hs2 ho ⟨rfl, hH⟩ hl'
    simp only [List.append_nil] at N' hs1
    k_lt hs2
    dsimp only [FinA]
    k_steps
    refine AfterA.mk hn (by k_asm) (by k_asm) hs1 ?_
    intro h5 F5 N5
    rw [hmv.length, List.take_length] at hH
    refine' WExit.mk F5 (news_sub N5 ?zw9) ⟨D2, _, _, rfl, ?_, ?_, ?_, ?_, hH, rfl, rfl, rfl, rfl, rfl, rfl, rfl, trivial⟩
    (case zw9 => k_ownIn)
    all_goals omega
  rintro h5 tk5 m5 n5 F5 N5 ⟨D2, nD2, zs, rfl, hD3, hD4, hD5, hzl, hH, q5⟩
  replace F5 := fr_eta _ F5 q5.mem
  clear q5
  simp only [ifs] at F5
  k_steps
  refine Halt.mk ?_
  refine join_X (fun m₁ n₁ => ∃ (oH : Obj) (th : Tok), oH.data = .cell (some (vO (holdM bi ts a E) th)) ∧ n₁ = [(L' + 1 + 1 + 1 + 1 + 1, oH), (D, W.listOf ys.toArray nD), (L' + 1 + 1 + 1 + 1, o2), (L' + 1 + 1 + 1, o3), (L' + 1 + 1, o4), (L' + 1, o5), (l, W.listOf vs.toArray n0)] ∧ AllM m₁ [(Str.ofString "begin", .int b tb), (Str.ofString "first_hold", vO fi tfi), (Str.ofString "first", vO (fstO bi fi) tf), (Str.ofString "ahead", .int ((a : Int) - b) ta), (Str.ofString "ends", .ref D), (Str.ofString "end", .int E te)]) (by k_asm) ?_ ?_
  · cases bi with
    | none =>
      dsimp only [vO] at d2
      k_steps
      · refine Halt.mk ?_
        ktr_unf
        k_steps
        refine Halt.mk ?_
        refine compAt_listT (fun i ys tups => tups = [] ∧ IntsAre ys (((mid ts a E).filter nbS).map holdS |>.take i)) (by k_asm) (by k_asm) rfl (ne_of_all (by kst_all)) (by omega) ⟨rfl, IntsAre.nil⟩ ?_ ?_
        · rintro i v ys tups h₁ tk₁ own C oC mc hi ⟨rfl, hT⟩ hys F₁ N₁ hs1 ho hC hn hx
          obtain ⟨y, ty, rfl, hy⟩ := hH.item _ _ hi
          have hyl : y.length ≤ 100 := hs y (mid_mem ((List.mem_filter.mp (List.mem_of_getElem? hy)).1))
          dsimp only [CTurn]
          simp only [List.cons_append, List.nil_append, List.append_nil] at N₁
          k_steps
          refine CStep.same (by k_asm) (by k_asm) hs1 ho ⟨rfl, ?_⟩
          rw [take_step (y := holdS y) (by rw [List.getElem?_map, hy]; rfl)]
          exact hT.append (.cons _ _ .nil)
        rintro D3 C h' tk us nD3 oC mc tups N' hn F' hs1 hs2 ho ⟨rfl, hI⟩ hl'
        simp only [List.cons_append, List.append_nil, List.nil_append] at N' hs1
        k_lt hs2
        rw [hH.length, ← List.length_map (f := holdS), List.take_length] at hI
        refine ⟨_, _, _, hn, N', hs1, F', ?_⟩
        intro h6 F6 N6
        k_steps
        refine Halt.mk ?_
        refine kso_min F6 N6 (News.isList N6 (by k_mem)) hI (by rw [List.length_map, ← hH.length]; omega) rfl ?_
        rintro h7 M1 t7 k7 F7 N7 hM1 hM2
        k_steps
        have hmin : holdM none ts a E = some M1 := minH_of hM1 hM2
        refine' WExit.mk (by k_asm) (news_sub (by k_asm) ?zw1) ⟨_, t7, ?zd1, rfl, rfl, rfl, rfl, rfl, rfl, rfl, trivial⟩
        (case zw1 => k_ownIn)
        (case zd1 => rw [hmin]; assumption)
      · have hmin : holdM none ts a E = none := minH_no (by rw [← hH.length]; omega)
        refine' WExit.mk (by k_asm) (news_sub (by k_asm) ?zw2) ⟨_, tbi, ?zd2, rfl, rfl, rfl, rfl, rfl, rfl, rfl, trivial⟩
        (case zw2 => k_ownIn)
        (case zd2 => rw [hmin]; assumption)
    | some bb =>
      dsimp only [vO] at d2
      k_steps
      refine' WExit.mk (by k_asm) (news_sub (by k_asm) ?zw3) ⟨_, tbi, ?zd3, rfl, rfl, rfl, rfl, rfl, rfl, rfl, trivial⟩
      (case zw3 => k_ownIn)
      (case zd3 => assumption)
  rintro h8 tk8 m8 n8 F8 N8 ⟨oH, th, dH, rfl, q8⟩
  replace F8 := fr_eta _ F8 q8.mem
  clear q8
  simp only [ifs] at F8
  k_steps
  refine Halt.mk ?_
  have hEn1 : 0 < ys.length → E < vs.length := hEn.mp
  have hEn2 : E < vs.length → 0 < ys.length := hEn.mpr
  refine join_X (fun m₁ n₁ => n₁ = [(L' + 1 + 1 + 1 + 1 + 1, oH), (L' + 1 + 1 + 1 + 1, o2), (L' + 1 + 1 + 1, o3), (L' + 1 + 1, o4), (L' + 1, o5), (l, W.listOf vs.toArray n0)] ∧ AllM m₁ [(Str.ofString "begin", .int b tb), (Str.ofString "first_hold", vO fi tfi), (Str.ofString "first", vO (fstO bi fi) tf), (Str.ofString "ahead", .int ((a : Int) - b) ta), (Str.ofString "end", .int E te), (Str.ofString "well", .bool (wellS ts b E))]) (by k_asm) ?_ ?_
  · k_steps
    · have hx := ‹ts[Int.toNat (E : Int)]? = some _›
      rw [Int.toNat_natCast] at hx
      have hz := ‹ts[Int.toNat ((E : Int) - 1)]? = some _›
      rw [show ((E : Int) - 1).toNat = E - 1 by omega] at hz
      have hbl := ‹(Txt.stripChars _ (Str.ofString " ") != Str.ofString "") = true›
      refine' WExit.mk (by k_asm) (news_sub (by k_asm) ?zw4) ⟨rfl, rfl, rfl, rfl, rfl, rfl, ?zd4, trivial⟩
      (case zw4 => k_ownIn)
      (case zd4 => refine bool_to ?_; rw [well_at hx (by simpa [blankS, sp1, bne] using hbl) (by omega) hz]; rfl)
    · have hx := ‹ts[Int.toNat (E : Int)]? = some _›
      rw [Int.toNat_natCast] at hx
      have hbl := ‹(Txt.stripChars _ (Str.ofString " ") != Str.ofString "") = true›
      refine' WExit.mk (by k_asm) (news_sub (by k_asm) ?zw5) ⟨rfl, rfl, rfl, rfl, rfl, rfl, ?zd5, trivial⟩
      (case zw5 => k_ownIn)
      (case zd5 => refine bool_to ?_; rw [well_no hx (by simpa [blankS, sp1, bne] using hbl) (by omega)]; simp; omega)
    · have hx := ‹ts[Int.toNat (E : Int)]? = some _›
      rw [Int.toNat_natCast] at hx
      have hbl := ‹(Txt.stripChars _ (Str.ofString " ") != Str.ofString "") = false›
      refine' WExit.mk (by k_asm) (news_sub (by k_asm) ?zw6) ⟨rfl, rfl, rfl, rfl, rfl, rfl, ?zd6, trivial⟩
      (case zw6 => k_ownIn)
      (case zd6 => refine bool_to ?_; rw [well_blank hx (by simpa [blankS, sp1, bne] using hbl)])
    · refine' WExit.mk (by k_asm) (news_sub (by k_asm) ?zw7) ⟨rfl, rfl, rfl, rfl, rfl, rfl, ?zd7, trivial⟩
      (case zw7 => k_ownIn)
      (case zd7 => refine bool_to ?_; rw [well_out (by rw [← hv.length]; omega)])
  rintro h9 tk9 m9 n9 F9 N9 ⟨rfl, q9⟩
  replace F9 := fr_eta _ F9 q9.mem
  clear q9
  simp only [ifs] at F9
  k_steps
  refine Halt.mk ?_
  refine join_X (fun m₁ n₁ => ∃ (D4 nD4 : Nat) (us : List Value), n₁ = [(D4, W.listOf us.toArray nD4), (L' + 1 + 1 + 1 + 1 + 1, oH), (L' + 1 + 1 + 1 + 1, o2), (L' + 1 + 1 + 1, o3), (L' + 1 + 1, o4), (L' + 1, o5), (l, W.listOf vs.toArray n0)] ∧ l < D4 ∧ @LT.lt Nat _ (L' + 5) D4 ∧ us.length ≤ 1000 ∧ StrsAre us ((mid ts a E).map (fun y => match holdM bi ts a E with | some h => if h ≠ 0 ∧ st = true then cutS h y else y | none => y)) ∧
    AllM m₁ [(Str.ofString "begin", .int b tb), (Str.ofString "first_hold", vO fi tfi), (Str.ofString "first", vO (fstO bi fi) tf), (Str.ofString "ahead", .int ((a : Int) - b) ta), (Str.ofString "end", .int E te), (Str.ofString "well", .bool (wellS ts b E)), (Str.ofString "told", .ref D4)]) (by k_asm) ?_ ?_
  · ktr_rel
    k_steps
    refine Halt.mk ?_
    rw [show (b : Int) + ((a : Int) - b) = (a : Int) by omega, pick_mid (l := vs) hEg hEl] at *
    refine compAt_listT (fun i ys tups => tups = [] ∧ StrsAre ys (((mid ts a E).take i).map (fun y => match holdM bi ts a E with | some h => if h ≠ 0 ∧ st = true then cutS h y else y | none => y))) (by k_asm) (by k_asm) rfl (ne_of_all (by assumption)) (by omega) ⟨rfl, StrsAre.nil⟩ ?_ ?_
    · rintro i v ys tups h₁ tk₁ own C oC mc hi ⟨rfl, hT⟩ hys F₁ N₁ hs1 ho hC hn hx
      obtain ⟨y, ty, rfl, hy⟩ := hmv.item _ _ hi
      have hyl : y.length ≤ 100 := hs y (mid_mem (List.mem_of_getElem? hy))
      dsimp only [CTurn]
      simp only [List.cons_append, List.nil_append, List.append_nil] at N₁
      cases hHM : holdM bi ts a E with
      | none =>
        rw [hHM] at dH hT
        dsimp only [vO] at dH
        k_steps
        refine CStep.same (by k_asm) (by k_asm) hs1 ho ⟨rfl, ?_⟩
        rw [take_step hy, List.map_append]
        exact hT.append' (.cons _ _ .nil)
      | some hh =>
        rw [hHM] at dH hT
        dsimp only [vO] at dH
        k_steps
        · refine CStep.same (by k_asm) (by k_asm) hs1 ho ⟨rfl, ?_⟩
          rw [take_step hy, List.map_append]
          refine hT.append' ?_
          rw [List.map_cons, List.map_nil]
          dsimp only
          rw [if_pos ⟨‹hh ≠ 0›, ‹st = true›⟩]
          exact .cons _ _ .nil
        · refine CStep.same (by k_asm) (by k_asm) hs1 ho ⟨rfl, ?_⟩
          rw [take_step hy, List.map_append]
          refine hT.append' ?_
          rw [List.map_cons, List.map_nil]
          dsimp only
          rw [if_neg (fun q => by rw [‹st = false›] at q; cases q.2)]
          exact .cons _ _ .nil
        · refine CStep.same (by k_asm) (by k_asm) hs1 ho ⟨rfl, ?_⟩
          rw [take_step hy, List.map_append]
          refine hT.append' ?_
          rw [List.map_cons, List.map_nil]
          dsimp only
          rw [if_neg (fun q => q.1 ‹hh = 0›)]
          exact .cons _ _ .nil
    rintro D4 C h' tk us nD4 oC mc tups N' hn F' hs1 hs2 ho ⟨rfl, hU⟩ hl'
    simp only [List.append_nil] at N' hs1
    k_lt hs2
    dsimp only [FinA]
    k_steps
    refine AfterA.mk hn (by k_asm) (by k_asm) hs1 ?_
    intro h10 F10 N10
    rw [hmv.length, List.take_length] at hU
    refine' WExit.mk F10 (news_sub N10 ?zwa) ⟨D4, _, _, rfl, ?_, ?_, ?_, hU, rfl, rfl, rfl, rfl, rfl, rfl, rfl, trivial⟩
    (case zwa => k_ownIn)
    all_goals omega
  rintro ha tka ma na Fa Na ⟨D4, nD4, us, rfl, hlD, hLD, hul, hU, qa⟩
  replace Fa := fr_eta _ Fa qa.mem
  clear qa
  simp only [ifs] at Fa
  k_steps
  refine Halt.mk ?_
  refine join_X (fun m₁ n₁ => ∃ (D5 n5 : Nat) (us5 : List Value), n₁ = [(D5, W.listOf us5.toArray n5), (L' + 1 + 1 + 1 + 1 + 1, oH), (L' + 1 + 1 + 1 + 1, o2), (L' + 1 + 1 + 1, o3), (L' + 1 + 1, o4), (L' + 1, o5), (l, W.listOf vs.toArray n0)] ∧ l < D5 ∧ StrsAre us5 (dueL ts b a E (fstO bi fi) (holdM bi ts a E) st) ∧ AllM m₁ [(Str.ofString "begin", .int b tb), (Str.ofString "first_hold", vO fi tfi), (Str.ofString "told", .ref D5), (Str.ofString "end", .int E te), (Str.ofString "well", .bool (wellS ts b E))]) (by k_asm) ?_ ?_
  · cases hfo : fstO bi fi with
    | none =>
      rw [hfo] at hA
      have hA2 : a = b := hA.symm
      k_steps
      all_goals try (exfalso; omega)
      refine' WExit.mk (by k_asm) (news_sub (by k_asm) ?zw8) ⟨_, _, _, rfl, hlD, ?zd8, rfl, rfl, rfl, rfl, rfl, trivial⟩
      (case zw8 => k_ownIn)
      (case zd8 => exact hU)
    | some f =>
      rw [hfo] at Fa hA
      dsimp only [vO] at Fa
      have hA2 : a = b + 1 := hA.symm
      have hf4 : 0 ≤ f ∧ f ≤ 4 := by
        cases fi with
        | none => have := hbi f (show f ∈ bi from hfo); omega
        | some g => exact hfi f (show f ∈ some g from hfo)
      k_steps
      all_goals try (exfalso; omega)
      have hx0 := ‹ts[Int.toNat (b : Int)]? = some _›
      rw [Int.toNat_natCast] at hx0
      refine' WExit.mk (by k_asm) (news_sub (by k_asm) ?zwb) ⟨_, _, _, rfl, ?_, ?zdb, rfl, rfl, rfl, rfl, rfl, trivial⟩
      (case zwb => k_ownIn)
      (case zdb =>
        unfold dueL
        dsimp only
        rw [hA2, mid_cons hx0 (Nat.lt_succ_self b), mid_self, ← hA2, List.map_cons, List.map_nil]
        exact StrsAre.append' (.cons _ _ .nil) hU)
      omega
  rintro h11 tk11 m11 n11 F11 N11 ⟨D5, n5, us5, rfl, hl5, hU5, q11⟩
  replace F11 := fr_eta _ F11 q11.mem
  clear q11
  simp only [ifs] at F11
  subst hA
  cases hHM : holdM bi ts (aOf b (fstO bi fi)) E with
  | none =>
    rw [hHM] at dH
    dsimp only [vO] at dH
    k_steps
    refine' Ends.mk' (by k_asm) (by k_asm) ?zfa ⟨_, _, _, _, _, us5, E, rfl, hE, hU5, hl5, ?_, rfl⟩
    (case zfa => rw [hHM]; k_ownIn)
    omega
  | some hh =>
    rw [hHM] at dH
    dsimp only [vO] at dH
    k_steps
    · refine' Ends.mk' (by k_asm) (by k_asm) ?zfb ⟨_, _, _, _, _, us5, E, rfl, hE, hU5, hl5, ?_, rfl⟩
      (case zfb => rw [hHM]; k_ownIn)
      omega
    · have hh0 : hh = 0 := by assumption
      subst hh
      refine' Ends.mk' (by k_asm) (by k_asm) ?zfc ⟨_, _, _, _, _, us5, E, rfl, hE, hU5, hl5, ?_, rfl⟩
      (case zfc => rw [hHM]; k_ownIn)
      omega

end
section
local macro_rules | `(tactic| ktr_units) => `(tactic| first | assumption | omega | (simp only [List.length_append, List.length_cons, List.length_nil, List.length_take, List.length_drop, List.length_set]; omega))
local macro_rules | `(tactic| k_ne) => `(tactic| (refine neN ?_; (try dsimp only); first | assumption | exact Ne.symm (by assumption) | omega))
local macro_rules | `(tactic| walk_at "call builtin:len") => `(tactic| (k_here; (with_reducible show wpAny _ _ (call (Value.builtin "len") [Value.ref _]) _ _ _); k_dflt (refine' len_L ?N ?m ?z ?_; (case N => k_asm); (case m => k_mem); (case z => ktr_units); k_whole); intro _ _))
local macro_rules | `(tactic| walk_at "truthy ref") => `(tactic| (k_here; k_dflt (refine' truthy_L ?N ?m ?z ?_; (case N => k_asm); (case m => k_mem); (case z => ktr_units); k_whole); intro _))
local macro_rules | `(tactic| walk_at "getItem ref int") => `(tactic| (k_here; (with_reducible show wpAny _ _ (getItem (Value.ref _) (Value.int _ _)) _ _ _); k_dflt (first
  | (refine' get_SL ?l ?S ?N ?m ?a ?b ?z ?_; (case N => k_asm); (case m => k_mem); (case S => with_reducible assumption); (case l => with_reducible assumption); (case a => ktr_units); (case b => ktr_units); (case z => ktr_units); k_whole; intro _ _ _ _)
  | (refine' get_S ?S ?N ?m ?a ?b ?z ?_; (case N => k_asm); (case m => k_mem); (case S => with_reducible assumption); (case a => ktr_units); (case b => ktr_units); (case z => ktr_units); k_whole; intro _ _ _)
  | (refine' get_L ?N ?m ?a ?b ?z ?_; (case N => k_asm); (case m => k_mem); (case a => ktr_units); (case b => ktr_units); (case z => ktr_units); k_whole; intro _ _))))
local macro_rules | `(tactic| walk_at "subscriptTail") => `(tactic| (k_here; (with_reducible show wpAny _ _ (subscriptTail _ _ (Value.ref _) (Value.int _ _)) _ _ _); k_dflt (first
  | (refine' sub_SL ?l ?S ?N ?m ?a ?b ?z ?_ ?s ?g; (case N => k_asm); (case m => k_mem); (case S => with_reducible assumption); (case l => with_reducible assumption); (case a => ktr_units); (case b => ktr_units); (case z => ktr_units); (case s => with_unfolding_all rfl); (case g => (intro _; with_unfolding_all rfl)); k_whole; intro _ _ _ _)
  | (refine' sub_S ?S ?N ?m ?a ?b ?z ?_ ?s ?g; (case N => k_asm); (case m => k_mem); (case S => with_reducible assumption); (case a => ktr_units); (case b => ktr_units); (case z => ktr_units); (case s => with_unfolding_all rfl); (case g => (intro _; with_unfolding_all rfl)); k_whole; intro _ _ _)
  | (refine' sub_L ?N ?m ?a ?b ?z ?_ ?s ?g; (case N => k_asm); (case m => k_mem); (case a => ktr_units); (case b => ktr_units); (case z => ktr_units); (case s => with_unfolding_all rfl); (case g => (intro _; with_unfolding_all rfl)); k_whole; intro _ _))))
local macro_rules | `(tactic| walk_at "subscriptTail Attribute Name Constant ref int") => `(tactic| (k_here; (with_reducible show wpAny _ _ (subscriptTail _ _ (Value.ref _) (Value.int _ _)) _ _ _); k_dflt (first
  | (refine' sub_SL ?l ?S ?N ?m ?a ?b ?z ?_ ?s ?g; (case N => k_asm); (case m => k_mem); (case S => with_reducible assumption); (case l => with_reducible assumption); (case a => ktr_units); (case b => ktr_units); (case z => ktr_units); (case s => with_unfolding_all rfl); (case g => (intro _; with_unfolding_all rfl)); k_whole; intro _ _ _ _)
  | (refine' sub_S ?S ?N ?m ?a ?b ?z ?_ ?s ?g; (case N => k_asm); (case m => k_mem); (case S => with_reducible assumption); (case a => ktr_units); (case b => ktr_units); (case z => ktr_units); (case s => with_unfolding_all rfl); (case g => (intro _; with_unfolding_all rfl)); k_whole; intro _ _ _)
  | (refine' sub_L ?N ?m ?a ?b ?z ?_ ?s ?g; (case N => k_asm); (case m => k_mem); (case a => ktr_units); (case b => ktr_units); (case z => ktr_units); (case s => with_unfolding_all rfl); (case g => (intro _; with_unfolding_all rfl)); k_whole; intro _ _))))
local macro_rules | `(tactic| walk_at "subscriptTail") => `(tactic| (k_here; (with_reducible show wpAny _ _ (subscriptTail _ (PySem.Expr.Slice _ _ none _) (Value.ref _) (Value.ref _)) _ _ _); k_dflt (refine' slice_L ?F ?N ?m ?p ?q ?z ?_ ?s ?t; (case F => k_asm); (case N => k_asm); (case m => k_mem); (case p => kmk_part); (case q => kmk_part); (case z => ktr_units); (case s => with_unfolding_all rfl); (case t => (intro _; with_unfolding_all rfl)); k_whole); intro D' h' F' N' l1; (try k_lt l1); (try k_sweep)))
local macro_rules | `(tactic| walk_at "subscriptTail Name Slice ref ref") => `(tactic| (k_here; (with_reducible show wpAny _ _ (subscriptTail _ (PySem.Expr.Slice _ _ none _) (Value.ref _) (Value.ref _)) _ _ _); k_dflt (refine' slice_L ?F ?N ?m ?p ?q ?z ?_ ?s ?t; (case F => k_asm); (case N => k_asm); (case m => k_mem); (case p => kmk_part); (case q => kmk_part); (case z => ktr_units); (case s => with_unfolding_all rfl); (case t => (intro _; with_unfolding_all rfl)); k_whole); intro D' h' F' N' l1; (try k_lt l1); (try k_sweep)))
local macro_rules | `(tactic| walk_at "binaryOp Add ref ref") => `(tactic| (k_here; k_dflt (refine' cat_L ?F ?N ?m ?q ?z ?_; (case F => k_asm); (case N => k_asm); (case m => k_mem); (case q => k_mem); (case z => ktr_units); k_whole); intro D' h' F' N' l1; (try k_lt l1); (try k_sweep)))
local macro_rules | `(tactic| walk_at "call type:range") => `(tactic| (k_here; k_dflt (first
  | (refine' range1_L ?F ?N ?_; (case F => k_asm); (case N => k_asm); k_whole)
  | (refine' range2_L ?F ?N ?_; (case F => k_asm); (case N => k_asm); k_whole)); intro r' h' tk' t' u' v' F' N' l1; (try k_lt l1); (try k_sweep)))
local macro_rules | `(tactic| walk_at "compareOp Eq ref ref") => `(tactic| (k_here; k_dflt (refine' eq_SS ?a ?b ?N ?m ?q ?o ?p ?u ?_; (case N => k_asm); (case m => k_mem); (case q => k_mem); (case a => with_reducible assumption); (case b => with_reducible assumption); (case o => with_reducible assumption); (case p => with_reducible assumption); (case u => exact Nat.le_of_ble_eq_true rfl); k_whole)))
local macro_rules | `(tactic| walk_at "compareOp NotEq ref ref") => `(tactic| (k_here; k_dflt (refine' ne_SS ?a ?b ?N ?m ?q ?o ?p ?u ?_; (case N => k_asm); (case m => k_mem); (case q => k_mem); (case a => with_reducible assumption); (case b => with_reducible assumption); (case o => with_reducible assumption); (case p => with_reducible assumption); (case u => exact Nat.le_of_ble_eq_true rfl); k_whole)))
local macro_rules | `(tactic| walk_at "getMethod ref") => `(tactic| (k_here; (with_reducible show wpAny _ _ (getMethod (Value.ref _) (PySem.Str.ofString "__class__") _) _ _ _); k_dflt (refine' method_got ?F ?X ?I ?g ?f ?t ?n ?_; (case F => k_asm); (case X => k_asm); (case I => k_inst); (case g => k_is); (case f => k_is); (case t => exact fun M => Looks.of_pure KF.type_class); (case n => decide +kernel); k_whole)))
local macro_rules | `(tactic| walk_at "eval Name") => `(tactic| (k_here; (with_reducible show wpAny _ _ (eval (PySem.Expr.Name _ _) (compEnvC _ _ _ _)) _ _ _); k_dflt (first
  | (refine' nmC ?N ?m ?n ?v ?_ ?k ?x ?d; (case x => rfl); (case N => k_asm); (case m => k_mem); (case n => with_reducible assumption); (case v => first | with_reducible assumption | rfl); (case k => rfl); (case d => decide); k_whole)
  | (refine' nmCc ?N ?c ?m ?d ?_ ?k ?x ?b; (case x => rfl); (case c => rfl); (case N => k_asm); (case m => k_mem); (case d => k_asm); (case k => rfl); (case b => decide); k_whole))))
local macro_rules | `(tactic| walk_at "eval ListComp") => `(tactic| (k_here; refine halt ?_))
local macro_rules | `(tactic| walk_at "exec Assign cons ListComp") => `(tactic| (k_here; (with_reducible show wpAny _ _ (exec (PySem.Stmt.Assign [PySem.Expr.Name _ _] _ _) _) _ _ _); refine halt ?_))
local macro_rules | `(tactic| ktr_unf) => `(tactic| ((with_reducible apply comp_eval); (case hF => k_asm); (case hclos => with_unfolding_all rfl); (case hcell => decide); (case hkind => with_unfolding_all rfl); (case hnames => decide); (case hx => with_unfolding_all rfl); (case hs => intro _; with_unfolding_all rfl)))
local macro_rules | `(tactic| ktr_rel) => `(tactic| ((with_reducible apply comp_assign); (case hF => k_asm); (case hsw => with_unfolding_all rfl); (case hclos => with_unfolding_all rfl); (case hcell => decide); (case hkind => with_unfolding_all rfl); (case hnames => decide); (case hx => with_unfolding_all rfl); (case hs => intro _; with_unfolding_all rfl)))
local macro_rules | `(tactic| walk_at "exec While") => `(tactic| (k_here; refine halt ?_))
local macro_rules | `(tactic| walk_at "pyIter ref") => `(tactic| (k_here; refine halt ?_))
local macro_rules | `(tactic| k_lt $h:ident) => `(tactic| (have lAll := $h; replace $h := allLt_of $h; simp only [AllLt, and_true] at $h:ident))
local macro_rules | `(tactic| k_mem) => `(tactic| ((repeat (first | exact List.Mem.head _ | refine' List.Mem.tail _ ?_)); (all_goals first | assumption | exact List.mem_append_left _ (by assumption) | exact List.mem_append_right _ (by assumption))))
local macro_rules | `(tactic| k_all) => `(tactic| exact OwnOff.ne (by assumption) (by k_mem))
local macro_rules | `(tactic| k_ownIn) => `(tactic| ((repeat (first | exact List.forall_mem_nil _ | refine List.forall_mem_cons.mpr ⟨by k_mem, ?_⟩)); (all_goals (intro p hp; k_mem))))
local macro_rules | `(tactic| ktu_offL) => `(tactic| (repeat' (first | exact off_nil | exact nin_nil | refine off_cons ?_ ?_ | refine nin_cons (neN ?_) ?_)) <;> ((try dsimp only); omega))
local macro_rules | `(tactic| walk_at "setItem") => `(tactic| (k_here; k_dflt (refine' set_L ?F ?N ?a ?b ?z ?U ?_; (case F => k_asm); (case N => k_asm); (case a => ktr_units); (case b => ktr_units); (case z => ktr_units); (case U => k_upd); k_whole); intro h' F' N'))
local macro_rules | `(tactic| kst_all) => `(tactic| (repeat' (first | exact List.forall_mem_nil _ | refine List.forall_mem_cons.mpr ⟨ltN ?_, ?_⟩)) <;> ((try dsimp only); omega))
local macro_rules | `(tactic| ktr_enter) => `(tactic| (first
  | (k_dflt (refine' enter ?k1 ?k2 ?k6 ?k7 ?k8 ?k9 ?kB ?_ ?c2 ?c3 ?c4 ?c5)
     (case k1 => assumption)
     (case k2 => assumption)
     (case k6 => k_is)
     (case k7 => k_is)
     (case k8 => decide)
     (case k9 => first | exact fun s hs => BindsTo.of_eq rfl | exact fun s hs => binds_K hs rfl (by k_is) rfl rfl rfl)
     (case c5 => decide)
     (case kB => exact locs rfl)
     (case c2 => exact rfl)
     (case c3 => exact rfl)
     (case c4 => exact rfl)
     intro s' env' outer' g' L' h' F' N' B' X' T' lL'
     (try k_lt lL')
     (try dsimp only)
     (try k_lift B')
     (try k_fold))
  | (k_dflt (refine' enterC ?k1 ?k2 ?k6 ?k7 ?k8 ?k9 ?kB ?kD ?_ ?c2 ?c3 ?c4)
     (case k1 => assumption)
     (case k2 => assumption)
     (case k6 => k_is)
     (case k7 => k_is)
     (case k8 => decide)
     (case k9 => first | exact fun s hs => BindsTo.of_eq rfl | exact fun s hs => binds_K hs rfl (by k_is) rfl rfl rfl)
     (case kB => exact rfl)
     (case kD => decide +kernel)
     (case c2 => exact rfl)
     (case c3 => exact rfl)
     (case c4 => exact rfl)
     intro s' env' outer' g' L' h' tk' cells' F' N' Y' B' X' T' lL'
     (try k_lt lL')
     k_cells Y'
     (try simp only [List.cons_append, List.nil_append] at N')
     (try dsimp only)
     (try k_lift B')
     (try k_fold))))
example (w : World) : hd1.heap_39 w.params = hd1.heap_39 w.params ∧ PySem.Challenge.rw_ff0006_01 = PySem.Challenge.rw_ff0006_01 := by
  k_fill
  exact ⟨rfl, rfl⟩
local macro_rules | `(tactic| walk_at "call type:zip") => `(tactic| (k_here; refine halt ?_))
theorem xit_call {w : World} {s₀ : Shared} {mg mb : Str → Option Value} {base : Heap} (bs : Bs w s₀ mg mb base)
    (x dx l m : Nat) (vs ws : List Value) (p o : Value) (t1 t2 t3 t4 : Tok) (hl : vs.length ≤ 1000) (n0 n1 : Nat) (tl : List (Addr × Obj)) (ds : List (Str × Int)) (hI : It2 tl ws ds) (hlen : ws.length = vs.length)
    {A₀ : Around} {env : Env} {outer : List Env} {h₀ : Heap} {L : Addr} {mm : Str → Option Value} {s : Shared} {dp un : Nat} {gd : Option (List Code)} {news : List (Addr × Obj)} {Q : Value → Shared → Prop} {E : Value → Shared → Prop}
    (B : Below A₀ base outer h₀) (F : Fr h₀ L s.heap mm) (N : News h₀ L s.heap news) (hf : env.frame = some L) (hk : env.scope.kind = .function) (hroom : dp < recursionLimit) (hB : AllBare s.gens)
    (hp : ∀ q ∈ [(x, instObj 310 dx), (dx, vl w l m p o t1 t2 t3 t4), (l, W.listOf vs.toArray n0), (m, W.listOf ws.toArray n1)] ++ tl, q ∈ news)
    (k : ∀ (a g L' : Nat) h' tk' gens', AllBare gens' → Fr h₀ L h' mm → News h₀ L h' news → (L ≠ L' ∧ h₀.get? L' = none ∧ ∀ p ∈ news, p.1 ≠ L') → GenNew P1 w vs ds a g L' h' gens' → Q (.ref a) { s with heap := h', toks := tk', gens := gens' }) :
    wpAny (model P1 w) { handled := none, depth := dp, frames := some (env :: outer), guards := gd, units := un } (call (.ref 263) [.ref x]) Q E s := by
  obtain ⟨KX, X, GL, T, TB, TE, TW, M, oM, hM⟩ := bs
  refine xgen (n1 := n0) (n2 := n1) (l1 := l) (l2 := m) (vs := vs) (ws := ws) (tl := tl) KX T (by k_is) (by k_is) (fun s hs => BindsTo.of_eq rfl) (locs rfl) rfl rfl rfl (by decide) (fun _ => rfl) (fun _ => rfl) (fun _ => rfl) (by decide) (by decide) (fun _ _ => rfl) hlen hI (by k_mem) (by k_mem) (by k_ownIn) ?_ B F N hf hk hroom hB hp k
  rintro g L' S s' ⟨hd', dp', fr', gd', un'⟩ A1 o1 hA' B' F' N' X' T' h1 h2 h3
  subst hA'
  (try dsimp only)
  (try k_lift B')
  (try k_fold)
  simp only [List.cons_append, List.nil_append] at N'
  k_steps
  refine Halt.mk ?_
  refine call_zip_2 (News.isList N' (by k_mem)) (News.isList N' (by k_mem)) fun h' a1 a2 a3 a4 a5 _ hk' => ?_
  have lt1 : @LT.lt Nat _ l s'.heap.objs.size := Heap.lt_size (N' (l, _) (by k_mem)).1
  have lt2 : @LT.lt Nat _ m s'.heap.objs.size := Heap.lt_size (N' (m, _) (by k_mem)).1
  dsimp only at a1 a2 a3 a4 a5 hk' ⊢
  refine ⟨s'.heap.objs.size + 4, s'.heap.objs.size + 2, s'.heap.objs.size + 3, s'.heap.objs.size, s'.heap.objs.size + 1, h', _, rfl, rfl, ?_, ⟨by omega, by omega, by omega, by omega, by omega⟩, ⟨a1, a2, ⟨_, _, a3⟩, a4, a5, ?_, ?_⟩, hk'⟩
  · constructor <;> (refine neN ?_; omega)
  · exact (News.isList N' (by k_mem)).at fun o e => hk' _ o e
  · exact (News.isList N' (by k_mem)).at fun o e => hk' _ o e

end
section
local macro_rules | `(tactic| ktr_units) => `(tactic| first | assumption | omega | (simp only [List.length_append, List.length_cons, List.length_nil, List.length_take, List.length_drop, List.length_set]; omega))
local macro_rules | `(tactic| k_ne) => `(tactic| (refine neN ?_; (try dsimp only); first | assumption | exact Ne.symm (by assumption) | omega))
local macro_rules | `(tactic| walk_at "call builtin:len") => `(tactic| (k_here; (with_reducible show wpAny _ _ (call (Value.builtin "len") [Value.ref _]) _ _ _); k_dflt (refine' len_L ?N ?m ?z ?_; (case N => k_asm); (case m => k_mem); (case z => ktr_units); k_whole); intro _ _))
local macro_rules | `(tactic| walk_at "truthy ref") => `(tactic| (k_here; k_dflt (refine' truthy_L ?N ?m ?z ?_; (case N => k_asm); (case m => k_mem); (case z => ktr_units); k_whole); intro _))
local macro_rules | `(tactic| walk_at "getItem ref int") => `(tactic| (k_here; (with_reducible show wpAny _ _ (getItem (Value.ref _) (Value.int _ _)) _ _ _); k_dflt (first
  | (refine' get_SL ?l ?S ?N ?m ?a ?b ?z ?_; (case N => k_asm); (case m => k_mem); (case S => with_reducible assumption); (case l => with_reducible assumption); (case a => ktr_units); (case b => ktr_units); (case z => ktr_units); k_whole; intro _ _ _ _)
  | (refine' get_S ?S ?N ?m ?a ?b ?z ?_; (case N => k_asm); (case m => k_mem); (case S => with_reducible assumption); (case a => ktr_units); (case b => ktr_units); (case z => ktr_units); k_whole; intro _ _ _)
  | (refine' get_L ?N ?m ?a ?b ?z ?_; (case N => k_asm); (case m => k_mem); (case a => ktr_units); (case b => ktr_units); (case z => ktr_units); k_whole; intro _ _))))
local macro_rules | `(tactic| walk_at "subscriptTail") => `(tactic| (k_here; (with_reducible show wpAny _ _ (subscriptTail _ _ (Value.ref _) (Value.int _ _)) _ _ _); k_dflt (first
  | (refine' sub_SL ?l ?S ?N ?m ?a ?b ?z ?_ ?s ?g; (case N => k_asm); (case m => k_mem); (case S => with_reducible assumption); (case l => with_reducible assumption); (case a => ktr_units); (case b => ktr_units); (case z => ktr_units); (case s => with_unfolding_all rfl); (case g => (intro _; with_unfolding_all rfl)); k_whole; intro _ _ _ _)
  | (refine' sub_S ?S ?N ?m ?a ?b ?z ?_ ?s ?g; (case N => k_asm); (case m => k_mem); (case S => with_reducible assumption); (case a => ktr_units); (case b => ktr_units); (case z => ktr_units); (case s => with_unfolding_all rfl); (case g => (intro _; with_unfolding_all rfl)); k_whole; intro _ _ _)
  | (refine' sub_L ?N ?m ?a ?b ?z ?_ ?s ?g; (case N => k_asm); (case m => k_mem); (case a => ktr_units); (case b => ktr_units); (case z => ktr_units); (case s => with_unfolding_all rfl); (case g => (intro _; with_unfolding_all rfl)); k_whole; intro _ _))))
local macro_rules | `(tactic| walk_at "subscriptTail Attribute Name Constant ref int") => `(tactic| (k_here; (with_reducible show wpAny _ _ (subscriptTail _ _ (Value.ref _) (Value.int _ _)) _ _ _); k_dflt (first
  | (refine' sub_SL ?l ?S ?N ?m ?a ?b ?z ?_ ?s ?g; (case N => k_asm); (case m => k_mem); (case S => with_reducible assumption); (case l => with_reducible assumption); (case a => ktr_units); (case b => ktr_units); (case z => ktr_units); (case s => with_unfolding_all rfl); (case g => (intro _; with_unfolding_all rfl)); k_whole; intro _ _ _ _)
  | (refine' sub_S ?S ?N ?m ?a ?b ?z ?_ ?s ?g; (case N => k_asm); (case m => k_mem); (case S => with_reducible assumption); (case a => ktr_units); (case b => ktr_units); (case z => ktr_units); (case s => with_unfolding_all rfl); (case g => (intro _; with_unfolding_all rfl)); k_whole; intro _ _ _)
  | (refine' sub_L ?N ?m ?a ?b ?z ?_ ?s ?g; (case N => k_asm); (case m => k_mem); (case a => ktr_units); (case b => ktr_units); (case z => ktr_units); (case s => with_unfolding_all rfl); (case g => (intro _; with_unfolding_all rfl)); k_whole; intro _ _))))
local macro_rules | `(tactic| walk_at "subscriptTail") => `(tactic| (k_here; (with_reducible show wpAny _ _ (subscriptTail _ (PySem.Expr.Slice _ _ none _) (Value.ref _) (Value.ref _)) _ _ _); k_dflt (refine' slice_L ?F ?N ?m ?p ?q ?z ?_ ?s ?t; (case F => k_asm); (case N => k_asm); (case m => k_mem); (case p => kmk_part); (case q => kmk_part); (case z => ktr_units); (case s => with_unfolding_all rfl); (case t => (intro _; with_unfolding_all rfl)); k_whole); intro D' h' F' N' l1; (try k_lt l1); (try k_sweep)))
local macro_rules | `(tactic| walk_at "subscriptTail Name Slice ref ref") => `(tactic| (k_here; (with_reducible show wpAny _ _ (subscriptTail _ (PySem.Expr.Slice _ _ none _) (Value.ref _) (Value.ref _)) _ _ _); k_dflt (refine' slice_L ?F ?N ?m ?p ?q ?z ?_ ?s ?t; (case F => k_asm); (case N => k_asm); (case m => k_mem); (case p => kmk_part); (case q => kmk_part); (case z => ktr_units); (case s => with_unfolding_all rfl); (case t => (intro _; with_unfolding_all rfl)); k_whole); intro D' h' F' N' l1; (try k_lt l1); (try k_sweep)))
local macro_rules | `(tactic| walk_at "binaryOp Add ref ref") => `(tactic| (k_here; k_dflt (refine' cat_L ?F ?N ?m ?q ?z ?_; (case F => k_asm); (case N => k_asm); (case m => k_mem); (case q => k_mem); (case z => ktr_units); k_whole); intro D' h' F' N' l1; (try k_lt l1); (try k_sweep)))
local macro_rules | `(tactic| walk_at "call type:range") => `(tactic| (k_here; k_dflt (first
  | (refine' range1_L ?F ?N ?_; (case F => k_asm); (case N => k_asm); k_whole)
  | (refine' range2_L ?F ?N ?_; (case F => k_asm); (case N => k_asm); k_whole)); intro r' h' tk' t' u' v' F' N' l1; (try k_lt l1); (try k_sweep)))
local macro_rules | `(tactic| walk_at "compareOp Eq ref ref") => `(tactic| (k_here; k_dflt (refine' eq_SS ?a ?b ?N ?m ?q ?o ?p ?u ?_; (case N => k_asm); (case m => k_mem); (case q => k_mem); (case a => with_reducible assumption); (case b => with_reducible assumption); (case o => with_reducible assumption); (case p => with_reducible assumption); (case u => exact Nat.le_of_ble_eq_true rfl); k_whole)))
local macro_rules | `(tactic| walk_at "compareOp NotEq ref ref") => `(tactic| (k_here; k_dflt (refine' ne_SS ?a ?b ?N ?m ?q ?o ?p ?u ?_; (case N => k_asm); (case m => k_mem); (case q => k_mem); (case a => with_reducible assumption); (case b => with_reducible assumption); (case o => with_reducible assumption); (case p => with_reducible assumption); (case u => exact Nat.le_of_ble_eq_true rfl); k_whole)))
local macro_rules | `(tactic| walk_at "getMethod ref") => `(tactic| (k_here; (with_reducible show wpAny _ _ (getMethod (Value.ref _) (PySem.Str.ofString "__class__") _) _ _ _); k_dflt (refine' method_got ?F ?X ?I ?g ?f ?t ?n ?_; (case F => k_asm); (case X => k_asm); (case I => k_inst); (case g => k_is); (case f => k_is); (case t => exact fun M => Looks.of_pure KF.type_class); (case n => decide +kernel); k_whole)))
local macro_rules | `(tactic| walk_at "eval Name") => `(tactic| (k_here; (with_reducible show wpAny _ _ (eval (PySem.Expr.Name _ _) (compEnvC _ _ _ _)) _ _ _); k_dflt (first
  | (refine' nmC ?N ?m ?n ?v ?_ ?k ?x ?d; (case x => rfl); (case N => k_asm); (case m => k_mem); (case n => with_reducible assumption); (case v => first | with_reducible assumption | rfl); (case k => rfl); (case d => decide); k_whole)
  | (refine' nmCc ?N ?c ?m ?d ?_ ?k ?x ?b; (case x => rfl); (case c => rfl); (case N => k_asm); (case m => k_mem); (case d => k_asm); (case k => rfl); (case b => decide); k_whole))))
local macro_rules | `(tactic| walk_at "eval ListComp") => `(tactic| (k_here; refine halt ?_))
local macro_rules | `(tactic| walk_at "exec Assign cons ListComp") => `(tactic| (k_here; (with_reducible show wpAny _ _ (exec (PySem.Stmt.Assign [PySem.Expr.Name _ _] _ _) _) _ _ _); refine halt ?_))
local macro_rules | `(tactic| ktr_unf) => `(tactic| ((with_reducible apply comp_eval); (case hF => k_asm); (case hclos => with_unfolding_all rfl); (case hcell => decide); (case hkind => with_unfolding_all rfl); (case hnames => decide); (case hx => with_unfolding_all rfl); (case hs => intro _; with_unfolding_all rfl)))
local macro_rules | `(tactic| ktr_rel) => `(tactic| ((with_reducible apply comp_assign); (case hF => k_asm); (case hsw => with_unfolding_all rfl); (case hclos => with_unfolding_all rfl); (case hcell => decide); (case hkind => with_unfolding_all rfl); (case hnames => decide); (case hx => with_unfolding_all rfl); (case hs => intro _; with_unfolding_all rfl)))
local macro_rules | `(tactic| walk_at "exec While") => `(tactic| (k_here; refine halt ?_))
local macro_rules | `(tactic| walk_at "pyIter ref") => `(tactic| (k_here; refine halt ?_))
local macro_rules | `(tactic| k_lt $h:ident) => `(tactic| (have lAll := $h; replace $h := allLt_of $h; simp only [AllLt, and_true] at $h:ident))
local macro_rules | `(tactic| k_mem) => `(tactic| ((repeat (first | exact List.Mem.head _ | refine' List.Mem.tail _ ?_)); (all_goals first | assumption | exact List.mem_append_left _ (by assumption) | exact List.mem_append_right _ (by assumption))))
local macro_rules | `(tactic| k_all) => `(tactic| exact OwnOff.ne (by assumption) (by k_mem))
local macro_rules | `(tactic| k_ownIn) => `(tactic| ((repeat (first | exact List.forall_mem_nil _ | refine List.forall_mem_cons.mpr ⟨by k_mem, ?_⟩)); (all_goals (intro p hp; k_mem))))
local macro_rules | `(tactic| ktu_offL) => `(tactic| (repeat' (first | exact off_nil | exact nin_nil | refine off_cons ?_ ?_ | refine nin_cons (neN ?_) ?_)) <;> ((try dsimp only); omega))
local macro_rules | `(tactic| walk_at "setItem") => `(tactic| (k_here; k_dflt (refine' set_L ?F ?N ?a ?b ?z ?U ?_; (case F => k_asm); (case N => k_asm); (case a => ktr_units); (case b => ktr_units); (case z => ktr_units); (case U => k_upd); k_whole); intro h' F' N'))
local macro_rules | `(tactic| kst_all) => `(tactic| (repeat' (first | exact List.forall_mem_nil _ | refine List.forall_mem_cons.mpr ⟨ltN ?_, ?_⟩)) <;> ((try dsimp only); omega))
local macro_rules | `(tactic| ktr_enter) => `(tactic| (first
  | (k_dflt (refine' enter ?k1 ?k2 ?k6 ?k7 ?k8 ?k9 ?kB ?_ ?c2 ?c3 ?c4 ?c5)
     (case k1 => assumption)
     (case k2 => assumption)
     (case k6 => k_is)
     (case k7 => k_is)
     (case k8 => decide)
     (case k9 => first | exact fun s hs => BindsTo.of_eq rfl | exact fun s hs => binds_K hs rfl (by k_is) rfl rfl rfl)
     (case c5 => decide)
     (case kB => exact locs rfl)
     (case c2 => exact rfl)
     (case c3 => exact rfl)
     (case c4 => exact rfl)
     intro s' env' outer' g' L' h' F' N' B' X' T' lL'
     (try k_lt lL')
     (try dsimp only)
     (try k_lift B')
     (try k_fold))
  | (k_dflt (refine' enterC ?k1 ?k2 ?k6 ?k7 ?k8 ?k9 ?kB ?kD ?_ ?c2 ?c3 ?c4)
     (case k1 => assumption)
     (case k2 => assumption)
     (case k6 => k_is)
     (case k7 => k_is)
     (case k8 => decide)
     (case k9 => first | exact fun s hs => BindsTo.of_eq rfl | exact fun s hs => binds_K hs rfl (by k_is) rfl rfl rfl)
     (case kB => exact rfl)
     (case kD => decide +kernel)
     (case c2 => exact rfl)
     (case c3 => exact rfl)
     (case c4 => exact rfl)
     intro s' env' outer' g' L' h' tk' cells' F' N' Y' B' X' T' lL'
     (try k_lt lL')
     k_cells Y'
     (try simp only [List.cons_append, List.nil_append] at N')
     (try dsimp only)
     (try k_lift B')
     (try k_fold))))
example (w : World) : hd1.heap_39 w.params = hd1.heap_39 w.params ∧ PySem.Challenge.rw_ff0006_01 = PySem.Challenge.rw_ff0006_01 := by
  k_fill
  exact ⟨rfl, rfl⟩
section
variable {prog : Program} {w : World} {base : Heap} {D : Nat} {K : Frag} {p : Program} {loose : List Str} {mean : ExcName → Option Value} {mg mb : Str → Option Value}
  {name qual : Str} {params : Arguments} {body : List Stmt} {scope : Scope} {dV kV doc pm cdv ct oc : Value} {an od : Option Addr} {osl : Array (Option Value)} {f cc : Addr} {args : Args} {binds : List (Str × Value)}
  {pre : List (Addr × Obj)} {post : Value → List (Addr × Obj) → Prop}
/-- into a def that closes over its class -/
theorem enterS (X : K.In base) (T : Top p loose mean mg mb base)
    (ho : K.lookup f = some ⟨oc, od, .func (ksFn name qual params body scope dV kV doc pm an cdv ct cc), osl⟩) (hcd : codeIn K cdv qual = true) (hroom : D < recursionLimit)
    (hbind : ∀ s : Shared, K.In s.heap → BindsTo s (ksFn name qual params body scope dV kV doc pm an cdv ct cc) args binds) (hloc : ∀ y ∈ binds, scope.names.lookup y.1 = some .local)
    (h : ∀ (s : Shared) (env : Env) (outer : List Env) g L' h₁, Fr g L' h₁ (fun y => binds.reverse.lookup y) → News g L' h₁ pre → Below (Ar D (10 * D) env outer) base (env :: outer) g → K.In g → Top p loose mean mg mb g → (∀ p ∈ pre, p.1 < L') →
      _root_.PySem.wpAt (model prog w) ((Ar D (10 * D) env outer).deeper (ksEnv qual scope L' f cdv cc)) (.func body (ksEnv qual scope L' f cdv cc)) (execs body (ksEnv qual scope L' f cdv cc))
        (fun fl s' => Ends s g post (match fl with | .ret v => v | _ => .none) s') (fun _ _ => False)
        { s with heap := h₁, toks := s.toks + binds.length })
    (hco : scope.isCoroutine = false) (hgen : scope.isGenerator = false) (hk : scope.kind = .function)
    (hcell : ∀ x ∈ scope.names, x.2 ≠ .cell) : Spec prog w base D f args pre post := by
  intro A₀ env outer h₀ L m s R B F hf hke N hret
  obtain ⟨FG, BG, st, _⟩ := groundX (R := R) (A := Ar D (10 * D) env outer) B F N rfl hf hke
  have X₀ := X.keeps B.stays
  have T₀ := T.keeps B.stays
  refine ks_codeAny_call_defAt (fd := ksFn name qual params body scope dV kV doc pm an cdv ct cc) (body := body) (binds := binds) hroom ((X₀.keeps F.keep) _ _ ho) rfl (T₀.nolimit.keeps F.keep) (codeRec_of (X₀.keeps F.keep) hcd) rfl (hbind s (X₀.keeps F.keep)) hcell hloc (fun h₁ hns hk₁ => ?_) hco hgen hk
  refine ks_wpAt_mono (h s env outer _ s.heap.objs.size h₁ ⟨hns, fun b o e => hk₁ b o (of_hideAll _ e), Nat.le_of_eq (hideAll_size _ _)⟩
    (fun p hp => ⟨hk₁ _ _ (N p hp).1, Nat.ne_of_lt (Heap.lt_size (N p hp).1), hideAll_none _ (List.mem_map_of_mem hp)⟩) BG (X₀.keeps st) (T₀.keeps st) (fun p hp => Heap.lt_size (N p hp).1)) (fun fl s' hl => ?_) fun _ _ y => y.elim
  exact out_of F N hret hl
end
theorem looks_mroL {K : Frag} {M : Model} {h : Heap} {C : Addr} {l : List Value} (X : K.In h) (hm : mroL K C l) : Looks M h (mroOf (.ref C)) l := by
  obtain ⟨cd, hc, ho⟩ := Option.map_eq_some_iff.mp hm
  obtain ⟨hmro, _⟩ := Prod.mk.inj ho
  subst hmro
  exact (looks_clsIn X hc).andThen .now
def excM : List Value := [.ref 344, .ref 322, .type "Exception", .type "BaseException", .type "object"]
theorem excM_is (w : World) : mroL (hd1.heap_39 w.params) 344 excM := by unfold mroL excM; kernel_rfl
theorem excM_along (w : World) : alongIn (hd1.heap_39 w.params) "__init__" [.ref 322, .type "Exception", .type "BaseException", .type "object"] = some (some (.builtin "Exception.__init__")) := by kernel_rfl
theorem excM_refuse (e : Nat) : refuseLoop (.ref e) "__setattr__" excM = pure () := by unfold excM; rw [refuseLoop_ref, refuseLoop_ref]; kernel_rfl
local macro_rules | `(tactic| walk_at "call ref") => `(tactic| (k_here; refine halt ?_))
local macro_rules | `(tactic| walk_at "setAttr ref") => `(tactic| (k_here; refine halt ?_))
theorem fr_but {h₀ h h' : Heap} {L e : Addr} {m : Str → Option Value} (F : Fr h₀ L h m) (hL : e ≠ L) (h0 : h₀.get? e = none) (hk : ∀ b o, b ≠ e → h.get? b = some o → h'.get? b = some o) : Fr h₀ L h' m :=
  ⟨F.ns.at' fun o q => hk _ o (Ne.symm hL) q, fun b o q => hk b o (fun z => by rw [z, h0] at q; cases q) (F.keep b o q), F.above⟩
@[reducible] def excO (d : Option Addr) (t0 : Addr) : Obj := { cls := .ref 344, dict := d, data := .fields #[.ref t0, .none, .none, .none, .bool false, .none] }
@[reducible] def excD (w : World) (b : Nat) (tx : Str) (k : Int) (t1 t2 u1 u2 u3 : Tok) : Obj := dictOf [⟨PyData.keyHash w.params (Str.ofString "block"), .str (Str.ofString "block") u1, .ref b⟩, ⟨PyData.keyHash w.params (Str.ofString "source"), .str (Str.ofString "source") u2, .str tx t1⟩, ⟨PyData.keyHash w.params (Str.ofString "lineno"), .str (Str.ofString "lineno") u3, .int k t2⟩] 3
theorem uei_spec {w : World} {s₀ : Shared} {mg mb : Str → Option Value} {base : Heap} (bs : Bs w s₀ mg mb base)
    (e t0 : Nat) (b : Nat) (tx : Str) (k : Int) (t1 t2 : Tok) (ot : Obj) (hne : e ≠ t0) :
    Spec P1 w base 800 341 ⟨[.ref e, .ref b, .str tx t1, .int k t2], []⟩ [(e, excO none t0), (t0, ot)]
      (fun r led => r = .none ∧ ∃ (t' d : Nat) (u1 u2 u3 : Tok), e < d ∧ led = [(e, excO (some d) t'), (d, excD w b tx k t1 t2 u1 u2 u3)]) := by
  obtain ⟨KX, X, GL, T, TB, TE, TW, M, oM, hM⟩ := bs
  k_dflt (refine' enterS ?k1 ?k2 ?k6 ?k7 ?k8 ?k9 ?kB ?_ ?c2 ?c3 ?c4 ?c5)
  (case k1 => assumption)
  (case k2 => assumption)
  (case k6 => k_is)
  (case k7 => k_is)
  (case k8 => decide)
  (case k9 => first | exact fun s hs => BindsTo.of_eq rfl | exact fun s hs => binds_K hs rfl (by k_is) rfl rfl rfl)
  (case c5 => decide)
  (case kB => exact locs rfl)
  (case c2 => exact rfl)
  (case c3 => exact rfl)
  (case c4 => exact rfl)
  intro s' env' outer' g' L' h' F' N' B' X' T' lL'
  (try k_lt lL')
  (try dsimp only)
  (try k_lift B')
  (try k_fold)
  k_steps
  have I : InstAt h' e (excO none t0) 344 none := ⟨(N' _ (.head _)).1, rfl, rfl, trivial⟩
  k_dflt (refine ks_node F' X' N' T' (by k_is) (by rfl) (by rfl) I (by k_is) (by rfl) (by first | rfl | decide +kernel) (by k_is) (by k_is) (by k_is) (by k_is) (by decide) (by rfl) (by rfl) (by rfl) (by rfl) (by decide +kernel) (by first | boot_by_name | rfl | kernel_rfl) ?_)
  intro so h2 F2 N2 l2
  k_steps
  have X2 : (hd1.heap_39 w.params).In h2 := X'.keeps F2.keep
  have hmro : Looks (model P1 w) h2 (mroOf (.ref 344)) excM := looks_mroL X2 (excM_is w)
  have hsub : Looks (model P1 w) h2 (isSubtype (.ref 344) (.type "Exception")) true := looks_subIn X2 (by k_is)
  refine xk_getMethod_super (K := hd1.heap_39 w.params) (N2 _ (.head _)).1 (looks_opaque X2 (by k_is)) hmro rfl X2 (excM_along w) ?hxC (N2 _ (.tail _ (.head _))).1 rfl hsub ?_
  (case hxC =>
    obtain ⟨cd, hcd, _⟩ := Option.map_eq_some_iff.mp (excM_is w)
    exact ks_ne (X'.keeps F'.keep) I hcd)
  have F3 := F2.push (o := { cls := .type "method-wrapper", data := .fields #[.builtin "Exception.__init__", .ref e] })
  have N3 := N2.push F2 { cls := .type "method-wrapper", data := .fields #[.builtin "Exception.__init__", .ref e] }
  have l3 : ∀ p ∈ [(so, ks_superObj 344 e 344), (e, excO none t0), (t0, ot)], p.1 < h2.objs.size := fun p hp => Heap.lt_size (N2 p hp).1
  generalize hmw : h2.objs.size = mw at *
  generalize hh3 : h2.push { cls := .type "method-wrapper", data := .fields #[.builtin "Exception.__init__", .ref e] } = h3 at *
  dsimp only
  refine callWith_mw (vs := #[.builtin "Exception.__init__", .ref e]) ?_
  simp only [Bool.false_eq_true, if_false]
  refine spliced_cons ?_
  k_steps
  refine wpAny_pure (Halt.mk ⟨(N3 _ (.head _)).1, ?_⟩)
  have X3 : (hd1.heap_39 w.params).In h3 := X'.keeps F3.keep
  have N30 := N3 (e, _) (.tail _ (.tail _ (.head _)))
  refine mw_call (N3 _ (.head _)).1 (X3 _ _ (by k_is)) N30.1 ?_
  intro h4 e1 e2 e3 e4
  dsimp only at e1 e2 e3 e4
  have F4 := fr_but F3 N30.2.1 N30.2.2 e3
  have hLs : @LT.lt Nat _ L' h3.objs.size := by obtain ⟨oL, _, _, hoL, _⟩ := F3.ns; exact Heap.lt_size hoL
  have N4 : News g' L' h4 [(h3.objs.size, { cls := .type "tuple", data := .seq #[.str (Str.ofString "unexpected indentation") _] }), (e, excO none h3.objs.size)] := fun p hp => by
    simp only [List.mem_cons, List.not_mem_nil, or_false] at hp
    rcases hp with rfl | rfl
    · refine ⟨e1, neN (Nat.ne_of_gt hLs), ?_⟩
      cases q : g'.get? h3.objs.size with
      | none => rfl
      | some o => exact absurd (Heap.lt_size (F3.keep _ _ q)) (Nat.lt_irrefl _)
    · exact ⟨e2, N30.2⟩
  have lt1 : @LT.lt Nat _ e h3.objs.size := Heap.lt_size N30.1
  generalize ht' : h3.objs.size = t' at *
  k_steps
  refine Halt.mk ?_
  refine set_exc_new (e := e) (ox := excO none t') (news' := [(t', _), (e, excO (some h4.objs.size) t')]) F4 N4 X' ⟨e2, rfl, rfl, trivial⟩ rfl (by k_is) (excM_is w) (excM_refuse e) (by decide) (by k_is) (.tail (Nat.ne_of_gt lt1) (.head fun _ h => nomatch h)) ?_
  intro h5 F5 N5 l5
  have hlt4 : @LT.lt Nat _ e h4.objs.size := by rw [e4]; omega
  have ht4 : @LT.lt Nat _ t' h4.objs.size := by rw [e4]; omega
  dsimp only at N5
  generalize hd' : h4.objs.size = d at *
  k_steps
  refine Halt.mk ?_
  refine set_exc_more (e := e) (ox := excO (some d) t') (dx := d) F5 N5 X' ⟨(N5 _ (.tail _ (.tail _ (.head _)))).1, rfl, rfl, (N5 _ (.head _)).1⟩ rfl (by k_is) (excM_is w) (excM_refuse e) (by decide) (by k_is) rfl rfl (.head (by intro p hp; simp only [List.mem_cons, List.not_mem_nil, or_false] at hp; rcases hp with rfl | rfl <;> exact Nat.ne_of_lt (by assumption))) (Nat.le_of_ble_eq_true rfl) ?_
  intro h6 F6 N6
  k_steps
  refine Halt.mk ?_
  refine set_exc_more (e := e) (ox := excO (some d) t') (dx := d) F6 N6 X' ⟨(N6 _ (.tail _ (.tail _ (.head _)))).1, rfl, rfl, (N6 _ (.head _)).1⟩ rfl (by k_is) (excM_is w) (excM_refuse e) (by decide) (by k_is) rfl rfl (.head (by intro p hp; simp only [List.mem_cons, List.not_mem_nil, or_false] at hp; rcases hp with rfl | rfl <;> exact Nat.ne_of_lt (by assumption))) (Nat.le_of_ble_eq_true rfl) ?_
  intro h7 F7 N7
  k_steps
  refine' Ends.mk' F7 N7 ?zhs ⟨rfl, t', d, _, _, _, hlt4, rfl⟩
  (case zhs =>
    intro p hp
    simp only [List.mem_cons, List.not_mem_nil, or_false] at hp
    rcases hp with rfl | rfl
    · exact .tail _ (.tail _ (.head _))
    · exact .head _)

end
section
local macro_rules | `(tactic| ktr_units) => `(tactic| first | assumption | omega | (simp only [List.length_append, List.length_cons, List.length_nil, List.length_take, List.length_drop, List.length_set]; omega))
local macro_rules | `(tactic| k_ne) => `(tactic| (refine neN ?_; (try dsimp only); first | assumption | exact Ne.symm (by assumption) | omega))
local macro_rules | `(tactic| walk_at "call builtin:len") => `(tactic| (k_here; (with_reducible show wpAny _ _ (call (Value.builtin "len") [Value.ref _]) _ _ _); k_dflt (refine' len_L ?N ?m ?z ?_; (case N => k_asm); (case m => k_mem); (case z => ktr_units); k_whole); intro _ _))
local macro_rules | `(tactic| walk_at "truthy ref") => `(tactic| (k_here; k_dflt (refine' truthy_L ?N ?m ?z ?_; (case N => k_asm); (case m => k_mem); (case z => ktr_units); k_whole); intro _))
local macro_rules | `(tactic| walk_at "getItem ref int") => `(tactic| (k_here; (with_reducible show wpAny _ _ (getItem (Value.ref _) (Value.int _ _)) _ _ _); k_dflt (first
  | (refine' get_SL ?l ?S ?N ?m ?a ?b ?z ?_; (case N => k_asm); (case m => k_mem); (case S => with_reducible assumption); (case l => with_reducible assumption); (case a => ktr_units); (case b => ktr_units); (case z => ktr_units); k_whole; intro _ _ _ _)
  | (refine' get_S ?S ?N ?m ?a ?b ?z ?_; (case N => k_asm); (case m => k_mem); (case S => with_reducible assumption); (case a => ktr_units); (case b => ktr_units); (case z => ktr_units); k_whole; intro _ _ _)
  | (refine' get_L ?N ?m ?a ?b ?z ?_; (case N => k_asm); (case m => k_mem); (case a => ktr_units); (case b => ktr_units); (case z => ktr_units); k_whole; intro _ _))))
local macro_rules | `(tactic| walk_at "subscriptTail") => `(tactic| (k_here; (with_reducible show wpAny _ _ (subscriptTail _ _ (Value.ref _) (Value.int _ _)) _ _ _); k_dflt (first
  | (refine' sub_SL ?l ?S ?N ?m ?a ?b ?z ?_ ?s ?g; (case N => k_asm); (case m => k_mem); (case S => with_reducible assumption); (case l => with_reducible assumption); (case a => ktr_units); (case b => ktr_units); (case z => ktr_units); (case s => with_unfolding_all rfl); (case g => (intro _; with_unfolding_all rfl)); k_whole; intro _ _ _ _)
  | (refine' sub_S ?S ?N ?m ?a ?b ?z ?_ ?s ?g; (case N => k_asm); (case m => k_mem); (case S => with_reducible assumption); (case a => ktr_units); (case b => ktr_units); (case z => ktr_units); (case s => with_unfolding_all rfl); (case g => (intro _; with_unfolding_all rfl)); k_whole; intro _ _ _)
  | (refine' sub_L ?N ?m ?a ?b ?z ?_ ?s ?g; (case N => k_asm); (case m => k_mem); (case a => ktr_units); (case b => ktr_units); (case z => ktr_units); (case s => with_unfolding_all rfl); (case g => (intro _; with_unfolding_all rfl)); k_whole; intro _ _))))
local macro_rules | `(tactic| walk_at "subscriptTail Attribute Name Constant ref int") => `(tactic| (k_here; (with_reducible show wpAny _ _ (subscriptTail _ _ (Value.ref _) (Value.int _ _)) _ _ _); k_dflt (first
  | (refine' sub_SL ?l ?S ?N ?m ?a ?b ?z ?_ ?s ?g; (case N => k_asm); (case m => k_mem); (case S => with_reducible assumption); (case l => with_reducible assumption); (case a => ktr_units); (case b => ktr_units); (case z => ktr_units); (case s => with_unfolding_all rfl); (case g => (intro _; with_unfolding_all rfl)); k_whole; intro _ _ _ _)
  | (refine' sub_S ?S ?N ?m ?a ?b ?z ?_ ?s ?g; (case N => k_asm); (case m => k_mem); (case S => with_reducible assumption); (case a => ktr_units); (case b => ktr_units); (case z => ktr_units); (case s => with_unfolding_all rfl); (case g => (intro _; with_unfolding_all rfl)); k_whole; intro _ _ _)
  | (refine' sub_L ?N ?m ?a ?b ?z ?_ ?s ?g; (case N => k_asm); (case m => k_mem); (case a => ktr_units); (case b => ktr_units); (case z => ktr_units); (case s => with_unfolding_all rfl); (case g => (intro _; with_unfolding_all rfl)); k_whole; intro _ _))))
local macro_rules | `(tactic| walk_at "subscriptTail") => `(tactic| (k_here; (with_reducible show wpAny _ _ (subscriptTail _ (PySem.Expr.Slice _ _ none _) (Value.ref _) (Value.ref _)) _ _ _); k_dflt (refine' slice_L ?F ?N ?m ?p ?q ?z ?_ ?s ?t; (case F => k_asm); (case N => k_asm); (case m => k_mem); (case p => kmk_part); (case q => kmk_part); (case z => ktr_units); (case s => with_unfolding_all rfl); (case t => (intro _; with_unfolding_all rfl)); k_whole); intro D' h' F' N' l1; (try k_lt l1); (try k_sweep)))
local macro_rules | `(tactic| walk_at "subscriptTail Name Slice ref ref") => `(tactic| (k_here; (with_reducible show wpAny _ _ (subscriptTail _ (PySem.Expr.Slice _ _ none _) (Value.ref _) (Value.ref _)) _ _ _); k_dflt (refine' slice_L ?F ?N ?m ?p ?q ?z ?_ ?s ?t; (case F => k_asm); (case N => k_asm); (case m => k_mem); (case p => kmk_part); (case q => kmk_part); (case z => ktr_units); (case s => with_unfolding_all rfl); (case t => (intro _; with_unfolding_all rfl)); k_whole); intro D' h' F' N' l1; (try k_lt l1); (try k_sweep)))
local macro_rules | `(tactic| walk_at "binaryOp Add ref ref") => `(tactic| (k_here; k_dflt (refine' cat_L ?F ?N ?m ?q ?z ?_; (case F => k_asm); (case N => k_asm); (case m => k_mem); (case q => k_mem); (case z => ktr_units); k_whole); intro D' h' F' N' l1; (try k_lt l1); (try k_sweep)))
local macro_rules | `(tactic| walk_at "call type:range") => `(tactic| (k_here; k_dflt (first
  | (refine' range1_L ?F ?N ?_; (case F => k_asm); (case N => k_asm); k_whole)
  | (refine' range2_L ?F ?N ?_; (case F => k_asm); (case N => k_asm); k_whole)); intro r' h' tk' t' u' v' F' N' l1; (try k_lt l1); (try k_sweep)))
local macro_rules | `(tactic| walk_at "compareOp Eq ref ref") => `(tactic| (k_here; k_dflt (refine' eq_SS ?a ?b ?N ?m ?q ?o ?p ?u ?_; (case N => k_asm); (case m => k_mem); (case q => k_mem); (case a => with_reducible assumption); (case b => with_reducible assumption); (case o => with_reducible assumption); (case p => with_reducible assumption); (case u => exact Nat.le_of_ble_eq_true rfl); k_whole)))
local macro_rules | `(tactic| walk_at "compareOp NotEq ref ref") => `(tactic| (k_here; k_dflt (refine' ne_SS ?a ?b ?N ?m ?q ?o ?p ?u ?_; (case N => k_asm); (case m => k_mem); (case q => k_mem); (case a => with_reducible assumption); (case b => with_reducible assumption); (case o => with_reducible assumption); (case p => with_reducible assumption); (case u => exact Nat.le_of_ble_eq_true rfl); k_whole)))
local macro_rules | `(tactic| walk_at "getMethod ref") => `(tactic| (k_here; (with_reducible show wpAny _ _ (getMethod (Value.ref _) (PySem.Str.ofString "__class__") _) _ _ _); k_dflt (refine' method_got ?F ?X ?I ?g ?f ?t ?n ?_; (case F => k_asm); (case X => k_asm); (case I => k_inst); (case g => k_is); (case f => k_is); (case t => exact fun M => Looks.of_pure KF.type_class); (case n => decide +kernel); k_whole)))
local macro_rules | `(tactic| walk_at "eval Name") => `(tactic| (k_here; (with_reducible show wpAny _ _ (eval (PySem.Expr.Name _ _) (compEnvC _ _ _ _)) _ _ _); k_dflt (first
  | (refine' nmC ?N ?m ?n ?v ?_ ?k ?x ?d; (case x => rfl); (case N => k_asm); (case m => k_mem); (case n => with_reducible assumption); (case v => first | with_reducible assumption | rfl); (case k => rfl); (case d => decide); k_whole)
  | (refine' nmCc ?N ?c ?m ?d ?_ ?k ?x ?b; (case x => rfl); (case c => rfl); (case N => k_asm); (case m => k_mem); (case d => k_asm); (case k => rfl); (case b => decide); k_whole))))
local macro_rules | `(tactic| walk_at "eval ListComp") => `(tactic| (k_here; refine halt ?_))
local macro_rules | `(tactic| walk_at "exec Assign cons ListComp") => `(tactic| (k_here; (with_reducible show wpAny _ _ (exec (PySem.Stmt.Assign [PySem.Expr.Name _ _] _ _) _) _ _ _); refine halt ?_))
local macro_rules | `(tactic| ktr_unf) => `(tactic| ((with_reducible apply comp_eval); (case hF => k_asm); (case hclos => with_unfolding_all rfl); (case hcell => decide); (case hkind => with_unfolding_all rfl); (case hnames => decide); (case hx => with_unfolding_all rfl); (case hs => intro _; with_unfolding_all rfl)))
local macro_rules | `(tactic| ktr_rel) => `(tactic| ((with_reducible apply comp_assign); (case hF => k_asm); (case hsw => with_unfolding_all rfl); (case hclos => with_unfolding_all rfl); (case hcell => decide); (case hkind => with_unfolding_all rfl); (case hnames => decide); (case hx => with_unfolding_all rfl); (case hs => intro _; with_unfolding_all rfl)))
local macro_rules | `(tactic| walk_at "exec While") => `(tactic| (k_here; refine halt ?_))
local macro_rules | `(tactic| walk_at "pyIter ref") => `(tactic| (k_here; refine halt ?_))
local macro_rules | `(tactic| k_lt $h:ident) => `(tactic| (have lAll := $h; replace $h := allLt_of $h; simp only [AllLt, and_true] at $h:ident))
local macro_rules | `(tactic| k_mem) => `(tactic| ((repeat (first | exact List.Mem.head _ | refine' List.Mem.tail _ ?_)); (all_goals first | assumption | exact List.mem_append_left _ (by assumption) | exact List.mem_append_right _ (by assumption))))
local macro_rules | `(tactic| k_all) => `(tactic| exact OwnOff.ne (by assumption) (by k_mem))
local macro_rules | `(tactic| k_ownIn) => `(tactic| ((repeat (first | exact List.forall_mem_nil _ | refine List.forall_mem_cons.mpr ⟨by k_mem, ?_⟩)); (all_goals (intro p hp; k_mem))))
local macro_rules | `(tactic| ktu_offL) => `(tactic| (repeat' (first | exact off_nil | exact nin_nil | refine off_cons ?_ ?_ | refine nin_cons (neN ?_) ?_)) <;> ((try dsimp only); omega))
local macro_rules | `(tactic| walk_at "setItem") => `(tactic| (k_here; k_dflt (refine' set_L ?F ?N ?a ?b ?z ?U ?_; (case F => k_asm); (case N => k_asm); (case a => ktr_units); (case b => ktr_units); (case z => ktr_units); (case U => k_upd); k_whole); intro h' F' N'))
local macro_rules | `(tactic| kst_all) => `(tactic| (repeat' (first | exact List.forall_mem_nil _ | refine List.forall_mem_cons.mpr ⟨ltN ?_, ?_⟩)) <;> ((try dsimp only); omega))
local macro_rules | `(tactic| ktr_enter) => `(tactic| (first
  | (k_dflt (refine' enter ?k1 ?k2 ?k6 ?k7 ?k8 ?k9 ?kB ?_ ?c2 ?c3 ?c4 ?c5)
     (case k1 => assumption)
     (case k2 => assumption)
     (case k6 => k_is)
     (case k7 => k_is)
     (case k8 => decide)
     (case k9 => first | exact fun s hs => BindsTo.of_eq rfl | exact fun s hs => binds_K hs rfl (by k_is) rfl rfl rfl)
     (case c5 => decide)
     (case kB => exact locs rfl)
     (case c2 => exact rfl)
     (case c3 => exact rfl)
     (case c4 => exact rfl)
     intro s' env' outer' g' L' h' F' N' B' X' T' lL'
     (try k_lt lL')
     (try dsimp only)
     (try k_lift B')
     (try k_fold))
  | (k_dflt (refine' enterC ?k1 ?k2 ?k6 ?k7 ?k8 ?k9 ?kB ?kD ?_ ?c2 ?c3 ?c4)
     (case k1 => assumption)
     (case k2 => assumption)
     (case k6 => k_is)
     (case k7 => k_is)
     (case k8 => decide)
     (case k9 => first | exact fun s hs => BindsTo.of_eq rfl | exact fun s hs => binds_K hs rfl (by k_is) rfl rfl rfl)
     (case kB => exact rfl)
     (case kD => decide +kernel)
     (case c2 => exact rfl)
     (case c3 => exact rfl)
     (case c4 => exact rfl)
     intro s' env' outer' g' L' h' tk' cells' F' N' Y' B' X' T' lL'
     (try k_lt lL')
     k_cells Y'
     (try simp only [List.cons_append, List.nil_append] at N')
     (try dsimp only)
     (try k_lift B')
     (try k_fold))))
example (w : World) : hd1.heap_39 w.params = hd1.heap_39 w.params ∧ PySem.Challenge.rw_ff0006_01 = PySem.Challenge.rw_ff0006_01 := by
  k_fill
  exact ⟨rfl, rfl⟩
theorem ns_some_of {K : Frag} {h : Heap} {N : Addr} {mg : Str → Option Value} {n : Str} {v : Value} (X : K.In h) (G : h.Ns N mg) (e : nsIn K N n = some (some v)) : mg n = some v := by
  obtain ⟨o, es, ep, ho, hd, _, hf⟩ := G
  unfold nsIn at e
  split at e
  · rename_i c d es' n' sl q
    have := X _ _ q
    rw [ho] at this
    cases this
    cases hd
    split at e
    · rename_i en he
      rw [← hf]
      unfold nsFind findBy
      rw [← Array.find?_toList, he]
      simpa using e
    · split at e
      · cases e
      · cases e
  · cases e
theorem uei_call {w : World} {s₀ : Shared} {mg mb : Str → Option Value} {base : Heap} (bs : Bs w s₀ mg mb base) (b : Nat) (tx : Str) (k : Int) (t1 t2 : Tok)
    {A₀ : Around} {env : Env} {outer : List Env} {h₀ : Heap} {L : Addr} {m : Str → Option Value} {s : Shared} {dp un : Nat} {gd : Option (List Code)} {news : List (Addr × Obj)} {Q : Value → Shared → Prop} {E : Value → Shared → Prop}
    (B : Below A₀ base outer h₀) (F : Fr h₀ L s.heap m) (N : News h₀ L s.heap news) (hf : env.frame = some L) (hk : env.scope.kind = .function) (hd : dp ≤ 790) (hu : un ≤ 7900)
    (kk : ∀ (e t' d : Nat) (u1 u2 u3 : Tok) h' tk', Fr h₀ L h' m → News h₀ L h' ((e, excO (some d) t') :: (d, excD w b tx k t1 t2 u1 u2 u3) :: news) → (∀ p ∈ news, p.1 ≠ e ∧ p.1 ≠ d) → e < d → Q (.ref e) { s with heap := h', toks := tk' }) :
    wpAny (model P1 w) { handled := none, depth := dp, frames := some (env :: outer), guards := gd, units := un } (call (.ref 344) [.ref b, .str tx t1, .int k t2]) Q E s := by
  have KX := bs.KX
  have X₀ : (hd1.heap_39 w.params).In h₀ := KX.keeps B.stays
  have Xh : (hd1.heap_39 w.params).In s.heap := X₀.keeps F.keep
  obtain ⟨hh, g, dr, t, os⟩ := s
  refine call_own (C := 344) PySem.F.excBase_Exception (by decide) PySem.F.excBase_Exception (tail_of_in Xh (l := [.ref 322, .type "Exception", .type "BaseException", .type "object"]) (by kernel_rfl)) (fI := 341) (Xh _ _ (by k_is)) (.of_isNs (isNs_of_in Xh (by kernel_rfl))) ?_ (Xh _ _ (by k_is)) rfl ?_ (by simp [sizeLine_eq])
  · exact ns_some_of Xh (.of_isNs (isNs_of_in Xh (by kernel_rfl))) (by kernel_rfl)
  intro h' e hm
  obtain ⟨t0, he, htn, ht⟩ := hm.there
  have F' : Fr h₀ L h' m := F.keeps hm.keeps
  have old : ∀ p ∈ news, h'.get? p.1 = some p.2 ∧ p.1 ≠ L ∧ h₀.get? p.1 = none := fun p hp => ⟨hm.keeps _ _ (N p hp).1, (N p hp).2⟩
  have fresh : ∀ b, hh.get? b = none → b ≠ L ∧ h₀.get? b = none := fun b hb => by
    constructor
    · intro q
      obtain ⟨o, _, _, ho, _⟩ := F.ns
      rw [← q] at ho
      exact absurd (ho.symm.trans hb) (by simp)
    · cases q : h₀.get? b with
      | none => rfl
      | some o => exact absurd ((F.keep b o q).symm.trans hb) (by simp)
  have hne : e ≠ t0 := fun q => by rw [q] at he; rw [he] at ht; cases ht
  have N' : News h₀ L h' ((e, excO none t0) :: (t0, { cls := .type "tuple", data := .seq #[.ref b, .str tx t1, .int k t2] }) :: news) := fun p hp => by
    rcases List.mem_cons.mp hp with rfl | hp
    · exact ⟨he, fresh _ hm.new⟩
    · rcases List.mem_cons.mp hp with rfl | hp
      · exact ⟨ht, fresh _ htn⟩
      · exact old p hp
  have offe : ∀ p ∈ news, p.1 ≠ e ∧ p.1 ≠ t0 := fun p hp => ⟨fun q => by have := (N p hp).1; rw [q] at this; exact absurd (this.symm.trans hm.new) (by simp), fun q => by have := (N p hp).1; rw [q] at this; exact absurd (this.symm.trans htn) (by simp)⟩
  have hA : Around.under { handled := none, depth := dp, frames := some (env :: outer), guards := gd, units := un } (.builtin "type.__call__" ⟨[.ref 344, .ref b, .str tx t1, .int k t2], []⟩) = { handled := none, depth := dp + 1, frames := some (env :: outer), guards := gd, units := un + 1 } := by
    have h1 : (Code.builtin "type.__call__" ⟨[.ref 344, .ref b, .str tx t1, .int k t2], []⟩).weight = 1 := by kernel_rfl
    have h2 : (Code.builtin "type.__call__" ⟨[.ref 344, .ref b, .str tx t1, .int k t2], []⟩).cUnits = 1 := by kernel_rfl
    have h3 : (Code.builtin "type.__call__" ⟨[.ref 344, .ref b, .str tx t1, .int k t2], []⟩).envs = [] := by kernel_rfl
    have h4 : (Code.builtin "type.__call__" ⟨[.ref 344, .ref b, .str tx t1, .int k t2], []⟩).guards = [] := by kernel_rfl
    unfold Around.under
    rw [h1, h2, h3, h4]
    cases gd <;> rfl
  rw [hA]
  refine Spec.use (uei_spec bs e t0 b tx k t1 t2 _ hne) B F' N' hf hk (by show dp + 1 ≤ 800; omega) (by show un + 1 ≤ 10 * 800; omega) (by k_ownIn) (rest := news) (by k_ownIn) (fun p hp q => ?_) ?_
  · simp only [List.map_cons, List.map_nil, List.mem_cons, List.not_mem_nil, or_false] at q
    rcases q with q | q
    · exact (offe p hp).1 q
    · exact (offe p hp).2 q
  rintro r led h2 tk2 ⟨rfl, t', d, u1, u2, u3, hed, rfl⟩ F2 N2 hfr
  refine ⟨rfl, kk e t' d u1 u2 u3 h2 tk2 F2 N2 (fun p hp => ?_) hed⟩
  refine ⟨(offe p hp).1, fun q => ?_⟩
  have := hfr (d, _) (.tail _ (.head _))
  simp only [List.map_cons, List.map_nil, List.mem_cons, List.not_mem_nil, or_false] at this
  rcases this with (h | h) | h
  · exact absurd h (Nat.ne_of_gt hed)
  · exact (offe p hp).2 (q.trans h)
  · exact h p (.inr (.inr hp)) q
theorem raisable_uei {w : World} {E : Value → Shared → Prop} {s : Shared} {e t' : Addr} {d : Option Addr} (X : (hd1.heap_39 w.params).In s.heap) (he : s.heap.get? e = some (excO d t')) (hE : E (.ref e) s) : RaisableO E (.ref e) s := by
  have hC := X 344 _ (by k_is)
  exact ⟨e, t', d, _, _, 344, _, _, [.ref 322, .type "Exception", .type "BaseException", .type "object"], _, _, _, _, _, _, _, _, _, _, _, _, rfl, hC, by decide, he, hE⟩

end
section
local macro_rules | `(tactic| ktr_units) => `(tactic| first | assumption | omega | (simp only [List.length_append, List.length_cons, List.length_nil, List.length_take, List.length_drop, List.length_set]; omega))
local macro_rules | `(tactic| k_ne) => `(tactic| (refine neN ?_; (try dsimp only); first | assumption | exact Ne.symm (by assumption) | omega))
local macro_rules | `(tactic| walk_at "call builtin:len") => `(tactic| (k_here; (with_reducible show wpAny _ _ (call (Value.builtin "len") [Value.ref _]) _ _ _); k_dflt (refine' len_L ?N ?m ?z ?_; (case N => k_asm); (case m => k_mem); (case z => ktr_units); k_whole); intro _ _))
local macro_rules | `(tactic| walk_at "truthy ref") => `(tactic| (k_here; k_dflt (refine' truthy_L ?N ?m ?z ?_; (case N => k_asm); (case m => k_mem); (case z => ktr_units); k_whole); intro _))
local macro_rules | `(tactic| walk_at "getItem ref int") => `(tactic| (k_here; (with_reducible show wpAny _ _ (getItem (Value.ref _) (Value.int _ _)) _ _ _); k_dflt (first
  | (refine' get_SL ?l ?S ?N ?m ?a ?b ?z ?_; (case N => k_asm); (case m => k_mem); (case S => with_reducible assumption); (case l => with_reducible assumption); (case a => ktr_units); (case b => ktr_units); (case z => ktr_units); k_whole; intro _ _ _ _)
  | (refine' get_S ?S ?N ?m ?a ?b ?z ?_; (case N => k_asm); (case m => k_mem); (case S => with_reducible assumption); (case a => ktr_units); (case b => ktr_units); (case z => ktr_units); k_whole; intro _ _ _)
  | (refine' get_L ?N ?m ?a ?b ?z ?_; (case N => k_asm); (case m => k_mem); (case a => ktr_units); (case b => ktr_units); (case z => ktr_units); k_whole; intro _ _))))
local macro_rules | `(tactic| walk_at "subscriptTail") => `(tactic| (k_here; (with_reducible show wpAny _ _ (subscriptTail _ _ (Value.ref _) (Value.int _ _)) _ _ _); k_dflt (first
  | (refine' sub_SL ?l ?S ?N ?m ?a ?b ?z ?_ ?s ?g; (case N => k_asm); (case m => k_mem); (case S => with_reducible assumption); (case l => with_reducible assumption); (case a => ktr_units); (case b => ktr_units); (case z => ktr_units); (case s => with_unfolding_all rfl); (case g => (intro _; with_unfolding_all rfl)); k_whole; intro _ _ _ _)
  | (refine' sub_S ?S ?N ?m ?a ?b ?z ?_ ?s ?g; (case N => k_asm); (case m => k_mem); (case S => with_reducible assumption); (case a => ktr_units); (case b => ktr_units); (case z => ktr_units); (case s => with_unfolding_all rfl); (case g => (intro _; with_unfolding_all rfl)); k_whole; intro _ _ _)
  | (refine' sub_L ?N ?m ?a ?b ?z ?_ ?s ?g; (case N => k_asm); (case m => k_mem); (case a => ktr_units); (case b => ktr_units); (case z => ktr_units); (case s => with_unfolding_all rfl); (case g => (intro _; with_unfolding_all rfl)); k_whole; intro _ _))))
local macro_rules | `(tactic| walk_at "subscriptTail Attribute Name Constant ref int") => `(tactic| (k_here; (with_reducible show wpAny _ _ (subscriptTail _ _ (Value.ref _) (Value.int _ _)) _ _ _); k_dflt (first
  | (refine' sub_SL ?l ?S ?N ?m ?a ?b ?z ?_ ?s ?g; (case N => k_asm); (case m => k_mem); (case S => with_reducible assumption); (case l => with_reducible assumption); (case a => ktr_units); (case b => ktr_units); (case z => ktr_units); (case s => with_unfolding_all rfl); (case g => (intro _; with_unfolding_all rfl)); k_whole; intro _ _ _ _)
  | (refine' sub_S ?S ?N ?m ?a ?b ?z ?_ ?s ?g; (case N => k_asm); (case m => k_mem); (case S => with_reducible assumption); (case a => ktr_units); (case b => ktr_units); (case z => ktr_units); (case s => with_unfolding_all rfl); (case g => (intro _; with_unfolding_all rfl)); k_whole; intro _ _ _)
  | (refine' sub_L ?N ?m ?a ?b ?z ?_ ?s ?g; (case N => k_asm); (case m => k_mem); (case a => ktr_units); (case b => ktr_units); (case z => ktr_units); (case s => with_unfolding_all rfl); (case g => (intro _; with_unfolding_all rfl)); k_whole; intro _ _))))
local macro_rules | `(tactic| walk_at "subscriptTail") => `(tactic| (k_here; (with_reducible show wpAny _ _ (subscriptTail _ (PySem.Expr.Slice _ _ none _) (Value.ref _) (Value.ref _)) _ _ _); k_dflt (refine' slice_L ?F ?N ?m ?p ?q ?z ?_ ?s ?t; (case F => k_asm); (case N => k_asm); (case m => k_mem); (case p => kmk_part); (case q => kmk_part); (case z => ktr_units); (case s => with_unfolding_all rfl); (case t => (intro _; with_unfolding_all rfl)); k_whole); intro D' h' F' N' l1; (try k_lt l1); (try k_sweep)))
local macro_rules | `(tactic| walk_at "subscriptTail Name Slice ref ref") => `(tactic| (k_here; (with_reducible show wpAny _ _ (subscriptTail _ (PySem.Expr.Slice _ _ none _) (Value.ref _) (Value.ref _)) _ _ _); k_dflt (refine' slice_L ?F ?N ?m ?p ?q ?z ?_ ?s ?t; (case F => k_asm); (case N => k_asm); (case m => k_mem); (case p => kmk_part); (case q => kmk_part); (case z => ktr_units); (case s => with_unfolding_all rfl); (case t => (intro _; with_unfolding_all rfl)); k_whole); intro D' h' F' N' l1; (try k_lt l1); (try k_sweep)))
local macro_rules | `(tactic| walk_at "binaryOp Add ref ref") => `(tactic| (k_here; k_dflt (refine' cat_L ?F ?N ?m ?q ?z ?_; (case F => k_asm); (case N => k_asm); (case m => k_mem); (case q => k_mem); (case z => ktr_units); k_whole); intro D' h' F' N' l1; (try k_lt l1); (try k_sweep)))
local macro_rules | `(tactic| walk_at "call type:range") => `(tactic| (k_here; k_dflt (first
  | (refine' range1_L ?F ?N ?_; (case F => k_asm); (case N => k_asm); k_whole)
  | (refine' range2_L ?F ?N ?_; (case F => k_asm); (case N => k_asm); k_whole)); intro r' h' tk' t' u' v' F' N' l1; (try k_lt l1); (try k_sweep)))
local macro_rules | `(tactic| walk_at "compareOp Eq ref ref") => `(tactic| (k_here; k_dflt (refine' eq_SS ?a ?b ?N ?m ?q ?o ?p ?u ?_; (case N => k_asm); (case m => k_mem); (case q => k_mem); (case a => with_reducible assumption); (case b => with_reducible assumption); (case o => with_reducible assumption); (case p => with_reducible assumption); (case u => exact Nat.le_of_ble_eq_true rfl); k_whole)))
local macro_rules | `(tactic| walk_at "compareOp NotEq ref ref") => `(tactic| (k_here; k_dflt (refine' ne_SS ?a ?b ?N ?m ?q ?o ?p ?u ?_; (case N => k_asm); (case m => k_mem); (case q => k_mem); (case a => with_reducible assumption); (case b => with_reducible assumption); (case o => with_reducible assumption); (case p => with_reducible assumption); (case u => exact Nat.le_of_ble_eq_true rfl); k_whole)))
local macro_rules | `(tactic| walk_at "getMethod ref") => `(tactic| (k_here; (with_reducible show wpAny _ _ (getMethod (Value.ref _) (PySem.Str.ofString "__class__") _) _ _ _); k_dflt (refine' method_got ?F ?X ?I ?g ?f ?t ?n ?_; (case F => k_asm); (case X => k_asm); (case I => k_inst); (case g => k_is); (case f => k_is); (case t => exact fun M => Looks.of_pure KF.type_class); (case n => decide +kernel); k_whole)))
local macro_rules | `(tactic| walk_at "eval Name") => `(tactic| (k_here; (with_reducible show wpAny _ _ (eval (PySem.Expr.Name _ _) (compEnvC _ _ _ _)) _ _ _); k_dflt (first
  | (refine' nmC ?N ?m ?n ?v ?_ ?k ?x ?d; (case x => rfl); (case N => k_asm); (case m => k_mem); (case n => with_reducible assumption); (case v => first | with_reducible assumption | rfl); (case k => rfl); (case d => decide); k_whole)
  | (refine' nmCc ?N ?c ?m ?d ?_ ?k ?x ?b; (case x => rfl); (case c => rfl); (case N => k_asm); (case m => k_mem); (case d => k_asm); (case k => rfl); (case b => decide); k_whole))))
local macro_rules | `(tactic| walk_at "eval ListComp") => `(tactic| (k_here; refine halt ?_))
local macro_rules | `(tactic| walk_at "exec Assign cons ListComp") => `(tactic| (k_here; (with_reducible show wpAny _ _ (exec (PySem.Stmt.Assign [PySem.Expr.Name _ _] _ _) _) _ _ _); refine halt ?_))
local macro_rules | `(tactic| ktr_unf) => `(tactic| ((with_reducible apply comp_eval); (case hF => k_asm); (case hclos => with_unfolding_all rfl); (case hcell => decide); (case hkind => with_unfolding_all rfl); (case hnames => decide); (case hx => with_unfolding_all rfl); (case hs => intro _; with_unfolding_all rfl)))
local macro_rules | `(tactic| ktr_rel) => `(tactic| ((with_reducible apply comp_assign); (case hF => k_asm); (case hsw => with_unfolding_all rfl); (case hclos => with_unfolding_all rfl); (case hcell => decide); (case hkind => with_unfolding_all rfl); (case hnames => decide); (case hx => with_unfolding_all rfl); (case hs => intro _; with_unfolding_all rfl)))
local macro_rules | `(tactic| walk_at "exec While") => `(tactic| (k_here; refine halt ?_))
local macro_rules | `(tactic| walk_at "pyIter ref") => `(tactic| (k_here; refine halt ?_))
local macro_rules | `(tactic| k_lt $h:ident) => `(tactic| (have lAll := $h; replace $h := allLt_of $h; simp only [AllLt, and_true] at $h:ident))
local macro_rules | `(tactic| k_mem) => `(tactic| ((repeat (first | exact List.Mem.head _ | refine' List.Mem.tail _ ?_)); (all_goals first | assumption | exact List.mem_append_left _ (by assumption) | exact List.mem_append_right _ (by assumption))))
local macro_rules | `(tactic| k_all) => `(tactic| exact OwnOff.ne (by assumption) (by k_mem))
local macro_rules | `(tactic| k_ownIn) => `(tactic| ((repeat (first | exact List.forall_mem_nil _ | refine List.forall_mem_cons.mpr ⟨by k_mem, ?_⟩)); (all_goals (intro p hp; k_mem))))
local macro_rules | `(tactic| ktu_offL) => `(tactic| (repeat' (first | exact off_nil | exact nin_nil | refine off_cons ?_ ?_ | refine nin_cons (neN ?_) ?_)) <;> ((try dsimp only); omega))
local macro_rules | `(tactic| walk_at "setItem") => `(tactic| (k_here; k_dflt (refine' set_L ?F ?N ?a ?b ?z ?U ?_; (case F => k_asm); (case N => k_asm); (case a => ktr_units); (case b => ktr_units); (case z => ktr_units); (case U => k_upd); k_whole); intro h' F' N'))
local macro_rules | `(tactic| kst_all) => `(tactic| (repeat' (first | exact List.forall_mem_nil _ | refine List.forall_mem_cons.mpr ⟨ltN ?_, ?_⟩)) <;> ((try dsimp only); omega))
local macro_rules | `(tactic| ktr_enter) => `(tactic| (first
  | (k_dflt (refine' enter ?k1 ?k2 ?k6 ?k7 ?k8 ?k9 ?kB ?_ ?c2 ?c3 ?c4 ?c5)
     (case k1 => assumption)
     (case k2 => assumption)
     (case k6 => k_is)
     (case k7 => k_is)
     (case k8 => decide)
     (case k9 => first | exact fun s hs => BindsTo.of_eq rfl | exact fun s hs => binds_K hs rfl (by k_is) rfl rfl rfl)
     (case c5 => decide)
     (case kB => exact locs rfl)
     (case c2 => exact rfl)
     (case c3 => exact rfl)
     (case c4 => exact rfl)
     intro s' env' outer' g' L' h' F' N' B' X' T' lL'
     (try k_lt lL')
     (try dsimp only)
     (try k_lift B')
     (try k_fold))
  | (k_dflt (refine' enterC ?k1 ?k2 ?k6 ?k7 ?k8 ?k9 ?kB ?kD ?_ ?c2 ?c3 ?c4)
     (case k1 => assumption)
     (case k2 => assumption)
     (case k6 => k_is)
     (case k7 => k_is)
     (case k8 => decide)
     (case k9 => first | exact fun s hs => BindsTo.of_eq rfl | exact fun s hs => binds_K hs rfl (by k_is) rfl rfl rfl)
     (case kB => exact rfl)
     (case kD => decide +kernel)
     (case c2 => exact rfl)
     (case c3 => exact rfl)
     (case c4 => exact rfl)
     intro s' env' outer' g' L' h' tk' cells' F' N' Y' B' X' T' lL'
     (try k_lt lL')
     k_cells Y'
     (try simp only [List.cons_append, List.nil_append] at N')
     (try dsimp only)
     (try k_lift B')
     (try k_fold))))
example (w : World) : hd1.heap_39 w.params = hd1.heap_39 w.params ∧ PySem.Challenge.rw_ff0006_01 = PySem.Challenge.rw_ff0006_01 := by
  k_fill
  exact ⟨rfl, rfl⟩
local macro_rules | `(tactic| walk_at "call ref") => `(tactic| (k_here; (with_reducible show wpAny _ _ (call (Value.ref 125) _ _) _ _ _); refine halt ?_))
local macro_rules | `(tactic| walk_at "call ref") => `(tactic| (k_here; (with_reducible show wpAny _ _ (call (Value.ref 344) _ _) _ _ _); refine halt ?_))
local macro_rules | `(tactic| walk_at "getAttr ref") => `(tactic| (k_here; (with_reducible show wpAny _ _ (getAttr (Value.ref _) (Str.ofString "block") _) _ _ _); refine halt ?_))
local macro_rules | `(tactic| walk_at "getAttr ref") => `(tactic| (k_here; (with_reducible show wpAny _ _ (getAttr (Value.ref _) (Str.ofString "lineno") _) _ _ _); refine halt ?_))
local macro_rules | `(tactic| walk_at "exec Raise some none") => `(tactic| (k_here; refine halt ?_))
def blkS (flush : Bool) (y : Str) : Bool := blankS y || (flush && decide (0 < holdS y))
def BlkPost (w : World) (x dx l m : Nat) (vs ws : List Value) (ts : List Str) (p o : Value) (t1 t2 t3 t4 : Tok) (n0 n1 : Nat) (tl : List (Addr × Obj)) (b : Nat) (fl : Bool) (r : Value) (led : List (Addr × Obj)) : Prop :=
  ∃ (R D n2 : Nat) (th : Tok) (S : Nat), r = .ref R ∧ IsEnd (blkS fl) ts b S ∧
    led = [(R, tup2 (.ref D) (if S < vs.length ∧ ts[S]?.any blankS = false then .int (S + 1) th else .none)), (D, W.listOf (mid vs b S).toArray n2)] ++ [(x, instObj 310 dx), (dx, vl w l m p o t1 t2 t3 t4), (l, W.listOf vs.toArray n0), (m, W.listOf ws.toArray n1)] ++ tl
theorem txs_at {n e : Nat} {d : Str × Int} (h : (txs n)[e]? = some d) : d.1 = Str.ofString "text" ∧ d.2 = e := by
  unfold txs at h
  rw [List.getElem?_map] at h
  obtain ⟨k, hk, rfl⟩ := Option.map_eq_some_iff.mp h
  have := List.getElem?_eq_some_iff.mp hk
  obtain ⟨h1, h2⟩ := this
  rw [List.getElem_range] at h2
  subst h2
  exact ⟨rfl, rfl⟩
theorem blk_ind {x : Str} {fl : Bool} (f : RowF x) (h1 : ((Txt.strip x).length : Int) ≠ 0) (h2 : fl = true) (h3 : (Txt.item x 0 == Str.ofString " ") = true) : blankS x = false ∧ blkS fl x = true := by
  have hb : blankS x = false := by
    cases q : blankS x with
    | false => rfl
    | true => have := f.st.mpr q; omega
  refine ⟨hb, ?_⟩
  have h0 : x.length ≠ 0 := fun q => by rw [f.nb q] at hb; cases hb
  have h4 := f.it2 h0 (by rw [bne, h3]; rfl) hb
  have := f.ge
  unfold blkS
  rw [hb, h2]
  simp
  omega
theorem block_spec {w : World} {s₀ : Shared} {mg mb : Str → Option Value} {base : Heap} (bs : Bs w s₀ mg mb base)
    (x dx l m : Nat) (vs ws : List Value) (ts : List Str) (hv : StrsAre vs ts) (hs : ∀ x ∈ ts, x.length ≤ 100) (hr : ∀ x ∈ ts, x ∈ rowsL) (hw : ws.length = vs.length) (p o : Value) (t1 t2 t3 t4 tb tf : Tok) (hl : vs.length ≤ 1000) (n0 n1 : Nat)
    (tl : List (Addr × Obj)) (hI : It2 tl ws (txs vs.length)) (ho : OwnOff tl [x, dx, l, m]) (b : Nat) (fl : Bool) (hb : b < vs.length) :
    Spec0 P1 w base 700 380 ⟨[.ref x, .int b tb, .bool fl], []⟩ ([(x, instObj 310 dx), (dx, vl w l m p o t1 t2 t3 t4), (l, W.listOf vs.toArray n0), (m, W.listOf ws.toArray n1)] ++ tl) (BlkPost w x dx l m vs ws ts p o t1 t2 t3 t4 n0 n1 tl b fl) := by
  have bs' := bs
  obtain ⟨KX, X, GL, T, TB, TE, TW, M, oM, hM⟩ := bs
  k_dflt (refine' enter0 ?k1 ?k2 ?k6 ?k7 ?k8 ?k9 ?kB ?_ ?c2 ?c3 ?c4 ?c5)
  (case k1 => assumption)
  (case k2 => assumption)
  (case k6 => k_is)
  (case k7 => k_is)
  (case k8 => decide)
  (case k9 => first | exact fun s hs => BindsTo.of_eq rfl | exact fun s hs => binds_K hs rfl (by k_is) rfl rfl rfl)
  (case c5 => decide)
  (case kB => exact locs rfl)
  (case c2 => exact rfl)
  (case c3 => exact rfl)
  (case c4 => exact rfl)
  intro s' env' g' L0 L' h' hfL F' N' B' X' T' lL'
  (try k_lt lL')
  (try dsimp only)
  (try k_lift B')
  (try k_fold)
  k_steps
  refine Halt.mk ?_
  have hvl := hv.length
  refine While_X (fun n m₁ n₁ => n₁ = [(x, instObj 310 dx), (dx, vl w l m p o t1 t2 t3 t4), (l, W.listOf vs.toArray n0), (m, W.listOf ws.toArray n1)] ++ tl ∧ ∃ (e : Nat) (te tl : Tok), AllM m₁ [(Str.ofString "self", .ref x), (Str.ofString "start", .int b tb), (Str.ofString "flush_left", .bool fl), (Str.ofString "last", .int vs.length tl), (Str.ofString "end", .int e te)] ∧
      b ≤ e ∧ e ≤ vs.length ∧ n = vs.length - e ∧ (∀ k y, b ≤ k → k < e → ts[k]? = some y → blkS fl y = false))
    (fun m₁ n₁ => n₁ = [(x, instObj 310 dx), (dx, vl w l m p o t1 t2 t3 t4), (l, W.listOf vs.toArray n0), (m, W.listOf ws.toArray n1)] ++ tl ∧ ∃ (e : Nat) (te : Tok), AllM m₁ [(Str.ofString "self", .ref x), (Str.ofString "start", .int b tb), (Str.ofString "end", .int e te)] ∧ IsEnd (blkS fl) ts b e ∧ (e < vs.length → ∃ y, ts[e]? = some y ∧ blankS y = true))
    (vs.length - b) ?_ (by k_asm) (by k_asm) (by first | exact PassesOwn.never | exact PassesOwn.leaving | exact PassesOwn.looking) ?_ ?_
  · exact ⟨rfl, b, tb, _, ⟨rfl, rfl, rfl, rfl, rfl, trivial⟩, Nat.le_refl _, by omega, rfl, fun k y h1 h2 => by omega⟩
  · clear hvl
    rintro n m₁ n₁ h₁ tk₁ F₁ N₁ ⟨rfl, e, te, tl', q, hbe, hel, rfl, hno⟩
    replace F₁ := fr_eta _ F₁ q.mem
    simp only [ifs] at F₁
    k_steps
    · have hx := ‹ts[Int.toNat (e : Int)]? = some _›
      rw [Int.toNat_natCast] at hx
      obtain ⟨ad, td, td', d, rfl, hd, hm⟩ := hI.at_ _ _ ‹ws[Int.toNat (e : Int)]? = some _›
      rw [Int.toNat_natCast] at hd
      obtain ⟨hq1, hq2⟩ := txs_at hd
      rw [hq1, hq2] at hm
      k_steps
      refine Halt.mk ?_
      refine' Raise_own ?hh ?_
      (case hh => rfl)
      k_steps
      refine Halt.mk ?_
      refine Spec.use (part_spec bs' x dx l m vs ws p o t1 t2 t3 t4 _ _ hl hw n0 n1 _ _) (by k_asm) (by k_asm) (by k_asm) rfl rfl (Nat.le_of_ble_eq_true rfl) (Nat.le_of_ble_eq_true rfl) (by k_ownIn) (rest := tl) (by k_ownIn) (fun p hp q => ho p hp p.1 q rfl) ?_
      rintro r led h' tk' ⟨x', dx', D, I, n2, n3, u1, u2, u3, u4, rfl, f1, f2, f3, f4, f5, f6, dlt, rfl⟩ F' N' hfr
      simp only [List.cons_append, List.nil_append] at N'
      simp only [List.forall_mem_cons, List.not_mem_nil, false_implies, implies_true, and_true] at dlt
      rw [pick_mid (l := vs) hbe hel, pick_mid (l := ws) hbe (by omega)] at N'
      k_steps
      refine Halt.mk ?_
      refine uei_call bs' x' (Str.ofString "text") _ _ _ (by k_asm) (by k_asm) (by k_asm) rfl rfl (Nat.le_of_ble_eq_true rfl) (Nat.le_of_ble_eq_true rfl) ?_
      intro e' t' d' v1 v2 v3 h2 tk2 F2 N2 off2 led2
      have X2 : (hd1.heap_39 w.params).In h2 := Frag.In.keeps (by k_asm) F2.keep
      refine raisable_uei X2 (N2 _ (.head _)).1 ?_
      k_unfold
      dsimp only
      refine leave_raiseDS (by assumption) F2 N2 ?off ⟨rfl, rfl⟩ rfl rfl rfl ?_
      (case off => exact fun q hq => (by
        rcases List.mem_cons.mp hq with rfl | hq
        · exact Nat.ne_of_gt led2
        · exact (off2 q hq).1))
      intro h3 R3 U3
      refine caught_DS R3 (by assumption) (by assumption) U3 KX T (by k_is) (by k_is) (by decide) ?_
      intro h4 g4 tk4 oe4 vs4 T4 F4 N4 P4 D4 B4 X4 P4
      have I4 : InstAt h4 e' oe4 344 (some (excD w x' (Str.ofString "text") ((e : Int) + 1) td (tk' + 1) v1 v2 v3)) := by
        obtain ⟨oc4, od4, oda4, osl4⟩ := oe4
        obtain ⟨q1, q2⟩ := P4
        dsimp only at q1 q2 D4
        subst q1 q2 D4
        exact ⟨(N4 _ (.head _)).1, rfl, rfl, (N4 _ (.tail _ (.head _))).1⟩
      k_steps
      refine Halt.mk ?_
      refine get_exc F4 X4 I4 (by k_is) (by k_is) (by k_is) (by k_is) (by k_is) rfl rfl ?_
      k_steps
      refine Halt.mk ?_
      refine get_exc F4 X4 I4 (by k_is) (by k_is) (by k_is) (by k_is) (by k_is) rfl rfl ?_
      k_steps
      obtain ⟨hbl, hbk⟩ := blk_ind (fl := fl) (rowF (hr _ (List.mem_of_getElem? hx))) (by assumption) (by assumption) (by assumption)
      have T4' : KtsTurn [L0] g' g4 := by
        have : List.filterMap (fun x => Env.frame x) [env'] = [L0] := by simp [hfL]
        rw [← this]; exact T4
      have hcond : e < vs.length ∧ ts[e]?.any blankS = false := ⟨by omega, by rw [hx]; exact hbl⟩
      refine ⟨g4, T4', ?_⟩
      refine' Ends.mk' (by k_asm) (by k_asm) ?zhs ⟨_, D, n2, _, e, rfl, isEnd_at hbe hno hx hbk, by rw [if_pos hcond]⟩
      (case zhs => k_ownIn)
    · have hx := ‹ts[Int.toNat (e : Int)]? = some _›
      rw [Int.toNat_natCast] at hx
      have f := rowF (hr _ (List.mem_of_getElem? hx))
      have hst := ‹((Txt.strip _).length : Int) ≠ 0›
      have hb0 : blankS _ = false := Bool.eq_false_iff.mpr fun q => by have := f.st.mpr q; omega
      have hit := f.it (fun q => by rw [f.nb q] at hb0; cases hb0) (by rw [bne, ‹(Txt.item _ 0 == Str.ofString " ") = false›]; rfl)
      refine WStep.next (by k_asm) (by k_asm) (n' := vs.length - (e + 1)) (by omega) ⟨rfl, e + 1, _, _, ⟨rfl, rfl, rfl, rfl, rfl, trivial⟩, by omega, by omega, rfl, no_step hno hx ?_⟩
      unfold blkS; rw [hb0, hit.2]; simp
    · have hx := ‹ts[Int.toNat (e : Int)]? = some _›
      rw [Int.toNat_natCast] at hx
      have f := rowF (hr _ (List.mem_of_getElem? hx))
      have hst := ‹((Txt.strip _).length : Int) ≠ 0›
      have hb0 : blankS _ = false := Bool.eq_false_iff.mpr fun q => by have := f.st.mpr q; omega
      refine WStep.next (by k_asm) (by k_asm) (n' := vs.length - (e + 1)) (by omega) ⟨rfl, e + 1, _, _, ⟨rfl, rfl, rfl, rfl, rfl, trivial⟩, by omega, by omega, rfl, no_step hno hx ?_⟩
      unfold blkS; rw [hb0, ‹fl = false›]; rfl
    · have hx := ‹ts[Int.toNat (e : Int)]? = some _›
      rw [Int.toNat_natCast] at hx
      have f := rowF (hr _ (List.mem_of_getElem? hx))
      have hst := ‹((Txt.strip _).length : Int) = 0›
      have hb1 : blankS _ = true := f.st.mp (by omega)
      refine WExit.mk (by k_asm) (by k_asm) ⟨rfl, e, _, ⟨rfl, rfl, rfl, trivial⟩, isEnd_at hbe hno hx ?_, fun _ => ⟨_, hx, hb1⟩⟩
      unfold blkS; rw [hb1]; rfl
    · refine WExit.mk (by k_asm) (by k_asm) ⟨rfl, e, _, ⟨rfl, rfl, rfl, trivial⟩, isEnd_out hbe hno (by rw [← hv.length]; omega), fun q => by omega⟩
  · rintro h5 tk5 m5 n5 F5 N5 ⟨rfl, e, te, q, hE, hbl⟩
    replace F5 := fr_eta _ F5 q.mem
    clear q
    simp only [ifs] at F5
    have hbe := hE.ge
    have hel := hE.le
    k_steps
    refine Halt.mk ?_
    refine Spec.use (part_spec bs' x dx l m vs ws p o t1 t2 t3 t4 _ _ hl hw n0 n1 _ _) (by k_asm) (by k_asm) (by k_asm) rfl rfl (Nat.le_of_ble_eq_true rfl) (Nat.le_of_ble_eq_true rfl) (by k_ownIn) (rest := tl) (by k_ownIn) (fun p hp q => ho p hp p.1 q rfl) ?_
    rintro r led h' tk' ⟨x', dx', D, I, n2, n3, u1, u2, u3, u4, rfl, f1, f2, f3, f4, f5, f6, dlt, rfl⟩ F' N' hfr
    simp only [List.cons_append, List.nil_append] at N'
    simp only [List.forall_mem_cons, List.not_mem_nil, false_implies, implies_true, and_true] at dlt
    rw [← hvl] at hel
    rw [pick_mid (l := vs) hbe hel, pick_mid (l := ws) hbe (by omega)] at N'
    k_steps
    have hcond : ¬ (e < vs.length ∧ ts[e]?.any blankS = false) := fun q => by
      obtain ⟨y, hy, hyb⟩ := hbl q.1
      have := q.2
      rw [hy] at this
      simp [hyb] at this
    (try k_unfold)
    (try dsimp only)
    refine EndsK.of ?_
    refine' Ends.mk' (by k_asm) (by k_asm) ?zhs2 ⟨_, D, n2, te, e, rfl, hE, by rw [if_neg hcond]⟩
    (case zhs2 => k_ownIn)

end
section
local macro_rules | `(tactic| ktr_units) => `(tactic| first | assumption | omega | (simp only [List.length_append, List.length_cons, List.length_nil, List.length_take, List.length_drop, List.length_set]; omega))
local macro_rules | `(tactic| k_ne) => `(tactic| (refine neN ?_; (try dsimp only); first | assumption | exact Ne.symm (by assumption) | omega))
local macro_rules | `(tactic| walk_at "call builtin:len") => `(tactic| (k_here; (with_reducible show wpAny _ _ (call (Value.builtin "len") [Value.ref _]) _ _ _); k_dflt (refine' len_L ?N ?m ?z ?_; (case N => k_asm); (case m => k_mem); (case z => ktr_units); k_whole); intro _ _))
local macro_rules | `(tactic| walk_at "truthy ref") => `(tactic| (k_here; k_dflt (refine' truthy_L ?N ?m ?z ?_; (case N => k_asm); (case m => k_mem); (case z => ktr_units); k_whole); intro _))
local macro_rules | `(tactic| walk_at "getItem ref int") => `(tactic| (k_here; (with_reducible show wpAny _ _ (getItem (Value.ref _) (Value.int _ _)) _ _ _); k_dflt (first
  | (refine' get_SL ?l ?S ?N ?m ?a ?b ?z ?_; (case N => k_asm); (case m => k_mem); (case S => with_reducible assumption); (case l => with_reducible assumption); (case a => ktr_units); (case b => ktr_units); (case z => ktr_units); k_whole; intro _ _ _ _)
  | (refine' get_S ?S ?N ?m ?a ?b ?z ?_; (case N => k_asm); (case m => k_mem); (case S => with_reducible assumption); (case a => ktr_units); (case b => ktr_units); (case z => ktr_units); k_whole; intro _ _ _)
  | (refine' get_L ?N ?m ?a ?b ?z ?_; (case N => k_asm); (case m => k_mem); (case a => ktr_units); (case b => ktr_units); (case z => ktr_units); k_whole; intro _ _))))
local macro_rules | `(tactic| walk_at "subscriptTail") => `(tactic| (k_here; (with_reducible show wpAny _ _ (subscriptTail _ _ (Value.ref _) (Value.int _ _)) _ _ _); k_dflt (first
  | (refine' sub_SL ?l ?S ?N ?m ?a ?b ?z ?_ ?s ?g; (case N => k_asm); (case m => k_mem); (case S => with_reducible assumption); (case l => with_reducible assumption); (case a => ktr_units); (case b => ktr_units); (case z => ktr_units); (case s => with_unfolding_all rfl); (case g => (intro _; with_unfolding_all rfl)); k_whole; intro _ _ _ _)
  | (refine' sub_S ?S ?N ?m ?a ?b ?z ?_ ?s ?g; (case N => k_asm); (case m => k_mem); (case S => with_reducible assumption); (case a => ktr_units); (case b => ktr_units); (case z => ktr_units); (case s => with_unfolding_all rfl); (case g => (intro _; with_unfolding_all rfl)); k_whole; intro _ _ _)
  | (refine' sub_L ?N ?m ?a ?b ?z ?_ ?s ?g; (case N => k_asm); (case m => k_mem); (case a => ktr_units); (case b => ktr_units); (case z => ktr_units); (case s => with_unfolding_all rfl); (case g => (intro _; with_unfolding_all rfl)); k_whole; intro _ _))))
local macro_rules | `(tactic| walk_at "subscriptTail Attribute Name Constant ref int") => `(tactic| (k_here; (with_reducible show wpAny _ _ (subscriptTail _ _ (Value.ref _) (Value.int _ _)) _ _ _); k_dflt (first
  | (refine' sub_SL ?l ?S ?N ?m ?a ?b ?z ?_ ?s ?g; (case N => k_asm); (case m => k_mem); (case S => with_reducible assumption); (case l => with_reducible assumption); (case a => ktr_units); (case b => ktr_units); (case z => ktr_units); (case s => with_unfolding_all rfl); (case g => (intro _; with_unfolding_all rfl)); k_whole; intro _ _ _ _)
  | (refine' sub_S ?S ?N ?m ?a ?b ?z ?_ ?s ?g; (case N => k_asm); (case m => k_mem); (case S => with_reducible assumption); (case a => ktr_units); (case b => ktr_units); (case z => ktr_units); (case s => with_unfolding_all rfl); (case g => (intro _; with_unfolding_all rfl)); k_whole; intro _ _ _)
  | (refine' sub_L ?N ?m ?a ?b ?z ?_ ?s ?g; (case N => k_asm); (case m => k_mem); (case a => ktr_units); (case b => ktr_units); (case z => ktr_units); (case s => with_unfolding_all rfl); (case g => (intro _; with_unfolding_all rfl)); k_whole; intro _ _))))
local macro_rules | `(tactic| walk_at "subscriptTail") => `(tactic| (k_here; (with_reducible show wpAny _ _ (subscriptTail _ (PySem.Expr.Slice _ _ none _) (Value.ref _) (Value.ref _)) _ _ _); k_dflt (refine' slice_L ?F ?N ?m ?p ?q ?z ?_ ?s ?t; (case F => k_asm); (case N => k_asm); (case m => k_mem); (case p => kmk_part); (case q => kmk_part); (case z => ktr_units); (case s => with_unfolding_all rfl); (case t => (intro _; with_unfolding_all rfl)); k_whole); intro D' h' F' N' l1; (try k_lt l1); (try k_sweep)))
local macro_rules | `(tactic| walk_at "subscriptTail Name Slice ref ref") => `(tactic| (k_here; (with_reducible show wpAny _ _ (subscriptTail _ (PySem.Expr.Slice _ _ none _) (Value.ref _) (Value.ref _)) _ _ _); k_dflt (refine' slice_L ?F ?N ?m ?p ?q ?z ?_ ?s ?t; (case F => k_asm); (case N => k_asm); (case m => k_mem); (case p => kmk_part); (case q => kmk_part); (case z => ktr_units); (case s => with_unfolding_all rfl); (case t => (intro _; with_unfolding_all rfl)); k_whole); intro D' h' F' N' l1; (try k_lt l1); (try k_sweep)))
local macro_rules | `(tactic| walk_at "binaryOp Add ref ref") => `(tactic| (k_here; k_dflt (refine' cat_L ?F ?N ?m ?q ?z ?_; (case F => k_asm); (case N => k_asm); (case m => k_mem); (case q => k_mem); (case z => ktr_units); k_whole); intro D' h' F' N' l1; (try k_lt l1); (try k_sweep)))
local macro_rules | `(tactic| walk_at "call type:range") => `(tactic| (k_here; k_dflt (first
  | (refine' range1_L ?F ?N ?_; (case F => k_asm); (case N => k_asm); k_whole)
  | (refine' range2_L ?F ?N ?_; (case F => k_asm); (case N => k_asm); k_whole)); intro r' h' tk' t' u' v' F' N' l1; (try k_lt l1); (try k_sweep)))
local macro_rules | `(tactic| walk_at "compareOp Eq ref ref") => `(tactic| (k_here; k_dflt (refine' eq_SS ?a ?b ?N ?m ?q ?o ?p ?u ?_; (case N => k_asm); (case m => k_mem); (case q => k_mem); (case a => with_reducible assumption); (case b => with_reducible assumption); (case o => with_reducible assumption); (case p => with_reducible assumption); (case u => exact Nat.le_of_ble_eq_true rfl); k_whole)))
local macro_rules | `(tactic| walk_at "compareOp NotEq ref ref") => `(tactic| (k_here; k_dflt (refine' ne_SS ?a ?b ?N ?m ?q ?o ?p ?u ?_; (case N => k_asm); (case m => k_mem); (case q => k_mem); (case a => with_reducible assumption); (case b => with_reducible assumption); (case o => with_reducible assumption); (case p => with_reducible assumption); (case u => exact Nat.le_of_ble_eq_true rfl); k_whole)))
local macro_rules | `(tactic| walk_at "getMethod ref") => `(tactic| (k_here; (with_reducible show wpAny _ _ (getMethod (Value.ref _) (PySem.Str.ofString "__class__") _) _ _ _); k_dflt (refine' method_got ?F ?X ?I ?g ?f ?t ?n ?_; (case F => k_asm); (case X => k_asm); (case I => k_inst); (case g => k_is); (case f => k_is); (case t => exact fun M => Looks.of_pure KF.type_class); (case n => decide +kernel); k_whole)))
local macro_rules | `(tactic| walk_at "eval Name") => `(tactic| (k_here; (with_reducible show wpAny _ _ (eval (PySem.Expr.Name _ _) (compEnvC _ _ _ _)) _ _ _); k_dflt (first
  | (refine' nmC ?N ?m ?n ?v ?_ ?k ?x ?d; (case x => rfl); (case N => k_asm); (case m => k_mem); (case n => with_reducible assumption); (case v => first | with_reducible assumption | rfl); (case k => rfl); (case d => decide); k_whole)
  | (refine' nmCc ?N ?c ?m ?d ?_ ?k ?x ?b; (case x => rfl); (case c => rfl); (case N => k_asm); (case m => k_mem); (case d => k_asm); (case k => rfl); (case b => decide); k_whole))))
local macro_rules | `(tactic| walk_at "eval ListComp") => `(tactic| (k_here; refine halt ?_))
local macro_rules | `(tactic| walk_at "exec Assign cons ListComp") => `(tactic| (k_here; (with_reducible show wpAny _ _ (exec (PySem.Stmt.Assign [PySem.Expr.Name _ _] _ _) _) _ _ _); refine halt ?_))
local macro_rules | `(tactic| ktr_unf) => `(tactic| ((with_reducible apply comp_eval); (case hF => k_asm); (case hclos => with_unfolding_all rfl); (case hcell => decide); (case hkind => with_unfolding_all rfl); (case hnames => decide); (case hx => with_unfolding_all rfl); (case hs => intro _; with_unfolding_all rfl)))
local macro_rules | `(tactic| ktr_rel) => `(tactic| ((with_reducible apply comp_assign); (case hF => k_asm); (case hsw => with_unfolding_all rfl); (case hclos => with_unfolding_all rfl); (case hcell => decide); (case hkind => with_unfolding_all rfl); (case hnames => decide); (case hx => with_unfolding_all rfl); (case hs => intro _; with_unfolding_all rfl)))
local macro_rules | `(tactic| walk_at "exec While") => `(tactic| (k_here; refine halt ?_))
local macro_rules | `(tactic| walk_at "pyIter ref") => `(tactic| (k_here; refine halt ?_))
local macro_rules | `(tactic| k_lt $h:ident) => `(tactic| (have lAll := $h; replace $h := allLt_of $h; simp only [AllLt, and_true] at $h:ident))
local macro_rules | `(tactic| k_mem) => `(tactic| ((repeat (first | exact List.Mem.head _ | refine' List.Mem.tail _ ?_)); (all_goals first | assumption | exact List.mem_append_left _ (by assumption) | exact List.mem_append_right _ (by assumption))))
local macro_rules | `(tactic| k_all) => `(tactic| exact OwnOff.ne (by assumption) (by k_mem))
local macro_rules | `(tactic| k_ownIn) => `(tactic| ((repeat (first | exact List.forall_mem_nil _ | refine List.forall_mem_cons.mpr ⟨by k_mem, ?_⟩)); (all_goals (intro p hp; k_mem))))
local macro_rules | `(tactic| ktu_offL) => `(tactic| (repeat' (first | exact off_nil | exact nin_nil | refine off_cons ?_ ?_ | refine nin_cons (neN ?_) ?_)) <;> ((try dsimp only); omega))
local macro_rules | `(tactic| walk_at "setItem") => `(tactic| (k_here; k_dflt (refine' set_L ?F ?N ?a ?b ?z ?U ?_; (case F => k_asm); (case N => k_asm); (case a => ktr_units); (case b => ktr_units); (case z => ktr_units); (case U => k_upd); k_whole); intro h' F' N'))
local macro_rules | `(tactic| kst_all) => `(tactic| (repeat' (first | exact List.forall_mem_nil _ | refine List.forall_mem_cons.mpr ⟨ltN ?_, ?_⟩)) <;> ((try dsimp only); omega))
local macro_rules | `(tactic| ktr_enter) => `(tactic| (first
  | (k_dflt (refine' enter ?k1 ?k2 ?k6 ?k7 ?k8 ?k9 ?kB ?_ ?c2 ?c3 ?c4 ?c5)
     (case k1 => assumption)
     (case k2 => assumption)
     (case k6 => k_is)
     (case k7 => k_is)
     (case k8 => decide)
     (case k9 => first | exact fun s hs => BindsTo.of_eq rfl | exact fun s hs => binds_K hs rfl (by k_is) rfl rfl rfl)
     (case c5 => decide)
     (case kB => exact locs rfl)
     (case c2 => exact rfl)
     (case c3 => exact rfl)
     (case c4 => exact rfl)
     intro s' env' outer' g' L' h' F' N' B' X' T' lL'
     (try k_lt lL')
     (try dsimp only)
     (try k_lift B')
     (try k_fold))
  | (k_dflt (refine' enterC ?k1 ?k2 ?k6 ?k7 ?k8 ?k9 ?kB ?kD ?_ ?c2 ?c3 ?c4)
     (case k1 => assumption)
     (case k2 => assumption)
     (case k6 => k_is)
     (case k7 => k_is)
     (case k8 => decide)
     (case k9 => first | exact fun s hs => BindsTo.of_eq rfl | exact fun s hs => binds_K hs rfl (by k_is) rfl rfl rfl)
     (case kB => exact rfl)
     (case kD => decide +kernel)
     (case c2 => exact rfl)
     (case c3 => exact rfl)
     (case c4 => exact rfl)
     intro s' env' outer' g' L' h' tk' cells' F' N' Y' B' X' T' lL'
     (try k_lt lL')
     k_cells Y'
     (try simp only [List.cons_append, List.nil_append] at N')
     (try dsimp only)
     (try k_lift B')
     (try k_fold))))
example (w : World) : hd1.heap_39 w.params = hd1.heap_39 w.params ∧ PySem.Challenge.rw_ff0006_01 = PySem.Challenge.rw_ff0006_01 := by
  k_fill
  exact ⟨rfl, rfl⟩
theorem with_body {P : List Stmt → Scope → Prop} {K : Frag} {f : Addr} {name qual name' qual' : Str} {params params' : Arguments} {body body' : List Stmt} {scope scope' : Scope} {dV kV doc pm cdv ct oc dV' kV' doc' pm' cdv' ct' oc' : Value} {an od an' od' : Option Addr} {osl osl' : Array (Option Value)}
    (h1 : K.lookup f = some ⟨oc, od, .func (fnOf name qual params body scope dV kV doc pm an cdv ct), osl⟩) (h2 : K.lookup f = some ⟨oc', od', .func (fnOf name' qual' params' body' scope' dV' kV' doc' pm' an' cdv' ct'), osl'⟩) (h : P body' scope') : P body scope := by
  have e := h1.symm.trans h2
  injection e with e
  injection e with _ _ e _
  injection e with e
  have e1 : body = body' := by
    have := congrArg FuncData.body e
    injection this
  have e2 : scope = scope' := congrArg FuncData.scope e
  rw [e1, e2]; exact h
theorem off_own {t pre : List (Addr × Obj)} {l : List Addr} (h : OwnOff t l) (hs : ∀ p ∈ pre, p.1 ∈ l) : ∀ q ∈ t, q.1 ∉ pre.map (·.1) := fun q hq hm => by
  obtain ⟨p, hp, e⟩ := List.mem_map.mp hm
  exact h q hq _ (hs p hp) e.symm
section
variable {prog : Program} {w : World} {A : Around} {E : Value → Shared → Prop} {s : Shared} {K : Frag} {x C L f l : Addr} {h₀ : Heap} {m : Str → Option Value} {ox : Obj} {od : Option Obj} {news : List (Addr × Obj)} {vs : List Value} {n : Nat}
theorem cmpNe_L {Q : Value → Shared → Prop} (hu : A.units < cLine) (F : Fr h₀ L s.heap m) (X₀ : K.In h₀) (I : InstAt s.heap x ox C od) (N : News h₀ L s.heap news) (hm : (l, W.listOf vs.toArray n) ∈ news) (hn : notFirst K C (.type "list") = true)
    (hs : findIn K (.ref C) "__ne__" = some (some (.ref f))) (hf : isFn K (.ref f) = true)
    (h : wpAny (model prog w) A (call (.ref f) [.ref x, .ref l]) (PySem.W.CmpBack Q) E s) : wpAny (model prog w) A (compareOp .NotEq (.ref x) (.ref l)) Q E s :=
  cmp_ofNotEq (cmp_K (op := .NotEq) hu F X₀ I ((Looks.ld (N _ hm).1).andThen .now) hn hs hf h)
theorem cmpEq_L {Q : Value → Shared → Prop} (hu : A.units < cLine) (F : Fr h₀ L s.heap m) (X₀ : K.In h₀) (I : InstAt s.heap x ox C od) (N : News h₀ L s.heap news) (hm : (l, W.listOf vs.toArray n) ∈ news) (hn : notFirst K C (.type "list") = true)
    (hs : findIn K (.ref C) "__eq__" = some (some (.ref f))) (hf : isFn K (.ref f) = true)
    (h : wpAny (model prog w) A (call (.ref f) [.ref x, .ref l]) (PySem.W.CmpBack Q) E s) : wpAny (model prog w) A (compareOp .Eq (.ref x) (.ref l)) Q E s :=
  cmp_ofEq (cmp_K (op := .Eq) hu F X₀ I ((Looks.ld (N _ hm).1).andThen .now) hn hs hf h)
end
local macro_rules | `(tactic| walk_at "compareOp Eq ref ref") => `(tactic| (k_here; (with_reducible show wpAny _ _ (compareOp CmpOp.Eq (Value.ref _) (Value.ref _)) _ _ _); k_dflt (refine' cmpEq_L ?u ?F ?X ?I ?N ?m ?n ?s ?f ?_; (case u => k_units); (case F => k_asm); (case X => k_asm); (case I => k_inst); (case N => k_asm); (case m => k_mem); (case n => k_is); (case s => k_is); (case f => k_is); k_whole)))
local macro_rules | `(tactic| walk_at "compareOp NotEq ref ref") => `(tactic| (k_here; (with_reducible show wpAny _ _ (compareOp CmpOp.NotEq (Value.ref _) (Value.ref _)) _ _ _); k_dflt (refine' ne_same ?a ?b ?N ?m ?q ?o ?u ?_; (case N => k_asm); (case m => k_mem); (case q => k_mem); (case a => with_reducible assumption); (case b => with_reducible assumption); (case o => with_reducible assumption); (case u => exact Nat.le_of_ble_eq_true rfl); k_whole)))
local macro_rules | `(tactic| walk_at "call ref") => `(tactic| (k_here; (with_reducible first
  | show wpAny _ _ (call (Value.ref 354) _ _) _ _ _ | show wpAny _ _ (call (Value.ref 310) _ _) _ _ _ | show wpAny _ _ (call (Value.ref 299) _ _) _ _ _ | show wpAny _ _ (call (Value.ref 373) _ _) _ _ _
  | show wpAny _ _ (call (Value.ref 263) _ _) _ _ _ | show wpAny _ _ (call (Value.ref 380) _ _) _ _ _); refine halt ?_))
local macro_rules | `(tactic| walk_at "exec Assign") => `(tactic| (k_here; (fail_if_success (with_reducible show wpAny _ _ _ (WExit _ _ _ _) _ _)); (with_reducible first
  | show wpAny _ _ (exec (PySem.Stmt.Assign [PySem.Expr.Name (PySem.Str.ofString "refused") _] _ _) _) _ _ _); refine halt ?_))
local macro_rules | `(tactic| walk_at "compareOp NotEq ref ref") => `(tactic| (k_here; (with_reducible show wpAny _ _ (compareOp CmpOp.NotEq (Value.ref _) (Value.ref _)) _ _ _); refine halt ?_))
local macro_rules | `(tactic| walk_at "call type:list") => `(tactic| (k_here; refine halt ?_))
section
variable {prog : Program} {w : World} {A : Around} {E : Value → Shared → Prop} {s : Shared} {h₀ : Heap} {L : Addr} {news : List (Addr × Obj)} {vs ws : List Value} {l l2 n n2 a a2 : Nat}
def optD : Option Int → PyData | none => .none | some i => .int i
theorem optD_reads (h : Heap) (o : Option Int) (t : Tok) : Reads h (vO o t) (optD o) [] := by cases o <;> constructor
theorem reads_T {ts : List Str} {o : Option Int} {t : Tok} (h : StrsAre vs ts) (N : News h₀ L s.heap news) (hm : (l, W.listOf vs.toArray n) ∈ news) (ha : (a, tup2 (.ref l) (vO o t)) ∈ news) : ∃ as, Reads s.heap (.ref a) (.tuple [.list (ts.map .str), optD o]) as :=
  ⟨_, .tuple (N.get ha) rfl rfl (.cons (reads_strs h N hm) (.cons (optD_reads _ o t) .nil))⟩
theorem eqv_T {ts : List Str} {o : Option Int} : PyData.eqv (.tuple [.list (ts.map .str), optD o]) (.tuple [.list (ts.map .str), optD o]) = true := by
  show (PyData.eqvAll (ts.map .str) (ts.map .str) && (PyData.eqv (optD o) (optD o) && true)) = true
  rw [eqv_strs]
  cases o <;> simp [optD, PyData.eqv]
theorem shaped_T {ts : List Str} {o : Option Int} (h : ∀ x ∈ ts, PyData.strOk x = true) : SeqAt.shaped (.tuple [.list (ts.map .str), optD o]) = true := by
  unfold SeqAt.shaped
  show ((PyData.canLayAll0 (ts.map .str) && (PyData.canLay0 (optD o) && true)) && decide (max (PyData.depthAll (ts.map .str) + 1) (max (PyData.depth (optD o)) 0) + 1 ≤ 64)) = true
  rw [canAll_strs h, depth_strs]
  cases o <;> rfl
theorem ne_TT {ts : List Str} {o : Option Int} {t t' : Tok} {Q : Value → Shared → Prop} (h1 : StrsAre vs ts) (h2 : StrsAre ws ts) (N : News h₀ L s.heap news) (hm : (l, W.listOf vs.toArray n) ∈ news) (hm2 : (l2, W.listOf ws.toArray n2) ∈ news)
    (ha : (a, tup2 (.ref l) (vO o t)) ∈ news) (ha2 : (a2, tup2 (.ref l2) (vO o t')) ∈ news)
    (ok : ∀ x ∈ ts, PyData.strOk x = true) (hu : A.units + 64 < cLine) (h : Q (.bool false) s) : wpAny (model prog w) A (compareOp .NotEq (.ref a) (.ref a2)) Q E s := by
  obtain ⟨as, ra⟩ := reads_T h1 N hm ha
  obtain ⟨bs, rb⟩ := reads_T h2 N hm2 ha2
  exact SeqAt.compareNe_shaped ra rb (shaped_T ok) (shaped_T ok) hu (by rw [eqv_T]; exact h)
end
theorem off_sub {own pre n : List (Addr × Obj)} (hs : ∀ p ∈ n, ∀ q ∈ own, p.1 ≠ q.1) (sub : ∀ p ∈ pre, p ∈ n) : ∀ q ∈ own, q.1 ∉ pre.map (·.1) := fun q hq h => by
  obtain ⟨p, hp, e⟩ := List.mem_map.mp h; exact hs p (sub p hp) q hq e
theorem blk_hold {fl : Bool} {y : Str} (h : fl = true) (h2 : 0 < ((y.length : Nat) : Int) - (((Txt.lstripChars y (Str.ofString " ")).length : Nat) : Int)) : blkS fl y = true := by
  unfold blkS holdS sp1
  rw [h, decide_eq_true h2]; simp
theorem blk_no1 {fl : Bool} {y : Str} (h : (Txt.stripChars y (Str.ofString " ") != Str.ofString "") = true) (h2 : ¬ 0 < ((y.length : Nat) : Int) - (((Txt.lstripChars y (Str.ofString " ")).length : Nat) : Int)) : blkS fl y = false := by
  have hb : blankS y = false := by simpa [blankS, sp1, bne] using h
  unfold blkS holdS sp1
  rw [hb, decide_eq_false h2]; simp
theorem blk_no2 {fl : Bool} {y : Str} (h : (Txt.stripChars y (Str.ofString " ") != Str.ofString "") = true) (h2 : fl = false) : blkS fl y = false := by
  have hb : blankS y = false := by simpa [blankS, sp1, bne] using h
  unfold blkS
  rw [hb, h2]; rfl
theorem blk_blank {fl : Bool} {y : Str} (h : (Txt.stripChars y (Str.ofString " ") != Str.ofString "") = false) : blkS fl y = true := by
  have hb : blankS y = true := by simpa [blankS, sp1, bne] using h
  unfold blkS
  rw [hb]; rfl
theorem ref_yes {S n : Nat} {y : Str} (h : S < n) : (Txt.stripChars y (Str.ofString " ") != Str.ofString "") = decide (S < n ∧ (some y).any blankS = false) := by
  have hb : blankS y = (Txt.stripChars y (Str.ofString " ") == Str.ofString "") := rfl
  cases q : blankS y with
  | true =>
    rw [decide_eq_false (fun z => by have := z.2; rw [Option.any_some, q] at this; cases this)]
    rw [hb] at q
    rw [bne, q]; rfl
  | false =>
    rw [decide_eq_true ⟨h, q⟩]
    rw [hb] at q
    rw [bne, q]; rfl
theorem news_tail {h₀ h : Heap} {L : Addr} {a t r : List (Addr × Obj)} (N : News h₀ L h (a ++ (t ++ r))) : News h₀ L h (a ++ (r ++ t)) := fun p hp => N p (by
  rcases List.mem_append.mp hp with q | q
  · exact List.mem_append_left _ q
  · rcases List.mem_append.mp q with q | q
    · exact List.mem_append_right _ (List.mem_append_right _ q)
    · exact List.mem_append_right _ (List.mem_append_left _ q))
theorem pick_mem {α : Type} {l : List α} {lo hi : Option Int} {y : α} (h : y ∈ pick l lo hi) : y ∈ l := List.mem_of_mem_drop (List.mem_of_mem_take h)
theorem sub_app {a b c : List (Addr × Obj)} (h1 : ∀ p ∈ a, p ∈ c) (h2 : ∀ p ∈ b, p ∈ c) : ∀ p ∈ a ++ b, p ∈ c := fun p hp => (List.mem_append.mp hp).elim (h1 p) (h2 p)
theorem own_nin {t : List (Addr × Obj)} {l : List Addr} {a : Addr} (h : OwnOff t l) (ha : a ∈ l) : a ∉ t.map (·.1) := fun q => by
  obtain ⟨p, hp, e⟩ := List.mem_map.mp q
  exact h p hp a ha e
theorem nin4 {p1 p2 p3 p4 : Addr × Obj} {t : List (Addr × Obj)} {a : Addr} (h1 : a ≠ p1.1) (h2 : a ≠ p2.1) (h3 : a ≠ p3.1) (h4 : a ≠ p4.1) (h : a ∉ t.map (·.1)) : a ∉ ([p1, p2, p3, p4] ++ t).map (·.1) :=
  nin_cons h1 (nin_cons h2 (nin_cons h3 (nin_cons h4 h)))
theorem own4 {a b c d e : Addr} {r : List Addr} (h : e ∈ [a, b, c, d]) : e ∈ a :: b :: c :: d :: r := by
  rcases List.mem_cons.mp h with rfl | h
  · exact .head _
  rcases List.mem_cons.mp h with rfl | h
  · exact .tail _ (.head _)
  rcases List.mem_cons.mp h with rfl | h
  · exact .tail _ (.tail _ (.head _))
  rcases List.mem_cons.mp h with rfl | h
  · exact .tail _ (.tail _ (.tail _ (.head _)))
  · cases h
theorem law_tail3 {w : World} {s₀ : Shared} {mg mb : Str → Option Value} {base : Heap} (bs : Bs w s₀ mg mb base) (K0 : Below callerA base [] base)
    {name qual : Str} {params : Arguments} {body : List Stmt} {scope : Scope} {dV kV doc pm cdv ct oc : Value} {an od : Option Addr} {osl : Array (Option Value)} (hlook : (hd1.heap_39 w.params).lookup 385 = some ⟨oc, od, .func (fnOf name qual params body scope dV kV doc pm an cdv ct), osl⟩)
    (L0 fa : Addr) (cd : Value) (m : Str → Option Value) (s : Shared) (x dx D I n1 n2 T6 nT b : Nat) (us ys : List Value) (ts : List Str) (tups : List (Addr × Obj)) (t1 t2 t3 t4 tb : Tok) (c3 oB o1 : Obj)
    (dB : oB.data = .cell (some (.int (b : Int) tb))) (hT : StrsAre us ts) (hTr : ∀ y ∈ ts, y ∈ rowsL) (hu1 : 1 ≤ us.length) (hu8 : us.length ≤ 8) (hbu : b < us.length)
    (hI2 : It2 tups ys (txs us.length)) (hO2 : OwnOff tups [x, dx, D, I, T6, L0 + 1 + 1 + 1, L0 + 1 + 1, L0 + 1]) (hTd : T6 < dx) (hLT : @LT.lt Nat _ (L0 + 1 + 1 + 1) T6) (hdx : dx < x) (hxD : x < D) (hxI : x < I) (hDI : D ≠ I)
    (F : Fr base L0 s.heap m) (N : News base L0 s.heap ([(x, instObj 310 dx), (dx, vl w D I .none .none t1 t2 t3 t4), (D, W.listOf us.toArray n1), (I, W.listOf ys.toArray n2), (T6, W.listOf us.toArray nT), (L0 + 1 + 1 + 1, c3), (L0 + 1 + 1, oB), (L0 + 1, o1)] ++ tups))
    (q : AllM m [(Str.ofString "texts", .ref T6), (Str.ofString "held", .ref x)])
    {Q : Flow → Shared → Prop}
    (hQ : ∀ h' tk' m', Fr base L0 h' m' → Q (.ret (.bool true)) { s with heap := h', toks := tk' }) :
    wpAny (model P1 w) (callerA.deeper (envOfC (Str.ofString "law") scope L0 fa cd)) (execs (body.drop 12) (envOfC (Str.ofString "law") scope L0 fa cd)) Q (fun _ _ => False) s := by
  k_dflt (refine' with_body (P := fun body scope => wpAny (model P1 w) (callerA.deeper (envOfC (Str.ofString "law") scope L0 fa cd)) (execs (body.drop 12) (envOfC (Str.ofString "law") scope L0 fa cd)) Q (fun _ _ => False) s) hlook ?hk0 ?_)
  (case hk0 => k_is)
  clear hlook
  replace F := fr_eta _ F q.mem
  clear q
  simp only [ifs] at F
  simp only [List.drop]
  simp only [List.cons_append, List.nil_append] at N
  obtain ⟨KX, X, GL, T, TB, TE, TW, M, oM, hM⟩ := id bs
  have hyl : ys.length = us.length := by rw [hI2.len, txs_len]
  have hsz : ∀ y ∈ ts, y.length ≤ 100 := fun y hy => by have := (rowF (hTr y hy)).sz; omega
  have hok : ∀ y ∈ ts, PyData.strOk y = true := fun y hy => (rowF (hTr y hy)).ok
  have hl8 : us.length ≤ 1000 := by omega
  k_steps
  refine Halt.mk ?_
  refine for_list (fun i m₁ n₁ => n₁ = (x, instObj 310 dx) :: (dx, vl w D I .none .none t1 t2 t3 t4) :: (D, W.listOf us.toArray n1) :: (I, W.listOf ys.toArray n2) :: (T6, W.listOf us.toArray nT) :: (L0 + 1 + 1 + 1, c3) :: (L0 + 1 + 1, oB) :: (L0 + 1, o1) :: tups ∧ AllM m₁ [(Str.ofString "texts", .ref T6), (Str.ofString "held", .ref x)]) rfl (by k_asm) (by k_asm) (ne_of_all (by assumption)) ?_ ?_ ?_
  · exact ⟨rfl, rfl, rfl, trivial⟩
  · rintro i v m₁ news₁ h₁ tk₁ own hv ⟨rfl, q1⟩ F₁ N₁ hs1
    obtain ⟨fl, rfl⟩ : ∃ fl, v = .bool fl := by
      match i, hv with
      | 0, h => exact ⟨false, (Option.some.inj h).symm⟩
      | 1, h => exact ⟨true, (Option.some.inj h).symm⟩
    have q2 : AllM (fun y => if y = Str.ofString "flush" then some (Value.bool fl) else m₁ y) [(Str.ofString "flush", .bool fl), (Str.ofString "texts", .ref T6), (Str.ofString "held", .ref x)] := ⟨rfl, q1.1, q1.2.1, trivial⟩
    replace F₁ := fr_eta _ F₁ q2.mem
    clear q2
    simp only [ifs] at F₁
    simp only [List.cons_append, List.nil_append] at N₁
    k_steps
    refine Halt.mk ?_
    refine While_X (fun n m₁ n₁ => n₁ = (x, instObj 310 dx) :: (dx, vl w D I .none .none t1 t2 t3 t4) :: (D, W.listOf us.toArray n1) :: (I, W.listOf ys.toArray n2) :: (T6, W.listOf us.toArray nT) :: (L0 + 1 + 1 + 1, c3) :: (L0 + 1 + 1, oB) :: (L0 + 1, o1) :: (tups ++ own) ∧ ∃ (e : Nat) (te : Tok), AllM m₁ [(Str.ofString "flush", .bool fl), (Str.ofString "texts", .ref T6), (Str.ofString "held", .ref x), (Str.ofString "stop", .int e te)] ∧ b ≤ e ∧ e ≤ us.length ∧ n = us.length - e ∧ (∀ k y, b ≤ k → k < e → ts[k]? = some y → blkS fl y = false))
      (fun m₁ n₁ => n₁ = (x, instObj 310 dx) :: (dx, vl w D I .none .none t1 t2 t3 t4) :: (D, W.listOf us.toArray n1) :: (I, W.listOf ys.toArray n2) :: (T6, W.listOf us.toArray nT) :: (L0 + 1 + 1 + 1, c3) :: (L0 + 1 + 1, oB) :: (L0 + 1, o1) :: (tups ++ own) ∧ ∃ (e : Nat) (te : Tok), AllM m₁ [(Str.ofString "flush", .bool fl), (Str.ofString "texts", .ref T6), (Str.ofString "held", .ref x), (Str.ofString "stop", .int e te)] ∧ IsEnd (blkS fl) ts b e)
      (us.length - b) ?_ (by k_asm) (by k_asm) PassesOwn.never ?_ ?_
    · exact ⟨rfl, b, tb, ⟨rfl, rfl, rfl, rfl, trivial⟩, Nat.le_refl _, by omega, rfl, fun k y h1 h2 => by omega⟩
    · rintro n m₂ n₂ h₂ tk₂ F₂ N₂ ⟨rfl, e, te, q, hbe, hel, rfl, hno⟩
      replace F₂ := fr_eta _ F₂ q.mem
      simp only [ifs] at F₂
      k_steps
      · have hx := ‹ts[Int.toNat (e : Int)]? = some _›
        rw [Int.toNat_natCast] at hx
        have hh := ‹0 < ((Str.length _ : Nat) : Int) - ((Str.length (Txt.lstripChars _ (Str.ofString " ")) : Nat) : Int)›
        refine WExit.mk (by k_asm) (by k_asm) ⟨rfl, e, te, ⟨rfl, rfl, rfl, rfl, trivial⟩, isEnd_at hbe hno hx ?_⟩
        exact blk_hold ‹fl = true› hh
      · rename ts[Int.toNat (e : Int)]? = some _ => g2
        revert g2
        have g1 := ‹ts[Int.toNat (e : Int)]? = some _›
        intro hx
        have e12 := Option.some.inj (g1.symm.trans hx)
        subst e12
        rw [Int.toNat_natCast] at hx
        have hh := ‹¬ 0 < ((Str.length _ : Nat) : Int) - ((Str.length (Txt.lstripChars _ (Str.ofString " ")) : Nat) : Int)›
        have hb := ‹(Txt.stripChars _ (Str.ofString " ") != Str.ofString "") = true›
        refine' WStep.next (n' := us.length - (e + 1)) (by k_asm) (by k_asm) (by omega) ⟨rfl, e + 1, _, ⟨rfl, rfl, rfl, ?zihh, trivial⟩, by omega, by omega, rfl, no_step hno hx (blk_no1 hb hh)⟩
        (case zihh => (refine int_to ?_; (try dsimp only); omega))
      · have hx := ‹ts[Int.toNat (e : Int)]? = some _›
        rw [Int.toNat_natCast] at hx
        have hb := ‹(Txt.stripChars _ (Str.ofString " ") != Str.ofString "") = true›
        refine' WStep.next (n' := us.length - (e + 1)) (by k_asm) (by k_asm) (by omega) ⟨rfl, e + 1, _, ⟨rfl, rfl, rfl, ?zi2, trivial⟩, by omega, by omega, rfl, no_step hno hx (blk_no2 hb ‹fl = false›)⟩
        (case zi2 => (refine int_to ?_; (try dsimp only); omega))
      · have hx := ‹ts[Int.toNat (e : Int)]? = some _›
        rw [Int.toNat_natCast] at hx
        have hb := ‹(Txt.stripChars _ (Str.ofString " ") != Str.ofString "") = false›
        exact WExit.mk (by k_asm) (by k_asm) ⟨rfl, e, te, ⟨rfl, rfl, rfl, rfl, trivial⟩, isEnd_at hbe hno hx (blk_blank hb)⟩
      · exact WExit.mk (by k_asm) (by k_asm) ⟨rfl, e, te, ⟨rfl, rfl, rfl, rfl, trivial⟩, isEnd_out hbe hno (by rw [← hT.length]; omega)⟩
    · rintro h₂ tk₂ m₂ n₂ F₂ N₂ ⟨rfl, S, tS, q, hS⟩
      replace F₂ := fr_eta _ F₂ q.mem
      simp only [ifs] at F₂
      k_steps
      refine Halt.mk ?_
      refine join_X (fun m₁ n₁ => n₁ = (x, instObj 310 dx) :: (dx, vl w D I .none .none t1 t2 t3 t4) :: (D, W.listOf us.toArray n1) :: (I, W.listOf ys.toArray n2) :: (T6, W.listOf us.toArray nT) :: (L0 + 1 + 1 + 1, c3) :: (L0 + 1 + 1, oB) :: (L0 + 1, o1) :: (tups ++ own) ∧ AllM m₁ [(Str.ofString "flush", .bool fl), (Str.ofString "texts", .ref T6), (Str.ofString "held", .ref x), (Str.ofString "stop", .int S tS), (Str.ofString "refused", .bool (decide (S < us.length ∧ ts[S]?.any blankS = false)))]) (by k_asm) ?_ ?_
      · k_steps
        · have hx := ‹ts[Int.toNat (S : Int)]? = some _›
          rw [Int.toNat_natCast] at hx
          have hlt := ‹(S : Int) < (us.length : Int)›
          refine' WExit.mk (by k_asm) (by k_asm) ⟨rfl, rfl, rfl, rfl, rfl, ?zr1, trivial⟩
          refine bool_to ?_
          rw [hx]
          exact ref_yes (by omega)
        · have hlt := ‹¬ (S : Int) < (us.length : Int)›
          refine' WExit.mk (by k_asm) (by k_asm) ⟨rfl, rfl, rfl, rfl, rfl, ?zr2, trivial⟩
          refine bool_to ?_
          rw [decide_eq_false (by omega), decide_eq_false (fun q => hlt (by have := q.1; omega))]
      rintro h4 tk4 m4 n4 F4 N4 ⟨rfl, q4⟩
      replace F4 := fr_eta _ F4 q4.mem
      clear q4
      simp only [ifs] at F4
      k_steps
      refine Halt.mk ?_
      refine Spec0.use (block_spec bs x dx D I us ys ts hT hsz hTr hyl .none .none t1 t2 t3 t4 tb 0 hl8 n1 n2 tups hI2 (fun p hp c hc => hO2 p hp c (own4 hc)) b fl hbu) (by k_asm) (by k_asm) (by k_asm) rfl rfl (Nat.le_of_ble_eq_true rfl) (Nat.le_of_ble_eq_true rfl) (by k_ownIn) (rest := (T6, W.listOf us.toArray nT) :: (L0 + 1 + 1 + 1, c3) :: (L0 + 1 + 1, oB) :: (L0 + 1, o1) :: own) (by k_ownIn)
        (off_cons (nin4 (neN (by omega)) (neN (by omega)) (neN (by omega)) (neN (by omega)) (own_nin hO2 (by k_mem))) (off_cons (nin4 (neN (by omega)) (neN (by omega)) (neN (by omega)) (neN (by omega)) (own_nin hO2 (by k_mem)))
          (off_cons (nin4 (neN (by omega)) (neN (by omega)) (neN (by omega)) (neN (by omega)) (own_nin hO2 (by k_mem))) (off_cons (nin4 (neN (by omega)) (neN (by omega)) (neN (by omega)) (neN (by omega)) (own_nin hO2 (by k_mem)))
            (off_sub hs1 (by k_ownIn)))))) ?_
      rintro r led h5 tk5 ⟨R, Db, n5, th, S', rfl, hS', rfl⟩ F5 N5 -
      obtain rfl := hS.unique hS'
      replace N5 := news_tail (a := [(R, _), (Db, _), (x, instObj 310 dx), (dx, vl w D I .none .none t1 t2 t3 t4), (D, W.listOf us.toArray n1), (I, W.listOf ys.toArray n2)]) (t := tups) (r := (T6, W.listOf us.toArray nT) :: (L0 + 1 + 1 + 1, c3) :: (L0 + 1 + 1, oB) :: (L0 + 1, o1) :: own) N5
      simp only [List.cons_append, List.nil_append] at N5
      have hSl : S ≤ us.length := by rw [hT.length]; exact hS.le
      rw [← pick_mid (l := us) hS.ge hSl] at N5
      have hps := pick_strs hT (some (b : Int)) (some (S : Int))
      have hpo : ∀ y ∈ pick ts (some (b : Int)) (some (S : Int)), PyData.strOk y = true := fun y hy => hok y (pick_mem hy)
      k_steps
      · refine Halt.mk ?_
        have hc := ‹S < us.length ∧ ts[S]?.any blankS = false›
        rename News _ _ _ _ => NN
        rw [if_pos hc] at NN
        refine ne_TT (l := Db) (o := some (S + 1)) hps hps NN (by k_mem) (by k_mem) (by k_mem) (by k_mem) hpo (Nat.le_of_ble_eq_true rfl) ?_
        k_steps
        refine FStep.mk (by k_asm) (news_sub (by k_asm) ?_) hs1 ⟨rfl, rfl, rfl, trivial⟩
        exact sub_app (by k_ownIn) (by k_ownIn)
      · refine Halt.mk ?_
        have hc := ‹¬ (S < us.length ∧ ts[S]?.any blankS = false)›
        rename News _ _ _ _ => NN
        rw [if_neg hc] at NN
        refine ne_TT (l := Db) (o := none) (t := 0) (t' := 0) hps hps NN (by k_mem) (by k_mem) (by k_mem) (by k_mem) hpo (Nat.le_of_ble_eq_true rfl) ?_
        k_steps
        refine FStep.mk (by k_asm) (news_sub (by k_asm) ?_) hs1 ⟨rfl, rfl, rfl, trivial⟩
        exact sub_app (by k_ownIn) (by k_ownIn)
  · rintro h3 tk3 m3 n3 F3 N3 ⟨rfl, q3⟩
    replace F3 := fr_eta _ F3 q3.mem
    simp only [ifs] at F3
    k_steps
    rw [decide_eq_true rfl]
    exact hQ _ _ _ (by k_asm)

end
section
local macro_rules | `(tactic| ktr_units) => `(tactic| first | assumption | omega | (simp only [List.length_append, List.length_cons, List.length_nil, List.length_take, List.length_drop, List.length_set]; omega))
local macro_rules | `(tactic| k_ne) => `(tactic| (refine neN ?_; (try dsimp only); first | assumption | exact Ne.symm (by assumption) | omega))
local macro_rules | `(tactic| walk_at "call builtin:len") => `(tactic| (k_here; (with_reducible show wpAny _ _ (call (Value.builtin "len") [Value.ref _]) _ _ _); k_dflt (refine' len_L ?N ?m ?z ?_; (case N => k_asm); (case m => k_mem); (case z => ktr_units); k_whole); intro _ _))
local macro_rules | `(tactic| walk_at "truthy ref") => `(tactic| (k_here; k_dflt (refine' truthy_L ?N ?m ?z ?_; (case N => k_asm); (case m => k_mem); (case z => ktr_units); k_whole); intro _))
local macro_rules | `(tactic| walk_at "getItem ref int") => `(tactic| (k_here; (with_reducible show wpAny _ _ (getItem (Value.ref _) (Value.int _ _)) _ _ _); k_dflt (first
  | (refine' get_SL ?l ?S ?N ?m ?a ?b ?z ?_; (case N => k_asm); (case m => k_mem); (case S => with_reducible assumption); (case l => with_reducible assumption); (case a => ktr_units); (case b => ktr_units); (case z => ktr_units); k_whole; intro _ _ _ _)
  | (refine' get_S ?S ?N ?m ?a ?b ?z ?_; (case N => k_asm); (case m => k_mem); (case S => with_reducible assumption); (case a => ktr_units); (case b => ktr_units); (case z => ktr_units); k_whole; intro _ _ _)
  | (refine' get_L ?N ?m ?a ?b ?z ?_; (case N => k_asm); (case m => k_mem); (case a => ktr_units); (case b => ktr_units); (case z => ktr_units); k_whole; intro _ _))))
local macro_rules | `(tactic| walk_at "subscriptTail") => `(tactic| (k_here; (with_reducible show wpAny _ _ (subscriptTail _ _ (Value.ref _) (Value.int _ _)) _ _ _); k_dflt (first
  | (refine' sub_SL ?l ?S ?N ?m ?a ?b ?z ?_ ?s ?g; (case N => k_asm); (case m => k_mem); (case S => with_reducible assumption); (case l => with_reducible assumption); (case a => ktr_units); (case b => ktr_units); (case z => ktr_units); (case s => with_unfolding_all rfl); (case g => (intro _; with_unfolding_all rfl)); k_whole; intro _ _ _ _)
  | (refine' sub_S ?S ?N ?m ?a ?b ?z ?_ ?s ?g; (case N => k_asm); (case m => k_mem); (case S => with_reducible assumption); (case a => ktr_units); (case b => ktr_units); (case z => ktr_units); (case s => with_unfolding_all rfl); (case g => (intro _; with_unfolding_all rfl)); k_whole; intro _ _ _)
  | (refine' sub_L ?N ?m ?a ?b ?z ?_ ?s ?g; (case N => k_asm); (case m => k_mem); (case a => ktr_units); (case b => ktr_units); (case z => ktr_units); (case s => with_unfolding_all rfl); (case g => (intro _; with_unfolding_all rfl)); k_whole; intro _ _))))
local macro_rules | `(tactic| walk_at "subscriptTail Attribute Name Constant ref int") => `(tactic| (k_here; (with_reducible show wpAny _ _ (subscriptTail _ _ (Value.ref _) (Value.int _ _)) _ _ _); k_dflt (first
  | (refine' sub_SL ?l ?S ?N ?m ?a ?b ?z ?_ ?s ?g; (case N => k_asm); (case m => k_mem); (case S => with_reducible assumption); (case l => with_reducible assumption); (case a => ktr_units); (case b => ktr_units); (case z => ktr_units); (case s => with_unfolding_all rfl); (case g => (intro _; with_unfolding_all rfl)); k_whole; intro _ _ _ _)
  | (refine' sub_S ?S ?N ?m ?a ?b ?z ?_ ?s ?g; (case N => k_asm); (case m => k_mem); (case S => with_reducible assumption); (case a => ktr_units); (case b => ktr_units); (case z => ktr_units); (case s => with_unfolding_all rfl); (case g => (intro _; with_unfolding_all rfl)); k_whole; intro _ _ _)
  | (refine' sub_L ?N ?m ?a ?b ?z ?_ ?s ?g; (case N => k_asm); (case m => k_mem); (case a => ktr_units); (case b => ktr_units); (case z => ktr_units); (case s => with_unfolding_all rfl); (case g => (intro _; with_unfolding_all rfl)); k_whole; intro _ _))))
local macro_rules | `(tactic| walk_at "subscriptTail") => `(tactic| (k_here; (with_reducible show wpAny _ _ (subscriptTail _ (PySem.Expr.Slice _ _ none _) (Value.ref _) (Value.ref _)) _ _ _); k_dflt (refine' slice_L ?F ?N ?m ?p ?q ?z ?_ ?s ?t; (case F => k_asm); (case N => k_asm); (case m => k_mem); (case p => kmk_part); (case q => kmk_part); (case z => ktr_units); (case s => with_unfolding_all rfl); (case t => (intro _; with_unfolding_all rfl)); k_whole); intro D' h' F' N' l1; (try k_lt l1); (try k_sweep)))
local macro_rules | `(tactic| walk_at "subscriptTail Name Slice ref ref") => `(tactic| (k_here; (with_reducible show wpAny _ _ (subscriptTail _ (PySem.Expr.Slice _ _ none _) (Value.ref _) (Value.ref _)) _ _ _); k_dflt (refine' slice_L ?F ?N ?m ?p ?q ?z ?_ ?s ?t; (case F => k_asm); (case N => k_asm); (case m => k_mem); (case p => kmk_part); (case q => kmk_part); (case z => ktr_units); (case s => with_unfolding_all rfl); (case t => (intro _; with_unfolding_all rfl)); k_whole); intro D' h' F' N' l1; (try k_lt l1); (try k_sweep)))
local macro_rules | `(tactic| walk_at "binaryOp Add ref ref") => `(tactic| (k_here; k_dflt (refine' cat_L ?F ?N ?m ?q ?z ?_; (case F => k_asm); (case N => k_asm); (case m => k_mem); (case q => k_mem); (case z => ktr_units); k_whole); intro D' h' F' N' l1; (try k_lt l1); (try k_sweep)))
local macro_rules | `(tactic| walk_at "call type:range") => `(tactic| (k_here; k_dflt (first
  | (refine' range1_L ?F ?N ?_; (case F => k_asm); (case N => k_asm); k_whole)
  | (refine' range2_L ?F ?N ?_; (case F => k_asm); (case N => k_asm); k_whole)); intro r' h' tk' t' u' v' F' N' l1; (try k_lt l1); (try k_sweep)))
local macro_rules | `(tactic| walk_at "compareOp Eq ref ref") => `(tactic| (k_here; k_dflt (refine' eq_SS ?a ?b ?N ?m ?q ?o ?p ?u ?_; (case N => k_asm); (case m => k_mem); (case q => k_mem); (case a => with_reducible assumption); (case b => with_reducible assumption); (case o => with_reducible assumption); (case p => with_reducible assumption); (case u => exact Nat.le_of_ble_eq_true rfl); k_whole)))
local macro_rules | `(tactic| walk_at "compareOp NotEq ref ref") => `(tactic| (k_here; k_dflt (refine' ne_SS ?a ?b ?N ?m ?q ?o ?p ?u ?_; (case N => k_asm); (case m => k_mem); (case q => k_mem); (case a => with_reducible assumption); (case b => with_reducible assumption); (case o => with_reducible assumption); (case p => with_reducible assumption); (case u => exact Nat.le_of_ble_eq_true rfl); k_whole)))
local macro_rules | `(tactic| walk_at "getMethod ref") => `(tactic| (k_here; (with_reducible show wpAny _ _ (getMethod (Value.ref _) (PySem.Str.ofString "__class__") _) _ _ _); k_dflt (refine' method_got ?F ?X ?I ?g ?f ?t ?n ?_; (case F => k_asm); (case X => k_asm); (case I => k_inst); (case g => k_is); (case f => k_is); (case t => exact fun M => Looks.of_pure KF.type_class); (case n => decide +kernel); k_whole)))
local macro_rules | `(tactic| walk_at "eval Name") => `(tactic| (k_here; (with_reducible show wpAny _ _ (eval (PySem.Expr.Name _ _) (compEnvC _ _ _ _)) _ _ _); k_dflt (first
  | (refine' nmC ?N ?m ?n ?v ?_ ?k ?x ?d; (case x => rfl); (case N => k_asm); (case m => k_mem); (case n => with_reducible assumption); (case v => first | with_reducible assumption | rfl); (case k => rfl); (case d => decide); k_whole)
  | (refine' nmCc ?N ?c ?m ?d ?_ ?k ?x ?b; (case x => rfl); (case c => rfl); (case N => k_asm); (case m => k_mem); (case d => k_asm); (case k => rfl); (case b => decide); k_whole))))
local macro_rules | `(tactic| walk_at "eval ListComp") => `(tactic| (k_here; refine halt ?_))
local macro_rules | `(tactic| walk_at "exec Assign cons ListComp") => `(tactic| (k_here; (with_reducible show wpAny _ _ (exec (PySem.Stmt.Assign [PySem.Expr.Name _ _] _ _) _) _ _ _); refine halt ?_))
local macro_rules | `(tactic| ktr_unf) => `(tactic| ((with_reducible apply comp_eval); (case hF => k_asm); (case hclos => with_unfolding_all rfl); (case hcell => decide); (case hkind => with_unfolding_all rfl); (case hnames => decide); (case hx => with_unfolding_all rfl); (case hs => intro _; with_unfolding_all rfl)))
local macro_rules | `(tactic| ktr_rel) => `(tactic| ((with_reducible apply comp_assign); (case hF => k_asm); (case hsw => with_unfolding_all rfl); (case hclos => with_unfolding_all rfl); (case hcell => decide); (case hkind => with_unfolding_all rfl); (case hnames => decide); (case hx => with_unfolding_all rfl); (case hs => intro _; with_unfolding_all rfl)))
local macro_rules | `(tactic| walk_at "exec While") => `(tactic| (k_here; refine halt ?_))
local macro_rules | `(tactic| walk_at "pyIter ref") => `(tactic| (k_here; refine halt ?_))
local macro_rules | `(tactic| k_lt $h:ident) => `(tactic| (have lAll := $h; replace $h := allLt_of $h; simp only [AllLt, and_true] at $h:ident))
local macro_rules | `(tactic| k_mem) => `(tactic| ((repeat (first | exact List.Mem.head _ | refine' List.Mem.tail _ ?_)); (all_goals first | assumption | exact List.mem_append_left _ (by assumption) | exact List.mem_append_right _ (by assumption))))
local macro_rules | `(tactic| k_all) => `(tactic| exact OwnOff.ne (by assumption) (by k_mem))
local macro_rules | `(tactic| k_ownIn) => `(tactic| ((repeat (first | exact List.forall_mem_nil _ | refine List.forall_mem_cons.mpr ⟨by k_mem, ?_⟩)); (all_goals (intro p hp; k_mem))))
local macro_rules | `(tactic| ktu_offL) => `(tactic| (repeat' (first | exact off_nil | exact nin_nil | refine off_cons ?_ ?_ | refine nin_cons (neN ?_) ?_)) <;> ((try dsimp only); omega))
local macro_rules | `(tactic| walk_at "setItem") => `(tactic| (k_here; k_dflt (refine' set_L ?F ?N ?a ?b ?z ?U ?_; (case F => k_asm); (case N => k_asm); (case a => ktr_units); (case b => ktr_units); (case z => ktr_units); (case U => k_upd); k_whole); intro h' F' N'))
local macro_rules | `(tactic| kst_all) => `(tactic| (repeat' (first | exact List.forall_mem_nil _ | refine List.forall_mem_cons.mpr ⟨ltN ?_, ?_⟩)) <;> ((try dsimp only); omega))
local macro_rules | `(tactic| ktr_enter) => `(tactic| (first
  | (k_dflt (refine' enter ?k1 ?k2 ?k6 ?k7 ?k8 ?k9 ?kB ?_ ?c2 ?c3 ?c4 ?c5)
     (case k1 => assumption)
     (case k2 => assumption)
     (case k6 => k_is)
     (case k7 => k_is)
     (case k8 => decide)
     (case k9 => first | exact fun s hs => BindsTo.of_eq rfl | exact fun s hs => binds_K hs rfl (by k_is) rfl rfl rfl)
     (case c5 => decide)
     (case kB => exact locs rfl)
     (case c2 => exact rfl)
     (case c3 => exact rfl)
     (case c4 => exact rfl)
     intro s' env' outer' g' L' h' F' N' B' X' T' lL'
     (try k_lt lL')
     (try dsimp only)
     (try k_lift B')
     (try k_fold))
  | (k_dflt (refine' enterC ?k1 ?k2 ?k6 ?k7 ?k8 ?k9 ?kB ?kD ?_ ?c2 ?c3 ?c4)
     (case k1 => assumption)
     (case k2 => assumption)
     (case k6 => k_is)
     (case k7 => k_is)
     (case k8 => decide)
     (case k9 => first | exact fun s hs => BindsTo.of_eq rfl | exact fun s hs => binds_K hs rfl (by k_is) rfl rfl rfl)
     (case kB => exact rfl)
     (case kD => decide +kernel)
     (case c2 => exact rfl)
     (case c3 => exact rfl)
     (case c4 => exact rfl)
     intro s' env' outer' g' L' h' tk' cells' F' N' Y' B' X' T' lL'
     (try k_lt lL')
     k_cells Y'
     (try simp only [List.cons_append, List.nil_append] at N')
     (try dsimp only)
     (try k_lift B')
     (try k_fold))))
example (w : World) : hd1.heap_39 w.params = hd1.heap_39 w.params ∧ PySem.Challenge.rw_ff0006_01 = PySem.Challenge.rw_ff0006_01 := by
  k_fill
  exact ⟨rfl, rfl⟩
local macro_rules | `(tactic| walk_at "compareOp NotEq ref ref") => `(tactic| (k_here; (with_reducible show wpAny _ _ (compareOp CmpOp.NotEq (Value.ref _) (Value.ref _)) _ _ _); k_dflt (refine' cmpNe_L ?u ?F ?X ?I ?N ?m ?n ?s ?f ?_; (case u => k_units); (case F => k_asm); (case X => k_asm); (case I => k_inst); (case N => k_asm); (case m => k_mem); (case n => k_is); (case s => k_is); (case f => k_is); k_whole)))
local macro_rules | `(tactic| walk_at "compareOp Eq ref ref") => `(tactic| (k_here; (with_reducible show wpAny _ _ (compareOp CmpOp.Eq (Value.ref _) (Value.ref _)) _ _ _); k_dflt (refine' cmpEq_L ?u ?F ?X ?I ?N ?m ?n ?s ?f ?_; (case u => k_units); (case F => k_asm); (case X => k_asm); (case I => k_inst); (case N => k_asm); (case m => k_mem); (case n => k_is); (case s => k_is); (case f => k_is); k_whole)))
local macro_rules | `(tactic| walk_at "compareOp NotEq ref ref") => `(tactic| (k_here; (with_reducible show wpAny _ _ (compareOp CmpOp.NotEq (Value.ref _) (Value.ref _)) _ _ _); k_dflt (refine' ne_same ?a ?b ?N ?m ?q ?o ?u ?_; (case N => k_asm); (case m => k_mem); (case q => k_mem); (case a => with_reducible assumption); (case b => with_reducible assumption); (case o => with_reducible assumption); (case u => exact Nat.le_of_ble_eq_true rfl); k_whole)))
local macro_rules | `(tactic| walk_at "call ref") => `(tactic| (k_here; (with_reducible first
  | show wpAny _ _ (call (Value.ref 354) _ _) _ _ _ | show wpAny _ _ (call (Value.ref 310) _ _) _ _ _ | show wpAny _ _ (call (Value.ref 299) _ _) _ _ _ | show wpAny _ _ (call (Value.ref 373) _ _) _ _ _
  | show wpAny _ _ (call (Value.ref 263) _ _) _ _ _ | show wpAny _ _ (call (Value.ref 380) _ _) _ _ _); refine halt ?_))
local macro_rules | `(tactic| walk_at "exec Assign") => `(tactic| (k_here; (fail_if_success (with_reducible show wpAny _ _ _ (WExit _ _ _ _) _ _)); (with_reducible first
  | show wpAny _ _ (exec (PySem.Stmt.Assign [PySem.Expr.Name (PySem.Str.ofString "stop") _] _ _) _) _ _ _
  | show wpAny _ _ (exec (PySem.Stmt.Assign [PySem.Expr.Name (PySem.Str.ofString "refused") _] _ _) _) _ _ _); refine halt ?_))
local macro_rules | `(tactic| walk_at "compareOp NotEq ref ref") => `(tactic| (k_here; (with_reducible show wpAny _ _ (compareOp CmpOp.NotEq (Value.ref _) (Value.ref _)) _ _ _); refine halt ?_))
local macro_rules | `(tactic| walk_at "call type:list") => `(tactic| (k_here; refine halt ?_))
local macro_rules | `(tactic| walk_at "execs cons") => `(tactic| (k_here; (with_reducible show wpAny _ _ (execs (Stmt.For _ _ _ _ _ :: _) _) _ _ _); refine halt ?_))
theorem dueL_len {ts : List Str} {b E : Nat} {first H : Option Int} {st : Bool} (h : aOf b first ≤ E) (hE : E ≤ ts.length) : (dueL ts b (aOf b first) E first H st).length = E - b := by
  unfold dueL
  rw [List.length_append, List.length_map, mid_len hE]
  cases first with
  | none => dsimp only [aOf] at h ⊢; simp
  | some f =>
    dsimp only [aOf] at h ⊢
    rw [List.length_map, mid_len (by omega)]
    omega
theorem It2.mid {tl ws ds} (h : It2 tl ws ds) (a e : Nat) : It2 tl (Mine.mid ws a e) (Mine.mid ds a e) := (h.take e).drop a
theorem mid_txs {n b E k : Nat} (h : E ≤ n) (hk : k < E - b) : (Mine.mid (txs n) b E)[k]? = some (Str.ofString "text", ((b + k : Nat) : Int)) := by
  unfold Mine.mid txs
  rw [List.getElem?_drop, List.getElem?_take, if_pos (by omega), List.getElem?_map, List.getElem?_range (by omega)]
  rfl
theorem zip3_at {n b E k : Nat} {dl : List Str} {y : Str} (h : E ≤ n) (hl : dl.length = E - b) (hy : dl[k]? = some y) : (zip3 (Mine.mid (txs n) b E) dl)[k]? = some (Str.ofString "text", ((b + k : Nat) : Int), y) := by
  have hk := (List.getElem?_eq_some_iff.mp hy).1
  unfold zip3
  rw [List.getElem?_zipWith, mid_txs h (by omega), hy]
theorem zip3_ok {n b E : Nat} {dl : List Str} (h : E ≤ n) (hl : dl.length = E - b) (hok : ∀ y ∈ dl, PyData.strOk y = true) : ∀ d ∈ zip3 (Mine.mid (txs n) b E) dl, PyData.strOk d.1 = true ∧ PyData.strOk d.2.2 = true := by
  intro d hd
  obtain ⟨k, hk, rfl⟩ := List.mem_iff_getElem.mp hd
  have hkl : k < dl.length := by
    have := hk
    unfold zip3 at this
    rw [List.length_zipWith] at this
    omega
  have e := zip3_at h hl (List.getElem?_eq_getElem hkl)
  rw [List.getElem?_eq_getElem hk] at e
  rw [Option.some.inj e]
  exact ⟨(show PyData.strOk (Str.ofString "text") = true by decide +kernel), hok _ (List.getElem_mem hkl)⟩
theorem law_tail2 {w : World} {s₀ : Shared} {mg mb : Str → Option Value} {base : Heap} (bs : Bs w s₀ mg mb base) (K0 : Below callerA base [] base)
    {name qual : Str} {params : Arguments} {body : List Stmt} {scope : Scope} {dV kV doc pm cdv ct oc : Value} {an od : Option Addr} {osl : Array (Option Value)} (hlook : (hd1.heap_39 w.params).lookup 385 = some ⟨oc, od, .func (fnOf name qual params body scope dV kV doc pm an cdv ct), osl⟩)
    (L0 fa : Addr) (cd : Value) (m : Str → Option Value) (s : Shared) (hg : AllBare s.gens) (x dx D I n1 n2 T6 nT b : Nat) (us ys : List Value) (ts : List Str) (tups : List (Addr × Obj)) (t1 t2 t3 t4 tb : Tok) (c3 oB o1 : Obj)
    (x' dx' D' I' m2 m3 Dr m4 E1 : Nat) (vs' us2 : List Value) (dl : List Str) (u1 u2 u3 u4 : Tok)
    (d3 : c3.data = .cell (some (.ref Dr))) (dB : oB.data = .cell (some (.int (b : Int) tb))) (hT : StrsAre us ts) (hTr : ∀ y ∈ ts, y ∈ rowsL) (hu1 : 1 ≤ us.length) (hu8 : us.length ≤ 8) (hbu : b < us.length)
    (hI2 : It2 tups ys (txs us.length)) (hO2 : OwnOff tups [x, dx, D, I, T6, L0 + 1 + 1 + 1, L0 + 1 + 1, L0 + 1]) (hTd : T6 < dx) (hLT : @LT.lt Nat _ (L0 + 1 + 1 + 1) T6) (hdx : dx < x) (hxD : x < D) (hxI : x < I) (hDI : D ≠ I)
    (hvs : StrsAre vs' dl) (hus : StrsAre us2 dl) (hdok : ∀ y ∈ dl, PyData.strOk y = true) (hbE : b ≤ E1) (hEl : E1 ≤ us.length) (hdl : dl.length = E1 - b)
    (F : Fr base L0 s.heap m) (N : News base L0 s.heap ([(Dr, W.listOf us2.toArray m4), (T6, W.listOf us.toArray nT), (x', instObj 310 dx'), (dx', vl w D' I' (.ref x) (.int b tb) u1 u2 u3 u4), (D', W.listOf vs'.toArray m2), (I', W.listOf (Mine.mid ys b E1).toArray m3),
      (x, instObj 310 dx), (dx, vl w D I .none .none t1 t2 t3 t4), (D, W.listOf us.toArray n1), (I, W.listOf ys.toArray n2), (L0 + 1 + 1 + 1, c3), (L0 + 1 + 1, oB), (L0 + 1, o1)] ++ tups))
    (q : AllM m [(Str.ofString "texts", .ref T6), (Str.ofString "held", .ref x), (Str.ofString "told", .ref x')])
    {Q : Flow → Shared → Prop}
    (hQ : ∀ h' tk' gens' m', AllBare gens' → Fr base L0 h' m' → Q (.ret (.bool true)) { s with heap := h', toks := tk', gens := gens' }) :
    wpAny (model P1 w) (callerA.deeper (envOfC (Str.ofString "law") scope L0 fa cd)) (execs (body.drop 11) (envOfC (Str.ofString "law") scope L0 fa cd)) Q (fun _ _ => False) s := by
  k_dflt (refine' with_body (P := fun body scope => (∀ h' tk' gens' m', AllBare gens' → Fr base L0 h' m' → News base L0 h' ([(x, instObj 310 dx), (dx, vl w D I .none .none t1 t2 t3 t4), (D, W.listOf us.toArray n1), (I, W.listOf ys.toArray n2), (T6, W.listOf us.toArray nT), (L0 + 1 + 1 + 1, c3), (L0 + 1 + 1, oB), (L0 + 1, o1)] ++ tups) → AllM m' [(Str.ofString "texts", .ref T6), (Str.ofString "held", .ref x)] →
      wpAny (model P1 w) (callerA.deeper (envOfC (Str.ofString "law") scope L0 fa cd)) (execs (body.drop 12) (envOfC (Str.ofString "law") scope L0 fa cd)) Q (fun _ _ => False) { s with heap := h', toks := tk', gens := gens' }) →
    wpAny (model P1 w) (callerA.deeper (envOfC (Str.ofString "law") scope L0 fa cd)) (execs (body.drop 11) (envOfC (Str.ofString "law") scope L0 fa cd)) Q (fun _ _ => False) s) hlook ?hk0 ?_ ?hk1)
  (case hk0 => k_is)
  (case hk1 =>
    intro h' tk' gens' m' hg' F' N' q'
    exact law_tail3 bs K0 hlook L0 fa cd m' _ x dx D I n1 n2 T6 nT b us ys ts tups t1 t2 t3 t4 tb c3 oB o1 dB hT hTr hu1 hu8 hbu hI2 hO2 hTd hLT hdx hxD hxI hDI F' N' q' (fun h2 tk2 m2 F2 => hQ h2 tk2 _ m2 hg' F2))
  intro hnext
  clear hlook
  replace F := fr_eta _ F q.mem
  clear q
  simp only [ifs] at F
  simp only [List.drop] at hnext ⊢
  simp only [List.cons_append, List.nil_append] at N
  obtain ⟨KX, X, GL, T, TB, TE, TW, M, oM, hM⟩ := id bs
  have hyl : ys.length = us.length := by rw [hI2.len, txs_len]
  have hsz : ∀ y ∈ ts, y.length ≤ 100 := fun y hy => by have := (rowF (hTr y hy)).sz; omega
  have hv1 : vs'.length = E1 - b := by rw [hvs.length, hdl]
  have hI3 : It2 tups (Mine.mid ys b E1) (Mine.mid (txs us.length) b E1) := hI2.mid b E1
  k_steps
  refine Halt.mk ?_
  refine xit_call bs x' dx' D' I' vs' (Mine.mid ys b E1) (.ref x) (.int b tb) u1 u2 u3 u4 (by omega) m2 m3 tups _ hI3 (by rw [mid_len (by omega), hv1]) (by k_asm) (by k_asm) (by k_asm) rfl rfl (by decide) hg ?_ ?_
  · simp only [List.cons_append, List.nil_append]; k_ownIn
  intro ga gg gL h1 tk1 gens1 hg1 F1 N1 goff G1
  k_steps
  refine Halt.mk ?_
  refine list_gen G1 hg1 F1 N1 goff rfl (Nat.le_of_ble_eq_true rfl) hvs (by rw [mid_len (by rw [txs_len]; omega), hv1]) (by omega) ?_
  intro Dg usg nDg tupg h2 tk2 gens2 hg2 F2 N2 hDg1 hDg2 hIg
  replace N2 := news_tail (a := [(Dg, W.listOf usg.toArray nDg)]) (t := tupg) N2
  simp only [List.cons_append, List.nil_append] at N2
  clear F1 N1 goff G1 hg1
  have hul : us2.length = dl.length := hus.length
  k_steps
  refine Halt.mk ?_
  ktr_unf
  k_steps
  refine Halt.mk ?_
  refine compAt_rangeT (fun i ys tups => It3 tups ys ((zip3 (Mine.mid (txs us.length) b E1) dl).take i)) (by k_asm) (by k_asm) us2.length rfl (by omega) (by omega) (by omega) (by omega) It3.nil ?_ ?_
  · intro i tv ys3 tups3 h₁ tk₁ own C oC mc hi hT3 hys F₁ N₁ hs ho hC hn hx
    dsimp only [CTurn]
    simp only [List.cons_append, List.nil_append] at N₁
    have hC' : (C, oC) ∈ ((tups ++ tupg) ++ tups3) ++ own := by
      rcases List.mem_append.mp hC with h | h
      · exact List.mem_append_left _ (List.mem_append_right _ h)
      · exact List.mem_append_right _ h
    k_steps
    have hid : i < dl.length := by omega
    rename News _ _ _ _ => NN
    rw [show (b : Int) + (0 + (i : Int)) = ((b + i : Nat) : Int) by omega, show dl.getD (0 + (i : Int)).toNat Str.empty = dl[i] by rw [show (0 + (i : Int)).toNat = i by omega]; simp [hid]] at NN
    refine CStep.new (by k_asm) (by k_asm) (by assumption) (by assumption) (by assumption) ?_
    rw [take_step (zip3_at hEl hdl (List.getElem?_eq_getElem hid))]
    exact It3.append (hT3.mono fun p hp => .tail _ hp) (It3.one (.head _))
  · intro D3 C h' tk ys3 nD oC mc tups3 N' hn F' hs1 hs2 ho hT3 hl'
    simp only [List.cons_append, List.nil_append] at N'
    refine ⟨_, _, _, hn, N', hs1, F', ?_⟩
    intro h3 F3 N3
    k_steps
    refine Halt.mk ?_
    rw [List.take_of_length_le (by unfold zip3; rw [List.length_zipWith]; omega)] at hT3
    have hzok := zip3_ok (n := us.length) hEl hdl hdok
    refine ne_33 hIg hT3 (fun p hp => ?_) (fun p hp => ?_) N3 (by k_mem) (by k_mem) hzok hzok (Nat.le_of_ble_eq_true rfl) ?_
    · (repeat refine' List.Mem.tail _ ?_); exact List.mem_append_left _ (List.mem_append_right _ hp)
    · (repeat refine' List.Mem.tail _ ?_); exact List.mem_append_right _ hp
    rw [decide_eq_true rfl]
    k_steps
    refine Halt.mk ?_
    refine hnext _ _ _ _ hg2 (by k_asm) (news_sub (by k_asm) ?_) ⟨rfl, rfl, trivial⟩
    exact sub_app (by k_ownIn) (fun p hp => by
      repeat refine' List.Mem.tail _ ?_
      exact List.mem_append_left _ (List.mem_append_left _ hp))

end
section
local macro_rules | `(tactic| ktr_units) => `(tactic| first | assumption | omega | (simp only [List.length_append, List.length_cons, List.length_nil, List.length_take, List.length_drop, List.length_set]; omega))
local macro_rules | `(tactic| k_ne) => `(tactic| (refine neN ?_; (try dsimp only); first | assumption | exact Ne.symm (by assumption) | omega))
local macro_rules | `(tactic| walk_at "call builtin:len") => `(tactic| (k_here; (with_reducible show wpAny _ _ (call (Value.builtin "len") [Value.ref _]) _ _ _); k_dflt (refine' len_L ?N ?m ?z ?_; (case N => k_asm); (case m => k_mem); (case z => ktr_units); k_whole); intro _ _))
local macro_rules | `(tactic| walk_at "truthy ref") => `(tactic| (k_here; k_dflt (refine' truthy_L ?N ?m ?z ?_; (case N => k_asm); (case m => k_mem); (case z => ktr_units); k_whole); intro _))
local macro_rules | `(tactic| walk_at "getItem ref int") => `(tactic| (k_here; (with_reducible show wpAny _ _ (getItem (Value.ref _) (Value.int _ _)) _ _ _); k_dflt (first
  | (refine' get_SL ?l ?S ?N ?m ?a ?b ?z ?_; (case N => k_asm); (case m => k_mem); (case S => with_reducible assumption); (case l => with_reducible assumption); (case a => ktr_units); (case b => ktr_units); (case z => ktr_units); k_whole; intro _ _ _ _)
  | (refine' get_S ?S ?N ?m ?a ?b ?z ?_; (case N => k_asm); (case m => k_mem); (case S => with_reducible assumption); (case a => ktr_units); (case b => ktr_units); (case z => ktr_units); k_whole; intro _ _ _)
  | (refine' get_L ?N ?m ?a ?b ?z ?_; (case N => k_asm); (case m => k_mem); (case a => ktr_units); (case b => ktr_units); (case z => ktr_units); k_whole; intro _ _))))
local macro_rules | `(tactic| walk_at "subscriptTail") => `(tactic| (k_here; (with_reducible show wpAny _ _ (subscriptTail _ _ (Value.ref _) (Value.int _ _)) _ _ _); k_dflt (first
  | (refine' sub_SL ?l ?S ?N ?m ?a ?b ?z ?_ ?s ?g; (case N => k_asm); (case m => k_mem); (case S => with_reducible assumption); (case l => with_reducible assumption); (case a => ktr_units); (case b => ktr_units); (case z => ktr_units); (case s => with_unfolding_all rfl); (case g => (intro _; with_unfolding_all rfl)); k_whole; intro _ _ _ _)
  | (refine' sub_S ?S ?N ?m ?a ?b ?z ?_ ?s ?g; (case N => k_asm); (case m => k_mem); (case S => with_reducible assumption); (case a => ktr_units); (case b => ktr_units); (case z => ktr_units); (case s => with_unfolding_all rfl); (case g => (intro _; with_unfolding_all rfl)); k_whole; intro _ _ _)
  | (refine' sub_L ?N ?m ?a ?b ?z ?_ ?s ?g; (case N => k_asm); (case m => k_mem); (case a => ktr_units); (case b => ktr_units); (case z => ktr_units); (case s => with_unfolding_all rfl); (case g => (intro _; with_unfolding_all rfl)); k_whole; intro _ _))))
local macro_rules | `(tactic| walk_at "subscriptTail Attribute Name Constant ref int") => `(tactic| (k_here; (with_reducible show wpAny _ _ (subscriptTail _ _ (Value.ref _) (Value.int _ _)) _ _ _); k_dflt (first
  | (refine' sub_SL ?l ?S ?N ?m ?a ?b ?z ?_ ?s ?g; (case N => k_asm); (case m => k_mem); (case S => with_reducible assumption); (case l => with_reducible assumption); (case a => ktr_units); (case b => ktr_units); (case z => ktr_units); (case s => with_unfolding_all rfl); (case g => (intro _; with_unfolding_all rfl)); k_whole; intro _ _ _ _)
  | (refine' sub_S ?S ?N ?m ?a ?b ?z ?_ ?s ?g; (case N => k_asm); (case m => k_mem); (case S => with_reducible assumption); (case a => ktr_units); (case b => ktr_units); (case z => ktr_units); (case s => with_unfolding_all rfl); (case g => (intro _; with_unfolding_all rfl)); k_whole; intro _ _ _)
  | (refine' sub_L ?N ?m ?a ?b ?z ?_ ?s ?g; (case N => k_asm); (case m => k_mem); (case a => ktr_units); (case b => ktr_units); (case z => ktr_units); (case s => with_unfolding_all rfl); (case g => (intro _; with_unfolding_all rfl)); k_whole; intro _ _))))
local macro_rules | `(tactic| walk_at "subscriptTail") => `(tactic| (k_here; (with_reducible show wpAny _ _ (subscriptTail _ (PySem.Expr.Slice _ _ none _) (Value.ref _) (Value.ref _)) _ _ _); k_dflt (refine' slice_L ?F ?N ?m ?p ?q ?z ?_ ?s ?t; (case F => k_asm); (case N => k_asm); (case m => k_mem); (case p => kmk_part); (case q => kmk_part); (case z => ktr_units); (case s => with_unfolding_all rfl); (case t => (intro _; with_unfolding_all rfl)); k_whole); intro D' h' F' N' l1; (try k_lt l1); (try k_sweep)))
local macro_rules | `(tactic| walk_at "subscriptTail Name Slice ref ref") => `(tactic| (k_here; (with_reducible show wpAny _ _ (subscriptTail _ (PySem.Expr.Slice _ _ none _) (Value.ref _) (Value.ref _)) _ _ _); k_dflt (refine' slice_L ?F ?N ?m ?p ?q ?z ?_ ?s ?t; (case F => k_asm); (case N => k_asm); (case m => k_mem); (case p => kmk_part); (case q => kmk_part); (case z => ktr_units); (case s => with_unfolding_all rfl); (case t => (intro _; with_unfolding_all rfl)); k_whole); intro D' h' F' N' l1; (try k_lt l1); (try k_sweep)))
local macro_rules | `(tactic| walk_at "binaryOp Add ref ref") => `(tactic| (k_here; k_dflt (refine' cat_L ?F ?N ?m ?q ?z ?_; (case F => k_asm); (case N => k_asm); (case m => k_mem); (case q => k_mem); (case z => ktr_units); k_whole); intro D' h' F' N' l1; (try k_lt l1); (try k_sweep)))
local macro_rules | `(tactic| walk_at "call type:range") => `(tactic| (k_here; k_dflt (first
  | (refine' range1_L ?F ?N ?_; (case F => k_asm); (case N => k_asm); k_whole)
  | (refine' range2_L ?F ?N ?_; (case F => k_asm); (case N => k_asm); k_whole)); intro r' h' tk' t' u' v' F' N' l1; (try k_lt l1); (try k_sweep)))
local macro_rules | `(tactic| walk_at "compareOp Eq ref ref") => `(tactic| (k_here; k_dflt (refine' eq_SS ?a ?b ?N ?m ?q ?o ?p ?u ?_; (case N => k_asm); (case m => k_mem); (case q => k_mem); (case a => with_reducible assumption); (case b => with_reducible assumption); (case o => with_reducible assumption); (case p => with_reducible assumption); (case u => exact Nat.le_of_ble_eq_true rfl); k_whole)))
local macro_rules | `(tactic| walk_at "compareOp NotEq ref ref") => `(tactic| (k_here; k_dflt (refine' ne_SS ?a ?b ?N ?m ?q ?o ?p ?u ?_; (case N => k_asm); (case m => k_mem); (case q => k_mem); (case a => with_reducible assumption); (case b => with_reducible assumption); (case o => with_reducible assumption); (case p => with_reducible assumption); (case u => exact Nat.le_of_ble_eq_true rfl); k_whole)))
local macro_rules | `(tactic| walk_at "getMethod ref") => `(tactic| (k_here; (with_reducible show wpAny _ _ (getMethod (Value.ref _) (PySem.Str.ofString "__class__") _) _ _ _); k_dflt (refine' method_got ?F ?X ?I ?g ?f ?t ?n ?_; (case F => k_asm); (case X => k_asm); (case I => k_inst); (case g => k_is); (case f => k_is); (case t => exact fun M => Looks.of_pure KF.type_class); (case n => decide +kernel); k_whole)))
local macro_rules | `(tactic| walk_at "eval Name") => `(tactic| (k_here; (with_reducible show wpAny _ _ (eval (PySem.Expr.Name _ _) (compEnvC _ _ _ _)) _ _ _); k_dflt (first
  | (refine' nmC ?N ?m ?n ?v ?_ ?k ?x ?d; (case x => rfl); (case N => k_asm); (case m => k_mem); (case n => with_reducible assumption); (case v => first | with_reducible assumption | rfl); (case k => rfl); (case d => decide); k_whole)
  | (refine' nmCc ?N ?c ?m ?d ?_ ?k ?x ?b; (case x => rfl); (case c => rfl); (case N => k_asm); (case m => k_mem); (case d => k_asm); (case k => rfl); (case b => decide); k_whole))))
local macro_rules | `(tactic| walk_at "eval ListComp") => `(tactic| (k_here; refine halt ?_))
local macro_rules | `(tactic| walk_at "exec Assign cons ListComp") => `(tactic| (k_here; (with_reducible show wpAny _ _ (exec (PySem.Stmt.Assign [PySem.Expr.Name _ _] _ _) _) _ _ _); refine halt ?_))
local macro_rules | `(tactic| ktr_unf) => `(tactic| ((with_reducible apply comp_eval); (case hF => k_asm); (case hclos => with_unfolding_all rfl); (case hcell => decide); (case hkind => with_unfolding_all rfl); (case hnames => decide); (case hx => with_unfolding_all rfl); (case hs => intro _; with_unfolding_all rfl)))
local macro_rules | `(tactic| ktr_rel) => `(tactic| ((with_reducible apply comp_assign); (case hF => k_asm); (case hsw => with_unfolding_all rfl); (case hclos => with_unfolding_all rfl); (case hcell => decide); (case hkind => with_unfolding_all rfl); (case hnames => decide); (case hx => with_unfolding_all rfl); (case hs => intro _; with_unfolding_all rfl)))
local macro_rules | `(tactic| walk_at "exec While") => `(tactic| (k_here; refine halt ?_))
local macro_rules | `(tactic| walk_at "pyIter ref") => `(tactic| (k_here; refine halt ?_))
local macro_rules | `(tactic| k_lt $h:ident) => `(tactic| (have lAll := $h; replace $h := allLt_of $h; simp only [AllLt, and_true] at $h:ident))
local macro_rules | `(tactic| k_mem) => `(tactic| ((repeat (first | exact List.Mem.head _ | refine' List.Mem.tail _ ?_)); (all_goals first | assumption | exact List.mem_append_left _ (by assumption) | exact List.mem_append_right _ (by assumption))))
local macro_rules | `(tactic| k_all) => `(tactic| exact OwnOff.ne (by assumption) (by k_mem))
local macro_rules | `(tactic| k_ownIn) => `(tactic| ((repeat (first | exact List.forall_mem_nil _ | refine List.forall_mem_cons.mpr ⟨by k_mem, ?_⟩)); (all_goals (intro p hp; k_mem))))
local macro_rules | `(tactic| ktu_offL) => `(tactic| (repeat' (first | exact off_nil | exact nin_nil | refine off_cons ?_ ?_ | refine nin_cons (neN ?_) ?_)) <;> ((try dsimp only); omega))
local macro_rules | `(tactic| walk_at "setItem") => `(tactic| (k_here; k_dflt (refine' set_L ?F ?N ?a ?b ?z ?U ?_; (case F => k_asm); (case N => k_asm); (case a => ktr_units); (case b => ktr_units); (case z => ktr_units); (case U => k_upd); k_whole); intro h' F' N'))
local macro_rules | `(tactic| kst_all) => `(tactic| (repeat' (first | exact List.forall_mem_nil _ | refine List.forall_mem_cons.mpr ⟨ltN ?_, ?_⟩)) <;> ((try dsimp only); omega))
local macro_rules | `(tactic| ktr_enter) => `(tactic| (first
  | (k_dflt (refine' enter ?k1 ?k2 ?k6 ?k7 ?k8 ?k9 ?kB ?_ ?c2 ?c3 ?c4 ?c5)
     (case k1 => assumption)
     (case k2 => assumption)
     (case k6 => k_is)
     (case k7 => k_is)
     (case k8 => decide)
     (case k9 => first | exact fun s hs => BindsTo.of_eq rfl | exact fun s hs => binds_K hs rfl (by k_is) rfl rfl rfl)
     (case c5 => decide)
     (case kB => exact locs rfl)
     (case c2 => exact rfl)
     (case c3 => exact rfl)
     (case c4 => exact rfl)
     intro s' env' outer' g' L' h' F' N' B' X' T' lL'
     (try k_lt lL')
     (try dsimp only)
     (try k_lift B')
     (try k_fold))
  | (k_dflt (refine' enterC ?k1 ?k2 ?k6 ?k7 ?k8 ?k9 ?kB ?kD ?_ ?c2 ?c3 ?c4)
     (case k1 => assumption)
     (case k2 => assumption)
     (case k6 => k_is)
     (case k7 => k_is)
     (case k8 => decide)
     (case k9 => first | exact fun s hs => BindsTo.of_eq rfl | exact fun s hs => binds_K hs rfl (by k_is) rfl rfl rfl)
     (case kB => exact rfl)
     (case kD => decide +kernel)
     (case c2 => exact rfl)
     (case c3 => exact rfl)
     (case c4 => exact rfl)
     intro s' env' outer' g' L' h' tk' cells' F' N' Y' B' X' T' lL'
     (try k_lt lL')
     k_cells Y'
     (try simp only [List.cons_append, List.nil_append] at N')
     (try dsimp only)
     (try k_lift B')
     (try k_fold))))
example (w : World) : hd1.heap_39 w.params = hd1.heap_39 w.params ∧ PySem.Challenge.rw_ff0006_01 = PySem.Challenge.rw_ff0006_01 := by
  k_fill
  exact ⟨rfl, rfl⟩
theorem rows_ok : ∀ y ∈ rowsL, PyData.strOk y = true := by decide +kernel
theorem cut_ok : ∀ y ∈ rowsL, ∀ k ∈ List.range 11, PyData.strOk (cutS ((k : Nat) : Int) y) = true := by decide +kernel
theorem cut_ok' {y : Str} (hy : y ∈ rowsL) {i : Int} (h : 0 ≤ i ∧ i ≤ 10) : PyData.strOk (cutS i y) = true := by
  have := cut_ok y hy i.toNat (List.mem_range.mpr (by omega))
  rwa [Int.toNat_of_nonneg h.1] at this
theorem hold_le {bi : Option Int} {ts : List Str} {a E : Nat} (hbi : ∀ i ∈ bi, 0 ≤ i ∧ i ≤ 3) (hTr : ∀ y ∈ ts, y ∈ rowsL) : ∀ i ∈ holdM bi ts a E, 0 ≤ i ∧ i ≤ 10 := by
  intro i hi
  cases bi with
  | some j => have := hbi j rfl; cases hi; omega
  | none => exact minH_le (fun y hy => hTr y (mid_mem hy)) i hi
theorem due_ok {bi fi : Option Int} {ts : List Str} {b a E : Nat} {st : Bool} (hbi : ∀ i ∈ bi, 0 ≤ i ∧ i ≤ 3) (hfi : ∀ i ∈ fi, 0 ≤ i ∧ i ≤ 4) (hTr : ∀ y ∈ ts, y ∈ rowsL) :
    ∀ y ∈ dueL ts b a E (fstO bi fi) (holdM bi ts a E) st, PyData.strOk y = true := by
  intro y hy
  unfold dueL at hy
  rcases List.mem_append.mp hy with hy | hy
  · have hf : ∀ i ∈ fstO bi fi, 0 ≤ i ∧ i ≤ 4 := by
      intro i hi
      cases fi with
      | none => have := hbi i hi; omega
      | some j => exact hfi i hi
    cases hfo : fstO bi fi with
    | none => rw [hfo] at hy; cases hy
    | some f =>
      rw [hfo] at hy hf
      obtain ⟨z, hz, rfl⟩ := List.mem_map.mp hy
      have := hf f rfl
      exact cut_ok' (hTr _ (mid_mem hz)) ⟨this.1, by omega⟩
  · obtain ⟨z, hz, rfl⟩ := List.mem_map.mp hy
    have hzr := hTr _ (mid_mem hz)
    have hh := hold_le (a := a) (E := E) hbi hTr
    cases hHM : holdM bi ts a E with
    | none => exact rows_ok _ hzr
    | some h =>
      dsimp only
      split
      · exact cut_ok' hzr (hh h hHM)
      · exact rows_ok _ hzr
theorem ne_same {prog : Program} {w : World} {A : Around} {E : Value → Shared → Prop} {s : Shared} {h₀ : Heap} {L : Addr} {news : List (Addr × Obj)} {vs ws : List Value} {n n2 l l2 : Nat} {ts : List Str} {Q : Value → Shared → Prop} (h1 : StrsAre vs ts) (h2 : StrsAre ws ts) (N : News h₀ L s.heap news) (hm : (l, W.listOf vs.toArray n) ∈ news) (hm2 : (l2, W.listOf ws.toArray n2) ∈ news)
    (o1 : ∀ x ∈ ts, PyData.strOk x = true) (hu : A.units + 64 < cLine) (h : Q (.bool false) s) : wpAny (model prog w) A (compareOp .NotEq (.ref l) (.ref l2)) Q E s :=
  ne_SS h1 h2 N hm hm2 o1 o1 hu (by rw [decide_eq_true rfl]; exact h)
local macro_rules | `(tactic| walk_at "compareOp NotEq ref ref") => `(tactic| (k_here; (with_reducible show wpAny _ _ (compareOp CmpOp.NotEq (Value.ref _) (Value.ref _)) _ _ _); k_dflt (refine' cmpNe_L ?u ?F ?X ?I ?N ?m ?n ?s ?f ?_; (case u => k_units); (case F => k_asm); (case X => k_asm); (case I => k_inst); (case N => k_asm); (case m => k_mem); (case n => k_is); (case s => k_is); (case f => k_is); k_whole)))
local macro_rules | `(tactic| walk_at "compareOp Eq ref ref") => `(tactic| (k_here; (with_reducible show wpAny _ _ (compareOp CmpOp.Eq (Value.ref _) (Value.ref _)) _ _ _); k_dflt (refine' cmpEq_L ?u ?F ?X ?I ?N ?m ?n ?s ?f ?_; (case u => k_units); (case F => k_asm); (case X => k_asm); (case I => k_inst); (case N => k_asm); (case m => k_mem); (case n => k_is); (case s => k_is); (case f => k_is); k_whole)))
local macro_rules | `(tactic| walk_at "compareOp NotEq ref ref") => `(tactic| (k_here; (with_reducible show wpAny _ _ (compareOp CmpOp.NotEq (Value.ref _) (Value.ref _)) _ _ _); k_dflt (refine' ne_same ?a ?b ?N ?m ?q ?o ?u ?_; (case N => k_asm); (case m => k_mem); (case q => k_mem); (case a => with_reducible assumption); (case b => with_reducible assumption); (case o => with_reducible assumption); (case u => exact Nat.le_of_ble_eq_true rfl); k_whole)))
local macro_rules | `(tactic| walk_at "call ref") => `(tactic| (k_here; (with_reducible first
  | show wpAny _ _ (call (Value.ref 354) _ _) _ _ _ | show wpAny _ _ (call (Value.ref 310) _ _) _ _ _ | show wpAny _ _ (call (Value.ref 299) _ _) _ _ _ | show wpAny _ _ (call (Value.ref 373) _ _) _ _ _
  | show wpAny _ _ (call (Value.ref 263) _ _) _ _ _ | show wpAny _ _ (call (Value.ref 380) _ _) _ _ _); refine halt ?_))
local macro_rules | `(tactic| walk_at "exec Assign") => `(tactic| (k_here; (fail_if_success (with_reducible show wpAny _ _ _ (WExit _ _ _ _) _ _)); (with_reducible first
  | show wpAny _ _ (exec (PySem.Stmt.Assign [PySem.Expr.Name (PySem.Str.ofString "stop") _] _ _) _) _ _ _
  | show wpAny _ _ (exec (PySem.Stmt.Assign [PySem.Expr.Name (PySem.Str.ofString "refused") _] _ _) _) _ _ _); refine halt ?_))
local macro_rules | `(tactic| walk_at "execs cons") => `(tactic| (k_here; (with_reducible show wpAny _ _ (execs (Stmt.If (Expr.Compare (Expr.Call _ _ _ _) _ _ _) _ _ _ :: _) _) _ _ _); refine halt ?_))
theorem law_tail {w : World} {s₀ : Shared} {mg mb : Str → Option Value} {base : Heap} (bs : Bs w s₀ mg mb base) (K0 : Below callerA base [] base)
    {name qual : Str} {params : Arguments} {body : List Stmt} {scope : Scope} {dV kV doc pm cdv ct oc : Value} {an od : Option Addr} {osl : Array (Option Value)} {oc' : Value} (hlook : (hd1.heap_39 w.params).lookup 385 = some ⟨oc, od, .func (fnOf name qual params body scope dV kV doc pm an cdv ct), osl⟩)
    (L0 fa : Addr) (cd : Value) (m : Str → Option Value) (s : Shared) (hg : AllBare s.gens) (x dx D I n1 n2 T6 nT b : Nat) (us ys : List Value) (ts : List Str) (tups : List (Addr × Obj)) (t1 t2 t3 t4 tb tbi tfi : Tok) (c3 oB o1 : Obj) (st u : Bool) (bi fi : Option Int)
    (d3 : c3.data = .cell none) (dB : oB.data = .cell (some (.int (b : Int) tb))) (hT : StrsAre us ts) (hTr : ∀ y ∈ ts, y ∈ rowsL) (hu1 : 1 ≤ us.length) (hu8 : us.length ≤ 8) (hbu : b < us.length) (hbi : ∀ i ∈ bi, 0 ≤ i ∧ i ≤ 3) (hfi : ∀ i ∈ fi, 0 ≤ i ∧ i ≤ 4)
    (hI2 : It2 tups ys (txs us.length)) (hO2 : OwnOff tups [x, dx, D, I, T6, L0 + 1 + 1 + 1, L0 + 1 + 1, L0 + 1]) (hTd : T6 < dx) (hLT : @LT.lt Nat _ (L0 + 1 + 1 + 1) T6) (hdx : dx < x) (hxD : x < D) (hxI : x < I) (hDI : D ≠ I)
    (F : Fr base L0 s.heap m) (N : News base L0 s.heap ([(x, instObj 310 dx), (dx, vl w D I .none .none t1 t2 t3 t4), (D, W.listOf us.toArray n1), (I, W.listOf ys.toArray n2), (T6, W.listOf us.toArray nT), (L0 + 1 + 1 + 1, c3), (L0 + 1 + 1, oB), (L0 + 1, o1)] ++ tups))
    (q : AllM m [(Str.ofString "texts", .ref T6), (Str.ofString "until", .bool u), (Str.ofString "strip", .bool st), (Str.ofString "rows_hold", vO bi tbi), (Str.ofString "first_hold", vO fi tfi), (Str.ofString "held", .ref x)])
    {Q : Flow → Shared → Prop}
    (hQ : ∀ h' tk' gens' m', AllBare gens' → Fr base L0 h' m' → Q (.ret (.bool true)) { s with heap := h', toks := tk', gens := gens' }) :
    wpAny (model P1 w) (callerA.deeper (envOfC (Str.ofString "law") scope L0 fa cd)) (execs (body.drop 8) (envOfC (Str.ofString "law") scope L0 fa cd)) Q (fun _ _ => False) s := by
  k_dflt (refine' with_body (P := fun body scope => (∀ h' tk' m' (c3' : Obj) (x' dx' D' I' m2 m3 Dr m4 E1 : Nat) (vs' us2 : List Value) (dl : List Str) (u1 u2 u3 u4 : Tok), c3'.data = .cell (some (.ref Dr)) → StrsAre vs' dl → StrsAre us2 dl → (∀ y ∈ dl, PyData.strOk y = true) → b ≤ E1 → E1 ≤ us.length → dl.length = E1 - b →
      Fr base L0 h' m' → News base L0 h' ([(Dr, W.listOf us2.toArray m4), (T6, W.listOf us.toArray nT), (x', instObj 310 dx'), (dx', vl w D' I' (.ref x) (.int b tb) u1 u2 u3 u4), (D', W.listOf vs'.toArray m2), (I', W.listOf (Mine.mid ys b E1).toArray m3),
      (x, instObj 310 dx), (dx, vl w D I .none .none t1 t2 t3 t4), (D, W.listOf us.toArray n1), (I, W.listOf ys.toArray n2), (L0 + 1 + 1 + 1, c3'), (L0 + 1 + 1, oB), (L0 + 1, o1)] ++ tups) → AllM m' [(Str.ofString "texts", .ref T6), (Str.ofString "held", .ref x), (Str.ofString "told", .ref x')] →
      wpAny (model P1 w) (callerA.deeper (envOfC (Str.ofString "law") scope L0 fa cd)) (execs (body.drop 11) (envOfC (Str.ofString "law") scope L0 fa cd)) Q (fun _ _ => False) { s with heap := h', toks := tk' }) →
    wpAny (model P1 w) (callerA.deeper (envOfC (Str.ofString "law") scope L0 fa cd)) (execs (body.drop 8) (envOfC (Str.ofString "law") scope L0 fa cd)) Q (fun _ _ => False) s) hlook ?hk0 ?_ ?hk1)
  (case hk0 => k_is)
  (case hk1 =>
    intro h' tk' m' c3' x' dx' D' I' m2 m3 Dr m4 E1 vs' us2 dl u1 u2 u3 u4 d3' hvs hus hdok hbE hEl hdl F' N' q'
    exact law_tail2 bs K0 hlook L0 fa cd m' { s with heap := h', toks := tk' } hg x dx D I n1 n2 T6 nT b us ys ts tups t1 t2 t3 t4 tb c3' oB o1 x' dx' D' I' m2 m3 Dr m4 E1 vs' us2 dl u1 u2 u3 u4 d3' dB hT hTr hu1 hu8 hbu hI2 hO2 hTd hLT hdx hxD hxI hDI hvs hus hdok hbE hEl hdl F' N' q' (fun h2 tk2 gens2 m2 hg2 F2 => hQ h2 tk2 gens2 m2 hg2 F2))
  intro hnext
  clear hlook
  replace F := fr_eta _ F q.mem
  clear q
  simp only [ifs] at F
  simp only [List.drop] at hnext ⊢
  have TA := bs.T
  obtain ⟨KX, X, GL, T, TB, TE, TW, M, oM, hM⟩ := id bs
  have hyl : ys.length = us.length := by rw [hI2.len, txs_len]
  have hsz : ∀ y ∈ ts, y.length ≤ 100 := fun y hy => by have := (rowF (hTr y hy)).sz; omega
  have hok : ∀ y ∈ ts, PyData.strOk y = true := fun y hy => rows_ok y (hTr y hy)
  k_steps
  refine Halt.mk ?_
  refine Spec.use (ind_spec bs x dx D I us ys ts hT hsz hTr hyl .none .none t1 t2 t3 t4 tb tbi tfi (by omega) n1 n2 b u st bi fi hbi hfi hbu) (by k_asm) (by k_asm) (by k_asm) rfl rfl (Nat.le_of_ble_eq_true rfl) (Nat.le_of_ble_eq_true rfl) (by k_ownIn) (rest := (T6, W.listOf us.toArray nT) :: (L0 + 1 + 1 + 1, c3) :: (L0 + 1 + 1, oB) :: (L0 + 1, o1) :: tups) (by k_ownIn) (off_cons (by ktu_offL) (off_cons (by ktu_offL) (off_cons (by ktu_offL) (off_cons (by ktu_offL) (off_own hO2 (by k_ownIn)))))) ?_
  rintro r led h1 tk1 ⟨R, x', dx', D', I', m2, m3, u1, u2, u3, u4, th, vs', E1, rfl, hE, hvs, hne, hlt, hltR, rfl⟩ F1 N1 hfr
  simp only [List.cons_append, List.nil_append] at N1
  simp only [List.forall_mem_cons, List.not_mem_nil, false_implies, implies_true, and_true] at hlt hltR
  obtain ⟨hn1, hn2, hn3, hn4, hn5, hn6⟩ := hne
  obtain ⟨⟨la1, la2, la3, la4⟩, ⟨lb1, lb2, lb3, lb4⟩, ⟨lc1, lc2, lc3, lc4⟩, ⟨ld1, ld2, ld3, ld4⟩⟩ := hlt
  k_steps
  refine Halt.mk ?_
  have hdok := due_ok (b := b) (a := aOf b (fstO bi fi)) (E := E1) (st := st) hbi hfi hTr
  clear hfr
  refine Spec.use (due_spec bs T6 us ts hT hsz hTr tb tbi tfi (by omega) nT b u st bi fi hbi hfi hbu) (by k_asm) (by k_asm) (by k_asm) rfl rfl (Nat.le_of_ble_eq_true rfl) (Nat.le_of_ble_eq_true rfl) (by k_ownIn) (rest := (x', instObj 310 dx') :: (dx', vl w D' I' (.ref x) (.int b tb) u1 u2 u3 u4) :: (D', W.listOf vs'.toArray m2) :: (I', W.listOf (mid ys b E1).toArray m3) ::
    (x, instObj 310 dx) :: (dx, vl w D I .none .none t1 t2 t3 t4) :: (D, W.listOf us.toArray n1) :: (I, W.listOf ys.toArray n2) :: (L0 + 1 + 1 + 1, c3) :: (L0 + 1 + 1, oB) :: (L0 + 1, o1) :: tups) (by k_ownIn)
    (off_cons (by ktu_offL) (off_cons (by ktu_offL) (off_cons (by ktu_offL) (off_cons (by ktu_offL) (off_cons (by ktu_offL) (off_cons (by ktu_offL) (off_cons (by ktu_offL) (off_cons (by ktu_offL) (off_cons (by ktu_offL) (off_cons (by ktu_offL) (off_cons (by ktu_offL) (off_own hO2 (by k_ownIn))))))))))))) ?_
  rintro r led h2 tk2 ⟨R2, Dr, m4, th2, te, us2, E2, rfl, hE2, hus2, hTD, hDR, rfl⟩ F2 N2 hfr2
  obtain rfl := hE.unique hE2
  have hDr := (hfr2 (Dr, W.listOf us2.toArray m4) (by k_mem)).resolve_left (by ktu_offL)
  have hR2 := (hfr2 (R2, _) (.head _)).resolve_left (by ktu_offL)
  clear hfr2
  simp only [List.cons_append, List.nil_append] at N2
  k_steps
  · rename _ ≠ _ => hbad
    exact absurd rfl hbad
  · rename (_ != _) = true => hbad
    simp at hbad
  refine Halt.mk ?_
  refine hnext _ _ _ _ x' dx' D' I' m2 m3 Dr m4 E1 vs' us2 _ u1 u2 u3 u4 (by assumption) hvs hus2 hdok ?_ ?_ ?_ (by k_asm) (news_sub (by k_asm) ?_) ⟨rfl, rfl, rfl, trivial⟩
  · have := hE2.ge; unfold aOf at this; split at this <;> omega
  · rw [hT.length]; exact hE2.le
  · exact dueL_len hE2.ge hE2.le
  · exact sub_app (by k_ownIn) (by k_ownIn)

end
section
local macro_rules | `(tactic| ktr_units) => `(tactic| first | assumption | omega | (simp only [List.length_append, List.length_cons, List.length_nil, List.length_take, List.length_drop, List.length_set]; omega))
local macro_rules | `(tactic| k_ne) => `(tactic| (refine neN ?_; (try dsimp only); first | assumption | exact Ne.symm (by assumption) | omega))
local macro_rules | `(tactic| walk_at "call builtin:len") => `(tactic| (k_here; (with_reducible show wpAny _ _ (call (Value.builtin "len") [Value.ref _]) _ _ _); k_dflt (refine' len_L ?N ?m ?z ?_; (case N => k_asm); (case m => k_mem); (case z => ktr_units); k_whole); intro _ _))
local macro_rules | `(tactic| walk_at "truthy ref") => `(tactic| (k_here; k_dflt (refine' truthy_L ?N ?m ?z ?_; (case N => k_asm); (case m => k_mem); (case z => ktr_units); k_whole); intro _))
local macro_rules | `(tactic| walk_at "getItem ref int") => `(tactic| (k_here; (with_reducible show wpAny _ _ (getItem (Value.ref _) (Value.int _ _)) _ _ _); k_dflt (first
  | (refine' get_SL ?l ?S ?N ?m ?a ?b ?z ?_; (case N => k_asm); (case m => k_mem); (case S => with_reducible assumption); (case l => with_reducible assumption); (case a => ktr_units); (case b => ktr_units); (case z => ktr_units); k_whole; intro _ _ _ _)
  | (refine' get_S ?S ?N ?m ?a ?b ?z ?_; (case N => k_asm); (case m => k_mem); (case S => with_reducible assumption); (case a => ktr_units); (case b => ktr_units); (case z => ktr_units); k_whole; intro _ _ _)
  | (refine' get_L ?N ?m ?a ?b ?z ?_; (case N => k_asm); (case m => k_mem); (case a => ktr_units); (case b => ktr_units); (case z => ktr_units); k_whole; intro _ _))))
local macro_rules | `(tactic| walk_at "subscriptTail") => `(tactic| (k_here; (with_reducible show wpAny _ _ (subscriptTail _ _ (Value.ref _) (Value.int _ _)) _ _ _); k_dflt (first
  | (refine' sub_SL ?l ?S ?N ?m ?a ?b ?z ?_ ?s ?g; (case N => k_asm); (case m => k_mem); (case S => with_reducible assumption); (case l => with_reducible assumption); (case a => ktr_units); (case b => ktr_units); (case z => ktr_units); (case s => with_unfolding_all rfl); (case g => (intro _; with_unfolding_all rfl)); k_whole; intro _ _ _ _)
  | (refine' sub_S ?S ?N ?m ?a ?b ?z ?_ ?s ?g; (case N => k_asm); (case m => k_mem); (case S => with_reducible assumption); (case a => ktr_units); (case b => ktr_units); (case z => ktr_units); (case s => with_unfolding_all rfl); (case g => (intro _; with_unfolding_all rfl)); k_whole; intro _ _ _)
  | (refine' sub_L ?N ?m ?a ?b ?z ?_ ?s ?g; (case N => k_asm); (case m => k_mem); (case a => ktr_units); (case b => ktr_units); (case z => ktr_units); (case s => with_unfolding_all rfl); (case g => (intro _; with_unfolding_all rfl)); k_whole; intro _ _))))
local macro_rules | `(tactic| walk_at "subscriptTail Attribute Name Constant ref int") => `(tactic| (k_here; (with_reducible show wpAny _ _ (subscriptTail _ _ (Value.ref _) (Value.int _ _)) _ _ _); k_dflt (first
  | (refine' sub_SL ?l ?S ?N ?m ?a ?b ?z ?_ ?s ?g; (case N => k_asm); (case m => k_mem); (case S => with_reducible assumption); (case l => with_reducible assumption); (case a => ktr_units); (case b => ktr_units); (case z => ktr_units); (case s => with_unfolding_all rfl); (case g => (intro _; with_unfolding_all rfl)); k_whole; intro _ _ _ _)
  | (refine' sub_S ?S ?N ?m ?a ?b ?z ?_ ?s ?g; (case N => k_asm); (case m => k_mem); (case S => with_reducible assumption); (case a => ktr_units); (case b => ktr_units); (case z => ktr_units); (case s => with_unfolding_all rfl); (case g => (intro _; with_unfolding_all rfl)); k_whole; intro _ _ _)
  | (refine' sub_L ?N ?m ?a ?b ?z ?_ ?s ?g; (case N => k_asm); (case m => k_mem); (case a => ktr_units); (case b => ktr_units); (case z => ktr_units); (case s => with_unfolding_all rfl); (case g => (intro _; with_unfolding_all rfl)); k_whole; intro _ _))))
local macro_rules | `(tactic| walk_at "subscriptTail") => `(tactic| (k_here; (with_reducible show wpAny _ _ (subscriptTail _ (PySem.Expr.Slice _ _ none _) (Value.ref _) (Value.ref _)) _ _ _); k_dflt (refine' slice_L ?F ?N ?m ?p ?q ?z ?_ ?s ?t; (case F => k_asm); (case N => k_asm); (case m => k_mem); (case p => kmk_part); (case q => kmk_part); (case z => ktr_units); (case s => with_unfolding_all rfl); (case t => (intro _; with_unfolding_all rfl)); k_whole); intro D' h' F' N' l1; (try k_lt l1); (try k_sweep)))
local macro_rules | `(tactic| walk_at "subscriptTail Name Slice ref ref") => `(tactic| (k_here; (with_reducible show wpAny _ _ (subscriptTail _ (PySem.Expr.Slice _ _ none _) (Value.ref _) (Value.ref _)) _ _ _); k_dflt (refine' slice_L ?F ?N ?m ?p ?q ?z ?_ ?s ?t; (case F => k_asm); (case N => k_asm); (case m => k_mem); (case p => kmk_part); (case q => kmk_part); (case z => ktr_units); (case s => with_unfolding_all rfl); (case t => (intro _; with_unfolding_all rfl)); k_whole); intro D' h' F' N' l1; (try k_lt l1); (try k_sweep)))
local macro_rules | `(tactic| walk_at "binaryOp Add ref ref") => `(tactic| (k_here; k_dflt (refine' cat_L ?F ?N ?m ?q ?z ?_; (case F => k_asm); (case N => k_asm); (case m => k_mem); (case q => k_mem); (case z => ktr_units); k_whole); intro D' h' F' N' l1; (try k_lt l1); (try k_sweep)))
local macro_rules | `(tactic| walk_at "call type:range") => `(tactic| (k_here; k_dflt (first
  | (refine' range1_L ?F ?N ?_; (case F => k_asm); (case N => k_asm); k_whole)
  | (refine' range2_L ?F ?N ?_; (case F => k_asm); (case N => k_asm); k_whole)); intro r' h' tk' t' u' v' F' N' l1; (try k_lt l1); (try k_sweep)))
local macro_rules | `(tactic| walk_at "compareOp Eq ref ref") => `(tactic| (k_here; k_dflt (refine' eq_SS ?a ?b ?N ?m ?q ?o ?p ?u ?_; (case N => k_asm); (case m => k_mem); (case q => k_mem); (case a => with_reducible assumption); (case b => with_reducible assumption); (case o => with_reducible assumption); (case p => with_reducible assumption); (case u => exact Nat.le_of_ble_eq_true rfl); k_whole)))
local macro_rules | `(tactic| walk_at "compareOp NotEq ref ref") => `(tactic| (k_here; k_dflt (refine' ne_SS ?a ?b ?N ?m ?q ?o ?p ?u ?_; (case N => k_asm); (case m => k_mem); (case q => k_mem); (case a => with_reducible assumption); (case b => with_reducible assumption); (case o => with_reducible assumption); (case p => with_reducible assumption); (case u => exact Nat.le_of_ble_eq_true rfl); k_whole)))
local macro_rules | `(tactic| walk_at "getMethod ref") => `(tactic| (k_here; (with_reducible show wpAny _ _ (getMethod (Value.ref _) (PySem.Str.ofString "__class__") _) _ _ _); k_dflt (refine' method_got ?F ?X ?I ?g ?f ?t ?n ?_; (case F => k_asm); (case X => k_asm); (case I => k_inst); (case g => k_is); (case f => k_is); (case t => exact fun M => Looks.of_pure KF.type_class); (case n => decide +kernel); k_whole)))
local macro_rules | `(tactic| walk_at "eval Name") => `(tactic| (k_here; (with_reducible show wpAny _ _ (eval (PySem.Expr.Name _ _) (compEnvC _ _ _ _)) _ _ _); k_dflt (first
  | (refine' nmC ?N ?m ?n ?v ?_ ?k ?x ?d; (case x => rfl); (case N => k_asm); (case m => k_mem); (case n => with_reducible assumption); (case v => first | with_reducible assumption | rfl); (case k => rfl); (case d => decide); k_whole)
  | (refine' nmCc ?N ?c ?m ?d ?_ ?k ?x ?b; (case x => rfl); (case c => rfl); (case N => k_asm); (case m => k_mem); (case d => k_asm); (case k => rfl); (case b => decide); k_whole))))
local macro_rules | `(tactic| walk_at "eval ListComp") => `(tactic| (k_here; refine halt ?_))
local macro_rules | `(tactic| walk_at "exec Assign cons ListComp") => `(tactic| (k_here; (with_reducible show wpAny _ _ (exec (PySem.Stmt.Assign [PySem.Expr.Name _ _] _ _) _) _ _ _); refine halt ?_))
local macro_rules | `(tactic| ktr_unf) => `(tactic| ((with_reducible apply comp_eval); (case hF => k_asm); (case hclos => with_unfolding_all rfl); (case hcell => decide); (case hkind => with_unfolding_all rfl); (case hnames => decide); (case hx => with_unfolding_all rfl); (case hs => intro _; with_unfolding_all rfl)))
local macro_rules | `(tactic| ktr_rel) => `(tactic| ((with_reducible apply comp_assign); (case hF => k_asm); (case hsw => with_unfolding_all rfl); (case hclos => with_unfolding_all rfl); (case hcell => decide); (case hkind => with_unfolding_all rfl); (case hnames => decide); (case hx => with_unfolding_all rfl); (case hs => intro _; with_unfolding_all rfl)))
local macro_rules | `(tactic| walk_at "exec While") => `(tactic| (k_here; refine halt ?_))
local macro_rules | `(tactic| walk_at "pyIter ref") => `(tactic| (k_here; refine halt ?_))
local macro_rules | `(tactic| k_lt $h:ident) => `(tactic| (have lAll := $h; replace $h := allLt_of $h; simp only [AllLt, and_true] at $h:ident))
local macro_rules | `(tactic| k_mem) => `(tactic| ((repeat (first | exact List.Mem.head _ | refine' List.Mem.tail _ ?_)); (all_goals first | assumption | exact List.mem_append_left _ (by assumption) | exact List.mem_append_right _ (by assumption))))
local macro_rules | `(tactic| k_all) => `(tactic| exact OwnOff.ne (by assumption) (by k_mem))
local macro_rules | `(tactic| k_ownIn) => `(tactic| ((repeat (first | exact List.forall_mem_nil _ | refine List.forall_mem_cons.mpr ⟨by k_mem, ?_⟩)); (all_goals (intro p hp; k_mem))))
local macro_rules | `(tactic| ktu_offL) => `(tactic| (repeat' (first | exact off_nil | exact nin_nil | refine off_cons ?_ ?_ | refine nin_cons (neN ?_) ?_)) <;> ((try dsimp only); omega))
local macro_rules | `(tactic| walk_at "setItem") => `(tactic| (k_here; k_dflt (refine' set_L ?F ?N ?a ?b ?z ?U ?_; (case F => k_asm); (case N => k_asm); (case a => ktr_units); (case b => ktr_units); (case z => ktr_units); (case U => k_upd); k_whole); intro h' F' N'))
local macro_rules | `(tactic| kst_all) => `(tactic| (repeat' (first | exact List.forall_mem_nil _ | refine List.forall_mem_cons.mpr ⟨ltN ?_, ?_⟩)) <;> ((try dsimp only); omega))
local macro_rules | `(tactic| ktr_enter) => `(tactic| (first
  | (k_dflt (refine' enter ?k1 ?k2 ?k6 ?k7 ?k8 ?k9 ?kB ?_ ?c2 ?c3 ?c4 ?c5)
     (case k1 => assumption)
     (case k2 => assumption)
     (case k6 => k_is)
     (case k7 => k_is)
     (case k8 => decide)
     (case k9 => first | exact fun s hs => BindsTo.of_eq rfl | exact fun s hs => binds_K hs rfl (by k_is) rfl rfl rfl)
     (case c5 => decide)
     (case kB => exact locs rfl)
     (case c2 => exact rfl)
     (case c3 => exact rfl)
     (case c4 => exact rfl)
     intro s' env' outer' g' L' h' F' N' B' X' T' lL'
     (try k_lt lL')
     (try dsimp only)
     (try k_lift B')
     (try k_fold))
  | (k_dflt (refine' enterC ?k1 ?k2 ?k6 ?k7 ?k8 ?k9 ?kB ?kD ?_ ?c2 ?c3 ?c4)
     (case k1 => assumption)
     (case k2 => assumption)
     (case k6 => k_is)
     (case k7 => k_is)
     (case k8 => decide)
     (case k9 => first | exact fun s hs => BindsTo.of_eq rfl | exact fun s hs => binds_K hs rfl (by k_is) rfl rfl rfl)
     (case kB => exact rfl)
     (case kD => decide +kernel)
     (case c2 => exact rfl)
     (case c3 => exact rfl)
     (case c4 => exact rfl)
     intro s' env' outer' g' L' h' tk' cells' F' N' Y' B' X' T' lL'
     (try k_lt lL')
     k_cells Y'
     (try simp only [List.cons_append, List.nil_append] at N')
     (try dsimp only)
     (try k_lift B')
     (try k_fold))))
example (w : World) : hd1.heap_39 w.params = hd1.heap_39 w.params ∧ PySem.Challenge.rw_ff0006_01 = PySem.Challenge.rw_ff0006_01 := by
  k_fill
  exact ⟨rfl, rfl⟩
theorem fr_hide {h₀ h : Heap} {L : Addr} {m : Str → Option Value} (l : List (Str × Value)) (F : Fr h₀ L h m) (hl : AllM m l) : ∃ m', AllM m' l ∧ Fr h₀ L h m' := ⟨m, hl, F⟩
theorem cell_of {o : Obj} {v v' : Option Value} (h : o.data = .cell v) (e : v = v') : o.data = .cell v' := e ▸ h
theorem len63 {vs : List Value} {ns : List Int} (h : IntsAre vs ns) (q : ¬ ((63 : Nat) : Int) < (ns.length : Int)) : ns.length ≤ 63 ∧ vs.length ≤ 63 := by
  have := h.length; omega
theorem sep_eq {own n n' : List (Addr × Obj)} (hs : ∀ p ∈ n, ∀ q ∈ own, p.1 ≠ q.1) (e : n'.map (·.1) = n.map (·.1)) : ∀ p ∈ n', ∀ q ∈ own, p.1 ≠ q.1 := fun p hp q hq => by
  have : p.1 ∈ n.map (·.1) := e ▸ List.mem_map_of_mem hp
  obtain ⟨p', hp', e'⟩ := List.mem_map.mp this
  rw [← e']; exact hs p' hp' q hq
theorem use_look {P : Prop} {K : Frag} {f : Addr} {name qual : Str} {params : Arguments} {body : List Stmt} {scope : Scope} {dV kV doc pm cdv ct oc : Value} {an od : Option Addr} {osl : Array (Option Value)}
    (h : K.lookup f = some ⟨oc, od, .func (fnOf name qual params body scope dV kV doc pm an cdv ct), osl⟩) (k : K.lookup f = some ⟨oc, od, .func (fnOf name qual params body scope dV kV doc pm an cdv ct), osl⟩ → P) : P := k h
theorem AllM_eta {m : Str → Option Value} : ∀ {l : List (Str × Value)}, AllM m l → AllM (fun z => ifs l m z) l := fun {l} h => by
  rw [show (fun z => ifs l m z) = m from funext (ifs_eq h.mem)]; exact h
theorem in_rows {ts : List Str} {x : Str} (h : ∀ y ∈ ts, y ∈ rowsL) (hx : x ∈ rowsL) : ∀ y ∈ ts ++ [x], y ∈ rowsL := fun y hy => by
  rcases List.mem_append.mp hy with hy | hy
  · exact h y hy
  · rw [List.mem_singleton.mp hy]; exact hx
local macro_rules | `(tactic| walk_at "call ref") => `(tactic| (k_here; (with_reducible first
  | show wpAny _ _ (call (Value.ref 354) _ _) _ _ _ | show wpAny _ _ (call (Value.ref 310) _ _) _ _ _ | show wpAny _ _ (call (Value.ref 299) _ _) _ _ _ | show wpAny _ _ (call (Value.ref 373) _ _) _ _ _
  | show wpAny _ _ (call (Value.ref 263) _ _) _ _ _ | show wpAny _ _ (call (Value.ref 380) _ _) _ _ _); refine halt ?_))
local macro_rules | `(tactic| walk_at "execs cons") => `(tactic| (k_here; (with_reducible show wpAny _ _ (execs (Stmt.Assign [Expr.Tuple [Expr.Name _ _, Expr.Name _ _, Expr.Name _ _] _ _] _ _ :: _) _) _ _ _); refine halt ?_))
local macro_rules | `(tactic| walk_at "exec Assign") => `(tactic| (k_here; (fail_if_success (with_reducible show wpAny _ _ _ (WExit _ _ _ _) _ _)); (with_reducible first
  | show wpAny _ _ (exec (PySem.Stmt.Assign [PySem.Expr.Name (PySem.Str.ofString "rows_hold") _] _ _) _) _ _ _
  | show wpAny _ _ (exec (PySem.Stmt.Assign [PySem.Expr.Name (PySem.Str.ofString "first_hold") _] _ _) _) _ _ _
  | show wpAny _ _ (exec (PySem.Stmt.Assign [PySem.Expr.Name (PySem.Str.ofString "held") _] _ _) _) _ _ _); refine halt ?_))
set_option maxHeartbeats 40000000 in
theorem law_walk : PySem.Challenge.rw_ff0006_01.Holds := by
  refine hd1 ?_
  w_strict (
    k_fill
    intro w s₀ s₁ mg mb G Y fa o pm cd doc dV kV ho hd hcd hD hmg hg args vals as hpre hlay hrd hwl hlo
    have KX := kIn_of Y
    have X := (Ground.X G).1
    have V := (Ground.X G).2
    try w_nolog (first | (have GL := glob_more (Ground.glob G (by first | k_qdec | decide +kernel) (by first | k_qdec | decide +kernel)) V) | (have GL := glob_more (Ground.glob G (by decide +kernel)) V))
    refine Ground.open G ?_
    intro T B D TE TW
    try (refine guard_noD D (by decide +kernel) ?_; clear D)
    obtain ⟨Mo, oM, M⟩ := bmod_of_top T
    have bs : Bs w s₀ mg mb s₁.heap := ⟨KX, X, GL, T, B, TE, TW, Mo, oM, M⟩
    have TA := at_of_top T
    try (obtain ⟨_, _, he, B0⟩ := based_of_top T rfl hmg ho hd; have he' : cd = _ := he; subst he'; clear he)
    clear hmg
    wrow_args hpre hlay hrd hwl hlo
    all_goals (
      first | refine callC_kw (enter_call ?_) | refine enter_call ?_ | refine callC_kw (enter_callW ?_) | refine enter_callW ?_ | w_how
      w_top on
      have K0 := below_caller (Top.heap T)
      w_call any ho hd hcd hD T F
      clear hd TA
      k_drop
      skip))
  rename IntsAre _ _ => hv
  rename Heap.IsList _ _ _ => hsc
  have hlen := len63 hv (by assumption)
  rename Obj.data _ = Data.cell _ => q1
  have d1 := cell_of (v' := none) q1 rfl
  clear q1
  revert d1
  rename Obj.data _ = Data.cell _ => q2
  have d2 := cell_of (v' := none) q2 rfl
  clear q2
  revert d2
  rename Obj.data _ = Data.cell _ => q3
  have d3 := cell_of (v' := none) q3 rfl
  clear q3
  intro d2 d1
  obtain ⟨m0, hm0, F1⟩ := fr_hide [(Str.ofString "script", .ref _)] F ⟨rfl, trivial⟩
  clear F
  replace F1 := fr_eta _ F1 hm0.mem
  simp only [ifs] at F1
  rename CellsAre _ _ _ => X0
  clear X0
  rename_i c3 c2 c1 _
  all_goals try k_fold
  k_steps
  rename_i D1 ws1 h2 hI1 hC1 hL1 la1 lb1 S1 h3 la2 lb2 h4 o1 F1' N1' e1
  clear la1 la2
  refine Halt.mk ?_
  have hws : ws1.length ≤ 63 := by have := hI1.length; omega
  generalize hL0 : s₁.heap.objs.size = L0 at *
  refine join_X (fun m₁ n₁ => ∃ (T nT : Nat) (us : List Value) (ts : List Str) (i : Int) (ti : Tok), n₁ = [(T, W.listOf us.toArray nT), (S1, W.listOf #[.ref D1, .int i ti] 0), (D1, W.listOf ws1.toArray 0), (L0 + 1 + 1 + 1, c3), (L0 + 1 + 1, c2), (L0 + 1, o1)] ∧
    StrsAre us ts ∧ (∀ y ∈ ts, y ∈ rowsL) ∧ 1 ≤ us.length ∧ us.length ≤ 8 ∧ 0 ≤ i ∧ i ≤ 10 ∧ @LT.lt Nat _ S1 T ∧ AllM m₁ [(Str.ofString "texts", .ref T)]) (by k_asm) ?_ ?_
  · --BEGIN
    ktr_rel
    k_steps
    refine Halt.mk ?_
    refine Spec.use (next_spec bs S1 D1 _ _ hI1 (by rw [← hI1.length]; omega) 0 _ _ 8 (by omega) (by omega) (Nat.ne_of_gt (by omega)) _ _) (by k_asm) (by k_asm) (by k_asm) rfl rfl (Nat.le_of_ble_eq_true rfl) (Nat.le_of_ble_eq_true rfl) (by k_ownIn) (rest := [(L0 + 1 + 1 + 1, c3), (L0 + 1 + 1, c2), (L0 + 1, o1)]) (by k_ownIn) (by ktu_offL) ?_
    rintro r led h5 tk5 ⟨x, tx, ti, rfl, hx0, hx8, rfl⟩ F5 N5 -
    simp only [List.cons_append, List.nil_append] at N5
    k_steps
    refine Halt.mk ?_
    refine compAt_range (news := [(S1, W.listOf #[.ref D1, .int (0 + 1) ti] 0), (D1, W.listOf ws1.toArray 0), (L0 + 1 + 1 + 1, c3), (L0 + 1 + 1, c2), (L0 + 1, o1)]) (x + 1).toNat
      (fun i ys n => ∃ ti ts', n = [(S1, W.listOf #[.ref D1, .int (1 + i) ti] 0), (D1, W.listOf ws1.toArray 0), (L0 + 1 + 1 + 1, c3), (L0 + 1 + 1, c2), (L0 + 1, o1)] ∧ StrsAre ys ts' ∧ (∀ y ∈ ts', y ∈ rowsL) ∧ ys.length = i)
      rfl (by k_asm) (by k_asm) (.head _) (fun p hp => .tail _ hp) (by omega) (by omega) (by omega) (by omega) ⟨ti, [], rfl, .nil, (fun _ h => nomatch h), rfl⟩ ?_ ?_
    · rintro i tv ys news₁ s₃ own C oC mc ⟨h₁, tk₁, rfl⟩ hi ⟨ti', ts', rfl, hT, hTr, hTl⟩ hys F₁ N₁ hs1 hC hn hx
      dsimp only [CTurn]
      simp only [List.cons_append, List.nil_append] at N₁
      k_steps
      refine Halt.mk ?_
      refine Spec.use (next_spec bs S1 D1 _ _ hI1 (by rw [← hI1.length]; omega) (1 + i) _ _ 8 (by omega) (by omega) (Nat.ne_of_gt (by omega)) _ _) (by k_asm) (by k_asm) (by k_asm) rfl rfl (Nat.le_of_ble_eq_true rfl) (Nat.le_of_ble_eq_true rfl) (by k_ownIn) (rest := (L0 + 1 + 1 + 1, c3) :: (L0 + 1 + 1, c2) :: (L0 + 1, o1) :: own) (by k_ownIn) (off_cons (by ktu_offL) (off_cons (by ktu_offL) (off_cons (by ktu_offL) (off_sub hs1 (by k_ownIn))))) ?_
      rintro r led h6 tk6 ⟨y, ty, ti2, rfl, hy0, hy8, rfl⟩ F6 N6 -
      simp only [List.cons_append, List.nil_append] at N6
      k_steps
      all_goals rename _ = _ => hPk
      all_goals rw [show (1 : Int) + (i : Int) + 1 = 1 + ((i + 1 : Nat) : Int) by omega] at N6
      all_goals first | (exact absurd hPk (by decide)) | refine CStep.mk (news' := [(S1, W.listOf #[.ref D1, .int (1 + ((i + 1 : Nat) : Int)) ti2] 0), (D1, W.listOf ws1.toArray 0), (L0 + 1 + 1 + 1, c3), (L0 + 1 + 1, c2), (L0 + 1, o1)]) (by k_asm) N6 (sep_eq hs1 rfl) ⟨_, ts' ++ [_], rfl, hT.append' (.cons _ _ .nil), in_rows hTr (by decide), (by rw [List.length_append, hTl]; rfl)⟩
    · rintro D C h' tk ys nD oC mc news' N' hn F' hs1 hs2 hs3 ⟨ti', ts', rfl, hT, hTr, hTl⟩ hl'
      k_lt hs3
      dsimp only [FinA]
      k_steps
      refine AfterA.mk hn (by k_asm) (by k_asm) hs1 ?_
      intro h6 F6 N6
      refine' WExit.mk F6 (news_sub N6 ?zw0) ⟨D, _, ys, ts', _, _, rfl, hT, hTr, ?_, ?_, ?_, ?_, ?_, rfl, trivial⟩
      (case zw0 => k_ownIn)
      all_goals omega
    --END
  rintro h6 tk6 m6 n6 F6 N6 ⟨T6, nT, us, ts, i6, ti6, rfl, hT, hTr, hu1, hu8, hi0, hi10, hST, q6⟩
  try clear F1' N1'
  replace F6 := fr_eta _ F6 q6.mem
  clear q6
  simp only [ifs] at F6
  k_steps
  refine Halt.mk ?_
  refine Spec.use (next_spec bs S1 D1 _ _ hI1 (by rw [← hI1.length]; omega) i6 _ _ us.length (by omega) (by omega) (Nat.ne_of_gt (by omega)) _ _) (by k_asm) (by k_asm) (by k_asm) rfl rfl (Nat.le_of_ble_eq_true rfl) (Nat.le_of_ble_eq_true rfl) (by k_ownIn) (rest := [(T6, W.listOf us.toArray nT), (L0 + 1 + 1 + 1, c3), (L0 + 1 + 1, c2), (L0 + 1, o1)]) (by k_ownIn) (by ktu_offL) ?_
  rintro r led h7 tk7 ⟨x7, tx7, ti7, rfl, hx70, hx71, rfl⟩ F7 N7 -
  simp only [List.cons_append, List.nil_append] at N7
  obtain ⟨b, rfl⟩ := Int.eq_ofNat_of_zero_le hx70
  clear hx70
  k_steps
  refine Halt.mk ?_
  rename_i oB F7' N7' dB
  refine Spec.use (next_spec bs S1 D1 _ _ hI1 (by rw [← hI1.length]; omega) (i6 + 1) _ _ 2 (by omega) (by omega) (Nat.ne_of_gt (by omega)) _ _) (by k_asm) (by k_asm) (by k_asm) rfl rfl (Nat.le_of_ble_eq_true rfl) (Nat.le_of_ble_eq_true rfl) (by k_ownIn) (rest := [(T6, W.listOf us.toArray nT), (L0 + 1 + 1 + 1, c3), (L0 + 1 + 1, oB), (L0 + 1, o1)]) (by k_ownIn) (by ktu_offL) ?_
  rintro r led h8 tk8 ⟨x8, tx8, ti8, rfl, hx80, hx81, rfl⟩ F8 N8 -
  simp only [List.cons_append, List.nil_append] at N8
  k_steps
  refine Halt.mk ?_
  refine Spec.use (next_spec bs S1 D1 _ _ hI1 (by rw [← hI1.length]; omega) (i6 + 1 + 1) _ _ 3 (by omega) (by omega) (Nat.ne_of_gt (by omega)) _ _) (by k_asm) (by k_asm) (by k_asm) rfl rfl (Nat.le_of_ble_eq_true rfl) (Nat.le_of_ble_eq_true rfl) (by k_ownIn) (rest := [(T6, W.listOf us.toArray nT), (L0 + 1 + 1 + 1, c3), (L0 + 1 + 1, oB), (L0 + 1, o1)]) (by k_ownIn) (by ktu_offL) ?_
  rintro r led h9 tk9 ⟨x9, tx9, ti9, rfl, hx90, hx91, rfl⟩ F9 N9 -
  simp only [List.cons_append, List.nil_append] at N9
  k_steps
  refine Halt.mk ?_
  refine join_X (fun m₁ n₁ => ∃ (u st : Bool) (bi : Option Int) (tbi ti : Tok), n₁ = [(S1, W.listOf #[.ref D1, .int (i6 + 1 + 1 + 1 + 1) ti] 0), (D1, W.listOf ws1.toArray 0), (T6, W.listOf us.toArray nT), (L0 + 1 + 1 + 1, c3), (L0 + 1 + 1, oB), (L0 + 1, o1)] ∧ (∀ i ∈ bi, 0 ≤ i ∧ i ≤ 3) ∧
    AllM m₁ [(Str.ofString "texts", .ref T6), (Str.ofString "until", .bool u), (Str.ofString "strip", .bool st), (Str.ofString "rows_hold", vO bi tbi)]) (by k_asm) ?_ ?_
  · --BEGIN
    k_steps
    refine Halt.mk ?_
    rename_i l' _ _ _ _ _
    refine Spec.use (next_spec bs S1 D1 _ _ hI1 (by rw [← hI1.length]; omega) (i6 + 1 + 1 + 1) _ _ 6 (by omega) (by omega) (Nat.ne_of_gt (by omega)) _ _) (by k_asm) (by k_asm) (by k_asm) rfl rfl (Nat.le_of_ble_eq_true rfl) (Nat.le_of_ble_eq_true rfl) (by k_ownIn) (rest := [(l', W.listOf #[.none, .none, .int 0 _, .int 1 _, .int 2 _, .int 3 _] 0), (T6, W.listOf us.toArray nT), (L0 + 1 + 1 + 1, c3), (L0 + 1 + 1, oB), (L0 + 1, o1)]) (by k_ownIn) (by ktu_offL) ?_
    rintro r led h10 tk10 ⟨y, ty, ti2, rfl, hy0, hy8, rfl⟩ F10 N10 -
    simp only [List.cons_append, List.nil_append] at N10
    k_steps
    all_goals first
      | (refine' WExit.mk (by k_asm) (news_sub (by k_asm) ?_) ⟨_, _, none, 0, _, rfl, (fun _ h => nomatch h), rfl, rfl, rfl, rfl, trivial⟩; k_ownIn)
      | (refine' WExit.mk (by k_asm) (news_sub (by k_asm) ?_) ⟨_, _, some _, _, _, rfl, ?_, rfl, rfl, rfl, rfl, trivial⟩; (· k_ownIn); (· (intro i h; cases h; omega)))
    --END
  rintro h10 tk10 m10 n10 F10 N10 ⟨u, st, bi, tbi, ti10, rfl, hbi, q10⟩
  replace F10 := fr_eta _ F10 q10.mem
  clear q10
  simp only [ifs] at F10
  k_steps
  refine Halt.mk ?_
  refine join_X (fun m₁ n₁ => ∃ (fi : Option Int) (tfi ti : Tok), n₁ = [(S1, W.listOf #[.ref D1, .int (i6 + 1 + 1 + 1 + 1 + 1) ti] 0), (D1, W.listOf ws1.toArray 0), (T6, W.listOf us.toArray nT), (L0 + 1 + 1 + 1, c3), (L0 + 1 + 1, oB), (L0 + 1, o1)] ∧ (∀ i ∈ fi, 0 ≤ i ∧ i ≤ 4) ∧
    AllM m₁ [(Str.ofString "texts", .ref T6), (Str.ofString "until", .bool u), (Str.ofString "strip", .bool st), (Str.ofString "rows_hold", vO bi tbi), (Str.ofString "first_hold", vO fi tfi)]) (by k_asm) ?_ ?_
  · --BEGIN
    k_steps
    refine Halt.mk ?_
    rename_i l' _ _ _ _ _
    refine Spec.use (next_spec bs S1 D1 _ _ hI1 (by rw [← hI1.length]; omega) (i6 + 1 + 1 + 1 + 1) _ _ 6 (by omega) (by omega) (Nat.ne_of_gt (by omega)) _ _) (by k_asm) (by k_asm) (by k_asm) rfl rfl (Nat.le_of_ble_eq_true rfl) (Nat.le_of_ble_eq_true rfl) (by k_ownIn) (rest := [(l', W.listOf #[.none, .none, .int 0 _, .int 1 _, .int 2 _, .int 4 _] 0), (T6, W.listOf us.toArray nT), (L0 + 1 + 1 + 1, c3), (L0 + 1 + 1, oB), (L0 + 1, o1)]) (by k_ownIn) (by ktu_offL) ?_
    rintro r led h10 tk10 ⟨y, ty, ti2, rfl, hy0, hy8, rfl⟩ F10 N10 -
    simp only [List.cons_append, List.nil_append] at N10
    k_steps
    all_goals first
      | (refine' WExit.mk (by k_asm) (news_sub (by k_asm) ?_) ⟨none, 0, _, rfl, (fun _ h => nomatch h), rfl, rfl, rfl, rfl, rfl, trivial⟩; k_ownIn)
      | (refine' WExit.mk (by k_asm) (news_sub (by k_asm) ?_) ⟨some _, _, _, rfl, ?_, rfl, rfl, rfl, rfl, rfl, trivial⟩; (· k_ownIn); (· (intro i h; cases h; omega)))
    --END
  rintro h11 tk11 m11 n11 F11 N11 ⟨fi, tfi, ti11, rfl, hfi, q11⟩
  replace F11 := fr_eta _ F11 q11.mem
  clear q11
  simp only [ifs] at F11
  k_steps
  refine Halt.mk ?_
  have hT63 : us.length ≤ 63 := by omega
  refine join_X (fun m₁ n₁ => ∃ (x dx D I n1 n2 : Nat) (ys : List Value) (tups : List (Addr × Obj)) (t1 t2 t3 t4 : Tok), n₁ = [(x, instObj 310 dx), (dx, vl w D I .none .none t1 t2 t3 t4), (D, W.listOf us.toArray n1), (I, W.listOf ys.toArray n2), (T6, W.listOf us.toArray nT), (L0 + 1 + 1 + 1, c3), (L0 + 1 + 1, oB), (L0 + 1, o1)] ++ tups ∧
    It2 tups ys (txs us.length) ∧ OwnOff tups [x, dx, D, I, T6, L0 + 1 + 1 + 1, L0 + 1 + 1, L0 + 1] ∧ T6 < dx ∧ dx < x ∧ x < D ∧ x < I ∧ D ≠ I ∧ 
    AllM m₁ [(Str.ofString "texts", .ref T6), (Str.ofString "until", .bool u), (Str.ofString "strip", .bool st), (Str.ofString "rows_hold", vO bi tbi), (Str.ofString "first_hold", vO fi tfi), (Str.ofString "held", .ref x)]) (by k_asm) ?_ ?_
  · --BEGIN
    k_steps
    refine Halt.mk ?_
    rename_i l' cl' _ _ _ _ lt1
    refine Spec.cls (D := 800) (fI := 34) (post := fun x dx r led => r = .none ∧ ∃ (D I n1 n2 : Nat) (ys : List Value) (tups : List (Addr × Obj)) (t1 t2 t3 t4 : Tok), It2 tups ys (txs us.length) ∧ OwnOff tups [x, dx, D, I, l'] ∧ x < D ∧ x < I ∧ (D ≠ I) ∧
        led = (x, instObj 310 dx) :: (dx, vl w D I .none .none t1 t2 t3 t4) :: (D, W.listOf us.toArray n1) :: (I, W.listOf ys.toArray n2) :: (l', W.listOf us.toArray cl') :: tups)
      (fun x dx q1 q2 => ?_) bs.KX (by k_is) (by k_is) (by k_is) (by k_asm) (by k_asm) (by k_asm) rfl rfl (Nat.le_of_ble_eq_true rfl) (Nat.le_of_ble_eq_true rfl)
      (pre := [(l', W.listOf us.toArray cl')]) (by k_ownIn) (rest := [(T6, W.listOf us.toArray nT), (L0 + 1 + 1 + 1, c3), (L0 + 1 + 1, oB), (L0 + 1, o1)]) (by k_ownIn) (by ktu_offL) ?_
    · exact init_spec bs x dx l' us ts hT hT63 cl' _ (q1 (l', W.listOf us.toArray cl') (by k_mem)) q2
    rintro x dx r led h12 tk12 hl1 hl2 ⟨rfl, D, I, n1, n2, ys, tups, t1, t2, t3, t4, hI2, hO2, hxD, hxI, hDI, rfl⟩ F12 N12 hfr
    refine ⟨rfl, ?_⟩
    have hT6d : T6 < dx := hl1 (T6, W.listOf us.toArray nT) (by k_mem)
    have hq : ∀ q ∈ tups, ∀ a o, (a, o) ∈ [(T6, W.listOf us.toArray nT), (L0 + 1 + 1 + 1, c3), (L0 + 1 + 1, oB), (L0 + 1, o1)] → q.1 ≠ a := by
      intro q hq a o ha e
      have hk := hfr q (by k_mem)
      have h1 := hO2 q hq
      rcases hk with h | h | h | h
      · exact h1 x (by k_mem) h
      · exact h1 dx (by k_mem) h
      · exact h1 l' (by k_mem) (List.mem_singleton.mp h)
      · exact h (a, o) (by rcases List.mem_cons.mp ha with h | h
                           · rw [h]; k_mem
                           · exact .tail _ (.tail _ (.tail _ (.tail _ h)))) e.symm
    have hO3 : OwnOff tups [x, dx, D, I, T6, L0 + 1 + 1 + 1, L0 + 1 + 1, L0 + 1] := fun q hq' c hc => by
      rcases List.mem_cons.mp hc with rfl | hc
      · exact hO2 q hq' _ (by k_mem)
      rcases List.mem_cons.mp hc with rfl | hc
      · exact hO2 q hq' _ (by k_mem)
      rcases List.mem_cons.mp hc with rfl | hc
      · exact hO2 q hq' _ (by k_mem)
      rcases List.mem_cons.mp hc with rfl | hc
      · exact hO2 q hq' _ (by k_mem)
      rcases List.mem_cons.mp hc with rfl | hc
      · exact hq q hq' _ _ (.head _)
      rcases List.mem_cons.mp hc with rfl | hc
      · exact hq q hq' _ _ (.tail _ (.head _))
      rcases List.mem_cons.mp hc with rfl | hc
      · exact hq q hq' _ _ (.tail _ (.tail _ (.head _)))
      rcases List.mem_cons.mp hc with rfl | hc
      · exact hq q hq' _ _ (.tail _ (.tail _ (.tail _ (.head _))))
      · cases hc
    replace N12 := news_tail (a := [(x, instObj 310 dx), (dx, vl w D I .none .none t1 t2 t3 t4), (D, W.listOf us.toArray n1), (I, W.listOf ys.toArray n2), (l', W.listOf us.toArray cl')]) (t := tups) (r := [(T6, W.listOf us.toArray nT), (L0 + 1 + 1 + 1, c3), (L0 + 1 + 1, oB), (L0 + 1, o1)]) N12
    simp only [List.cons_append, List.nil_append] at N12
    k_steps
    refine' WExit.mk (by k_asm) (news_sub (by k_asm) ?_) ⟨x, dx, D, I, n1, n2, ys, tups, t1, t2, t3, t4, rfl, hI2, hO3, hT6d, hl2, hxD, hxI, hDI, rfl, rfl, rfl, rfl, rfl, rfl, trivial⟩
    (try simp only [List.cons_append, List.nil_append])
    k_ownIn
    --END
  rintro h12 tk12 m12 n12 F12 N12 ⟨x, dx, D, I, n1, n2, ys, tups, t1, t2, t3, t4, rfl, hI2, hO2, hTd, hdx, hxD, hxI, hDI, q12⟩
  have q13 := q12
  replace F12 := fr_eta _ F12 q12.mem
  clear q12
  have q14 := AllM_eta (m := m12) q13
  simp only [ifs] at F12
  simp only [List.cons_append, List.nil_append] at N12
  k_steps
  refine Halt.mk ?_
  k_dflt (refine' use_look (K := hd1.heap_39 w.params) (f := 385) ?hl ?_)
  (case hl => k_is)
  intro hlook
  refine wpAny_mono (law_tail (oc' := Value.none) bs K0 hlook L0 fa _ _ _ ?hgg x dx D I n1 n2 T6 nT b us ys ts tups t1 t2 t3 t4 tx7 tbi tfi c3 oB o1 st u bi fi (by assumption) dB hT hTr hu1 hu8 (by omega) hbi hfi hI2 hO2 hTd ?hlt hdx hxD hxI hDI F12 N12 q14 ?hqq) (fun _ _ h => h) (fun _ _ h => h.elim)
  · show AllBare s₁.gens
    exact AllBare.of_eq hg
  · omega
  · intro h' tk' gens' m' hb' F'
    refine ⟨.inl ⟨.bool true, .bool true, [], rfl, raisesW_false (by wrow_none_raised), ?_, ?_, fun _ => ⟨List.nodup_nil, fun _ h => nomatch h⟩⟩, .of_keep F'.keep, rfl, hb'⟩
    · first | exact .bool _ | constructor
    · first | rfl | decide | kernel_rfl

end
end Mine
theorem PySem.Challenge.cw_ff0006_01_holds : PySem.Challenge.rw_ff0006_01.Holds :=
  Mine.law_walk
