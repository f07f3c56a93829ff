import PyProof.Rows.All
import Wide.All
import OpenK.AllK
import Wide.FinOn
import PySem.Challenge.RW_oy0042_01
set_option Elab.async false
open PySem PySem.W PyProof.Rows PySem.Calls
namespace Mine

section
noncomputable def pick (ks : List Nat) (l : List Stmt) : List Stmt := ks.filterMap fun k => l[k]?
set_option maxRecDepth 100000 in
noncomputable def viewS : { b : List Stmt // b = pick [0,2,3,4,5,6,7,8,9,10,12,13,14,16,18,21,23,24,25,26,27,29,30,31,32,33,34,35] PySem.Challenge.pw_oy0042_01.main.body } :=
  ⟨_, by dsimp only [pick, PySem.Challenge.pw_oy0042_01, List.filterMap, List.getElem?_cons_succ, List.getElem?_cons_zero]⟩
noncomputable def view : Program := { PySem.Challenge.pw_oy0042_01 with main := { PySem.Challenge.pw_oy0042_01.main with body := viewS.1 } }
noncomputable abbrev RW0 : RowW := OpenRow.toRowW (OpenLaw.row PySem.Challenge.rw_oy0042_01)
abbrev loose0 : List Str := [Str.ofString "b2a_base64", Str.ofString "_NO_SEP", Str.ofString "b2a_hex", Str.ofString "hexlify", Str.ofString "b64encode"]
local macro_rules | `(tactic| o_head $H) => `(tactic| (
  refine holds_open (q := view) (loose := loose0) (Xt := fun s => xlAt view [] s && recOk (RowW.records RW0) s) (XP := XL view []) (Yf := Hook.obs $H) (Ya := Hook.val $H) (YP := Hook.says $H) (N := 2010) ?hl (Hook.of $H) (Hook.keeps $H) (fun s e => xl_of s (Bool.and_eq_true_iff.mp e).1) XL.keeps (by rfl) (by rfl) (by rfl) (fun s e => recFacts_of (Bool.and_eq_true_iff.mp e).2) (by rfl) (by first | assumption | decide +kernel) (by decide +kernel) ⟨rfl, rfl, rfl, rfl, rfl, by decide +kernel⟩ ?hw ?hc
  (case hl => intro w; kernel_rfl)))
set_option maxRecDepth 100000 in
set_option maxHeartbeats 8000000 in
open_top hd for PySem.Challenge.rw_oy0042_01

end

section
set_option maxRecDepth 100000

noncomputable abbrev PG : Program := RowW.prog (OpenRow.toRowW (OpenLaw.row PySem.Challenge.rw_oy0042_01))

/-- all of h stays in h' but what lies at the addresses mod -/
noncomputable def Keeps (mod : List Addr) (h h' : Heap) : Prop := ∀ b o, h.get? b = some o → b ∉ mod → h'.get? b = some o

/-- where a call is made: the frames below, the caller's frame, the text's own objects, the top's facts -/
structure Spot (w : World) (mean : ExcName → Option Value) (mg mb : Str → Option Value) (A : Around) (A₀ : Around) (base : Heap) (outer : List Env) (env : Env) (h₀ : Heap) (L : Addr) (m : Str → Option Value) (h : Heap) : Prop where
  B : Below A₀ base outer h₀
  F : Fr h₀ L h m
  X : (hd.heap_39 w.params).In h₀
  T : Top view (looseW view loose0) mean mg mb h₀
  fr : A.frames = some (env :: outer)
  ef : env.frame = some L
  ek : env.scope.kind = .function
  hd : A.handled = none

noncomputable def Does (w : World) (A : Around) (f : Addr) (args : List Value) (kw : List (Str × Value)) (mod : List Addr) (s : Shared) (Post : Value → Heap → Prop) : Prop :=
  ∀ (Q E : Value → Shared → Prop), (∀ v h' tk', Keeps mod s.heap h' → Post v h' → Q v { s with heap := h', toks := tk' }) → wpAny (model PG w) A (call (.ref f) args kw) Q E s

noncomputable def Out (s : Shared) (g : Heap) (Post : Value → Heap → Prop) (v : Value) (s' : Shared) : Prop :=
  ∃ h' tk', s' = { s with heap := h', toks := tk' } ∧ (∀ b o, g.get? b = some o → h'.get? b = some o) ∧ Post v h'

/-- A with the depth and the units raised to written numbers -/
abbrev AA (dp un : Nat) (gd : Option (List Code)) (env : Env) (outer : List Env) : Around := { handled := none, depth := dp, frames := some (env :: outer), guards := gd, units := un }

theorem wpAny_raise {α : Type} {M : Model} {A A' : Around} {t : Sem α} {Q : α → Shared → Prop} {E : Value → Shared → Prop} {s : Shared} (h : wpAny M A' t Q E s)
    (h1 : A.handled = A'.handled) (h2 : A.depth ≤ A'.depth) (h3 : A.frames = A'.frames) (h4 : A.guards = A'.guards) (h5 : A.units ≤ A'.units) : wpAny M A t Q E s :=
  fun Γ p hΓ => h Γ p ⟨hΓ.1.trans h1, Nat.le_trans hΓ.2.1 h2, fun l hl => hΓ.2.2.1 l (h3.trans hl), fun g hg => hΓ.2.2.2.1 g (h4.trans hg), Nat.le_trans hΓ.2.2.2.2 h5⟩

section
variable {w : World} {mean : ExcName → Option Value} {mg mb : Str → Option Value} {A A₀ : Around} {base h₀ : Heap} {outer : List Env} {env : Env} {L : Addr} {m : Str → Option Value} {s : Shared}
  {name qual : Str} {params : Arguments} {body : List Stmt} {scope : Scope} {dV kV doc pm cdv ct oc : Value} {an od : Option Addr} {osl : Array (Option Value)} {f : Addr} {args : List Value} {kw : List (Str × Value)} {binds : List (Str × Value)}

theorem does_of (dp un : Nat) (S : Spot w mean mg mb A A₀ base outer env h₀ L m s.heap) (hdp : A.depth ≤ dp) (hun : A.units ≤ un) (hroom : dp < recursionLimit)
    (own : List (Addr × Obj)) (N : News h₀ L s.heap own) (Post : Value → Heap → Prop)
    (ho : (hd.heap_39 w.params).lookup f = some ⟨oc, od, .func (fnOf name qual params body scope dV kV doc pm an cdv ct), osl⟩) (hcd : codeIn (hd.heap_39 w.params) cdv qual = true)
    (hbind : BindsTo s (fnOf name qual params body scope dV kV doc pm an cdv ct) ⟨args, kw⟩ binds) (hloc : ∀ y ∈ binds, scope.names.lookup y.1 = some .local)
    (hco : scope.isCoroutine = false) (hgen : scope.isGenerator = false) (hk : scope.kind = .function) (hcell : ∀ x ∈ scope.names, x.2 ≠ .cell)
    (h : ∀ g L' h₁, Fr g L' h₁ (fun y => binds.reverse.lookup y) → News g L' h₁ own → Below (AA dp un A.guards env outer) base (env :: outer) g → (hd.heap_39 w.params).In g → Top view (looseW view loose0) mean mg mb g →
      (∀ b o, s.heap.get? b = some o → b ∉ own.map (·.1) → g.get? b = some o) → (∀ p ∈ own, p.1 < L') → (∀ b, g.get? b = none → b ∉ own.map (·.1) → s.heap.get? b = none) →
      wpAny (model PG w) ((AA dp un A.guards env outer).deeper (envOf qual scope L' f cdv)) (execs body (envOf qual scope L' f cdv))
        (fun fl s' => Out s g Post (match fl with | .ret v => v | _ => .none) s') (fun _ _ => False)
        { s with heap := h₁, toks := s.toks + binds.length }) :
    Does w A f args kw (own.map (·.1)) s Post := by
  intro Q E hQ
  refine wpAny_raise (A' := AA dp un A.guards env outer) ?_ S.hd hdp S.fr rfl hun
  refine wpAny_call ?_
  obtain ⟨FG, BG, st, lv⟩ := groundX (A := AA dp un A.guards env outer) (R := fun r s' => match r with | .ok (.ret v) => Q v s' | .ok _ => False | .error e => E e s') S.B S.F N rfl S.ef S.ek
  have X := S.X.keeps S.F.keep
  refine codeAny_call_def (fd := fnOf name qual params body scope dV kV doc pm an cdv ct) (body := body) (binds := binds) hroom (X _ _ ho) rfl (S.T.nolimit.keeps S.F.keep) (codeRec_of X hcd) rfl hbind hcell hloc (fun h₁ hns hk₁ => ?_) hco hgen hk
  have hg : ∀ b o, s.heap.get? b = some o → b ∉ own.map (·.1) → (hideAll s.heap (own.map (·.1))).get? b = some o := fun b o e n => hideAll_get _ e n
  refine wpAny_mono (h _ s.heap.objs.size h₁ ⟨hns, fun b o e => hk₁ b o (of_hideAll _ e), Nat.le_of_eq (hideAll_size _ _)⟩
    (fun p hp => ⟨hk₁ _ _ (N p hp).1, Nat.ne_of_lt (Heap.lt_size (N p hp).1), hideAll_none _ (List.mem_map_of_mem hp)⟩) BG (S.X.keeps st) (S.T.keeps st) hg (fun p hp => Heap.lt_size (N p hp).1) ?_) (fun fl s' hl => ?_) fun _ _ y => y.elim
  · intro b e n
    cases q : s.heap.get? b with
    | none => rfl
    | some o => rw [hg b o q n] at e; cases e
  · obtain ⟨h', tk', rfl, hkp, hp⟩ := hl
    exact hQ _ _ _ (fun b o e n => hkp b o (hg b o e n)) hp
end

end

section
set_option maxRecDepth 100000
theorem Keeps.fr {mod : List Addr} {h₀ h h' : Heap} {L : Addr} {m : Str → Option Value} (hk : Keeps mod h h') (F : Fr h₀ L h m) (hL : L ∉ mod) (h0 : ∀ a ∈ mod, h₀.get? a = none) : Fr h₀ L h' m := by
  obtain ⟨oL, es, ep, hL', r⟩ := F.ns
  refine ⟨⟨oL, es, ep, hk _ _ hL' hL, r⟩, fun b o e => hk b o (F.keep b o e) fun q => ?_, F.above⟩
  rw [h0 b q] at e; cases e
theorem Keeps.news {mod : List Addr} {h₀ h h' : Heap} {L : Addr} {news news' : List (Addr × Obj)} (hk : Keeps mod h h') (N : News h₀ L h news) (hs : ∀ p ∈ news', p ∈ news ∧ p.1 ∉ mod) : News h₀ L h' news' :=
  fun p hp => ⟨hk _ _ (N p (hs p hp).1).1 (hs p hp).2, (N p (hs p hp).1).2⟩
theorem Keeps.put {h₀ h h' : Heap} {L a : Addr} {o o' : Obj} {news rest : List (Addr × Obj)} (hk : Keeps [a] h h') (N : News h₀ L h news) (ho : (a, o) ∈ news) (ho' : h'.get? a = some o') (hs : ∀ p ∈ rest, p ∈ news ∧ p.1 ≠ a) :
    News h₀ L h' ((a, o') :: rest) := fun p hp => by
  rcases List.mem_cons.mp hp with rfl | hp
  · exact ⟨ho', (N _ ho).2⟩
  · exact hk.news N (fun q hq => ⟨(hs q hq).1, fun e => (hs q hq).2 (List.mem_singleton.mp e)⟩) p hp
theorem Keeps.put1 {h₀ h h' : Heap} {L a : Addr} {o o' : Obj} (hk : Keeps [a] h h') (N : News h₀ L h [(a, o)]) (ho' : h'.get? a = some o') : News h₀ L h' [(a, o')] :=
  hk.put N (.head _) ho' fun _ hp => nomatch hp
/-- the callee changes the one object of the ledger -/
theorem use1 {w : World} {A : Around} {f : Addr} {args : List Value} {s : Shared} {Post : Value → Heap → Prop} {Q E : Value → Shared → Prop} {h₀ : Heap} {L a : Addr} {m : Str → Option Value} {o : Obj}
    (D : Does w A f args [] [a] s Post) (F : Fr h₀ L s.heap m) (N : News h₀ L s.heap [(a, o)])
    (h : ∀ v h' tk', Fr h₀ L h' m → (∀ o', h'.get? a = some o' → News h₀ L h' [(a, o')]) → Post v h' → Q v { s with heap := h', toks := tk' }) : wpAny (model PG w) A (call (.ref f) args) Q E s :=
  D Q E fun v h' tk' hk hp => h v h' tk' (hk.fr F (fun q => (N _ (.head _)).2.1 (List.mem_singleton.mp q).symm) (fun b hb => List.mem_singleton.mp hb ▸ (N _ (.head _)).2.2)) (fun _ ho' => hk.put1 N ho') hp
/-- the callee changes nothing -/
theorem use0 {w : World} {A : Around} {f : Addr} {args : List Value} {kw : List (Str × Value)} {s : Shared} {Post : Value → Heap → Prop} {Q E : Value → Shared → Prop} {h₀ : Heap} {L : Addr} {m : Str → Option Value} {news : List (Addr × Obj)}
    (D : Does w A f args kw [] s Post) (F : Fr h₀ L s.heap m) (N : News h₀ L s.heap news)
    (h : ∀ v h' tk', Fr h₀ L h' m → News h₀ L h' news → Post v h' → Q v { s with heap := h', toks := tk' }) : wpAny (model PG w) A (call (.ref f) args kw) Q E s :=
  D Q E fun v h' tk' hk hp => h v h' tk' (hk.fr F (fun q => nomatch q) (fun _ hb => nomatch hb)) (hk.news N fun p hp => ⟨hp, fun q => nomatch q⟩) hp
/-- the callee changes the one object of the ledger's head -/
theorem useU {w : World} {A : Around} {f : Addr} {args : List Value} {kw : List (Str × Value)} {s : Shared} {Post : Value → Heap → Prop} {Q E : Value → Shared → Prop} {h₀ : Heap} {L a : Addr} {m : Str → Option Value} {o : Obj} {news : List (Addr × Obj)} {led : Obj → List (Addr × Obj)}
    (D : Does w A f args kw [a] s Post) (F : Fr h₀ L s.heap m) (N : News h₀ L s.heap news) (U : UpdF a o news led)
    (h : ∀ v h' tk', Fr h₀ L h' m → (∀ o', h'.get? a = some o' → News h₀ L h' (led o')) → Post v h' → Q v { s with heap := h', toks := tk' }) : wpAny (model PG w) A (call (.ref f) args kw) Q E s := by
  obtain ⟨pre, post, rfl, hg, h1, h2⟩ := U.split
  have Na := N (a, o) (List.mem_append_right _ (.head _))
  refine D Q E fun v h' tk' hk hp => h v h' tk' (hk.fr F (fun q => Na.2.1 (List.mem_singleton.mp q).symm) (fun _ hb => List.mem_singleton.mp hb ▸ Na.2.2)) (fun o' ho' => ?_) hp
  rw [hg]
  have K := hk.put N (List.mem_append_right _ (.head _)) ho' (rest := pre ++ post) (fun p hp => (List.mem_append.mp hp).elim (fun q => ⟨List.mem_append_left _ q, h1 p q⟩) (fun q => ⟨List.mem_append_right _ (.tail _ q), h2 p q⟩))
  intro p hp
  rcases List.mem_append.mp hp with q | q
  · exact K p (.tail _ (List.mem_append_left _ q))
  · rcases List.mem_cons.mp q with rfl | q
    · exact K _ (.head _)
    · exact K p (.tail _ (List.mem_append_right _ q))
/-- the callee changes nothing and gives back an int -/
theorem useI {w : World} {A : Around} {f : Addr} {args : List Value} {s : Shared} {r : Int} {Q E : Value → Shared → Prop} {h₀ : Heap} {L : Addr} {m : Str → Option Value} {news : List (Addr × Obj)}
    (D : Does w A f args [] [] s (fun v _ => ∃ t, v = .int r t)) (F : Fr h₀ L s.heap m) (N : News h₀ L s.heap news)
    (h : ∀ t h' tk', Fr h₀ L h' m → News h₀ L h' news → Q (.int r t) { s with heap := h', toks := tk' }) : wpAny (model PG w) A (call (.ref f) args) Q E s :=
  use0 D F N fun _ h' tk' F' N' hp => by obtain ⟨t, rfl⟩ := hp; exact h t h' tk' F' N'
noncomputable def Meet (C : Shared → Prop) (fl : Flow) (s : Shared) : Prop := fl = .next ∧ C s
/-- the ways of a statement meet -/
theorem join {M : Model} {A : Around} {t : Sem Flow} {Q : Flow → Shared → Prop} {E : Value → Shared → Prop} {s : Shared} (C : Shared → Prop) (h1 : wpAny M A t (Meet C) (fun _ _ => False) s) (h2 : ∀ s', C s' → Q .next s') : wpAny M A t Q E s :=
  wpAny_mono h1 (fun _ _ p => p.1 ▸ h2 _ p.2) fun _ _ p => p.elim
theorem ints_at {vs : List Value} {ns : List Int} (h : IntsAre vs ns) {i : Nat} {v : Value} (hv : vs.toArray[i]? = some v) : ∃ t, v = .int (ns.getD i 0) t ∧ ns.getD i 0 ∈ ns := by
  rw [List.getElem?_toArray] at hv
  induction h generalizing i with
  | nil => cases hv
  | cons n t _ ih =>
    cases i with
    | zero => cases hv; exact ⟨t, rfl, .head _⟩
    | succ i =>
      obtain ⟨t', e, hm⟩ := ih hv
      exact ⟨t', e, .tail _ hm⟩
theorem getD_mem {ns : List Int} {i : Nat} (h : i < ns.length) : ns.getD i 0 ∈ ns := by
  rw [List.getD_eq_getElem?_getD, List.getElem?_eq_getElem h]
  exact List.getElem_mem h
theorem take_getD {ns : List Int} {i : Nat} (h : i < ns.length) : ns.take (i + 1) = ns.take i ++ [ns.getD i 0] := by
  rw [List.take_add_one, List.getD_eq_getElem?_getD, List.getElem?_eq_getElem h]; rfl
theorem Fr_clean {h₀ h : Heap} {L : Addr} {m : Str → Option Value} (F : Fr h₀ L h m) (ps : List (Str × Value)) (hk : ∀ p ∈ ps, m p.1 = some p.2) : ∃ rest, rest = m ∧ Fr h₀ L h (kstB rest ps) :=
  ⟨m, rfl, by
    have e : kstB m ps = m := funext fun y => kstB_eq hk fun _ => rfl
    rw [e]; exact F⟩
abbrev Fr.mapOf {h₀ h : Heap} {L : Addr} {m : Str → Option Value} (_ : Fr h₀ L h m) : Str → Option Value := m

end

section
set_option maxRecDepth 100000
section
variable {prog : Program} {w : World} {A : Around} {E : Value → Shared → Prop} {s : Shared} {env : Env} {h₀ : Heap} {x : Str} {body : List Stmt} {Q : Flow → Shared → Prop}

/-- the end of a turn: the ledger at the same addresses (nx), the walked objects as they were -/
noncomputable def TurnEnd (h₀ : Heap) (L : Addr) (J : (Str → Option Value) → List (Addr × Obj) → Prop) (own : List (Addr × Obj)) (adr : List Addr) (s₁ s₂ : Shared) : Prop :=
  ∃ h' tk m' nx, s₂ = { s₁ with heap := h', toks := tk } ∧ Fr h₀ L h' m' ∧ News h₀ L h' (nx ++ own) ∧ nx.map (·.1) = adr ∧ J m' nx
noncomputable def TurnPost (h₀ : Heap) (L : Addr) (J : (Str → Option Value) → List (Addr × Obj) → Prop) (own : List (Addr × Obj)) (adr : List Addr) (s₁ : Shared) (Q : Flow → Shared → Prop) (f : Flow) (s₂ : Shared) : Prop :=
  match f with
  | .ret v => Q (.ret v) s₂
  | .brk => Q .next s₂
  | _ => TurnEnd h₀ L J own adr s₁ s₂

theorem loopAt {I : Addr} {fp wr : List Addr} {n : Nat} {P : Nat → Value → Prop} {St : Nat → Heap → Prop} {m₀ : Str → Option Value} {news : List (Addr × Obj)} (fix : List (Addr × Obj)) (J : Nat → (Str → Option Value) → List (Addr × Obj) → Prop)
    (W : Walks prog w A I fp wr n P St) (hL : env.locals ∉ fp) (hwr : ∀ b ∈ wr, h₀.get? b = none) (hnw : ∀ p ∈ news, p.1 ∉ fp) (hfw : ∀ p ∈ fix, p.1 ∉ wr) (hst : St 0 s.heap)
    (F : Fr h₀ env.locals s.heap m₀) (N : News h₀ env.locals s.heap (news ++ fix)) (hj : J 0 m₀ news)
    (turn : ∀ i v m₁ news₁ h tk own, i < n → P i v → news₁.map (·.1) = news.map (·.1) → OwnOff own (news.map (·.1)) → J i m₁ news₁ → St (i + 1) h → Fr h₀ env.locals h (fun y => if y = x then some v else m₁ y) → News h₀ env.locals h (news₁ ++ (fix ++ own)) →
      wpAny (model prog w) A (execs body env) (TurnPost h₀ env.locals (J (i + 1)) (fix ++ own) (news.map (·.1)) { s with heap := h, toks := tk } Q) E { s with heap := h, toks := tk })
    (done : ∀ m₁ news₁ h tk, news₁.map (·.1) = news.map (·.1) → J n m₁ news₁ → Fr h₀ env.locals h m₁ → News h₀ env.locals h (news₁ ++ fix) → Q .next { s with heap := h, toks := tk }) :
    LoopAtV prog w A h₀ env x body Q E (.ref I) s := by
  refine ⟨I, fp, wr, n, P, St, m₀, news ++ fix, fun i m₁ nw => ∃ news₁, nw = news₁ ++ fix ∧ news₁.map (·.1) = news.map (·.1) ∧ J i m₁ news₁, rfl, W, hL, hwr, fun p hp q => (List.mem_append.mp hp).elim (fun hp => hnw p hp (W.sub _ q)) (fun hp => hfw p hp q), hst, F, N, ⟨_, rfl, rfl, hj⟩, ?_, ?_⟩
  · rintro i v m₁ nw s₁ own ⟨hh', tk', rfl⟩ hin hP ⟨news₁, rfl, hadr, hJ⟩ hoff hown _ _ hst₁ F₁ N₁
    have hsep : OwnOff own (news.map (·.1)) := by
      intro p hp b hb e
      obtain ⟨q, hq, e'⟩ := List.mem_map.mp hb
      exact hnw q hq ((e'.trans e.symm) ▸ hown p hp)
    have N₂ : News h₀ env.locals hh' (news₁ ++ (fix ++ own)) := fun p hp => N₁ p (by
      rcases List.mem_append.mp hp with h | h
      · exact List.mem_append.mpr (.inr (List.mem_append.mpr (.inl h)))
      · rcases List.mem_append.mp h with h | h
        · exact List.mem_append.mpr (.inr (List.mem_append.mpr (.inr h)))
        · exact List.mem_append.mpr (.inl h))
    refine wpAny_mono (turn i v m₁ news₁ hh' tk' own hin hP hadr hsep hJ hst₁ F₁ N₂) (fun f s₂ p => ?_) fun _ _ e => e
    have fin : TurnEnd h₀ env.locals (J (i + 1)) (fix ++ own) (news.map (·.1)) { s with heap := hh', toks := tk' } s₂ → LoopStepU h₀ env.locals wr own (fun m₁ nw => ∃ news₁, nw = news₁ ++ fix ∧ news₁.map (·.1) = news.map (·.1) ∧ J (i + 1) m₁ news₁) { s with heap := hh', toks := tk' } .next s₂ := by
      rintro ⟨h', tk, m', nx, e, F', N', ha, hm⟩
      refine ⟨rfl, h', tk, m', nx ++ fix, e, F', fun p hp => N' p ?_, fun p hp hq => ?_, nx, rfl, ha, hm⟩
      · rcases List.mem_append.mp hp with h | h
        · exact List.mem_append.mpr (.inr (List.mem_append.mpr (.inr h)))
        · rcases List.mem_append.mp h with h | h
          · exact List.mem_append.mpr (.inl h)
          · exact List.mem_append.mpr (.inr (List.mem_append.mpr (.inl h)))
      rcases List.mem_append.mp hp with hp | hp
      rotate_left
      · exact hfw p hp hq
      have h1 : p.1 ∈ nx.map (·.1) := List.mem_map.mpr ⟨p, hp, rfl⟩
      rw [ha] at h1
      obtain ⟨q, hq1, hq2⟩ := List.mem_map.mp h1
      exact hnw q hq1 (by rw [hq2]; exact W.sub _ hq)
    cases f with
    | ret v => exact .ret p
    | brk => exact .brk p
    | next => exact .next (fin p)
    | cont => exact .cont (fin p)
  · rintro h' tk m' nw F' N' _ ⟨news', rfl, ha, hJ⟩
    exact done m' news' h' tk ha hJ F' N'

/-- the end of a turn, by letters c : σ -/
noncomputable def LEnd {σ : Type} (h₀ : Heap) (L : Addr) (Led : σ → List (Addr × Obj)) (ps : σ → List (Str × Value)) (x : Str) (stored : List Str) (m₀ : Str → Option Value) (P : σ → Prop) (own : List (Addr × Obj)) (s₁ s₂ : Shared) : Prop :=
  ∃ (c : σ) (h' : Heap) (tk : Nat) (m' : Str → Option Value), s₂ = { s₁ with heap := h', toks := tk } ∧ Fr h₀ L h' m' ∧ News h₀ L h' (Led c ++ own) ∧ (∀ p ∈ ps c, m' p.1 = some p.2) ∧ (∀ z, z ≠ x → (∀ p ∈ ps c, z ≠ p.1) → stored.contains z = false → m' z = m₀ z) ∧ P c
noncomputable def LPost {σ : Type} (h₀ : Heap) (L : Addr) (Led : σ → List (Addr × Obj)) (ps : σ → List (Str × Value)) (x : Str) (stored : List Str) (m₀ : Str → Option Value) (P : σ → Prop) (own : List (Addr × Obj)) (s₁ : Shared) (Q : Flow → Shared → Prop) (f : Flow) (s₂ : Shared) : Prop :=
  match f with
  | .ret v => Q (.ret v) s₂
  | .brk => Q .next s₂
  | _ => LEnd h₀ L Led ps x stored m₀ P own s₁ s₂
theorem loopS {σ : Type} {L : Addr} {I : Addr} {fp wr : List Addr} {n : Nat} {Pv : Nat → Value → Prop} {St : Nat → Heap → Prop} {m₀ : Str → Option Value} (Led : σ → List (Addr × Obj)) (ps : σ → List (Str × Value)) (stored : List Str) (P : Nat → σ → Prop) (c₀ : σ) (fix : List (Addr × Obj))
    (W : Walks prog w A I fp wr n Pv St) (hLe : env.locals = L) (hL : L ∉ fp) (hwr : ∀ b ∈ wr, h₀.get? b = none) (hnw : ∀ p ∈ Led c₀, p.1 ∉ fp) (hfw : ∀ p ∈ fix, p.1 ∉ wr) (hst : St 0 s.heap)
    (hLed : ∀ c, (Led c).map (·.1) = (Led c₀).map (·.1))
    (F : Fr h₀ L s.heap m₀) (N : News h₀ L s.heap (Led c₀ ++ fix)) (hk : ∀ p ∈ ps c₀, m₀ p.1 = some p.2) (hp : P 0 c₀)
    (turn : ∀ i v c (u : Str → Option Value) h tk own, i < n → Pv i v → OwnOff own ((Led c₀).map (·.1)) → P i c → St (i + 1) h → Fr h₀ L h (fun y => if y = x then some v else kstB (fun z => if stored.contains z then u z else m₀ z) (ps c) y) → News h₀ L h (Led c ++ (fix ++ own)) →
      wpAny (model prog w) A (execs body env) (LPost h₀ L Led ps x stored m₀ (P (i + 1)) (fix ++ own) { s with heap := h, toks := tk } Q) E { s with heap := h, toks := tk })
    (done : ∀ c (u : Str → Option Value) h tk, P n c → Fr h₀ L h (fun y => if y = x then u y else kstB (fun z => if stored.contains z then u z else m₀ z) (ps c) y) → News h₀ L h (Led c ++ fix) → Q .next { s with heap := h, toks := tk }) :
    LoopAtV prog w A h₀ env x body Q E (.ref I) s := by
  subst hLe
  refine loopAt fix (fun i m₁ nx => ∃ c, nx = Led c ∧ (∀ p ∈ ps c, m₁ p.1 = some p.2) ∧ (∀ z, z ≠ x → (∀ p ∈ ps c, z ≠ p.1) → stored.contains z = false → m₁ z = m₀ z) ∧ P i c) W hL hwr hnw hfw hst F N ⟨c₀, rfl, hk, fun _ _ _ _ => rfl, hp⟩ ?_ ?_
  · rintro i v m₁ news₁ h tk own hin hv _ hoff ⟨c, rfl, h1, h2, hP⟩ hst₁ F₁ N₁
    refine wpAny_mono (turn i v c m₁ h tk own hin hv hoff hP hst₁ (kst_fr h1 h2 F₁) N₁) (fun f s₂ p => ?_) fun _ _ e => e
    have fin : LEnd h₀ env.locals Led ps x stored m₀ (P (i + 1)) (fix ++ own) { s with heap := h, toks := tk } s₂ → TurnEnd h₀ env.locals (fun m₁ nx => ∃ c, nx = Led c ∧ (∀ p ∈ ps c, m₁ p.1 = some p.2) ∧ (∀ z, z ≠ x → (∀ p ∈ ps c, z ≠ p.1) → stored.contains z = false → m₁ z = m₀ z) ∧ P (i + 1) c) (fix ++ own) ((Led c₀).map (·.1)) { s with heap := h, toks := tk } s₂ := by
      rintro ⟨c', h', tk', m', e, F', N', k1, k2, k3⟩
      exact ⟨h', tk', m', _, e, F', N', hLed c', c', rfl, k1, k2, k3⟩
    cases f with
    | ret v => exact p
    | brk => exact p
    | next => exact fin p
    | cont => exact fin p
  · rintro m₁ news₁ h tk _ ⟨c, rfl, h1, h2, hP⟩ F₁ N₁
    exact done c m₁ h tk hP (kst_frOut h1 h2 F₁) N₁

/-- a for over a list -/
theorem loopL {σ : Type} {L a : Addr} {items : List Value} {m₀ : Str → Option Value} (Led : σ → List (Addr × Obj)) (ps : σ → List (Str × Value)) (stored : List Str) (P : Nat → σ → Prop) (c₀ : σ) (fix : List (Addr × Obj))
    (hD : s.heap.IsList a items.toArray) (hh : A.handled = none) (hLe : env.locals = L) (haL : a ≠ L) (hnw : ∀ p ∈ Led c₀, p.1 ≠ a) (hLed : ∀ c, (Led c).map (·.1) = (Led c₀).map (·.1))
    (F : Fr h₀ L s.heap m₀) (N : News h₀ L s.heap (Led c₀ ++ fix)) (hk : ∀ p ∈ ps c₀, m₀ p.1 = some p.2) (hp : P 0 c₀)
    (turn : ∀ i v c (u : Str → Option Value) h tk own, items[i]? = some v → OwnOff own ((Led c₀).map (·.1)) → P i c → h.IsList a items.toArray → Fr h₀ L h (fun y => if y = x then some v else kstB (fun z => if stored.contains z then u z else m₀ z) (ps c) y) → News h₀ L h (Led c ++ (fix ++ own)) →
      wpAny (model prog w) A (execs body env) (LPost h₀ L Led ps x stored m₀ (P (i + 1)) (fix ++ own) { s with heap := h, toks := tk } Q) E { s with heap := h, toks := tk })
    (done : ∀ c (u : Str → Option Value) h tk, P items.length c → Fr h₀ L h (fun y => if y = x then u y else kstB (fun z => if stored.contains z then u z else m₀ z) (ps c) y) → News h₀ L h (Led c ++ fix) → Q .next { s with heap := h, toks := tk }) :
    wpAny (model prog w) A (pyIter (.ref a)) (fun it s₂ => LoopAtV prog w A h₀ env x body Q E it s₂) E s := by
  refine wpAny_pyIter_list hD ?_
  have hlt := fun p hp => Heap.lt_size (N p hp).1
  have hal : a < s.heap.objs.size := by
    obtain ⟨oa, hoa, _⟩ := hD
    exact Heap.lt_size hoa
  refine loopS (L := L) Led ps stored P c₀ fix (Walks.list hh _ a (Nat.ne_of_lt hal) items.toArray) hLe ?_ ?_ ?_ ?_ ⟨⟨_, Heap.get?_push_size _ rfl, rfl, rfl⟩, hD.at fun o e => Heap.get?_push_of_some _ e⟩ hLed (F.push _) (fun p hp => ⟨Heap.get?_push_of_some _ (N p hp).1, (N p hp).2⟩) hk hp ?_ ?_
  · intro q
    rcases List.mem_cons.mp q with q | q
    · exact absurd F.ns.lt (q ▸ Nat.lt_irrefl _)
    · exact haL (List.mem_singleton.mp q).symm
  · intro b hb
    rw [List.mem_singleton.mp hb]
    exact next_is_new F
  · intro p hp q
    rcases List.mem_cons.mp q with q | q
    · exact absurd (hlt p (List.mem_append_left _ hp)) (q ▸ Nat.lt_irrefl _)
    · exact hnw p hp (List.mem_singleton.mp q)
  · intro p hp q
    exact absurd (hlt p (List.mem_append_right _ hp)) (List.mem_singleton.mp q ▸ Nat.lt_irrefl _)
  · intro i v c u h tk own _ hv hoff hP hst F₁ N₁
    exact turn i v c u h tk own (by rw [← List.getElem?_toArray]; exact hv) hoff hP hst.2 F₁ N₁
  · intro c u h tk hP F₁ N₁
    exact done c u h tk (by rw [← List.size_toArray]; exact hP) F₁ N₁

/-- a for over a range by ones -/
theorem loopR {σ : Type} {L r : Addr} {a₀ b₀ : Int} {ta tb tc : Tok} {m₀ : Str → Option Value} (Led : σ → List (Addr × Obj)) (ps : σ → List (Str × Value)) (stored : List Str) (n : Nat) (P : Nat → σ → Prop) (c₀ : σ) (fix : List (Addr × Obj))
    (hR : IsRange s.heap r a₀ b₀ 1 ta tb tc) (hn : (b₀ - a₀).toNat = n) (hlo : -1000 < a₀) (hhi : b₀ < 1000) (hlo2 : -1000 < b₀) (hhi2 : a₀ < 1000) (hh : A.handled = none) (hLe : env.locals = L) (hLed : ∀ c, (Led c).map (·.1) = (Led c₀).map (·.1))
    (F : Fr h₀ L s.heap m₀) (N : News h₀ L s.heap (Led c₀ ++ fix)) (hk : ∀ p ∈ ps c₀, m₀ p.1 = some p.2) (hp : P 0 c₀)
    (turn : ∀ i t c (u : Str → Option Value) h tk own, i < n → OwnOff own ((Led c₀).map (·.1)) → P i c → Fr h₀ L h (fun y => if y = x then some (.int (a₀ + i) t) else kstB (fun z => if stored.contains z then u z else m₀ z) (ps c) y) → News h₀ L h (Led c ++ (fix ++ own)) →
      wpAny (model prog w) A (execs body env) (LPost h₀ L Led ps x stored m₀ (P (i + 1)) (fix ++ own) { s with heap := h, toks := tk } Q) E { s with heap := h, toks := tk })
    (done : ∀ c (u : Str → Option Value) h tk, P n c → Fr h₀ L h (fun y => if y = x then u y else kstB (fun z => if stored.contains z then u z else m₀ z) (ps c) y) → News h₀ L h (Led c ++ fix) → Q .next { s with heap := h, toks := tk }) :
    wpAny (model prog w) A (pyIter (.ref r)) (fun it s₂ => LoopAtV prog w A h₀ env x body Q E it s₂) E s := by
  have fit : ∀ x : Int, -10000 < x → x < 10000 → Builtin.Range.rangeFitsLong x = true := by
    intro x h1 h2
    unfold Builtin.Range.rangeFitsLong
    simp only [Bool.and_eq_true, decide_eq_true_eq]
    omega
  have e : Builtin.Range.rangeSize a₀ b₀ 1 = (n : Int) := by
    unfold Builtin.Range.rangeSize; split <;> (try split) <;> omega
  refine wpAny_pyIter_range hR ?_ ?_
  · unfold Builtin.Range.small
    simp only [e, fit a₀ (by omega) (by omega), fit b₀ (by omega) (by omega), fit 1 (by omega) (by omega), fit (n : Int) (by omega) (by omega), Bool.and_true, Bool.true_and]
    rw [if_pos (by decide), fit (b₀ + (1 - 1)) (by omega) (by omega), Bool.or_true]
  rw [e]
  have hlt := fun p hp => Heap.lt_size (N p hp).1
  refine loopS (L := L) Led ps stored P c₀ fix (Walks.range hh _ a₀ 1 n) hLe ?_ ?_ ?_ ?_ ?_ hLed (F.push _) (fun p hp => ⟨Heap.get?_push_of_some _ (N p hp).1, (N p hp).2⟩) hk hp ?_ ?_
  · intro q
    exact absurd F.ns.lt (List.mem_singleton.mp q ▸ Nat.lt_irrefl _)
  · intro b hb
    rw [List.mem_singleton.mp hb]
    exact next_is_new F
  · intro p hp q
    exact absurd (hlt p (List.mem_append_left _ hp)) (List.mem_singleton.mp q ▸ Nat.lt_irrefl _)
  · intro p hp q
    exact absurd (hlt p (List.mem_append_right _ hp)) (List.mem_singleton.mp q ▸ Nat.lt_irrefl _)
  · have e1 : a₀ + ((0 : Nat) : Int) * 1 = a₀ := by omega
    have e2 : (n : Int) - ((0 : Nat) : Int) = n := by omega
    rw [e1, e2]
    exact Heap.get?_push_size _ rfl
  · intro i v c u h tk own hin hv hoff hP _ F₁ N₁
    obtain ⟨t, rfl⟩ := hv
    rw [Int.mul_one] at F₁
    exact turn i t c u h tk own hin hoff hP F₁ N₁
  · intro c u h tk hP F₁ N₁
    exact done c u h tk hP F₁ N₁

/-- a for over bytes -/
theorem loopB {σ : Type} {L : Addr} {b : Array UInt8} {tb : Tok} {ks : List Int} {m₀ : Str → Option Value} (Led : σ → List (Addr × Obj)) (ps : σ → List (Str × Value)) (stored : List Str) (P : Nat → σ → Prop) (c₀ : σ) (fix : List (Addr × Obj))
    (hb : KBw.bInts b = ks) (hh : A.handled = none) (hLe : env.locals = L) (hLed : ∀ c, (Led c).map (·.1) = (Led c₀).map (·.1))
    (F : Fr h₀ L s.heap m₀) (N : News h₀ L s.heap (Led c₀ ++ fix)) (hk : ∀ p ∈ ps c₀, m₀ p.1 = some p.2) (hp : P 0 c₀)
    (turn : ∀ i k t c (u : Str → Option Value) h tk own, ks[i]? = some k → 0 ≤ k → k < 256 → OwnOff own ((Led c₀).map (·.1)) → P i c → Fr h₀ L h (fun y => if y = x then some (.int k t) else kstB (fun z => if stored.contains z then u z else m₀ z) (ps c) y) → News h₀ L h (Led c ++ (fix ++ own)) →
      wpAny (model prog w) A (execs body env) (LPost h₀ L Led ps x stored m₀ (P (i + 1)) (fix ++ own) { s with heap := h, toks := tk } Q) E { s with heap := h, toks := tk })
    (done : ∀ c (u : Str → Option Value) h tk, P ks.length c → Fr h₀ L h (fun y => if y = x then u y else kstB (fun z => if stored.contains z then u z else m₀ z) (ps c) y) → News h₀ L h (Led c ++ fix) → Q .next { s with heap := h, toks := tk }) :
    wpAny (model prog w) A (pyIter (.bytes b tb)) (fun it s₂ => LoopAtV prog w A h₀ env x body Q E it s₂) E s := by
  refine KBw.pyIter_bytes ?_
  have hlt := fun p hp => Heap.lt_size (N p hp).1
  have hlen : ks.length = b.size := by rw [← hb, KBw.ints_length]
  refine loopS (L := L) Led ps stored P c₀ fix (KBw.walks hh _ b tb) hLe ?_ ?_ ?_ ?_ ⟨_, Heap.get?_push_size _ rfl, rfl, rfl⟩ hLed (F.push _) (fun p hp => ⟨Heap.get?_push_of_some _ (N p hp).1, (N p hp).2⟩) hk hp ?_ ?_
  · intro q
    exact absurd F.ns.lt (List.mem_singleton.mp q ▸ Nat.lt_irrefl _)
  · intro b hb
    rw [List.mem_singleton.mp hb]
    exact next_is_new F
  · intro p hp q
    exact absurd (hlt p (List.mem_append_left _ hp)) (List.mem_singleton.mp q ▸ Nat.lt_irrefl _)
  · intro p hp q
    exact absurd (hlt p (List.mem_append_right _ hp)) (List.mem_singleton.mp q ▸ Nat.lt_irrefl _)
  · intro i v c u h tk own hin hv hoff hP _ F₁ N₁
    obtain ⟨d, t, hd, rfl⟩ := hv
    have hr := d.toNat_lt
    exact turn i d.toNat t c u h tk own (by rw [← hb]; exact KBw.ints_get hd) (by omega) (by omega) hoff hP F₁ N₁
  · intro c u h tk hP F₁ N₁
    exact done c u h tk (by rw [hlen]; exact hP) F₁ N₁
end

end

section
set_option maxRecDepth 100000
section
variable {prog : Program} {w : World} {A : Around} {E : Value → Shared → Prop} {s : Shared}
open PySem.Builtin.Range

theorem rangeFields_ {r : Addr} {a b c : Int} {t u v : Tok} {Q : Int × Int × Int → Shared → Prop} (hr : IsRange s.heap r a b c t u v) (h : Q (a, b, c) s) : wpAny (model prog w) A (rangeFields (.ref r)) Q E s := by
  unfold rangeFields
  refine wpAny_bind (wpAny_field hr rfl (x := .int a t) rfl ?_)
  refine wpAny_bind (wpAny_of_eq (a := some a) rfl ?_)
  refine wpAny_bind (wpAny_field hr rfl (x := .int b u) rfl ?_)
  refine wpAny_bind (wpAny_of_eq (a := some b) rfl ?_)
  refine wpAny_bind (wpAny_field hr rfl (x := .int c v) rfl ?_)
  refine wpAny_bind (wpAny_of_eq (a := some c) rfl ?_)
  exact wpAny_pure h

theorem call_range_reversed {r : Addr} {k : Int} {t u v : Tok} {Q : Value → Shared → Prop} (hr : IsRange s.heap r 0 k 1 t u v) (h0 : 0 ≤ k) (hk : k < 1000)
    (h : Q (.ref s.heap.objs.size) { s with heap := s.heap.push { cls := .type "range_iterator", data := .fields #[rawInt (k - 1), rawInt k, rawInt (-1)] } }) : wpAny (model prog w) A (call (.builtin "range.__reversed__") [.ref r]) Q E s := by
  have hT : s.TypeIs (.ref r) "range" := ⟨_, hr, rfl⟩
  refine wpAny_call_entry F.slot_range_reversed hT F.entry_range_reversed ?_ (F.args_range_reversed_1 _)
  unfold Builtin.«range.__reversed__»
  refine wpAny_bind (wpAny_of_eq (a := Value.ref r) rfl ?_)
  refine wpAny_bind (rangeFields_ hr ?_)
  have e : rangeSize 0 k 1 = k := by unfold rangeSize; split <;> (try split) <;> omega
  have fit : ∀ x : Int, -10000 < x → x < 10000 → rangeFitsLong x = true := by
    intro x h1 h2
    unfold rangeFitsLong
    simp only [Bool.and_eq_true, decide_eq_true_eq]
    omega
  simp only [e]
  have sm : (rangeFitsLong 0 && rangeFitsLong k && rangeFitsLong 1 && rangeFitsLong (-1) && rangeFitsLong (0 - 1) && rangeFitsLong k) = true := by
    rw [fit 0 (by omega) (by omega), fit k (by omega) (by omega), fit 1 (by omega) (by omega), fit (-1) (by omega) (by omega), fit (0 - 1) (by omega) (by omega)]; rfl
  simp only [sm, Bool.not_true, Bool.false_eq_true, if_false, if_true]
  have e2 : (0 : Int) + (k - 1) * 1 = k - 1 := by omega
  rw [e2]
  refine wpAny_bind (wpAny_newObj_type (wpAny_pure ⟨_, rfl, h⟩))

theorem sub_ri_reversed : isSubtype (.type "range_iterator") (.type "reversed") = pure false := by rw [isSubtype_type]; kernel_rfl

theorem code_reversed_range {r : Addr} {k : Int} {t u v : Tok} {Q₁ : Value → Shared → Prop} (hr : IsRange s.heap r 0 k 1 t u v) (h0 : 0 ≤ k) (hk : k < 1000)
    (h : Q₁ (.ref s.heap.objs.size) { s with heap := s.heap.push { cls := .type "range_iterator", data := .fields #[rawInt (k - 1), rawInt k, rawInt (-1)] } }) :
    codeAny (model prog w) A (.call (.builtin "reversed.__new__") ⟨[.type "reversed", .ref r], []⟩) (wants Q₁ E) s := by
  have hT : s.TypeIs (.ref r) "range" := ⟨_, hr, rfl⟩
  refine codeAny_of_tree ?_
  show wpAny _ A.in1 (do checkBuiltinCall "reversed.__new__" ⟨[.type "reversed", .ref r], []⟩; again (.builtin "reversed.__new__" ⟨[.type "reversed", .ref r], []⟩)) _ _ s
  refine wpAny_bind (wpAny_of_eq (F.newCall_reversed_1 _) (wpAny_pure ⟨plainId_quiet F.plain_reversed_new _, codeAny_builtin F.entry_reversed_new ?_⟩))
  rw [Around.under_plainId F.plain_reversed_new _]
  unfold Builtin.«reversed.__new__»
  refine wpAny_bind (wpAny_of_eq (newClass_reversed _) ?_)
  try dsimp only
  refine wpAny_bind (wpAny_of_eq (a := ()) (by first | rfl | kernel_rfl) ?_)
  refine wpAny_bind (wpAny_of_eq (a := ()) (by first | rfl | kernel_rfl) ?_)
  try dsimp only
  refine wpAny_bind (wpAny_specialOf hT F.slot_range_reversed.lookup ?_)
  try dsimp only
  refine wpAny_bind (wpAny_of_eq (F.slot_range_reversed.bind _) ?_)
  try dsimp only
  first
  | rw [if_neg (show ¬ ((Value.builtin "range.__reversed__" == Value.none) = true) from Bool.false_ne_true)]
  | (show wpAny _ _ (if (Value.builtin "range.__reversed__" == Value.none) = true then _ else _) _ _ _; rw [if_neg (show ¬ ((Value.builtin "range.__reversed__" == Value.none) = true) from Bool.false_ne_true)])
  refine wpAny_bind (wpAny_rule ?_)
  refine wpAny_bind (m := runValue (.call (.builtin "range.__reversed__") ⟨[.ref r], []⟩)) (show wpAny _ _ (call (.builtin "range.__reversed__") [.ref r]) _ _ _ from call_range_reversed hr h0 hk ?_)
  first
  | exact wpAny_pure h
  | exact wpAny_bind (wpAny_pure (wpAny_pure h))

theorem call_reversed_range {r : Addr} {k : Int} {t u v : Tok} {Q : Value → Shared → Prop} (hr : IsRange s.heap r 0 k 1 t u v) (h0 : 0 ≤ k) (hk : k < 1000)
    (h : Q (.ref s.heap.objs.size) { s with heap := s.heap.push { cls := .type "range_iterator", data := .fields #[rawInt (k - 1), rawInt k, rawInt (-1)] } }) : wpAny (model prog w) A (call (.type "reversed") [.ref r]) Q E s := by
  refine callType_other (U := "range_iterator") (Q₁ := fun obj s₁ => obj = .ref s.heap.objs.size ∧ s₁ = { s with heap := s.heap.push { cls := .type "range_iterator", data := .fields #[rawInt (k - 1), rawInt k, rawInt (-1)] } }) (by decide +kernel) F.create_reversed ⟨_, _, F.mro_reversed⟩ F.made_reversed sub_ri_reversed (F.typeCall_reversed_1 _) (code_reversed_range hr h0 hk ⟨rfl, rfl⟩) ?_
  rintro obj s₁ ⟨rfl, rfl⟩
  exact ⟨⟨_, Heap.get?_push_size _ rfl, rfl⟩, h⟩
end

end

section
set_option maxRecDepth 100000
section
variable {w : World} {mean : ExcName → Option Value} {mg mb : Str → Option Value} {A A₀ : Around} {base h₀ : Heap} {outer : List Env} {env : Env} {L : Addr} {m : Str → Option Value} {s : Shared}
  {name qual : Str} {params : Arguments} {body : List Stmt} {scope : Scope} {dV kV doc pm cdv ct oc : Value} {an od : Option Addr} {osl : Array (Option Value)} {f : Addr} {args : List Value} {kw : List (Str × Value)} {binds : List (Str × Value)}

theorem does_ofC (dp un : Nat) (S : Spot w mean mg mb A A₀ base outer env h₀ L m s.heap) (hdp : A.depth ≤ dp) (hun : A.units ≤ un) (hroom : dp < recursionLimit)
    (own : List (Addr × Obj)) (N : News h₀ L s.heap own) (Post : Value → Heap → Prop)
    (ho : (hd.heap_39 w.params).lookup f = some ⟨oc, od, .func (fnOf name qual params body scope dV kV doc pm an cdv ct), osl⟩) (hcd : codeIn (hd.heap_39 w.params) cdv qual = true)
    (hbind : BindsTo s (fnOf name qual params body scope dV kV doc pm an cdv ct) ⟨args, kw⟩ binds) (hkind : (binds.all fun y => scope.names.lookup y.1 == some .local || scope.names.lookup y.1 == some .cell) = true)
    (hnd : ((cellsFrom 0 scope.names []).map (·.1)).Nodup)
    (hco : scope.isCoroutine = false) (hgen : scope.isGenerator = false) (hk : scope.kind = .function)
    (h : ∀ g L' h₁ tk cells, Fr g L' h₁ (bindL (envOfC qual scope L' f cdv).kindOf binds fun _ => none) → News g L' h₁ (cells ++ own) → CellsAre (bindC (envOfC qual scope L' f cdv).kindOf binds fun _ => none) (cellsFrom (L' + 1) scope.names []) cells →
      Below (AA dp un A.guards env outer) base (env :: outer) g → (hd.heap_39 w.params).In g → Top view (looseW view loose0) mean mg mb g →
      (∀ b o, s.heap.get? b = some o → b ∉ own.map (·.1) → g.get? b = some o) → (∀ p ∈ own, p.1 < L') → (∀ b, g.get? b = none → b ∉ own.map (·.1) → s.heap.get? b = none) →
      wpAny (model PG w) ((AA dp un A.guards env outer).deeper (envOfC qual scope L' f cdv)) (execs body (envOfC qual scope L' f cdv))
        (fun fl s' => Out s g Post (match fl with | .ret v => v | _ => .none) s') (fun _ _ => False)
        { s with heap := h₁, toks := tk }) :
    Does w A f args kw (own.map (·.1)) s Post := by
  intro Q E hQ
  refine wpAny_raise (A' := AA dp un A.guards env outer) ?_ S.hd hdp S.fr rfl hun
  refine wpAny_call ?_
  have X := S.X.keeps S.F.keep
  have hg : ∀ b o, s.heap.get? b = some o → b ∉ own.map (·.1) → (hideAll s.heap (own.map (·.1))).get? b = some o := fun b o e n => hideAll_get _ e n
  obtain ⟨FG, BG, st, lv⟩ := groundX (A := AA dp un A.guards env outer) (R := fun r s' => match r with | .ok (.ret v) => Q v s' | .ok _ => False | .error e => E e s') S.B S.F N rfl S.ef S.ek
  refine codeAny_call_function hroom (X _ _ ho) rfl hco hgen rfl (codeRec_of X hcd) (hbind _ _ _ _ ?_)
  refine wpAny_newFunctionEnv_cells hk (kindsX hkind _) fun env' he s' x => ?_
  subst he
  refine ⟨(S.T.nolimit.keeps S.F.keep).keeps x.toInCall.keep, codeAny_func ?_⟩
  obtain ⟨h₁, tk, rfl, _⟩ := x.done
  have hk₁ := x.toInCall.keep
  obtain ⟨cells, NC, Y⟩ := Cl.news (h₀ := s.heap) (Nat.le_refl _) fun n c hm => ⟨x.cell n c (lookup_of_mem_nodup (cellsFrom_names scope.names 0 (s.heap.objs.size + 1) [] [] rfl ▸ hnd) hm), x.above n c hm⟩
  refine wpAny_mono (h _ s.heap.objs.size h₁ tk cells ⟨x.toInCall.ns, fun b o e => hk₁ b o (of_hideAll _ e), Nat.le_of_eq (hideAll_size _ _)⟩ (fun p hp => ?_) Y BG (S.X.keeps st) (S.T.keeps st) hg (fun p hp => Heap.lt_size (N p hp).1) ?_) (fun fl s' hl => ?_) fun _ _ y => y.elim
  · rcases List.mem_append.mp hp with hp | hp
    · refine ⟨(NC p hp).1, (NC p hp).2.1, ?_⟩
      cases q : (hideAll s.heap (own.map (·.1))).get? p.1 with
      | none => rfl
      | some o => have := of_hideAll _ q; rw [(NC p hp).2.2] at this; cases this
    · exact ⟨hk₁ _ _ (N p hp).1, Nat.ne_of_lt (Heap.lt_size (N p hp).1), hideAll_none _ (List.mem_map_of_mem hp)⟩
  · intro b e n
    cases q : s.heap.get? b with
    | none => rfl
    | some o => rw [hg b o q n] at e; cases e
  · obtain ⟨h', tk', rfl, hkp, hp⟩ := hl
    exact hQ _ _ _ (fun b o e n => hkp b o (hg b o e n)) hp
end

-- comprehensions of any length by an invariant
section
variable {prog : Program} {w : World} {A : Around} {s : Shared} {h₀ : Heap} {L : Addr} {m : Str → Option Value} {env : Env} {ct elt : Expr} {x : Str} {scope : Scope} {cl : List (Str × Addr)} {S : List (Addr × Obj) → Prop} {P : Nat → Value → Prop} {Fin : List Value → List (Addr × Obj) → Prop}
open LCg LCt
theorem comp_inv {n : Nat} (Inv : Nat → List Value → List (Addr × Obj) → Prop)
    (turn : ∀ i ys news v I oI C oC D m₂ h tk (E' : Value → Shared → Prop), i < n → Inv i ys news → P i v → NsObj oC m₂ → m₂ x = some v → Fr h₀ L h m → News h₀ L h ((I, oI) :: (C, oC) :: (D, lst ys) :: news) → Off3 I C D news → ((@Ne Nat I C) ∧ (@Ne Nat I D) ∧ (@Ne Nat C D)) →
      wpAny (model prog w) A (eval elt (compEnvC scope cl C env)) (CompEnd h₀ L m { s with heap := h, toks := tk } I oI C oC D (lst ys) S (fun y news' => Inv (i + 1) (ys ++ [y]) news')) E' { s with heap := h, toks := tk })
    (fin : ∀ ys news, Inv n ys news → Fin ys news) : ∀ k i ys news, i + k = n → Inv i ys news → CompRest prog w A h₀ L m env elt x scope cl s S P Fin k i ys news := by
  intro k
  induction k with
  | zero => intro i ys news e hI; exact fin ys news (by have : i = n := by omega
                                                        exact this ▸ hI)
  | succ k ih =>
    intro i ys news e hI
    refine CompRest.succ fun v I oI C oC D m₂ h tk E' hP a b F N o c => ?_
    refine wpAny_mono (turn i ys news v I oI C oC D m₂ h tk E' (by omega) hI hP a b F N o c) (fun y s' q => ?_) fun _ _ q => q
    obtain ⟨h', tk', news', e1, F', N', o', hS, hr⟩ := q
    exact ⟨h', tk', news', e1, F', N', o', hS, ih (i + 1) _ _ (by omega) hr⟩
theorem comp_invT {n : Nat} (Inv : Nat → List Value → List (Addr × Obj) → Prop)
    (turn : ∀ i ys news v I oI C oC D m₂ h tk (E' : Value → Shared → Prop), i < n → Inv i ys news → P i v → NsObj oC m₂ → m₂ x = some v → Fr h₀ L h m → News h₀ L h ((I, oI) :: (C, oC) :: (D, lst ys) :: news) → Off3 I C D news → ((@Ne Nat I C) ∧ (@Ne Nat I D) ∧ (@Ne Nat C D)) →
      wpAny (model prog w) A (isTrue ct (compEnvC scope cl C env) (eval ct (compEnvC scope cl C env))) (fun ok s' => if ok = true then
        wpAny (model prog w) A (eval elt (compEnvC scope cl C env)) (CompEnd h₀ L m { s with heap := h, toks := tk } I oI C oC D (lst ys) S (fun y news' => Inv (i + 1) (ys ++ [y]) news')) E' s'
        else CompEnd h₀ L m { s with heap := h, toks := tk } I oI C oC D (lst ys) S (fun _ news' => Inv (i + 1) ys news') Value.none s') E' { s with heap := h, toks := tk })
    (fin : ∀ ys news, Inv n ys news → Fin ys news) : ∀ k i ys news, i + k = n → Inv i ys news → CompRestT prog w A h₀ L m env ct elt x scope cl s S P Fin k i ys news := by
  intro k
  induction k with
  | zero => intro i ys news e hI; exact fin ys news (by have : i = n := by omega
                                                        exact this ▸ hI)
  | succ k ih =>
    intro i ys news e hI
    refine CompRestT.succ fun v I oI C oC D m₂ h tk E' hP a b F N o c => ?_
    refine wpAny_mono (turn i ys news v I oI C oC D m₂ h tk E' (by omega) hI hP a b F N o c) (fun ok s' q => ?_) fun _ _ q => q
    have up : ∀ {y : Value} {s' : Shared} {zs : List Value}, CompEnd h₀ L m { s with heap := h, toks := tk } I oI C oC D (lst ys) S (fun y news' => Inv (i + 1) zs news') y s' → CompEnd h₀ L m { s with heap := h, toks := tk } I oI C oC D (lst ys) S (fun y news' => CompRestT prog w A h₀ L m env ct elt x scope cl s S P Fin k (i + 1) zs news') y s' := by
      intro y s' zs ⟨h', tk', news', e1, F', N', o', hS, hr⟩
      exact ⟨h', tk', news', e1, F', N', o', hS, ih (i + 1) _ _ (by omega) hr⟩
    cases ok with
    | true =>
      simp only [if_true] at q ⊢
      refine wpAny_mono q (fun y s' q => ?_) fun _ _ q => q
      obtain ⟨h', tk', news', e1, F', N', o', hS, hr⟩ := q
      exact ⟨h', tk', news', e1, F', N', o', hS, ih (i + 1) _ _ (by omega) hr⟩
    | false =>
      simp only [Bool.false_eq_true, if_false] at q ⊢
      exact up q
end

end

section
theorem ints_kf {us : List Value} {ns : List Int} (h : IntsAre us ns) : kf_ints us = true := by
  induction h with
  | nil => rfl
  | cons n t _ ih => exact ih
theorem ints_erase {us : List Value} {ns : List Int} {k : Int} (h : IntsAre us ns) (hk : k ∈ ns) : ∃ j q, kf_at k us = some j ∧ ki_delL us j = some q ∧ IntsAre q (ns.erase k) := by
  induction h with
  | nil => cases hk
  | cons n t h ih =>
    by_cases e : n = k
    · subst e
      refine ⟨0, _, ?_, rfl, ?_⟩
      · simp [kf_at, isInt]
      · simpa using h
    · have hk' : k ∈ _ := (List.mem_cons.mp hk).resolve_left fun q => e q.symm
      obtain ⟨j, q, h1, h2, h3⟩ := ih hk'
      refine ⟨j + 1, .int n t :: q, ?_, ?_, ?_⟩
      · have : isInt k (.int n t) = false := by simp [isInt, e]
        simp [kf_at, this, h1]
      · simp [ki_delL, h2]
      · have : (n == k) = false := by simpa using e
        rw [List.erase_cons, this]
        exact .cons n t h3

end

section
set_option maxRecDepth 100000

noncomputable def sd (start : Nat) (x : Int) : Nat → List Int → List Int :=
  WellFounded.fix Nat.lt_wfRel.wf fun pos rec ns =>
    if h : start < pos then
      if x < ns.getD ((pos - 1) / 2) 0 then rec ((pos - 1) / 2) (Nat.lt_of_le_of_lt (Nat.div_le_self _ _) (Nat.pred_lt (Nat.ne_of_gt (Nat.zero_lt_of_lt h)))) (ns.set pos (ns.getD ((pos - 1) / 2) 0)) else ns.set pos x
    else ns.set pos x
theorem sd_eq (start : Nat) (x : Int) (pos : Nat) (ns : List Int) : sd start x pos ns = if start < pos then
    if x < ns.getD ((pos - 1) / 2) 0 then sd start x ((pos - 1) / 2) (ns.set pos (ns.getD ((pos - 1) / 2) 0)) else ns.set pos x
  else ns.set pos x := by
  unfold sd
  rw [WellFounded.fix_eq]
  split <;> rfl
theorem sd_half {st pos : Int} (h0 : 0 ≤ st) (h : st < pos) : ((pos - 1) / 2).toNat = (pos.toNat - 1) / 2 := by omega
theorem sd_in {st pos : Int} {n : Nat} (h0 : 0 ≤ st) (h : st < pos) (hn : pos < (n : Int)) : 0 ≤ (pos - 1) / 2 ∧ (pos - 1) / 2 < (n : Int) ∧ ((pos - 1) / 2).toNat < pos.toNat := by omega
theorem sd_nat {st pos : Int} (h0 : 0 ≤ st) : st.toNat < pos.toNat ↔ st < pos := by omega

theorem fill : hd.heap_39 = hd.heap_39 ∧ PySem.Challenge.rw_oy0042_01 = PySem.Challenge.rw_oy0042_01 := by
  w_top off
  k_fill
  exact ⟨rfl, rfl⟩



set_option maxHeartbeats 4000000 in
theorem siftdown_does {w : World} {mean : ExcName → Option Value} {mg mb : Str → Option Value} {A A₀ : Around} {base h₀ : Heap} {outer : List Env} {env : Env} {L : Addr} {m : Str → Option Value} {s : Shared}
    (S : Spot w mean mg mb A A₀ base outer env h₀ L m s.heap) (hdp : A.depth ≤ 500) (hun : A.units ≤ 500)
    {a : Addr} {vs : List Value} {ns : List Int} {n : Nat} {st ps : Int} {t1 t2 : Tok}
    (ha : s.heap.get? a = some (listOf vs.toArray n)) (haL : a ≠ L) (ha0 : h₀.get? a = none) (hi : IntsAre vs ns) (h0 : 0 ≤ st) (h1 : 0 ≤ ps) (h2 : ps < ns.length) (hfit : ns.length < 1000) :
    Does w A 158 [.ref a, .int st t1, .int ps t2] [] [a] s (fun v h' => v = .none ∧ ∃ vs', h'.get? a = some (listOf vs'.toArray n) ∧ IntsAre vs' (sd st.toNat (ns.getD ps.toNat 0) ps.toNat ns)) := by
  refine' does_of 500 500 S hdp hun (by decide) [(a, listOf vs.toArray n)] ?hN _ (binds := [(Str.ofString "heap", .ref a), (Str.ofString "startpos", .int st t1), (Str.ofString "pos", .int ps t2)]) ?ho ?hcd ?hb ?hl ?c1 ?c2 ?c3 ?c4 ?_
  (case hN => intro p hp; rcases List.mem_singleton.mp hp with rfl; exact ⟨ha, haL, ha0⟩)
  (case ho => k_is)
  (case hcd => k_is)
  (case hb => exact BindsTo.of_eq rfl)
  (case hl => exact locs rfl)
  (case c1 => exact rfl)
  (case c2 => exact rfl)
  (case c3 => exact rfl)
  (case c4 => decide)
  intro g L' h₁ F N B X T hg hlt hnone
  k_fold
  (repeat' (first | (k_unfold; (try dsimp only)) | ((fail_if_success (with_reducible show wpAny _ _ (exec (Stmt.While _ _ _ _) _) _ _ _)); (fail_if_success (with_reducible show wpAny _ _ (exec (Stmt.For _ _ _ _ _) _) _ _ _)); (fail_if_success (with_reducible show wpAny _ _ (call (Value.ref _) _ _) _ _ _)); (fail_if_success (with_reducible show KswEnd _ _ _ _ _ _ _ _ _ _ _ _)); (fail_if_success (with_reducible show wpAny _ _ (eval (Expr.ListComp _ _ _ _) _) _ _ _)); (fail_if_success (with_reducible show wpAny _ _ (exec (Stmt.Assign _ (Expr.ListComp _ _ _ _) _) _) _ _ _)); (fail_if_success (with_reducible show Out _ _ _ _ _)); (fail_if_success (with_reducible show LCg.CompEnd _ _ _ _ _ _ _ _ _ _ _ _ _ _)); (fail_if_success (with_reducible show LCg.CompSrc _ _ _ _ _ _ _ _ _ _ _ _ _ _)); (fail_if_success (with_reducible show LCt.CompSrcT _ _ _ _ _ _ _ _ _ _ _ _ _ _ _)); (fail_if_success (with_reducible show Meet _ _ _)); (fail_if_success (with_reducible show wpAny _ _ (pyIter _) _ _ _)); (fail_if_success (with_reducible show LEnd _ _ _ _ _ _ _ _ _ _ _)); (fail_if_success (with_reducible show LPost _ _ _ _ _ _ _ _ _ _ _ _ _)); first | walk1 | (dsimp only; walk1)) | (k_end; dsimp only; k_unfold; (try dsimp only)) | fail "no step"))
  rename_i t' h' F' N'
  refine' ksw_while (σ := Int × Tok × List Value × List Int) (fun c => [(a, listOf c.2.2.1.toArray n)]) (fun c => [(Str.ofString "pos", .int c.1 c.2.1)]) (fun c => IntsAre c.2.2.1 c.2.2.2) [Str.ofString "parentpos", Str.ofString "parent"]
    (fun c => 0 ≤ c.1 ∧ c.1 < (c.2.2.2.length : Int) ∧ c.2.2.2.length = ns.length ∧ sd st.toNat (ns.getD ps.toNat 0) c.1.toNat c.2.2.2 = sd st.toNat (ns.getD ps.toNat 0) ps.toNat ns) (fun c => c.1.toNat) (ps, t2, vs, ns) F' N' hi ?kk ⟨h1, h2, rfl, rfl⟩ ?_
  (case kk => intro p hp; rcases List.mem_singleton.mp hp with rfl; rfl)
  rintro ⟨pos, tp, us, ms⟩ u h tk2 hI ⟨p1, p2, p3, p4⟩ F2 N2
  dsimp only [kstB] at hI p1 p2 p3 p4 F2 N2
  clear F' N'
  have hq : Int.fdiv (pos - 1) (2 ^ Int.toNat 1) = (pos - 1) / 2 := Int.fdiv_eq_ediv_of_nonneg _ (by decide)
  dsimp only
  (repeat' (first | (k_unfold; (try dsimp only)) | ((fail_if_success (with_reducible show wpAny _ _ (exec (Stmt.While _ _ _ _) _) _ _ _)); (fail_if_success (with_reducible show wpAny _ _ (exec (Stmt.For _ _ _ _ _) _) _ _ _)); (fail_if_success (with_reducible show wpAny _ _ (call (Value.ref _) _ _) _ _ _)); (fail_if_success (with_reducible show KswEnd _ _ _ _ _ _ _ _ _ _ _ _)); (fail_if_success (with_reducible show wpAny _ _ (eval (Expr.ListComp _ _ _ _) _) _ _ _)); (fail_if_success (with_reducible show wpAny _ _ (exec (Stmt.Assign _ (Expr.ListComp _ _ _ _) _) _) _ _ _)); (fail_if_success (with_reducible show Out _ _ _ _ _)); (fail_if_success (with_reducible show LCg.CompEnd _ _ _ _ _ _ _ _ _ _ _ _ _ _)); (fail_if_success (with_reducible show LCg.CompSrc _ _ _ _ _ _ _ _ _ _ _ _ _ _)); (fail_if_success (with_reducible show LCt.CompSrcT _ _ _ _ _ _ _ _ _ _ _ _ _ _ _)); (fail_if_success (with_reducible show Meet _ _ _)); (fail_if_success (with_reducible show wpAny _ _ (pyIter _) _ _ _)); (fail_if_success (with_reducible show LEnd _ _ _ _ _ _ _ _ _ _ _)); (fail_if_success (with_reducible show LPost _ _ _ _ _ _ _ _ _ _ _ _ _)); first | walk1 | (dsimp only; walk1)) | (k_end; dsimp only; k_unfold; (try dsimp only)) | fail "no step"))
  · rename Fr _ _ _ _ => F9
    rename News _ _ _ _ => N9
    rename IntsAre (List.set _ _ _) _ => hi9
    rename List.length (List.set _ _ _) = _ => hl9
    rename _ < List.getD ms _ _ => hx
    rename st < pos => hs
    refine' ksw_end (Int.fdiv (pos - 1) (2 ^ Int.toNat 1), _, _, _) F9 N9 (fun p hp => hp) hi9 ?kk ?_ ?kp ?_
    case kk => intro p hp; rcases List.mem_singleton.mp hp with rfl; rfl
    case kp =>
      refine ⟨?_, ?_, ?_, ?_⟩
      · dsimp only; rw [hq]; exact (sd_in h0 hs p2).1
      · dsimp only; rw [hl9, hq]; exact (sd_in h0 hs p2).2.1
      · dsimp only; exact hl9.trans p3
      · dsimp only
        rw [← p4]
        conv => rhs; rw [sd_eq]
        rw [hq] at hx ⊢
        rw [sd_half h0 hs] at hx ⊢
        rw [if_pos ((sd_nat h0).mpr hs), if_pos hx]
    · ksw_same
    · dsimp only; rw [hq]; exact (sd_in h0 hs p2).2.2
  · rename Fr _ _ _ _ => F9
    rename News _ _ _ _ => N9
    rename IntsAre (List.set _ _ _) _ => hi9
    rename ¬ (_ < List.getD ms _ _) => hx
    rename st < pos => hs
    refine ⟨_, _, rfl, F9.keep, rfl, _, (N9 _ (.head _)).1, ?_⟩
    rw [← p4, sd_eq]
    rw [hq] at hx
    rw [sd_half h0 hs] at hx
    rw [if_pos ((sd_nat h0).mpr hs), if_neg hx]
    exact hi9
  · rename Fr _ _ _ _ => F9
    rename News _ _ _ _ => N9
    rename IntsAre (List.set _ _ _) _ => hi9
    rename ¬ (st < pos) => hs
    refine ⟨_, _, rfl, F9.keep, rfl, _, (N9 _ (.head _)).1, ?_⟩
    rw [← p4, sd_eq]
    rw [if_neg fun q => hs ((sd_nat h0).mp q)]
    exact hi9

end

section
set_option maxRecDepth 100000

noncomputable def suC (ns : List Int) (pos : Nat) : Nat := if 2 * pos + 2 < ns.length ∧ ¬ ns.getD (2 * pos + 1) 0 < ns.getD (2 * pos + 2) 0 then 2 * pos + 2 else 2 * pos + 1
theorem suC_gt (ns : List Int) (pos : Nat) : pos < suC ns pos := by unfold suC; split <;> omega
theorem suC_lt {ns : List Int} {pos : Nat} (h : 2 * pos + 1 < ns.length) : suC ns pos < ns.length := by unfold suC; split <;> omega
noncomputable def suW : List Int × Nat → List Int × Nat :=
  WellFounded.fix (measure fun c : List Int × Nat => c.1.length - c.2).wf fun c rec =>
    if h : 2 * c.2 + 1 < c.1.length then rec (c.1.set c.2 (c.1.getD (suC c.1 c.2) 0), suC c.1 c.2) (by
      show (c.1.set c.2 _).length - suC c.1 c.2 < c.1.length - c.2
      rw [List.length_set]
      exact Nat.sub_lt_sub_left (Nat.lt_of_le_of_lt (Nat.le_trans (Nat.le_mul_of_pos_left _ (by decide)) (Nat.le_succ _)) h) (suC_gt _ _)) else c
noncomputable def suGo (ns : List Int) (pos : Nat) : List Int × Nat := suW (ns, pos)
theorem suGo_eq (ns : List Int) (pos : Nat) : suGo ns pos = if 2 * pos + 1 < ns.length then suGo (ns.set pos (ns.getD (suC ns pos) 0)) (suC ns pos) else (ns, pos) := by
  unfold suGo suW
  rw [WellFounded.fix_eq]
  split <;> rfl
noncomputable def su (ns : List Int) (pos : Nat) : List Int :=
  sd pos (ns.getD pos 0) (suGo ns pos).2 ((suGo ns pos).1.set (suGo ns pos).2 (ns.getD pos 0))

theorem su_nat {pos ch : Int} (h0 : 0 ≤ pos) (hc : ch = 2 * pos + 1) : ch.toNat = 2 * pos.toNat + 1 ∧ (ch + 1).toNat = 2 * pos.toNat + 2 := by omega
theorem su_lt {pos ch : Int} {n : Nat} (h0 : 0 ≤ pos) (hc : ch = 2 * pos + 1) : (2 * pos.toNat + 1 < n ↔ ch < (n : Int)) ∧ (2 * pos.toNat + 2 < n ↔ ch + 1 < (n : Int)) := by omega
theorem suC_r {ms : List Int} {pos ch : Int} (h0 : 0 ≤ pos) (hc : ch = 2 * pos + 1) (h : ch + 1 < (ms.length : Int)) (hx : ¬ ms.getD ch.toNat 0 < ms.getD (ch + 1).toNat 0) : (ch + 1).toNat = suC ms pos.toNat := by
  rw [(su_nat h0 hc).1, (su_nat h0 hc).2] at hx
  unfold suC
  rw [if_pos ⟨(su_lt h0 hc).2.mpr h, hx⟩, (su_nat h0 hc).2]
theorem suC_l {ms : List Int} {pos ch : Int} (h0 : 0 ≤ pos) (hc : ch = 2 * pos + 1) (hx : ch + 1 < (ms.length : Int) → ms.getD ch.toNat 0 < ms.getD (ch + 1).toNat 0) : ch.toNat = suC ms pos.toNat := by
  rw [(su_nat h0 hc).1, (su_nat h0 hc).2] at hx
  unfold suC
  rw [if_neg fun q => q.2 (hx ((su_lt h0 hc).2.mp q.1)), (su_nat h0 hc).1]
theorem su_dec {pos c : Int} {n : Nat} (h0 : 0 ≤ pos) (h : pos < c) (hc : c < (n : Int)) : n - c.toNat < n - pos.toNat := by omega
theorem su_gt {pos ch : Int} (h0 : 0 ≤ pos) (hc : ch = 2 * pos + 1) : 0 ≤ ch ∧ pos < ch ∧ ch < ch + 1 := by omega
theorem su_kp {ns ms : List Int} {pos ch c ps : Int} (h0 : 0 ≤ pos) (hc : ch = 2 * pos + 1) (p4 : ms.length = ns.length) (h1 : ch ≤ c) (h2 : c < (ns.length : Int)) (e : c.toNat = suC ms pos.toNat) (p5 : suGo ms pos.toNat = suGo ns ps.toNat) :
    0 ≤ c ∧ c < ((ms.set pos.toNat (ms.getD c.toNat 0)).length : Int) ∧ 2 * c + 1 = 2 * c + 1 ∧ (ms.set pos.toNat (ms.getD c.toNat 0)).length = ns.length ∧ suGo (ms.set pos.toNat (ms.getD c.toNat 0)) c.toNat = suGo ns ps.toNat := by
  have hl : (ms.set pos.toNat (ms.getD c.toNat 0)).length = ns.length := List.length_set.trans p4
  refine ⟨Int.le_trans (su_gt h0 hc).1 h1, by rw [hl]; exact h2, rfl, hl, ?_⟩
  rw [← p5]
  conv => rhs; rw [suGo_eq]
  rw [if_pos ((su_lt h0 hc).1.mpr (Int.lt_of_le_of_lt h1 (by rw [p4]; exact h2))), e]
theorem su_end {ms ns : List Int} {pos ch ps : Int} (h0 : 0 ≤ pos) (hc : ch = 2 * pos + 1) (h : ¬ ch < (ms.length : Int)) (h2 : pos < (ms.length : Int)) (e : suGo ms pos.toNat = suGo ns ps.toNat) :
    sd ps.toNat ((ms.set pos.toNat (ns.getD ps.toNat 0)).getD pos.toNat 0) pos.toNat (ms.set pos.toNat (ns.getD ps.toNat 0)) = su ns ps.toNat := by
  rw [suGo_eq, if_neg fun q => h ((su_lt h0 hc).1.mp q)] at e
  unfold su
  rw [← e]
  have : (ms.set pos.toNat (ns.getD ps.toNat 0)).getD pos.toNat 0 = ns.getD ps.toNat 0 := by
    rw [List.getD_eq_getElem?_getD, List.getElem?_set_self ((Int.toNat_lt h0).mpr h2)]; rfl
  rw [this]

theorem fill1 : hd.heap_39 = hd.heap_39 ∧ PySem.Challenge.rw_oy0042_01 = PySem.Challenge.rw_oy0042_01 := by
  w_top off
  k_fill
  exact ⟨rfl, rfl⟩



set_option maxHeartbeats 4000000 in
theorem siftup_does {w : World} {mean : ExcName → Option Value} {mg mb : Str → Option Value} {A A₀ : Around} {base h₀ : Heap} {outer : List Env} {env : Env} {L : Addr} {m : Str → Option Value} {s : Shared}
    (S : Spot w mean mg mb A A₀ base outer env h₀ L m s.heap) (hdp : A.depth ≤ 490) (hun : A.units ≤ 490)
    {a : Addr} {vs : List Value} {ns : List Int} {n : Nat} {ps : Int} {t2 : Tok}
    (ha : s.heap.get? a = some (listOf vs.toArray n)) (haL : a ≠ L) (ha0 : h₀.get? a = none) (hi : IntsAre vs ns) (h1 : 0 ≤ ps) (h2 : ps < ns.length) (hfit : ns.length < 1000) :
    Does w A 165 [.ref a, .int ps t2] [] [a] s (fun v h' => v = .none ∧ ∃ vs', h'.get? a = some (listOf vs'.toArray n) ∧ IntsAre vs' (su ns ps.toNat)) := by
  refine' does_of 490 490 S hdp hun (by decide) [(a, listOf vs.toArray n)] ?hN _ (binds := [(Str.ofString "heap", .ref a), (Str.ofString "pos", .int ps t2)]) ?ho ?hcd ?hb ?hl ?c1 ?c2 ?c3 ?c4 ?_
  (case hN => intro p hp; rcases List.mem_singleton.mp hp with rfl; exact ⟨ha, haL, ha0⟩)
  (case ho => k_is)
  (case hcd => k_is)
  (case hb => exact BindsTo.of_eq rfl)
  (case hl => exact locs rfl)
  (case c1 => exact rfl)
  (case c2 => exact rfl)
  (case c3 => exact rfl)
  (case c4 => decide)
  intro g L' h₁ F N B X T hg hlt hnone
  k_fold
  (repeat' (first | (k_unfold; (try dsimp only)) | ((fail_if_success (with_reducible show wpAny _ _ (exec (Stmt.While _ _ _ _) _) _ _ _)); (fail_if_success (with_reducible show wpAny _ _ (exec (Stmt.For _ _ _ _ _) _) _ _ _)); (fail_if_success (with_reducible show wpAny _ _ (call (Value.ref _) _ _) _ _ _)); (fail_if_success (with_reducible show KswEnd _ _ _ _ _ _ _ _ _ _ _ _)); (fail_if_success (with_reducible show wpAny _ _ (eval (Expr.ListComp _ _ _ _) _) _ _ _)); (fail_if_success (with_reducible show wpAny _ _ (exec (Stmt.Assign _ (Expr.ListComp _ _ _ _) _) _) _ _ _)); (fail_if_success (with_reducible show Out _ _ _ _ _)); (fail_if_success (with_reducible show LCg.CompEnd _ _ _ _ _ _ _ _ _ _ _ _ _ _)); (fail_if_success (with_reducible show LCg.CompSrc _ _ _ _ _ _ _ _ _ _ _ _ _ _)); (fail_if_success (with_reducible show LCt.CompSrcT _ _ _ _ _ _ _ _ _ _ _ _ _ _ _)); (fail_if_success (with_reducible show Meet _ _ _)); (fail_if_success (with_reducible show wpAny _ _ (pyIter _) _ _ _)); (fail_if_success (with_reducible show LEnd _ _ _ _ _ _ _ _ _ _ _)); (fail_if_success (with_reducible show LPost _ _ _ _ _ _ _ _ _ _ _ _ _)); first | walk1 | (dsimp only; walk1)) | (k_end; dsimp only; k_unfold; (try dsimp only)) | fail "no step"))
  rename Fr _ _ _ _ => F9
  rename News _ _ _ _ => N9
  dsimp only at F9
  refine' ksw_while (σ := (Int × Tok) × (Int × Tok) × List Value × List Int) (fun c => [(a, listOf c.2.2.1.toArray n)]) (fun c => [(Str.ofString "pos", .int c.1.1 c.1.2), (Str.ofString "childpos", .int c.2.1.1 c.2.1.2)]) (fun c => IntsAre c.2.2.1 c.2.2.2) [Str.ofString "rightpos"]
    (fun c => 0 ≤ c.1.1 ∧ c.1.1 < (c.2.2.2.length : Int) ∧ c.2.1.1 = 2 * c.1.1 + 1 ∧ c.2.2.2.length = ns.length ∧ suGo c.2.2.2 c.1.1.toNat = suGo ns ps.toNat) (fun c => ns.length - c.1.1.toNat) ((ps, t2), (2 * ps + 1, _), vs, ns) F9 N9 hi ?kk ⟨h1, h2, rfl, rfl, rfl⟩ ?_
  case kk =>
    intro p hp
    rcases List.mem_cons.mp hp with rfl | hp
    · rfl
    · rcases List.mem_singleton.mp hp with rfl
      rfl
  rintro ⟨⟨pos, tp⟩, ⟨ch, tc⟩, us, ms⟩ u h tk2 hI ⟨p1, p2, p3, p4, p5⟩ F2 N2
  dsimp only [kstB] at hI p1 p2 p3 p4 p5 F2 N2
  clear F9 N9
  dsimp only
  (repeat' (first | (k_unfold; (try dsimp only)) | ((fail_if_success (with_reducible show wpAny _ _ (exec (Stmt.While _ _ _ _) _) _ _ _)); (fail_if_success (with_reducible show wpAny _ _ (exec (Stmt.For _ _ _ _ _) _) _ _ _)); (fail_if_success (with_reducible show wpAny _ _ (call (Value.ref _) _ _) _ _ _)); (fail_if_success (with_reducible show KswEnd _ _ _ _ _ _ _ _ _ _ _ _)); (fail_if_success (with_reducible show wpAny _ _ (eval (Expr.ListComp _ _ _ _) _) _ _ _)); (fail_if_success (with_reducible show wpAny _ _ (exec (Stmt.Assign _ (Expr.ListComp _ _ _ _) _) _) _ _ _)); (fail_if_success (with_reducible show Out _ _ _ _ _)); (fail_if_success (with_reducible show LCg.CompEnd _ _ _ _ _ _ _ _ _ _ _ _ _ _)); (fail_if_success (with_reducible show LCg.CompSrc _ _ _ _ _ _ _ _ _ _ _ _ _ _)); (fail_if_success (with_reducible show LCt.CompSrcT _ _ _ _ _ _ _ _ _ _ _ _ _ _ _)); (fail_if_success (with_reducible show Meet _ _ _)); (fail_if_success (with_reducible show wpAny _ _ (pyIter _) _ _ _)); (fail_if_success (with_reducible show LEnd _ _ _ _ _ _ _ _ _ _ _)); (fail_if_success (with_reducible show LPost _ _ _ _ _ _ _ _ _ _ _ _ _)); first | walk1 | (dsimp only; walk1)) | (k_end; dsimp only; k_unfold; (try dsimp only)) | fail "no step"))
  · rename Fr _ _ _ _ => F9
    rename News _ _ _ _ => N9
    rename IntsAre (List.set _ _ _) _ => hi9
    rename List.length (List.set _ _ _) = _ => hl9
    have h8 : ch < (ns.length : Int) := Int.lt_trans (su_gt p1 p3).2.2 (by assumption)
    have hc : Int.toNat (ch) = suC ms pos.toNat := suC_l p1 p3 fun _ => by assumption
    dsimp only at F9
    refine' ksw_end ((ch, _), (2 * (ch) + 1, _), _, _) F9 N9 (fun p hp => hp) hi9 ?kk ?_ ?kp ?_
    case kk =>
      intro p hp
      rcases List.mem_cons.mp hp with rfl | hp
      · rfl
      · rcases List.mem_singleton.mp hp with rfl
        rfl
    case kp => exact su_kp p1 p3 p4 (Int.le_refl _) h8 hc p5
    · ksw_same
    · exact su_dec p1 (su_gt p1 p3).2.1 h8
  · rename Fr _ _ _ _ => F9
    rename News _ _ _ _ => N9
    rename IntsAre (List.set _ _ _) _ => hi9
    rename List.length (List.set _ _ _) = _ => hl9
    have h8 : ch + 1 < (ns.length : Int) := by assumption
    have hc : Int.toNat (ch + 1) = suC ms pos.toNat := suC_r p1 p3 (by rw [p4]; exact h8) (by assumption)
    dsimp only at F9
    refine' ksw_end ((ch + 1, _), (2 * (ch + 1) + 1, _), _, _) F9 N9 (fun p hp => hp) hi9 ?kk ?_ ?kp ?_
    case kk =>
      intro p hp
      rcases List.mem_cons.mp hp with rfl | hp
      · rfl
      · rcases List.mem_singleton.mp hp with rfl
        rfl
    case kp => exact su_kp p1 p3 p4 (Int.le_of_lt (su_gt p1 p3).2.2) h8 hc p5
    · ksw_same
    · exact su_dec p1 (Int.lt_trans (su_gt p1 p3).2.1 (su_gt p1 p3).2.2) h8
  · rename Fr _ _ _ _ => F9
    rename News _ _ _ _ => N9
    rename IntsAre (List.set _ _ _) _ => hi9
    rename List.length (List.set _ _ _) = _ => hl9
    have h8 : ch < (ns.length : Int) := by assumption
    have hc : Int.toNat (ch) = suC ms pos.toNat := suC_l p1 p3 fun q => absurd (p4 ▸ q) (by assumption)
    dsimp only at F9
    refine' ksw_end ((ch, _), (2 * (ch) + 1, _), _, _) F9 N9 (fun p hp => hp) hi9 ?kk ?_ ?kp ?_
    case kk =>
      intro p hp
      rcases List.mem_cons.mp hp with rfl | hp
      · rfl
      · rcases List.mem_singleton.mp hp with rfl
        rfl
    case kp => exact su_kp p1 p3 p4 (Int.le_refl _) h8 hc p5
    · ksw_same
    · exact su_dec p1 (su_gt p1 p3).2.1 h8
  · rename Fr _ _ _ _ => F9
    rename News _ _ _ _ => N9
    rename IntsAre (List.set _ _ _) _ => hi9
    rename List.length (List.set _ _ _) = _ => hl9
    refine use1 (siftdown_does ⟨B, F9, X, T, rfl, rfl, rfl, rfl⟩ (Nat.le_of_ble_eq_true rfl) (Nat.le_of_ble_eq_true rfl) (N9 _ (.head _)).1 (N9 _ (.head _)).2.1 (N9 _ (.head _)).2.2 hi9 h1 p1 (by omega) (by omega)) F9 N9 ?_
    rintro v h9 tk9 F3 N3 ⟨rfl, vs', g3, i3⟩
    clear F9 N9
    (repeat' (first | (k_unfold; (try dsimp only)) | ((fail_if_success (with_reducible show wpAny _ _ (exec (Stmt.While _ _ _ _) _) _ _ _)); (fail_if_success (with_reducible show wpAny _ _ (exec (Stmt.For _ _ _ _ _) _) _ _ _)); (fail_if_success (with_reducible show wpAny _ _ (call (Value.ref _) _ _) _ _ _)); (fail_if_success (with_reducible show KswEnd _ _ _ _ _ _ _ _ _ _ _ _)); (fail_if_success (with_reducible show wpAny _ _ (eval (Expr.ListComp _ _ _ _) _) _ _ _)); (fail_if_success (with_reducible show wpAny _ _ (exec (Stmt.Assign _ (Expr.ListComp _ _ _ _) _) _) _ _ _)); (fail_if_success (with_reducible show Out _ _ _ _ _)); (fail_if_success (with_reducible show LCg.CompEnd _ _ _ _ _ _ _ _ _ _ _ _ _ _)); (fail_if_success (with_reducible show LCg.CompSrc _ _ _ _ _ _ _ _ _ _ _ _ _ _)); (fail_if_success (with_reducible show LCt.CompSrcT _ _ _ _ _ _ _ _ _ _ _ _ _ _ _)); (fail_if_success (with_reducible show Meet _ _ _)); (fail_if_success (with_reducible show wpAny _ _ (pyIter _) _ _ _)); (fail_if_success (with_reducible show LEnd _ _ _ _ _ _ _ _ _ _ _)); (fail_if_success (with_reducible show LPost _ _ _ _ _ _ _ _ _ _ _ _ _)); first | walk1 | (dsimp only; walk1)) | (k_end; dsimp only; k_unfold; (try dsimp only)) | fail "no step"))
    refine ⟨_, _, rfl, F3.keep, rfl, _, g3, ?_⟩
    rw [← su_end p1 p3 (by omega) p2 p5]
    exact i3

end

section
set_option maxRecDepth 100000

theorem fill2 : hd.heap_39 = hd.heap_39 ∧ PySem.Challenge.rw_oy0042_01 = PySem.Challenge.rw_oy0042_01 := by
  w_top off
  k_fill
  exact ⟨rfl, rfl⟩



theorem ints_snoc {vs : List Value} {ns : List Int} (h : IntsAre vs ns) (x : Int) (t : Tok) : IntsAre (vs ++ [.int x t]) (ns ++ [x]) := by
  induction h with
  | nil => exact .cons x t .nil
  | cons n t' _ ih => exact .cons n t' ih

set_option maxHeartbeats 4000000 in
theorem heappush_does {w : World} {mean : ExcName → Option Value} {mg mb : Str → Option Value} {A A₀ : Around} {base h₀ : Heap} {outer : List Env} {env : Env} {L : Addr} {m : Str → Option Value} {s : Shared}
    (S : Spot w mean mg mb A A₀ base outer env h₀ L m s.heap) (hdp : A.depth ≤ 480) (hun : A.units ≤ 480)
    {a : Addr} {vs : List Value} {ns : List Int} {n : Nat} {x : Int} {t2 : Tok}
    (ha : s.heap.get? a = some (listOf vs.toArray n)) (haL : a ≠ L) (ha0 : h₀.get? a = none) (hi : IntsAre vs ns) (hfit : ns.length < 900) :
    Does w A 137 [.ref a, .int x t2] [] [a] s (fun v h' => v = .none ∧ ∃ vs' n', h'.get? a = some (listOf vs'.toArray n') ∧ IntsAre vs' (sd 0 x ns.length (ns ++ [x]))) := by
  refine' does_of 480 480 S hdp hun (by decide) [(a, listOf vs.toArray n)] ?hN _ (binds := [(Str.ofString "heap", .ref a), (Str.ofString "item", .int x t2)]) ?ho ?hcd ?hb ?hl ?c1 ?c2 ?c3 ?c4 ?_
  case hN => exact List.forall_mem_singleton.mpr ⟨ha, haL, ha0⟩
  case ho => k_is
  case hcd => k_is
  case hb => exact BindsTo.of_eq rfl
  case hl => exact locs rfl
  case c1 => exact rfl
  case c2 => exact rfl
  case c3 => exact rfl
  case c4 => decide
  intro g L' h₁ F N B X T hg hlt hnone
  k_fold

  (repeat' (first | (k_unfold; (try dsimp only)) | ((fail_if_success (with_reducible show wpAny _ _ (exec (Stmt.While _ _ _ _) _) _ _ _)); (fail_if_success (with_reducible show wpAny _ _ (exec (Stmt.For _ _ _ _ _) _) _ _ _)); (fail_if_success (with_reducible show wpAny _ _ (call (Value.ref _) _ _) _ _ _)); (fail_if_success (with_reducible show KswEnd _ _ _ _ _ _ _ _ _ _ _ _)); (fail_if_success (with_reducible show wpAny _ _ (eval (Expr.ListComp _ _ _ _) _) _ _ _)); (fail_if_success (with_reducible show wpAny _ _ (exec (Stmt.Assign _ (Expr.ListComp _ _ _ _) _) _) _ _ _)); (fail_if_success (with_reducible show Out _ _ _ _ _)); (fail_if_success (with_reducible show LCg.CompEnd _ _ _ _ _ _ _ _ _ _ _ _ _ _)); (fail_if_success (with_reducible show LCg.CompSrc _ _ _ _ _ _ _ _ _ _ _ _ _ _)); (fail_if_success (with_reducible show LCt.CompSrcT _ _ _ _ _ _ _ _ _ _ _ _ _ _ _)); (fail_if_success (with_reducible show Meet _ _ _)); (fail_if_success (with_reducible show wpAny _ _ (pyIter _) _ _ _)); (fail_if_success (with_reducible show LEnd _ _ _ _ _ _ _ _ _ _ _)); (fail_if_success (with_reducible show LPost _ _ _ _ _ _ _ _ _ _ _ _ _)); first | walk1 | (dsimp only; walk1)) | (k_end; dsimp only; k_unfold; (try dsimp only)) | fail "no step"))
  rename Fr _ _ _ _ => F9
  rename News _ _ _ _ => N9
  have hx : (ns ++ [x]).length = ns.length + 1 := by simp
  have hz : ((ns.length : Int) + 1 - 1) = (ns.length : Int) := by omega
  refine use1 (siftdown_does ⟨B, F9, X, T, rfl, rfl, rfl, rfl⟩ (Nat.le_of_ble_eq_true rfl) (Nat.le_of_ble_eq_true rfl) (N9 _ (.head _)).1 (N9 _ (.head _)).2.1 (N9 _ (.head _)).2.2 (ints_snoc hi x t2) (by omega) (by omega) (by omega) (by omega)) F9 N9 ?_
  rintro v h9 tk9 F3 N3 ⟨rfl, vs', g3, i3⟩
  clear F9 N9
  (repeat' (first | (k_unfold; (try dsimp only)) | ((fail_if_success (with_reducible show wpAny _ _ (exec (Stmt.While _ _ _ _) _) _ _ _)); (fail_if_success (with_reducible show wpAny _ _ (exec (Stmt.For _ _ _ _ _) _) _ _ _)); (fail_if_success (with_reducible show wpAny _ _ (call (Value.ref _) _ _) _ _ _)); (fail_if_success (with_reducible show KswEnd _ _ _ _ _ _ _ _ _ _ _ _)); (fail_if_success (with_reducible show wpAny _ _ (eval (Expr.ListComp _ _ _ _) _) _ _ _)); (fail_if_success (with_reducible show wpAny _ _ (exec (Stmt.Assign _ (Expr.ListComp _ _ _ _) _) _) _ _ _)); (fail_if_success (with_reducible show Out _ _ _ _ _)); (fail_if_success (with_reducible show LCg.CompEnd _ _ _ _ _ _ _ _ _ _ _ _ _ _)); (fail_if_success (with_reducible show LCg.CompSrc _ _ _ _ _ _ _ _ _ _ _ _ _ _)); (fail_if_success (with_reducible show LCt.CompSrcT _ _ _ _ _ _ _ _ _ _ _ _ _ _ _)); (fail_if_success (with_reducible show Meet _ _ _)); (fail_if_success (with_reducible show wpAny _ _ (pyIter _) _ _ _)); (fail_if_success (with_reducible show LEnd _ _ _ _ _ _ _ _ _ _ _)); (fail_if_success (with_reducible show LPost _ _ _ _ _ _ _ _ _ _ _ _ _)); first | walk1 | (dsimp only; walk1)) | (k_end; dsimp only; k_unfold; (try dsimp only)) | fail "no step"))
  refine ⟨_, _, rfl, F3.keep, rfl, _, _, g3, ?_⟩
  have e : (((ns.length + 1 : Nat) : Int) - 1).toNat = ns.length := by omega
  rw [e] at i3
  have e2 : (ns ++ [x]).getD ns.length 0 = x := by simp
  rw [e2] at i3
  exact i3

set_option maxHeartbeats 4000000 in
theorem heappop_does {w : World} {mean : ExcName → Option Value} {mg mb : Str → Option Value} {A A₀ : Around} {base h₀ : Heap} {outer : List Env} {env : Env} {L : Addr} {m : Str → Option Value} {s : Shared}
    (S : Spot w mean mg mb A A₀ base outer env h₀ L m s.heap) (hdp : A.depth ≤ 480) (hun : A.units ≤ 480)
    {a : Addr} {vs : List Value} {ns : List Int} {n : Nat}
    (ha : s.heap.get? a = some (listOf vs.toArray n)) (haL : a ≠ L) (ha0 : h₀.get? a = none) (hi : IntsAre vs ns) (h0 : ns ≠ []) (hfit : ns.length < 900) :
    Does w A 144 [.ref a] [] [a] s (fun v h' => ∃ vs' n' t, v = .int (if ns.length ≤ 1 then ns.getLastD 0 else ns.dropLast.getD 0 0) t ∧ h'.get? a = some (listOf vs'.toArray n') ∧ IntsAre vs' (if ns.length ≤ 1 then [] else su (ns.dropLast.set 0 (ns.getLastD 0)) 0)) := by
  refine' does_of 480 480 S hdp hun (by decide) [(a, listOf vs.toArray n)] ?hN _ (binds := [(Str.ofString "heap", .ref a)]) ?ho ?hcd ?hb ?hl ?c1 ?c2 ?c3 ?c4 ?_
  case hN => exact List.forall_mem_singleton.mpr ⟨ha, haL, ha0⟩
  case ho => k_is
  case hcd => k_is
  case hb => exact BindsTo.of_eq rfl
  case hl => exact locs rfl
  case c1 => exact rfl
  case c2 => exact rfl
  case c3 => exact rfl
  case c4 => decide
  intro g L' h₁ F N B X T hg hlt hnone
  k_fold

  (repeat' (first | (k_unfold; (try dsimp only)) | ((fail_if_success (with_reducible show wpAny _ _ (exec (Stmt.While _ _ _ _) _) _ _ _)); (fail_if_success (with_reducible show wpAny _ _ (exec (Stmt.For _ _ _ _ _) _) _ _ _)); (fail_if_success (with_reducible show wpAny _ _ (call (Value.ref _) _ _) _ _ _)); (fail_if_success (with_reducible show KswEnd _ _ _ _ _ _ _ _ _ _ _ _)); (fail_if_success (with_reducible show wpAny _ _ (eval (Expr.ListComp _ _ _ _) _) _ _ _)); (fail_if_success (with_reducible show wpAny _ _ (exec (Stmt.Assign _ (Expr.ListComp _ _ _ _) _) _) _ _ _)); (fail_if_success (with_reducible show Out _ _ _ _ _)); (fail_if_success (with_reducible show LCg.CompEnd _ _ _ _ _ _ _ _ _ _ _ _ _ _)); (fail_if_success (with_reducible show LCg.CompSrc _ _ _ _ _ _ _ _ _ _ _ _ _ _)); (fail_if_success (with_reducible show LCt.CompSrcT _ _ _ _ _ _ _ _ _ _ _ _ _ _ _)); (fail_if_success (with_reducible show Meet _ _ _)); (fail_if_success (with_reducible show wpAny _ _ (pyIter _) _ _ _)); (fail_if_success (with_reducible show LEnd _ _ _ _ _ _ _ _ _ _ _)); (fail_if_success (with_reducible show LPost _ _ _ _ _ _ _ _ _ _ _ _ _)); first | walk1 | (dsimp only; walk1)) | (k_end; dsimp only; k_unfold; (try dsimp only)) | fail "no step"))
  rename Fr _ _ _ _ => F9
  rename News _ _ _ _ => N9
  have hvl : vs.length = ns.length := hi.length
  have hpos : 0 < ns.length := List.length_pos_iff.mpr h0
  refine kpa_pop F9 N9 (.head (List.forall_mem_nil _)) hi (by omega) (by rw [sizeLine_eq]; omega) ?_
  clear F9 N9
  intro h9 t9 F9 N9 hi9
  (repeat' (first | (k_unfold; (try dsimp only)) | ((fail_if_success (with_reducible show wpAny _ _ (exec (Stmt.While _ _ _ _) _) _ _ _)); (fail_if_success (with_reducible show wpAny _ _ (exec (Stmt.For _ _ _ _ _) _) _ _ _)); (fail_if_success (with_reducible show wpAny _ _ (call (Value.ref _) _ _) _ _ _)); (fail_if_success (with_reducible show KswEnd _ _ _ _ _ _ _ _ _ _ _ _)); (fail_if_success (with_reducible show wpAny _ _ (eval (Expr.ListComp _ _ _ _) _) _ _ _)); (fail_if_success (with_reducible show wpAny _ _ (exec (Stmt.Assign _ (Expr.ListComp _ _ _ _) _) _) _ _ _)); (fail_if_success (with_reducible show Out _ _ _ _ _)); (fail_if_success (with_reducible show LCg.CompEnd _ _ _ _ _ _ _ _ _ _ _ _ _ _)); (fail_if_success (with_reducible show LCg.CompSrc _ _ _ _ _ _ _ _ _ _ _ _ _ _)); (fail_if_success (with_reducible show LCt.CompSrcT _ _ _ _ _ _ _ _ _ _ _ _ _ _ _)); (fail_if_success (with_reducible show Meet _ _ _)); (fail_if_success (with_reducible show wpAny _ _ (pyIter _) _ _ _)); (fail_if_success (with_reducible show LEnd _ _ _ _ _ _ _ _ _ _ _)); (fail_if_success (with_reducible show LPost _ _ _ _ _ _ _ _ _ _ _ _ _)); first | walk1 | (dsimp only; walk1)) | (k_end; dsimp only; k_unfold; (try dsimp only)) | fail "no step"))
  rename Fr _ _ _ _ => F9
  rename News _ _ _ _ => N9
  refine kgr_truthy N9 (.head _) rfl rfl (by rw [List.length_dropLast]; omega) ?_
  have hdl : ns.dropLast.length = ns.length - 1 := List.length_dropLast
  have hvd : vs.dropLast.length = ns.dropLast.length := hi9.length
  by_cases h1 : ns.length ≤ 1
  · have e : (!vs.dropLast.isEmpty) = false := by
      rw [List.length_eq_zero_iff.mp (show vs.dropLast.length = 0 by omega)]; rfl
    rw [e]
    (repeat' (first | (k_unfold; (try dsimp only)) | ((fail_if_success (with_reducible show wpAny _ _ (exec (Stmt.While _ _ _ _) _) _ _ _)); (fail_if_success (with_reducible show wpAny _ _ (exec (Stmt.For _ _ _ _ _) _) _ _ _)); (fail_if_success (with_reducible show wpAny _ _ (call (Value.ref _) _ _) _ _ _)); (fail_if_success (with_reducible show KswEnd _ _ _ _ _ _ _ _ _ _ _ _)); (fail_if_success (with_reducible show wpAny _ _ (eval (Expr.ListComp _ _ _ _) _) _ _ _)); (fail_if_success (with_reducible show wpAny _ _ (exec (Stmt.Assign _ (Expr.ListComp _ _ _ _) _) _) _ _ _)); (fail_if_success (with_reducible show Out _ _ _ _ _)); (fail_if_success (with_reducible show LCg.CompEnd _ _ _ _ _ _ _ _ _ _ _ _ _ _)); (fail_if_success (with_reducible show LCg.CompSrc _ _ _ _ _ _ _ _ _ _ _ _ _ _)); (fail_if_success (with_reducible show LCt.CompSrcT _ _ _ _ _ _ _ _ _ _ _ _ _ _ _)); (fail_if_success (with_reducible show Meet _ _ _)); (fail_if_success (with_reducible show wpAny _ _ (pyIter _) _ _ _)); (fail_if_success (with_reducible show LEnd _ _ _ _ _ _ _ _ _ _ _)); (fail_if_success (with_reducible show LPost _ _ _ _ _ _ _ _ _ _ _ _ _)); first | walk1 | (dsimp only; walk1)) | (k_end; dsimp only; k_unfold; (try dsimp only)) | fail "no step"))
    refine ⟨_, _, rfl, F9.keep, _, _, t9, ?_, (N9 _ (.head _)).1, ?_⟩
    · rw [if_pos h1]
    · rw [if_pos h1, ← List.length_eq_zero_iff.mp (show ns.dropLast.length = 0 by omega)]
      exact hi9
  · have e : (!vs.dropLast.isEmpty) = true := by
      have : vs.dropLast ≠ [] := fun q => by rw [q] at hvd; simp only [List.length_nil] at hvd; omega
      cases q : vs.dropLast with
      | nil => exact absurd q this
      | cons => rfl
    rw [e]
    (repeat' (first | (k_unfold; (try dsimp only)) | ((fail_if_success (with_reducible show wpAny _ _ (exec (Stmt.While _ _ _ _) _) _ _ _)); (fail_if_success (with_reducible show wpAny _ _ (exec (Stmt.For _ _ _ _ _) _) _ _ _)); (fail_if_success (with_reducible show wpAny _ _ (call (Value.ref _) _ _) _ _ _)); (fail_if_success (with_reducible show KswEnd _ _ _ _ _ _ _ _ _ _ _ _)); (fail_if_success (with_reducible show wpAny _ _ (eval (Expr.ListComp _ _ _ _) _) _ _ _)); (fail_if_success (with_reducible show wpAny _ _ (exec (Stmt.Assign _ (Expr.ListComp _ _ _ _) _) _) _ _ _)); (fail_if_success (with_reducible show Out _ _ _ _ _)); (fail_if_success (with_reducible show LCg.CompEnd _ _ _ _ _ _ _ _ _ _ _ _ _ _)); (fail_if_success (with_reducible show LCg.CompSrc _ _ _ _ _ _ _ _ _ _ _ _ _ _)); (fail_if_success (with_reducible show LCt.CompSrcT _ _ _ _ _ _ _ _ _ _ _ _ _ _ _)); (fail_if_success (with_reducible show Meet _ _ _)); (fail_if_success (with_reducible show wpAny _ _ (pyIter _) _ _ _)); (fail_if_success (with_reducible show LEnd _ _ _ _ _ _ _ _ _ _ _)); (fail_if_success (with_reducible show LPost _ _ _ _ _ _ _ _ _ _ _ _ _)); first | walk1 | (dsimp only; walk1)) | (k_end; dsimp only; k_unfold; (try dsimp only)) | fail "no step"))
    rename Fr _ _ _ _ => F8
    rename News _ _ _ _ => N8
    rename IntsAre (List.set _ _ _) _ => hi8
    rename List.length (List.set _ _ _) = _ => hl8
    refine use1 (siftup_does ⟨B, F8, X, T, rfl, rfl, rfl, rfl⟩ (Nat.le_of_ble_eq_true rfl) (Nat.le_of_ble_eq_true rfl) (N8 _ (.head _)).1 (N8 _ (.head _)).2.1 (N8 _ (.head _)).2.2 hi8 (by omega) (by omega) (by omega)) F8 N8 ?_
    rintro v h9 tk9 F3 N3 ⟨rfl, vs', g3, i3⟩
    clear F8 N8
    (repeat' (first | (k_unfold; (try dsimp only)) | ((fail_if_success (with_reducible show wpAny _ _ (exec (Stmt.While _ _ _ _) _) _ _ _)); (fail_if_success (with_reducible show wpAny _ _ (exec (Stmt.For _ _ _ _ _) _) _ _ _)); (fail_if_success (with_reducible show wpAny _ _ (call (Value.ref _) _ _) _ _ _)); (fail_if_success (with_reducible show KswEnd _ _ _ _ _ _ _ _ _ _ _ _)); (fail_if_success (with_reducible show wpAny _ _ (eval (Expr.ListComp _ _ _ _) _) _ _ _)); (fail_if_success (with_reducible show wpAny _ _ (exec (Stmt.Assign _ (Expr.ListComp _ _ _ _) _) _) _ _ _)); (fail_if_success (with_reducible show Out _ _ _ _ _)); (fail_if_success (with_reducible show LCg.CompEnd _ _ _ _ _ _ _ _ _ _ _ _ _ _)); (fail_if_success (with_reducible show LCg.CompSrc _ _ _ _ _ _ _ _ _ _ _ _ _ _)); (fail_if_success (with_reducible show LCt.CompSrcT _ _ _ _ _ _ _ _ _ _ _ _ _ _ _)); (fail_if_success (with_reducible show Meet _ _ _)); (fail_if_success (with_reducible show wpAny _ _ (pyIter _) _ _ _)); (fail_if_success (with_reducible show LEnd _ _ _ _ _ _ _ _ _ _ _)); (fail_if_success (with_reducible show LPost _ _ _ _ _ _ _ _ _ _ _ _ _)); first | walk1 | (dsimp only; walk1)) | (k_end; dsimp only; k_unfold; (try dsimp only)) | fail "no step"))
    refine ⟨_, _, rfl, F3.keep, _, _, _, by rw [if_neg h1]; rfl, g3, ?_⟩
    rw [if_neg h1]
    exact i3

theorem sd_length (start : Nat) (x : Int) : ∀ (pos : Nat) (ns : List Int), (sd start x pos ns).length = ns.length := by
  intro pos
  induction pos using Nat.strongRecOn with
  | ind pos ih =>
    intro ns
    rw [sd_eq]
    split
    · split
      · rw [ih _ (by omega), List.length_set]
      · rw [List.length_set]
    · rw [List.length_set]
theorem suGo_length : ∀ (k : Nat) (ns : List Int) (pos : Nat), ns.length - pos ≤ k → (suGo ns pos).1.length = ns.length := by
  intro k
  induction k with
  | zero => intro ns pos h; rw [suGo_eq, if_neg (by omega)]
  | succ k ih =>
    intro ns pos h
    rw [suGo_eq]
    split
    · have := suC_gt ns pos
      rw [ih _ _ (by rw [List.length_set]; omega), List.length_set]
    · rfl
theorem su_length (ns : List Int) (pos : Nat) : (su ns pos).length = ns.length := by
  unfold su
  rw [sd_length, List.length_set, suGo_length _ _ _ (Nat.le_refl _)]

noncomputable def hfy : Nat → List Int → List Int
  | 0, l => l
  | k + 1, l => hfy k (su l k)
theorem hfy_succ (k : Nat) (l : List Int) : hfy (k + 1) l = hfy k (su l k) := rfl

set_option maxHeartbeats 4000000 in
theorem heapify_does {w : World} {mean : ExcName → Option Value} {mg mb : Str → Option Value} {A A₀ : Around} {base h₀ : Heap} {outer : List Env} {env : Env} {L : Addr} {m : Str → Option Value} {s : Shared}
    (S : Spot w mean mg mb A A₀ base outer env h₀ L m s.heap) (hdp : A.depth ≤ 480) (hun : A.units ≤ 480)
    {a : Addr} {vs : List Value} {ns : List Int} {n : Nat}
    (ha : s.heap.get? a = some (listOf vs.toArray n)) (haL : a ≠ L) (ha0 : h₀.get? a = none) (hi : IntsAre vs ns) (hfit : ns.length < 900) :
    Does w A 151 [.ref a] [] [a] s (fun v h' => v = .none ∧ ∃ vs' n', h'.get? a = some (listOf vs'.toArray n') ∧ IntsAre vs' (hfy (ns.length / 2) ns)) := by
  refine' does_of 480 480 S hdp hun (by decide) [(a, listOf vs.toArray n)] ?hN _ (binds := [(Str.ofString "x", .ref a)]) ?ho ?hcd ?hb ?hl ?c1 ?c2 ?c3 ?c4 ?_
  case hN => exact List.forall_mem_singleton.mpr ⟨ha, haL, ha0⟩
  case ho => k_is
  case hcd => k_is
  case hb => exact BindsTo.of_eq rfl
  case hl => exact locs rfl
  case c1 => exact rfl
  case c2 => exact rfl
  case c3 => exact rfl
  case c4 => decide
  intro g L' h₁ F N B X T hg hlt hnone
  k_fold

  (repeat' (first | (k_unfold; (try dsimp only)) | ((fail_if_success (with_reducible show wpAny _ _ (exec (Stmt.While _ _ _ _) _) _ _ _)); (fail_if_success (with_reducible show wpAny _ _ (exec (Stmt.For _ _ _ _ _) _) _ _ _)); (fail_if_success (with_reducible show wpAny _ _ (call (Value.ref _) _ _) _ _ _)); (fail_if_success (with_reducible show KswEnd _ _ _ _ _ _ _ _ _ _ _ _)); (fail_if_success (with_reducible show wpAny _ _ (eval (Expr.ListComp _ _ _ _) _) _ _ _)); (fail_if_success (with_reducible show wpAny _ _ (exec (Stmt.Assign _ (Expr.ListComp _ _ _ _) _) _) _ _ _)); (fail_if_success (with_reducible show Out _ _ _ _ _)); (fail_if_success (with_reducible show LCg.CompEnd _ _ _ _ _ _ _ _ _ _ _ _ _ _)); (fail_if_success (with_reducible show LCg.CompSrc _ _ _ _ _ _ _ _ _ _ _ _ _ _)); (fail_if_success (with_reducible show LCt.CompSrcT _ _ _ _ _ _ _ _ _ _ _ _ _ _ _)); (fail_if_success (with_reducible show Meet _ _ _)); (fail_if_success (with_reducible show wpAny _ _ (pyIter _) _ _ _)); (fail_if_success (with_reducible show LEnd _ _ _ _ _ _ _ _ _ _ _)); (fail_if_success (with_reducible show LPost _ _ _ _ _ _ _ _ _ _ _ _ _)); first | walk1 | (dsimp only; walk1)) | (k_end; dsimp only; k_unfold; (try dsimp only)) | fail "no step"))
  refine For_invV g rfl rfl ?_
  (repeat' (first | (k_unfold; (try dsimp only)) | ((fail_if_success (with_reducible show wpAny _ _ (exec (Stmt.While _ _ _ _) _) _ _ _)); (fail_if_success (with_reducible show wpAny _ _ (exec (Stmt.For _ _ _ _ _) _) _ _ _)); (fail_if_success (with_reducible show wpAny _ _ (call (Value.ref _) _ _) _ _ _)); (fail_if_success (with_reducible show KswEnd _ _ _ _ _ _ _ _ _ _ _ _)); (fail_if_success (with_reducible show wpAny _ _ (eval (Expr.ListComp _ _ _ _) _) _ _ _)); (fail_if_success (with_reducible show wpAny _ _ (exec (Stmt.Assign _ (Expr.ListComp _ _ _ _) _) _) _ _ _)); (fail_if_success (with_reducible show Out _ _ _ _ _)); (fail_if_success (with_reducible show LCg.CompEnd _ _ _ _ _ _ _ _ _ _ _ _ _ _)); (fail_if_success (with_reducible show LCg.CompSrc _ _ _ _ _ _ _ _ _ _ _ _ _ _)); (fail_if_success (with_reducible show LCt.CompSrcT _ _ _ _ _ _ _ _ _ _ _ _ _ _ _)); (fail_if_success (with_reducible show Meet _ _ _)); (fail_if_success (with_reducible show wpAny _ _ (pyIter _) _ _ _)); (fail_if_success (with_reducible show LEnd _ _ _ _ _ _ _ _ _ _ _)); (fail_if_success (with_reducible show LPost _ _ _ _ _ _ _ _ _ _ _ _ _)); first | walk1 | (dsimp only; walk1)) | (k_end; dsimp only; k_unfold; (try dsimp only)) | fail "no step"))
  rename Fr _ _ _ _ => F9
  rename News _ _ _ _ => N9
  have hq : Int.fdiv (ns.length : Int) 2 = (ns.length : Int) / 2 := Int.fdiv_eq_ediv_of_nonneg _ (by decide)
  rename IsRange _ _ _ _ _ _ _ _ => R9
  rw [hq] at R9
  refine call_reversed_range R9 (by omega) (by omega) ?_
  dsimp only
  refine wpAny_pyIter_rangeiter (Heap.get?_push_size _ rfl) ?_
  have hLlt := F9.ns.lt
  have haI := Heap.lt_size (N9 _ (.head _)).1
  refine loopS (L := L') (σ := List Value × Nat × List Int) (fun c => [(a, listOf c.1.toArray c.2.1)]) (fun _ => []) []
    (fun i c => IntsAre c.1 c.2.2 ∧ c.2.2.length = ns.length ∧ hfy ((ns.length : Int) / 2 - i).toNat c.2.2 = hfy (ns.length / 2) ns) (vs, n, ns) []
    (Walks.range rfl _ ((ns.length : Int) / 2 - 1) (-1) ((ns.length : Int) / 2).toNat) rfl ?_ ?_ ?_ (List.forall_mem_nil _) ?_ (fun _ => rfl) (F9.push _) (fun p hp => ⟨Heap.get?_push_of_some _ (N9 p hp).1, (N9 p hp).2⟩) (List.forall_mem_nil _) ?_ ?_ ?_
  · intro q
    exact absurd hLlt (List.mem_singleton.mp q ▸ Nat.lt_irrefl _)
  · intro b hb
    rw [List.mem_singleton.mp hb]
    exact next_is_new F9
  · intro p hp q
    rw [List.mem_singleton.mp hp] at q
    exact absurd haI (List.mem_singleton.mp q ▸ Nat.lt_irrefl _)
  · have e1 : (ns.length : Int) / 2 - 1 + ((0 : Nat) : Int) * -1 = (ns.length : Int) / 2 - 1 := by omega
    have e2 : ((((ns.length : Int) / 2).toNat : Nat) : Int) - ((0 : Nat) : Int) = (ns.length : Int) / 2 := by omega
    rw [e1, e2]
    exact Heap.get?_push_size _ rfl
  · exact ⟨hi, rfl, by congr 1⟩
  · rintro i v ⟨us, n', ms⟩ u h tk own hin ⟨t, rfl⟩ hoff ⟨hI, hlen, hf⟩ hst F₁ N₁
    dsimp only [kstB] at hI hlen hf F₁ N₁
    dsimp only
    (repeat' (first | (k_unfold; (try dsimp only)) | ((fail_if_success (with_reducible show wpAny _ _ (exec (Stmt.While _ _ _ _) _) _ _ _)); (fail_if_success (with_reducible show wpAny _ _ (exec (Stmt.For _ _ _ _ _) _) _ _ _)); (fail_if_success (with_reducible show wpAny _ _ (call (Value.ref _) _ _) _ _ _)); (fail_if_success (with_reducible show KswEnd _ _ _ _ _ _ _ _ _ _ _ _)); (fail_if_success (with_reducible show wpAny _ _ (eval (Expr.ListComp _ _ _ _) _) _ _ _)); (fail_if_success (with_reducible show wpAny _ _ (exec (Stmt.Assign _ (Expr.ListComp _ _ _ _) _) _) _ _ _)); (fail_if_success (with_reducible show Out _ _ _ _ _)); (fail_if_success (with_reducible show LCg.CompEnd _ _ _ _ _ _ _ _ _ _ _ _ _ _)); (fail_if_success (with_reducible show LCg.CompSrc _ _ _ _ _ _ _ _ _ _ _ _ _ _)); (fail_if_success (with_reducible show LCt.CompSrcT _ _ _ _ _ _ _ _ _ _ _ _ _ _ _)); (fail_if_success (with_reducible show Meet _ _ _)); (fail_if_success (with_reducible show wpAny _ _ (pyIter _) _ _ _)); (fail_if_success (with_reducible show LEnd _ _ _ _ _ _ _ _ _ _ _)); (fail_if_success (with_reducible show LPost _ _ _ _ _ _ _ _ _ _ _ _ _)); first | walk1 | (dsimp only; walk1)) | (k_end; dsimp only; k_unfold; (try dsimp only)) | fail "no step"))
    rename Fr _ _ _ _ => F8
    have hp0 : 0 ≤ (ns.length : Int) / 2 - 1 + (i : Int) * -1 := by omega
    refine siftup_does ⟨B, F8, X, T, rfl, rfl, rfl, rfl⟩ (Nat.le_of_ble_eq_true rfl) (Nat.le_of_ble_eq_true rfl) (N₁ _ (.head _)).1 (N₁ _ (.head _)).2.1 (N₁ _ (.head _)).2.2 hI hp0 (by omega) (by omega) _ _ ?_
    rintro v h9 tk9 hk9 ⟨rfl, vs', g3, i3⟩
    (repeat' (first | (k_unfold; (try dsimp only)) | ((fail_if_success (with_reducible show wpAny _ _ (exec (Stmt.While _ _ _ _) _) _ _ _)); (fail_if_success (with_reducible show wpAny _ _ (exec (Stmt.For _ _ _ _ _) _) _ _ _)); (fail_if_success (with_reducible show wpAny _ _ (call (Value.ref _) _ _) _ _ _)); (fail_if_success (with_reducible show KswEnd _ _ _ _ _ _ _ _ _ _ _ _)); (fail_if_success (with_reducible show wpAny _ _ (eval (Expr.ListComp _ _ _ _) _) _ _ _)); (fail_if_success (with_reducible show wpAny _ _ (exec (Stmt.Assign _ (Expr.ListComp _ _ _ _) _) _) _ _ _)); (fail_if_success (with_reducible show Out _ _ _ _ _)); (fail_if_success (with_reducible show LCg.CompEnd _ _ _ _ _ _ _ _ _ _ _ _ _ _)); (fail_if_success (with_reducible show LCg.CompSrc _ _ _ _ _ _ _ _ _ _ _ _ _ _)); (fail_if_success (with_reducible show LCt.CompSrcT _ _ _ _ _ _ _ _ _ _ _ _ _ _ _)); (fail_if_success (with_reducible show Meet _ _ _)); (fail_if_success (with_reducible show wpAny _ _ (pyIter _) _ _ _)); (fail_if_success (with_reducible show LEnd _ _ _ _ _ _ _ _ _ _ _)); (fail_if_success (with_reducible show LPost _ _ _ _ _ _ _ _ _ _ _ _ _)); first | walk1 | (dsimp only; walk1)) | (k_end; dsimp only; k_unfold; (try dsimp only)) | fail "no step"))
    dsimp only [LPost]
    refine ⟨(vs', n', su ms ((ns.length : Int) / 2 - 1 + (i : Int) * -1).toNat), _, _, _, rfl, hk9.fr F8 (fun q => (N₁ _ (.head _)).2.1 (List.mem_singleton.mp q).symm) (fun b hb => List.mem_singleton.mp hb ▸ (N₁ _ (.head _)).2.2), hk9.put N₁ (.head _) g3 (fun p hp => ⟨.tail _ hp, hoff p hp a (.head _)⟩), List.forall_mem_nil _, ?_, i3, ?_, ?_⟩
    · intro z h1 _ _
      simp [h1]
    · exact (su_length _ _).trans hlen
    · dsimp only
      rw [← hf]
      have e1 : ((ns.length : Int) / 2 - (i : Int)).toNat = ((ns.length : Int) / 2 - 1 + (i : Int) * -1).toNat + 1 := by omega
      have e2 : ((ns.length : Int) / 2 - ((i + 1 : Nat) : Int)).toNat = ((ns.length : Int) / 2 - 1 + (i : Int) * -1).toNat := by omega
      rw [e1, e2, hfy_succ]
  · rintro ⟨us, n', ms⟩ u h tk ⟨hI, hlen, hf⟩ F₁ N₁
    dsimp only at hI hlen hf F₁ N₁
    dsimp only
    (repeat' (first | (k_unfold; (try dsimp only)) | ((fail_if_success (with_reducible show wpAny _ _ (exec (Stmt.While _ _ _ _) _) _ _ _)); (fail_if_success (with_reducible show wpAny _ _ (exec (Stmt.For _ _ _ _ _) _) _ _ _)); (fail_if_success (with_reducible show wpAny _ _ (call (Value.ref _) _ _) _ _ _)); (fail_if_success (with_reducible show KswEnd _ _ _ _ _ _ _ _ _ _ _ _)); (fail_if_success (with_reducible show wpAny _ _ (eval (Expr.ListComp _ _ _ _) _) _ _ _)); (fail_if_success (with_reducible show wpAny _ _ (exec (Stmt.Assign _ (Expr.ListComp _ _ _ _) _) _) _ _ _)); (fail_if_success (with_reducible show Out _ _ _ _ _)); (fail_if_success (with_reducible show LCg.CompEnd _ _ _ _ _ _ _ _ _ _ _ _ _ _)); (fail_if_success (with_reducible show LCg.CompSrc _ _ _ _ _ _ _ _ _ _ _ _ _ _)); (fail_if_success (with_reducible show LCt.CompSrcT _ _ _ _ _ _ _ _ _ _ _ _ _ _ _)); (fail_if_success (with_reducible show Meet _ _ _)); (fail_if_success (with_reducible show wpAny _ _ (pyIter _) _ _ _)); (fail_if_success (with_reducible show LEnd _ _ _ _ _ _ _ _ _ _ _)); (fail_if_success (with_reducible show LPost _ _ _ _ _ _ _ _ _ _ _ _ _)); first | walk1 | (dsimp only; walk1)) | (k_end; dsimp only; k_unfold; (try dsimp only)) | fail "no step"))
    have e : ((ns.length : Int) / 2 - ((((ns.length : Int) / 2).toNat : Nat) : Int)).toNat = 0 := by omega
    rw [e] at hf
    exact ⟨_, _, rfl, F₁.keep, rfl, _, _, (N₁ _ (.head _)).1, hf ▸ hI⟩

end

section
noncomputable def Hp (s : Nat) (l : List Int) : Prop := ∀ i, 0 < i → i < l.length → s ≤ (i - 1) / 2 → l.getD ((i - 1) / 2) 0 ≤ l.getD i 0
theorem gset (l : List Int) (i j : Nat) (x : Int) (h : j < l.length) : (l.set i x).getD j 0 = if i = j then x else l.getD j 0 := by
  rw [List.getD_eq_getElem?_getD, List.getD_eq_getElem?_getD]
  by_cases e : i = j
  · subst e
    rw [List.getElem?_set_self h, if_pos rfl]; rfl
  · rw [List.getElem?_set_ne e, if_neg e]
theorem gself (l : List Int) {i : Nat} (x : Int) (h : i < l.length) : (l.set i x).getD i 0 = x := by rw [gset l i i x h, if_pos rfl]
theorem gne (l : List Int) {i j : Nat} (x : Int) (h : i ≠ j) : (l.set i x).getD j 0 = l.getD j 0 := by
  rw [List.getD_eq_getElem?_getD, List.getD_eq_getElem?_getD, List.getElem?_set_ne h]
theorem pr_lt {i : Nat} (h : 0 < i) : (i - 1) / 2 < i := Nat.lt_of_le_of_lt (Nat.div_le_self _ _) (Nat.pred_lt (Nat.ne_of_gt h))
theorem in_set {l : List Int} {i j : Nat} (x : Int) (h : i < l.length) : i < (l.set j x).length := by rw [List.length_set]; exact h
theorem cset (l : List Int) (i : Nat) (x b : Int) (h : i < l.length) : (l.set i x).count b + (if l.getD i 0 = b then 1 else 0) = l.count b + (if x = b then 1 else 0) := by
  induction l generalizing i with
  | nil => cases h
  | cons a l ih =>
    cases i with
    | zero =>
      simp only [List.set_cons_zero, List.count_cons, List.getD_cons_zero, beq_iff_eq]
      omega
    | succ i =>
      have := ih i (by simpa using h)
      simp only [List.set_cons_succ, List.count_cons, List.getD_cons_succ, beq_iff_eq]
      omega
inductive Desc (s : Nat) : Nat → Prop
  | refl : Desc s s
  | step {p : Nat} : 0 < p → Desc s ((p - 1) / 2) → Desc s p
theorem Desc.le {s p : Nat} (h : Desc s p) : s ≤ p := by
  induction h with
  | refl => exact Nat.le_refl _
  | step h _ ih => exact Nat.le_trans ih (Nat.le_of_lt (pr_lt h))
theorem Desc.up {s p : Nat} (h : Desc s p) (hn : p ≠ s) : Desc s ((p - 1) / 2) := by
  cases h with
  | refl => exact absurd rfl hn
  | step _ h => exact h
theorem Desc.zero : ∀ p, Desc 0 p := by
  intro p
  induction p using Nat.strongRecOn with
  | ind p ih =>
    by_cases h : p = 0
    · subst h; exact .refl
    · exact .step (Nat.pos_of_ne_zero h) (ih _ (pr_lt (Nat.pos_of_ne_zero h)))
/-- the hole of _siftdown -/
noncomputable def Hole (s : Nat) (l : List Int) (p : Nat) : Prop :=
  (∀ i, 0 < i → i < l.length → s ≤ (i - 1) / 2 → i ≠ p → l.getD ((i - 1) / 2) 0 ≤ l.getD i 0) ∧
  (∀ i, 0 < i → i < l.length → (i - 1) / 2 = p → 0 < p → s ≤ (p - 1) / 2 → l.getD ((p - 1) / 2) 0 ≤ l.getD i 0)
theorem sd_hp (s : Nat) (x : Int) : ∀ (p : Nat) (l : List Int), Desc s p → p < l.length → Hole s (l.set p x) p → Hp s (sd s x p l) := by
  intro p
  induction p using Nat.strongRecOn with
  | ind p ih =>
    intro l hD hp hH
    obtain ⟨ha, hb⟩ := hH
    rw [sd_eq]
    split
    · rename_i hsp
      have hp0 : 0 < p := Nat.zero_lt_of_lt hsp
      have hqp := pr_lt hp0
      have hD' := hD.up (Nat.ne_of_gt hsp)
      have hsq := hD'.le
      have hql := Nat.lt_trans hqp hp
      generalize hqe : (p - 1) / 2 = q at *
      have hpq := Nat.ne_of_gt hqp
      split
      · rename_i hx
        refine ih q hqp _ hD' (in_set _ hql) ⟨?_, ?_⟩
        · intro i h0 hi hs hn
          rw [List.length_set, List.length_set] at hi
          rw [gne (i := q) (j := i) _ _ (Ne.symm hn)]
          by_cases e1 : i = p
          · subst e1
            rw [hqe, gself _ _ (in_set _ hql), gself _ _ hi]
            exact Int.le_of_lt hx
          · have e1' := Ne.symm e1
            rw [gne l _ e1']
            have A := ha i h0 (in_set _ hi) hs e1
            rw [gne l x e1'] at A
            by_cases e2 : (i - 1) / 2 = p
            · have Bq := hb i h0 (in_set _ hi) e2 hp0 hsq
              rw [gne l x hpq, gne l x e1'] at Bq
              rw [e2, gne _ _ (Ne.symm hpq), gself _ _ hp]
              exact Bq
            · rw [gne l x (Ne.symm e2)] at A
              by_cases e3 : (i - 1) / 2 = q
              · rw [e3, gself _ _ (in_set _ hql)]
                rw [e3] at A
                exact Int.le_trans (Int.le_of_lt hx) A
              · rw [gne _ _ (Ne.symm e3), gne _ _ (Ne.symm e2)]
                exact A
        · intro i h0 hi hpar hq0 hs
          rw [List.length_set, List.length_set] at hi
          have huq := pr_lt hq0
          have Aq := ha q hq0 (in_set _ hql) hs (Ne.symm hpq)
          have hni : q ≠ i := hpar ▸ Nat.ne_of_lt (pr_lt h0)
          generalize (q - 1) / 2 = u at *
          have hpu := Nat.ne_of_gt (Nat.lt_trans huq hqp)
          rw [gne l x hpu, gne l x hpq] at Aq
          rw [gne _ _ (Nat.ne_of_gt huq), gne _ _ hni, gne l _ hpu]
          by_cases e1 : i = p
          · subst e1
            rw [gself _ _ hi]
            exact Aq
          · have A := ha i h0 (in_set _ hi) (by rw [hpar]; exact Nat.le_trans hs (Nat.le_of_lt huq)) e1
            rw [hpar, gne l x hpq, gne l x (Ne.symm e1)] at A
            rw [gne l _ (Ne.symm e1)]
            exact Int.le_trans Aq A
      · rename_i hx
        intro i h0 hi hs
        by_cases e1 : i = p
        · subst e1
          rw [List.length_set] at hi
          rw [hqe, gne l x hpq, gself _ _ hi]
          exact Int.not_lt.mp hx
        · exact ha i h0 hi hs e1
    · rename_i hsp
      intro i h0 hi hs
      exact ha i h0 hi hs (Nat.ne_of_gt (Nat.lt_of_le_of_lt (Nat.le_trans (Nat.not_lt.mp hsp) hs) (pr_lt h0)))
theorem cset2 (l : List Int) {i j : Nat} (x b : Int) (hi : i < l.length) (hj : j < l.length) (h : i ≠ j) : ((l.set i (l.getD j 0)).set j x).count b = (l.set i x).count b := by
  have h1 := cset (l.set i (l.getD j 0)) j x b (in_set _ hj)
  have h2 := cset l i (l.getD j 0) b hi
  have h3 := cset l i x b hi
  rw [gne _ _ h] at h1
  generalize (if l.getD j 0 = b then 1 else 0) = k1 at *
  generalize (if l.getD i 0 = b then 1 else 0) = k2 at *
  generalize (if x = b then 1 else 0) = k3 at *
  clear hi hj h
  omega
theorem sd_count (s : Nat) (x b : Int) : ∀ (p : Nat) (l : List Int), p < l.length → (sd s x p l).count b = (l.set p x).count b := by
  intro p
  induction p using Nat.strongRecOn with
  | ind p ih =>
    intro l hp
    rw [sd_eq]
    split
    · rename_i hsp
      have hqp := pr_lt (Nat.zero_lt_of_lt hsp)
      split
      · rw [ih _ hqp _ (in_set _ (Nat.lt_trans hqp hp)), cset2 l x b hp (Nat.lt_trans hqp hp) (Nat.ne_of_gt hqp)]
      · rfl
    · rfl
theorem suC_is (l : List Int) (p : Nat) : suC l p = 2 * p + 1 ∨ suC l p = 2 * p + 2 := by unfold suC; split <;> omega
theorem suC_par (l : List Int) (p : Nat) : (suC l p - 1) / 2 = p := by
  rcases suC_is l p with h | h
  · rw [h, Nat.add_sub_cancel, Nat.mul_div_cancel_left p (by decide)]
  · rw [h, show 2 * p + 2 - 1 = 1 + 2 * p from Nat.add_comm _ _, Nat.add_mul_div_left _ _ (by decide)]; exact Nat.zero_add _
theorem suC_pos (l : List Int) (p : Nat) : 0 < suC l p := Nat.zero_lt_of_lt (suC_gt l p)
theorem suC_le {l : List Int} {p i : Nat} (hi : i < l.length) (h0 : 0 < i) (hp : (i - 1) / 2 = p) : l.getD (suC l p) 0 ≤ l.getD i 0 := by
  unfold suC
  have : i = 2 * p + 1 ∨ i = 2 * p + 2 := by omega
  split
  · rename_i h
    rcases this with rfl | rfl
    · have := h.2; omega
    · omega
  · rename_i h
    rcases this with rfl | rfl
    · omega
    · have h2 : l.getD (2 * p + 1) 0 < l.getD (2 * p + 2) 0 := by
        by_cases q : l.getD (2 * p + 1) 0 < l.getD (2 * p + 2) 0
        · exact q
        · exact absurd ⟨hi, q⟩ h
      omega
noncomputable def J (s : Nat) (l : List Int) (p : Nat) : Prop := Hp (s + 1) l ∧ (p ≠ s → Hp s l)
theorem suGo_J (s : Nat) : ∀ (k : Nat) (l : List Int) (p : Nat), l.length - p ≤ k → s ≤ p → p < l.length → J s l p → Desc s p →
    J s (suGo l p).1 (suGo l p).2 ∧ Desc s (suGo l p).2 ∧ s ≤ (suGo l p).2 ∧ (suGo l p).2 < l.length ∧ l.length ≤ 2 * (suGo l p).2 + 1 := by
  intro k
  induction k with
  | zero => intro l p h _ hp _ _; exact absurd hp (Nat.not_lt.mpr (Nat.le_of_sub_eq_zero (Nat.le_zero.mp h)))
  | succ k ih =>
    intro l p h hs hp hJ hD
    rw [suGo_eq]
    split
    · rename_i hc
      have hg := suC_gt l p
      have hl := suC_lt (ns := l) (pos := p) hc
      have key : ∀ i, 0 < i → i < l.length → s ≤ (i - 1) / 2 → (l.set p (l.getD (suC l p) 0)).getD ((i - 1) / 2) 0 ≤ (l.set p (l.getD (suC l p) 0)).getD i 0 := by
        intro i h0 hi hsi
        have hri := pr_lt h0
        by_cases e1 : (i - 1) / 2 = p
        · rw [e1, gself _ _ hp, gne l _ (show p ≠ i from fun q => Nat.ne_of_lt hri (e1.trans q))]
          exact suC_le hi h0 e1
        · rw [gne _ _ (Ne.symm e1)]
          by_cases e2 : p = i
          · subst e2
            rw [gself _ _ hi]
            have hps : p ≠ s := Nat.ne_of_gt (Nat.lt_of_le_of_lt hsi hri)
            have a1 := hJ.2 hps p h0 hi hsi
            have a2 := hJ.2 hps (suC l p) (suC_pos l p) hl (by rw [suC_par]; exact hs)
            rw [suC_par] at a2
            exact Int.le_trans a1 a2
          · rw [gne _ _ e2]
            by_cases hps : p = s
            · exact hJ.1 i h0 hi (Nat.lt_of_le_of_ne hsi (hps ▸ Ne.symm e1))
            · exact hJ.2 hps i h0 hi hsi
      have hJ' : J s (l.set p (l.getD (suC l p) 0)) (suC l p) := by
        refine ⟨fun i h0 hi hsi => ?_, fun _ i h0 hi hsi => ?_⟩
        · rw [List.length_set] at hi; exact key i h0 hi (Nat.le_of_succ_le hsi)
        · rw [List.length_set] at hi; exact key i h0 hi hsi
      have := ih _ (suC l p) (by rw [List.length_set]; exact Nat.le_of_lt_succ (Nat.lt_of_lt_of_le (Nat.sub_lt_sub_left hp hg) h)) (Nat.le_trans hs (Nat.le_of_lt hg)) (in_set _ hl) hJ' (.step (suC_pos l p) (by rw [suC_par]; exact hD))
      rw [List.length_set] at this
      exact this
    · rename_i hc
      exact ⟨hJ, hD, hs, hp, Nat.not_lt.mp hc⟩
theorem suGo_count (x b : Int) : ∀ (k : Nat) (l : List Int) (p : Nat), l.length - p ≤ k → p < l.length → ((suGo l p).1.set (suGo l p).2 x).count b = (l.set p x).count b := by
  intro k
  induction k with
  | zero => intro l p h hp; exact absurd hp (Nat.not_lt.mpr (Nat.le_of_sub_eq_zero (Nat.le_zero.mp h)))
  | succ k ih =>
    intro l p h hp
    rw [suGo_eq]
    split
    · rename_i hc
      have hg := suC_gt l p
      have hl := suC_lt (ns := l) (pos := p) hc
      rw [ih _ _ (by rw [List.length_set]; exact Nat.le_of_lt_succ (Nat.lt_of_lt_of_le (Nat.sub_lt_sub_left hp hg) h)) (in_set _ hl)]
      exact cset2 l x b hp hl (Nat.ne_of_lt hg)
    · rfl
theorem su_hp {s : Nat} {l : List Int} (hs : s < l.length) (h : Hp (s + 1) l) : Hp s (su l s) := by
  obtain ⟨hJ, hD, h1, h2, h3⟩ := suGo_J s _ l s (Nat.le_refl _) (Nat.le_refl _) hs ⟨h, fun q => absurd rfl q⟩ .refl
  have hlen : (suGo l s).1.length = l.length := suGo_length _ _ _ (Nat.le_refl _)
  unfold su
  generalize suGo l s = c at *
  obtain ⟨m, p⟩ := c
  dsimp only at hJ hD h1 h2 h3 hlen ⊢
  rw [← hlen] at h2 h3
  refine sd_hp s _ _ _ hD (in_set _ h2) ⟨?_, ?_⟩
  · intro i h0 hi hsi hn
    rw [List.length_set, List.length_set] at hi
    have hnp : p ≠ (i - 1) / 2 := by
      clear hJ hsi hn hlen hD
      omega
    rw [gne _ _ hnp, gne _ _ hnp, gne _ _ (Ne.symm hn), gne _ _ (Ne.symm hn)]
    by_cases e : p = s
    · exact hJ.1 i h0 hi (Nat.lt_of_le_of_ne hsi (e ▸ hnp))
    · exact hJ.2 e i h0 hi hsi
  · intro i h0 hi hpar
    rw [List.length_set, List.length_set] at hi
    clear hJ hlen hD
    omega
theorem su_count {s : Nat} {l : List Int} (hs : s < l.length) (h : Hp (s + 1) l) (b : Int) : (su l s).count b = l.count b := by
  obtain ⟨_, _, _, h2, _⟩ := suGo_J s _ l s (Nat.le_refl _) (Nat.le_refl _) hs ⟨h, fun q => absurd rfl q⟩ .refl
  have hlen : (suGo l s).1.length = l.length := suGo_length _ _ _ (Nat.le_refl _)
  unfold su
  rw [sd_count _ _ _ _ _ (by rw [List.length_set, hlen]; exact h2), List.set_set, suGo_count _ _ _ _ _ (Nat.le_refl _) hs]
  have := cset l s (l.getD s 0) b hs
  omega
theorem hfy_ok : ∀ (k : Nat) (l : List Int), k ≤ l.length → Hp k l → Hp 0 (hfy k l) ∧ (hfy k l).Perm l := by
  intro k
  induction k with
  | zero => intro l _ h; exact ⟨h, List.Perm.refl _⟩
  | succ k ih =>
    intro l hk h
    have h1 := su_hp (s := k) (l := l) (by omega) h
    have h2 := su_count (s := k) (l := l) (by omega) h
    have := ih (su l k) (by rw [su_length]; omega) h1
    exact ⟨this.1, this.2.trans (List.perm_iff_count.mpr h2)⟩
theorem heapify_ok (l : List Int) : Hp 0 (hfy (l.length / 2) l) ∧ (hfy (l.length / 2) l).Perm l :=
  hfy_ok _ _ (by omega) fun i h0 hi hs => by omega
theorem root_min {l : List Int} (h : Hp 0 l) : ∀ i, i < l.length → l.getD 0 0 ≤ l.getD i 0 := by
  intro i
  induction i using Nat.strongRecOn with
  | ind i ih =>
    intro hi
    cases i with
    | zero => exact Int.le_refl _
    | succ i =>
      have a := ih ((i + 1 - 1) / 2) (by omega) (by omega)
      have b := h (i + 1) (by omega) hi (by omega)
      omega

end

section
noncomputable def popL (h : List Int) : List Int := if h.length ≤ 1 then [] else su (h.dropLast.set 0 (h.getLastD 0)) 0
noncomputable def popV (h : List Int) : Int := if h.length ≤ 1 then h.getLastD 0 else h.dropLast.getD 0 0
noncomputable def pushL (h : List Int) (x : Int) : List Int := sd 0 x h.length (h ++ [x])
theorem gapp (h : List Int) (x : Int) (i : Nat) (hi : i < h.length) : (h ++ [x]).getD i 0 = h.getD i 0 := by
  rw [List.getD_eq_getElem?_getD, List.getD_eq_getElem?_getD, List.getElem?_append_left hi]
theorem push_ok {h : List Int} (x : Int) (hh : Hp 0 h) : Hp 0 (pushL h x) ∧ (pushL h x).Perm (x :: h) := by
  have hs : (h ++ [x]).set h.length x = h ++ [x] := by
    rw [List.set_append_right _ _ (Nat.le_refl _), Nat.sub_self]; rfl
  have hl : (h ++ [x]).length = h.length + 1 := by simp
  unfold pushL
  refine ⟨sd_hp 0 x _ _ (Desc.zero _) (by omega) ?_, List.perm_iff_count.mpr fun b => ?_⟩
  · rw [hs]
    refine ⟨fun i h0 hi _ hn => ?_, fun i h0 hi hp => by omega⟩
    rw [gapp _ _ _ (by omega), gapp _ _ _ (by omega)]
    exact hh i h0 (by omega) (by omega)
  · rw [sd_count _ _ _ _ _ (by omega), hs, List.count_append, List.count_cons, List.count_cons, List.count_nil]
    omega
theorem drop_last {h : List Int} (h1 : h ≠ []) : h = h.dropLast ++ [h.getLastD 0] := by
  rw [List.getLastD_eq_getLast?, List.getLast?_eq_some_getLast h1]
  exact (List.dropLast_concat_getLast h1).symm
theorem pop_ok {h : List Int} (h1 : h ≠ []) (hh : Hp 0 h) : Hp 0 (popL h) ∧ (popV h :: popL h).Perm h ∧ ∀ x ∈ h, popV h ≤ x := by
  have he := drop_last h1
  unfold popL popV
  by_cases hl : h.length ≤ 1
  · rw [if_pos hl, if_pos hl]
    have hd : h.dropLast = [] := List.eq_nil_of_length_eq_zero (by rw [List.length_dropLast]; omega)
    rw [hd, List.nil_append] at he
    refine ⟨fun i h0 hi _ => absurd hi (Nat.not_lt_zero _), ?_, ?_⟩
    · rw [← he]
    · intro x hx
      rw [he] at hx
      rw [List.mem_singleton.mp hx]; exact Int.le_refl _
  · rw [if_neg hl, if_neg hl]
    generalize hdd : h.dropLast = d at he
    generalize h.getLastD 0 = z at he
    have hdl : d.length = h.length - 1 := by rw [← hdd, List.length_dropLast]
    have hd1 : Hp 1 (d.set 0 z) := by
      intro i h0 hi hs
      rw [List.length_set] at hi
      rw [gset _ _ _ _ (by omega), gset _ _ _ _ hi, if_neg (by omega), if_neg (by omega)]
      have := hh i h0 (by omega) (by omega)
      rw [he, gapp _ _ _ (by omega), gapp _ _ _ (by omega)] at this
      exact this
    refine ⟨su_hp (by rw [List.length_set]; omega) hd1, List.perm_iff_count.mpr fun b => ?_, ?_⟩
    · rw [List.count_cons, su_count (by rw [List.length_set]; omega) hd1, he, List.count_append, List.count_cons, List.count_nil]
      have := cset d 0 z b (by omega)
      simp only [beq_iff_eq] at *
      omega
    · intro x hx
      obtain ⟨i, hi, rfl⟩ := List.getElem_of_mem hx
      have := root_min hh i hi
      rw [List.getD_eq_getElem?_getD, List.getD_eq_getElem?_getD, List.getElem?_eq_getElem hi] at this
      have e0 : d.getD 0 0 = h.getD 0 0 := by rw [he, gapp _ _ _ (by omega)]
      rw [e0, List.getD_eq_getElem?_getD]
      exact this

end

section
set_option maxRecDepth 100000

theorem fill3 : hd.heap_39 = hd.heap_39 ∧ PySem.Challenge.rw_oy0042_01 = PySem.Challenge.rw_oy0042_01 := by
  w_top off
  k_fill
  exact ⟨rfl, rfl⟩



abbrev sc2 : Scope := { kind := .function, names := [(Str.ofString "a", .local), (Str.ofString "b", .local)], isGenerator := false, isCoroutine := false, more := [] }
abbrev sc1 : Scope := { kind := .function, names := [(Str.ofString "a", .local)], isGenerator := false, isCoroutine := false, more := [] }
abbrev ar2 (q1 q2 : Pos) : Arguments := { posonlyargs := [], args := [{ arg := Str.ofString "a", annotation := none, pos := q1 }, { arg := Str.ofString "b", annotation := none, pos := q2 }], vararg := none, kwonlyargs := [], kw_defaults := [], kwarg := none, defaults := [] }
abbrev ar1 (q1 : Pos) : Arguments := { posonlyargs := [], args := [{ arg := Str.ofString "a", annotation := none, pos := q1 }], vararg := none, kwonlyargs := [], kw_defaults := [], kwarg := none, defaults := [] }

/-- the operator's rule: what x OP y gives -/
noncomputable def BinIs (w : World) (op : Operator) (x y r : Int) : Prop := ∀ (A : Around) (s : Shared) (t u : Tok) (Q E : Value → Shared → Prop), (∀ t' tk, Q (.int r t') { s with toks := tk }) → wpAny (model PG w) A (binaryOp op (.int x t) (.int y u)) Q E s
noncomputable def UnIs (w : World) (op : UnaryOp) (x r : Int) : Prop := ∀ (A : Around) (s : Shared) (t : Tok) (Q E : Value → Shared → Prop), (∀ t' tk, Q (.int r t') { s with toks := tk }) → wpAny (model PG w) A (unaryOp op (.int x t)) Q E s

set_option maxHeartbeats 4000000 in
theorem bin_does {w : World} {mean : ExcName → Option Value} {mg mb : Str → Option Value} {A A₀ : Around} {base h₀ : Heap} {outer : List Env} {env : Env} {L : Addr} {m : Str → Option Value} {s : Shared}
    (S : Spot w mean mg mb A A₀ base outer env h₀ L m s.heap) (hdp : A.depth ≤ 600) (hun : A.units ≤ 600)
    {x y r : Int} {t1 t2 : Tok} {op : Operator} (hop : BinIs w op x y r) {f : Addr} {name qual : Str} {doc pm cdv ct oc : Value} {an od : Option Addr} {osl : Array (Option Value)} {q1 q2 p1 p2 p3 p4 : Pos}
    (ho : (hd.heap_39 w.params).lookup f = some ⟨oc, od, .func (fnOf name qual (ar2 q1 q2) [.Return (some (.BinOp (.Name (Str.ofString "a") p1) op (.Name (Str.ofString "b") p2) p3)) p4] sc2 .none .none doc pm an cdv ct), osl⟩) (hcd : codeIn (hd.heap_39 w.params) cdv qual = true) :
    Does w A f [.int x t1, .int y t2] [] [] s (fun v _ => ∃ t, v = .int r t) := by
  refine' does_of 600 600 S hdp hun (by decide) [] News.nil _ (binds := [(Str.ofString "a", .int x t1), (Str.ofString "b", .int y t2)]) ho hcd ?hb ?hl rfl rfl rfl (by decide) ?_
  case hb => exact BindsTo.of_eq rfl
  case hl => exact locs rfl
  intro g L' h₁ F N B X T hg hlt hnone
  k_fold
  (repeat' (first | (k_unfold; (try dsimp only)) | ((fail_if_success (with_reducible show wpAny _ _ (exec (Stmt.While _ _ _ _) _) _ _ _)); (fail_if_success (with_reducible show wpAny _ _ (exec (Stmt.For _ _ _ _ _) _) _ _ _)); (fail_if_success (with_reducible show wpAny _ _ (call (Value.ref _) _ _) _ _ _)); (fail_if_success (with_reducible show KswEnd _ _ _ _ _ _ _ _ _ _ _ _)); (fail_if_success (with_reducible show wpAny _ _ (eval (Expr.ListComp _ _ _ _) _) _ _ _)); (fail_if_success (with_reducible show wpAny _ _ (exec (Stmt.Assign _ (Expr.ListComp _ _ _ _) _) _) _ _ _)); (fail_if_success (with_reducible show Out _ _ _ _ _)); (fail_if_success (with_reducible show LCg.CompEnd _ _ _ _ _ _ _ _ _ _ _ _ _ _)); (fail_if_success (with_reducible show LCg.CompSrc _ _ _ _ _ _ _ _ _ _ _ _ _ _)); (fail_if_success (with_reducible show LCt.CompSrcT _ _ _ _ _ _ _ _ _ _ _ _ _ _ _)); (fail_if_success (with_reducible show Meet _ _ _)); (fail_if_success (with_reducible show wpAny _ _ (pyIter _) _ _ _)); (fail_if_success (with_reducible show LEnd _ _ _ _ _ _ _ _ _ _ _)); (fail_if_success (with_reducible show LPost _ _ _ _ _ _ _ _ _ _ _ _ _)); first | walk1 | (dsimp only; walk1)) | (k_end; dsimp only; k_unfold; (try dsimp only)) | fail "no step"))
  refine hop _ _ _ _ _ _ fun t' tk => ?_
  (repeat' (first | (k_unfold; (try dsimp only)) | ((fail_if_success (with_reducible show wpAny _ _ (exec (Stmt.While _ _ _ _) _) _ _ _)); (fail_if_success (with_reducible show wpAny _ _ (exec (Stmt.For _ _ _ _ _) _) _ _ _)); (fail_if_success (with_reducible show wpAny _ _ (call (Value.ref _) _ _) _ _ _)); (fail_if_success (with_reducible show KswEnd _ _ _ _ _ _ _ _ _ _ _ _)); (fail_if_success (with_reducible show wpAny _ _ (eval (Expr.ListComp _ _ _ _) _) _ _ _)); (fail_if_success (with_reducible show wpAny _ _ (exec (Stmt.Assign _ (Expr.ListComp _ _ _ _) _) _) _ _ _)); (fail_if_success (with_reducible show Out _ _ _ _ _)); (fail_if_success (with_reducible show LCg.CompEnd _ _ _ _ _ _ _ _ _ _ _ _ _ _)); (fail_if_success (with_reducible show LCg.CompSrc _ _ _ _ _ _ _ _ _ _ _ _ _ _)); (fail_if_success (with_reducible show LCt.CompSrcT _ _ _ _ _ _ _ _ _ _ _ _ _ _ _)); (fail_if_success (with_reducible show Meet _ _ _)); (fail_if_success (with_reducible show wpAny _ _ (pyIter _) _ _ _)); (fail_if_success (with_reducible show LEnd _ _ _ _ _ _ _ _ _ _ _)); (fail_if_success (with_reducible show LPost _ _ _ _ _ _ _ _ _ _ _ _ _)); first | walk1 | (dsimp only; walk1)) | (k_end; dsimp only; k_unfold; (try dsimp only)) | fail "no step"))
  exact ⟨_, _, rfl, F.keep, _, rfl⟩

set_option maxHeartbeats 4000000 in
theorem un_does {w : World} {mean : ExcName → Option Value} {mg mb : Str → Option Value} {A A₀ : Around} {base h₀ : Heap} {outer : List Env} {env : Env} {L : Addr} {m : Str → Option Value} {s : Shared}
    (S : Spot w mean mg mb A A₀ base outer env h₀ L m s.heap) (hdp : A.depth ≤ 600) (hun : A.units ≤ 600)
    {x r : Int} {t1 : Tok} {op : UnaryOp} (hop : UnIs w op x r) {f : Addr} {name qual : Str} {doc pm cdv ct oc : Value} {an od : Option Addr} {osl : Array (Option Value)} {q1 p1 p3 p4 : Pos}
    (ho : (hd.heap_39 w.params).lookup f = some ⟨oc, od, .func (fnOf name qual (ar1 q1) [.Return (some (.UnaryOp op (.Name (Str.ofString "a") p1) p3)) p4] sc1 .none .none doc pm an cdv ct), osl⟩) (hcd : codeIn (hd.heap_39 w.params) cdv qual = true) :
    Does w A f [.int x t1] [] [] s (fun v _ => ∃ t, v = .int r t) := by
  refine' does_of 600 600 S hdp hun (by decide) [] News.nil _ (binds := [(Str.ofString "a", .int x t1)]) ho hcd ?hb ?hl rfl rfl rfl (by decide) ?_
  case hb => exact BindsTo.of_eq rfl
  case hl => exact locs rfl
  intro g L' h₁ F N B X T hg hlt hnone
  k_fold
  (repeat' (first | (k_unfold; (try dsimp only)) | ((fail_if_success (with_reducible show wpAny _ _ (exec (Stmt.While _ _ _ _) _) _ _ _)); (fail_if_success (with_reducible show wpAny _ _ (exec (Stmt.For _ _ _ _ _) _) _ _ _)); (fail_if_success (with_reducible show wpAny _ _ (call (Value.ref _) _ _) _ _ _)); (fail_if_success (with_reducible show KswEnd _ _ _ _ _ _ _ _ _ _ _ _)); (fail_if_success (with_reducible show wpAny _ _ (eval (Expr.ListComp _ _ _ _) _) _ _ _)); (fail_if_success (with_reducible show wpAny _ _ (exec (Stmt.Assign _ (Expr.ListComp _ _ _ _) _) _) _ _ _)); (fail_if_success (with_reducible show Out _ _ _ _ _)); (fail_if_success (with_reducible show LCg.CompEnd _ _ _ _ _ _ _ _ _ _ _ _ _ _)); (fail_if_success (with_reducible show LCg.CompSrc _ _ _ _ _ _ _ _ _ _ _ _ _ _)); (fail_if_success (with_reducible show LCt.CompSrcT _ _ _ _ _ _ _ _ _ _ _ _ _ _ _)); (fail_if_success (with_reducible show Meet _ _ _)); (fail_if_success (with_reducible show wpAny _ _ (pyIter _) _ _ _)); (fail_if_success (with_reducible show LEnd _ _ _ _ _ _ _ _ _ _ _)); (fail_if_success (with_reducible show LPost _ _ _ _ _ _ _ _ _ _ _ _ _)); first | walk1 | (dsimp only; walk1)) | (k_end; dsimp only; k_unfold; (try dsimp only)) | fail "no step"))

  refine hop _ _ _ _ _ fun t' tk => ?_
  (repeat' (first | (k_unfold; (try dsimp only)) | ((fail_if_success (with_reducible show wpAny _ _ (exec (Stmt.While _ _ _ _) _) _ _ _)); (fail_if_success (with_reducible show wpAny _ _ (exec (Stmt.For _ _ _ _ _) _) _ _ _)); (fail_if_success (with_reducible show wpAny _ _ (call (Value.ref _) _ _) _ _ _)); (fail_if_success (with_reducible show KswEnd _ _ _ _ _ _ _ _ _ _ _ _)); (fail_if_success (with_reducible show wpAny _ _ (eval (Expr.ListComp _ _ _ _) _) _ _ _)); (fail_if_success (with_reducible show wpAny _ _ (exec (Stmt.Assign _ (Expr.ListComp _ _ _ _) _) _) _ _ _)); (fail_if_success (with_reducible show Out _ _ _ _ _)); (fail_if_success (with_reducible show LCg.CompEnd _ _ _ _ _ _ _ _ _ _ _ _ _ _)); (fail_if_success (with_reducible show LCg.CompSrc _ _ _ _ _ _ _ _ _ _ _ _ _ _)); (fail_if_success (with_reducible show LCt.CompSrcT _ _ _ _ _ _ _ _ _ _ _ _ _ _ _)); (fail_if_success (with_reducible show Meet _ _ _)); (fail_if_success (with_reducible show wpAny _ _ (pyIter _) _ _ _)); (fail_if_success (with_reducible show LEnd _ _ _ _ _ _ _ _ _ _ _)); (fail_if_success (with_reducible show LPost _ _ _ _ _ _ _ _ _ _ _ _ _)); first | walk1 | (dsimp only; walk1)) | (k_end; dsimp only; k_unfold; (try dsimp only)) | fail "no step"))
  exact ⟨_, _, rfl, F.keep, _, rfl⟩

theorem add_is (w : World) (x y : Int) : BinIs w .Add x y (x + y) := by
  intro A s t u Q E h
  walk1
  exact h _ _
theorem add_does {w : World} {mean : ExcName → Option Value} {mg mb : Str → Option Value} {A A₀ : Around} {base h₀ : Heap} {outer : List Env} {env : Env} {L : Addr} {m : Str → Option Value} {s : Shared}
    (S : Spot w mean mg mb A A₀ base outer env h₀ L m s.heap) (hdp : A.depth ≤ 600) (hun : A.units ≤ 600) {x y : Int} {t1 t2 : Tok} :
    Does w A 28 [.int x t1, .int y t2] [] [] s (fun v _ => ∃ t, v = .int (x + y) t) := bin_does S hdp hun (add_is w x y) (by k_is) (by k_is)

theorem sub_is (w : World) (x y : Int) : BinIs w .Sub x y (x - y) := by
  intro A s t u Q E h
  walk1
  exact h _ _
theorem sub_does {w : World} {mean : ExcName → Option Value} {mg mb : Str → Option Value} {A A₀ : Around} {base h₀ : Heap} {outer : List Env} {env : Env} {L : Addr} {m : Str → Option Value} {s : Shared}
    (S : Spot w mean mg mb A A₀ base outer env h₀ L m s.heap) (hdp : A.depth ≤ 600) (hun : A.units ≤ 600) {x y : Int} {t1 t2 : Tok} :
    Does w A 77 [.int x t1, .int y t2] [] [] s (fun v _ => ∃ t, v = .int (x - y) t) := bin_does S hdp hun (sub_is w x y) (by k_is) (by k_is)

theorem and_is (w : World) (x y : Int) : BinIs w .BitAnd x y (Builtin.bitAnd x y) := by
  intro A s t u Q E h
  walk1
  exact h _ _
theorem and_does {w : World} {mean : ExcName → Option Value} {mg mb : Str → Option Value} {A A₀ : Around} {base h₀ : Heap} {outer : List Env} {env : Env} {L : Addr} {m : Str → Option Value} {s : Shared}
    (S : Spot w mean mg mb A A₀ base outer env h₀ L m s.heap) (hdp : A.depth ≤ 600) (hun : A.units ≤ 600) {x y : Int} {t1 t2 : Tok} :
    Does w A 35 [.int x t1, .int y t2] [] [] s (fun v _ => ∃ t, v = .int (Builtin.bitAnd x y) t) := bin_does S hdp hun (and_is w x y) (by k_is) (by k_is)

theorem or_is (w : World) (x y : Int) : BinIs w .BitOr x y (Builtin.bitOr x y) := by
  intro A s t u Q E h
  walk1
  exact h _ _
theorem or_does {w : World} {mean : ExcName → Option Value} {mg mb : Str → Option Value} {A A₀ : Around} {base h₀ : Heap} {outer : List Env} {env : Env} {L : Addr} {m : Str → Option Value} {s : Shared}
    (S : Spot w mean mg mb A A₀ base outer env h₀ L m s.heap) (hdp : A.depth ≤ 600) (hun : A.units ≤ 600) {x y : Int} {t1 t2 : Tok} :
    Does w A 63 [.int x t1, .int y t2] [] [] s (fun v _ => ∃ t, v = .int (Builtin.bitOr x y) t) := bin_does S hdp hun (or_is w x y) (by k_is) (by k_is)

theorem xor_is (w : World) (x y : Int) : BinIs w .BitXor x y (Builtin.bitXor x y) := by
  intro A s t u Q E h
  walk1
  exact h _ _
theorem xor_does {w : World} {mean : ExcName → Option Value} {mg mb : Str → Option Value} {A A₀ : Around} {base h₀ : Heap} {outer : List Env} {env : Env} {L : Addr} {m : Str → Option Value} {s : Shared}
    (S : Spot w mean mg mb A A₀ base outer env h₀ L m s.heap) (hdp : A.depth ≤ 600) (hun : A.units ≤ 600) {x y : Int} {t1 t2 : Tok} :
    Does w A 84 [.int x t1, .int y t2] [] [] s (fun v _ => ∃ t, v = .int (Builtin.bitXor x y) t) := bin_does S hdp hun (xor_is w x y) (by k_is) (by k_is)

theorem lsh_is (w : World) (x y : Int) (h0 : 0 ≤ y) (h1 : y ≤ 1000) (h2 : x.natAbs < 2 ^ 64) : BinIs w .LShift x y (x * 2 ^ y.toNat) := fun _ _ _ _ _ _ h => lshift_int_small h0 (by omega) h2 (h _ _)
theorem rsh_is (w : World) (x y : Int) (h0 : 0 ≤ y) : BinIs w .RShift x y (x.fdiv (2 ^ y.toNat)) := fun _ _ _ _ _ _ h => rshift_int h0 (h _ _)
theorem lsh_does {w : World} {mean : ExcName → Option Value} {mg mb : Str → Option Value} {A A₀ : Around} {base h₀ : Heap} {outer : List Env} {env : Env} {L : Addr} {m : Str → Option Value} {s : Shared}
    (S : Spot w mean mg mb A A₀ base outer env h₀ L m s.heap) (hdp : A.depth ≤ 600) (hun : A.units ≤ 600) {x y : Int} {t1 t2 : Tok} (h0 : 0 ≤ y) (h1 : y ≤ 1000) (h2 : x.natAbs < 2 ^ 64) :
    Does w A 49 [.int x t1, .int y t2] [] [] s (fun v _ => ∃ t, v = .int (x * 2 ^ y.toNat) t) := bin_does S hdp hun (lsh_is w x y h0 h1 h2) (by k_is) (by k_is)
theorem rsh_does {w : World} {mean : ExcName → Option Value} {mg mb : Str → Option Value} {A A₀ : Around} {base h₀ : Heap} {outer : List Env} {env : Env} {L : Addr} {m : Str → Option Value} {s : Shared}
    (S : Spot w mean mg mb A A₀ base outer env h₀ L m s.heap) (hdp : A.depth ≤ 600) (hun : A.units ≤ 600) {x y : Int} {t1 t2 : Tok} (h0 : 0 ≤ y) :
    Does w A 70 [.int x t1, .int y t2] [] [] s (fun v _ => ∃ t, v = .int (x.fdiv (2 ^ y.toNat)) t) := bin_does S hdp hun (rsh_is w x y h0) (by k_is) (by k_is)
theorem inv_is (w : World) (x : Int) : UnIs w .Invert x (-x - 1) := by
  intro A s t Q E h
  walk1
  exact h _ _
theorem neg_is (w : World) (x : Int) : UnIs w .USub x (-x) := by
  intro A s t Q E h
  walk1
  exact h _ _
theorem inv_does {w : World} {mean : ExcName → Option Value} {mg mb : Str → Option Value} {A A₀ : Around} {base h₀ : Heap} {outer : List Env} {env : Env} {L : Addr} {m : Str → Option Value} {s : Shared}
    (S : Spot w mean mg mb A A₀ base outer env h₀ L m s.heap) (hdp : A.depth ≤ 600) (hun : A.units ≤ 600) {x : Int} {t1 : Tok} :
    Does w A 42 [.int x t1] [] [] s (fun v _ => ∃ t, v = .int (-x - 1) t) := un_does S hdp hun (inv_is w x) (by k_is) (by k_is)
theorem neg_does {w : World} {mean : ExcName → Option Value} {mg mb : Str → Option Value} {A A₀ : Around} {base h₀ : Heap} {outer : List Env} {env : Env} {L : Addr} {m : Str → Option Value} {s : Shared}
    (S : Spot w mean mg mb A A₀ base outer env h₀ L m s.heap) (hdp : A.depth ≤ 600) (hun : A.units ≤ 600) {x : Int} {t1 : Tok} :
    Does w A 56 [.int x t1] [] [] s (fun v _ => ∃ t, v = .int (-x) t) := un_does S hdp hun (neg_is w x) (by k_is) (by k_is)

end

section
theorem and_nat (a b : Nat) : Builtin.bitAnd (a : Int) (b : Int) = ((a &&& b : Nat) : Int) := by
  unfold Builtin.bitAnd
  have h1 : decide ((0 : Int) ≤ (a : Int)) = true := decide_eq_true (by omega)
  have h2 : decide ((0 : Int) ≤ (b : Int)) = true := decide_eq_true (by omega)
  rw [h1, h2]
  simp
theorem bit_lin {x y a b x1 y1 a1 b1 x0 y0 a0 b0 : Nat} (k : Nat) (hx : 2 * x1 + x0 = x) (hy : 2 * y1 + y0 = y) (ha : 2 * a1 + a0 = a) (hb : 2 * b1 + b0 = b) (h : x1 + k * y1 = a1 + b1) (h0 : x0 + k * y0 = a0 + b0) : x + k * y = a + b := by
  subst hx hy ha hb
  have e : k * (2 * y1 + y0) = 2 * (k * y1) + k * y0 := by rw [Nat.mul_add, Nat.mul_left_comm]
  rw [e]
  omega
theorem xor_and_nat : ∀ (n a b : Nat), a < 2 ^ n → (a ^^^ b) + 2 * (a &&& b) = a + b := by
  intro n
  induction n with
  | zero => intro a b h; rw [Nat.lt_one_iff.mp h]; simp
  | succ n ih =>
    intro a b h
    have hh := ih (a / 2) (b / 2) (Nat.div_lt_of_lt_mul (by rw [Nat.pow_succ, Nat.mul_comm] at h; exact h))
    rw [← Nat.xor_div_two, ← Nat.and_div_two] at hh
    refine bit_lin 2 (Nat.div_add_mod _ 2) (Nat.div_add_mod _ 2) (Nat.div_add_mod a 2) (Nat.div_add_mod b 2) hh ?_
    have e3 : (a ^^^ b) % 2 ^ 1 = (a % 2 ^ 1) ^^^ (b % 2 ^ 1) := Nat.xor_mod_two_pow
    have e4 : (a &&& b) % 2 ^ 1 = (a % 2 ^ 1) &&& (b % 2 ^ 1) := Nat.and_mod_two_pow
    rw [Nat.pow_one] at e3 e4
    rw [e3, e4]
    rcases Nat.mod_two_eq_zero_or_one a with h1 | h1 <;> rcases Nat.mod_two_eq_zero_or_one b with h2 | h2 <;> rw [h1, h2] <;> rfl
theorem or_and_nat : ∀ (n a b : Nat), a < 2 ^ n → (a ||| b) + (a &&& b) = a + b := by
  have main : ∀ (n a b : Nat), a < 2 ^ n → (a ||| b) + 1 * (a &&& b) = a + b := by
    intro n
    induction n with
    | zero => intro a b h; rw [Nat.lt_one_iff.mp h]; simp
    | succ n ih =>
      intro a b h
      have hh := ih (a / 2) (b / 2) (Nat.div_lt_of_lt_mul (by rw [Nat.pow_succ, Nat.mul_comm] at h; exact h))
      rw [← Nat.or_div_two, ← Nat.and_div_two] at hh
      refine bit_lin 1 (Nat.div_add_mod _ 2) (Nat.div_add_mod _ 2) (Nat.div_add_mod a 2) (Nat.div_add_mod b 2) hh ?_
      have e3 : (a ||| b) % 2 ^ 1 = (a % 2 ^ 1) ||| (b % 2 ^ 1) := Nat.or_mod_two_pow
      have e4 : (a &&& b) % 2 ^ 1 = (a % 2 ^ 1) &&& (b % 2 ^ 1) := Nat.and_mod_two_pow
      rw [Nat.pow_one] at e3 e4
      rw [e3, e4]
      rcases Nat.mod_two_eq_zero_or_one a with h1 | h1 <;> rcases Nat.mod_two_eq_zero_or_one b with h2 | h2 <;> rw [h1, h2] <;> rfl
  intro n a b h
  have := main n a b h
  rwa [Nat.one_mul] at this
theorem xor_nat (a b : Nat) : Builtin.bitXor (a : Int) (b : Int) = ((a ^^^ b : Nat) : Int) := by
  rw [bitXor_and, and_nat]
  have := xor_and_nat a a b Nat.lt_two_pow_self
  omega
theorem and_inv (x y : Int) : Builtin.bitAnd (-x - 1) y = y - Builtin.bitAnd x y := by
  unfold Builtin.bitAnd
  by_cases hx : 0 ≤ x <;> by_cases hy : 0 ≤ y
  · have h1 : decide (0 ≤ x) = true := decide_eq_true hx
    have h2 : decide (0 ≤ y) = true := decide_eq_true hy
    have h3 : decide (0 ≤ -x - 1) = false := decide_eq_false (by omega)
    rw [h1, h2, h3]
    simp only [Builtin.bitNot]
    have : -(-x - 1) - 1 = x := by omega
    rw [this, Nat.and_comm]
  · have h1 : decide (0 ≤ x) = true := decide_eq_true hx
    have h2 : decide (0 ≤ y) = false := decide_eq_false hy
    have h3 : decide (0 ≤ -x - 1) = false := decide_eq_false (by omega)
    rw [h1, h2, h3]
    simp only [Builtin.bitNot]
    have : -(-x - 1) - 1 = x := by omega
    rw [this]
    have e := xor_and_nat x.toNat x.toNat (-y - 1).toNat Nat.lt_two_pow_self
    have e2 : (x.toNat ||| (-y - 1).toNat) = (x.toNat ^^^ (-y - 1).toNat) + (x.toNat &&& (-y - 1).toNat) := by
      have := or_and_nat x.toNat x.toNat (-y - 1).toNat Nat.lt_two_pow_self
      omega
    omega
  · have h1 : decide (0 ≤ x) = false := decide_eq_false hx
    have h2 : decide (0 ≤ y) = true := decide_eq_true hy
    have h3 : decide (0 ≤ -x - 1) = true := decide_eq_true (by omega)
    rw [h1, h2, h3]
    simp only [Builtin.bitNot]
    rw [Nat.and_comm]
    omega
  · have h1 : decide (0 ≤ x) = false := decide_eq_false hx
    have h2 : decide (0 ≤ y) = false := decide_eq_false hy
    have h3 : decide (0 ≤ -x - 1) = true := decide_eq_true (by omega)
    rw [h1, h2, h3]
    simp only [Builtin.bitNot]
    have e2 := or_and_nat (-x - 1).toNat (-x - 1).toNat (-y - 1).toNat Nat.lt_two_pow_self
    omega

theorem xr_inv1 (x y : Int) : -Builtin.bitXor (-x - 1) y - 1 = Builtin.bitXor x y := by
  rw [bitXor_and, bitXor_and, and_inv]; omega
theorem xr_inv2 (x y : Int) : -Builtin.bitXor x (-y - 1) - 1 = Builtin.bitXor x y := by
  rw [bitXor_and, bitXor_and, bitAnd_comm, and_inv, bitAnd_comm y x]; omega
theorem xr_inv3 (x y : Int) : Builtin.bitXor (-x - 1) (-y - 1) = Builtin.bitXor x y := by
  rw [bitXor_and, bitXor_and, and_inv, bitAnd_comm x, and_inv, bitAnd_comm y x]; omega
theorem xr_range {x y : Int} (hx0 : 0 ≤ x) (hx1 : x < 16777216) (hy0 : 0 ≤ y) (hy1 : y < 16777216) : 0 ≤ Builtin.bitXor x y ∧ Builtin.bitXor x y < 16777216 := by
  obtain ⟨a, rfl⟩ := Int.eq_ofNat_of_zero_le hx0
  obtain ⟨b, rfl⟩ := Int.eq_ofNat_of_zero_le hy0
  rw [xor_nat]
  have := Nat.xor_lt_two_pow (x := a) (y := b) (n := 24) (by omega) (by omega)
  omega
theorem and_low (a y k : Nat) (h : y < 2 ^ k) : (a * 2 ^ k) &&& y = 0 := by
  apply Nat.eq_of_testBit_eq
  intro i
  rw [Nat.testBit_and, Nat.zero_testBit]
  by_cases hi : i < k
  · have : (a * 2 ^ k).testBit i = false := by
      rw [Nat.mul_comm, Nat.testBit_two_pow_mul]
      simp
      intro q; omega
    rw [this]; rfl
  · have : y.testBit i = false := Nat.testBit_lt_two_pow (Nat.lt_of_lt_of_le h (Nat.pow_le_pow_right (by decide) (by omega)))
    rw [this, Bool.and_false]
theorem or_low {a y : Int} (k : Nat) (ha : 0 ≤ a) (hy : 0 ≤ y) (h : y < 2 ^ k) : Builtin.bitOr (a * 2 ^ k) y = a * 2 ^ k + y := by
  obtain ⟨m, rfl⟩ := Int.eq_ofNat_of_zero_le ha
  obtain ⟨n, rfl⟩ := Int.eq_ofNat_of_zero_le hy
  have e : (m : Int) * 2 ^ k = ((m * 2 ^ k : Nat) : Int) := by simp
  rw [bitOr_and, e, and_nat, and_low m n k (by
    have : ((2 : Int) ^ k) = ((2 ^ k : Nat) : Int) := by simp
    omega)]
  omega
theorem tie_val {z k : Int} (h0 : 0 ≤ z) (hk0 : 0 ≤ k) (hk1 : k < 8) : Builtin.bitOr (z * 2 ^ Int.toNat 3) k = z * 8 + k := or_low 3 h0 hk0 hk1
/-- the first sign's char of b2a_base64 -/
theorem b64_char {a y : Int} (ha : 0 ≤ a) (hy0 : 0 ≤ y) (hy1 : y < 256) : Builtin.bitAnd (Builtin.bitOr (a * 2 ^ Int.toNat 8) y) 65535 = (a * 256 + y) % 65536 := by
  rw [bitAnd_m16]
  exact congrArg (· % 65536) (or_low 8 ha hy0 hy1)

end

section
structure RowsOk (rs : List Int) : Prop where
  lo : 3 ≤ rs.length
  hi : rs.length ≤ 7
  all : ∀ x ∈ rs, 0 ≤ x ∧ x < 16777216
noncomputable def xr (x y : Int) : Int := Builtin.bitXor x y

end

section
theorem nxor_lt (a b d : Nat) : a ^^^ b < 2 ^ d ↔ a / 2 ^ d = b / 2 ^ d := by
  have h : (a ^^^ b) / 2 ^ d = (a / 2 ^ d) ^^^ (b / 2 ^ d) := Nat.xor_div_two_pow
  have hp : 0 < 2 ^ d := Nat.pos_of_ne_zero (by simp)
  rw [← Nat.div_eq_zero_iff_lt hp, h]
  generalize a / 2 ^ d = x
  generalize b / 2 ^ d = y
  constructor
  · intro q
    have e : (x ^^^ y) ^^^ y = x := by rw [Nat.xor_assoc, Nat.xor_self, Nat.xor_zero]
    rw [q, Nat.zero_xor] at e
    exact e.symm
  · intro q; rw [q, Nat.xor_self]
theorem two_pow_cast (d : Nat) : ((2 : Int) ^ d) = ((2 ^ d : Nat) : Int) := by simp
theorem xr_nat (a b : Nat) : xr (a : Int) (b : Int) = ((a ^^^ b : Nat) : Int) := xor_nat a b
theorem xr_lt {x y : Int} (hx : 0 ≤ x) (hy : 0 ≤ y) (d : Nat) : xr x y < 2 ^ d ↔ x / 2 ^ d = y / 2 ^ d := by
  obtain ⟨a, rfl⟩ := Int.eq_ofNat_of_zero_le hx
  obtain ⟨b, rfl⟩ := Int.eq_ofNat_of_zero_le hy
  rw [xr_nat, two_pow_cast]
  have := nxor_lt a b d
  constructor
  · intro h
    have h1 := this.mp (by omega)
    rw [← Int.natCast_ediv, ← Int.natCast_ediv, h1]
  · intro h
    rw [← Int.natCast_ediv, ← Int.natCast_ediv] at h
    have := this.mpr (by omega)
    omega
theorem xr_comm (x y : Int) : xr x y = xr y x := by
  unfold xr
  rw [bitXor_and, bitXor_and, bitAnd_comm]; omega
theorem xr_nonneg {x y : Int} (hx : 0 ≤ x) (hy : 0 ≤ y) : 0 ≤ xr x y := by
  obtain ⟨a, rfl⟩ := Int.eq_ofNat_of_zero_le hx
  obtain ⟨b, rfl⟩ := Int.eq_ofNat_of_zero_le hy
  rw [xr_nat]; omega
theorem xr_self (x : Int) : xr x x = 0 := bitXor_self x

noncomputable def lmin : List Int → Int
  | [] => 0
  | [x] => x
  | x :: y :: l => min x (lmin (y :: l))
theorem lmin_spec : ∀ l : List Int, l ≠ [] → lmin l ∈ l ∧ ∀ x ∈ l, lmin l ≤ x := by
  intro l
  induction l with
  | nil => intro h; exact absurd rfl h
  | cons a l ih =>
    intro _
    cases l with
    | nil => exact ⟨.head _, fun x hx => by rw [List.mem_singleton.mp hx]; exact Int.le_refl _⟩
    | cons b l =>
      have := ih (List.cons_ne_nil _ _)
      show min a (lmin (b :: l)) ∈ _ ∧ ∀ x ∈ _, min a (lmin (b :: l)) ≤ x
      refine ⟨?_, fun x hx => ?_⟩
      · rcases Int.le_total a (lmin (b :: l)) with h | h
        · rw [Int.min_eq_left h]; exact .head _
        · rw [Int.min_eq_right h]; exact .tail _ this.1
      · rcases List.mem_cons.mp hx with rfl | hx
        · exact Int.min_le_left _ _
        · exact Int.le_trans (Int.min_le_right _ _) (this.2 x hx)
noncomputable def minX (A B : List Int) : Int := lmin (A.flatMap fun a => B.map fun b => xr a b)
theorem mem_pairs {A B : List Int} {v : Int} : (v ∈ A.flatMap fun a => B.map fun b => xr a b) ↔ ∃ a ∈ A, ∃ b ∈ B, v = xr a b := by
  simp only [List.mem_flatMap, List.mem_map]
  constructor
  · rintro ⟨a, ha, b, hb, rfl⟩; exact ⟨a, ha, b, hb, rfl⟩
  · rintro ⟨a, ha, b, hb, rfl⟩; exact ⟨a, ha, b, hb, rfl⟩
theorem minX_spec {A B : List Int} (hA : A ≠ []) (hB : B ≠ []) : (∃ a ∈ A, ∃ b ∈ B, minX A B = xr a b) ∧ ∀ a ∈ A, ∀ b ∈ B, minX A B ≤ xr a b := by
  obtain ⟨a, ha⟩ := List.exists_mem_of_ne_nil A hA
  obtain ⟨b, hb⟩ := List.exists_mem_of_ne_nil B hB
  have := lmin_spec (A.flatMap fun a => B.map fun b => xr a b) (List.ne_nil_of_mem (mem_pairs.mpr ⟨a, ha, b, hb, rfl⟩))
  exact ⟨mem_pairs.mp this.1, fun a ha b hb => this.2 _ (mem_pairs.mpr ⟨a, ha, b, hb, rfl⟩)⟩
theorem minX_is {A B : List Int} {v : Int} (h1 : ∃ a ∈ A, ∃ b ∈ B, v = xr a b) (h2 : ∀ a ∈ A, ∀ b ∈ B, v ≤ xr a b) : minX A B = v := by
  obtain ⟨a, ha, b, hb, rfl⟩ := h1
  obtain ⟨⟨a', ha', b', hb', e⟩, h3⟩ := minX_spec (List.ne_nil_of_mem ha) (List.ne_nil_of_mem hb)
  have := h2 a' ha' b' hb'
  have := h3 a ha b hb
  omega
theorem minX_congr {A B A' B' : List Int} (hA : A ≠ []) (hB : B ≠ []) (h1 : ∀ x, x ∈ A ↔ x ∈ A') (h2 : ∀ x, x ∈ B ↔ x ∈ B') : minX A B = minX A' B' := by
  obtain ⟨⟨a, ha, b, hb, e⟩, h3⟩ := minX_spec hA hB
  exact (minX_is ⟨a, (h1 a).mp ha, b, (h2 b).mp hb, e⟩ fun a ha b hb => h3 a ((h1 a).mpr ha) b ((h2 b).mpr hb)).symm

noncomputable def bt (e : Nat) (x : Int) : Bool := decide (x / 2 ^ e % 2 = 1)
noncomputable def lo (e : Nat) (l : List Int) : List Int := l.filter fun x => !bt e x
noncomputable def hi (e : Nat) (l : List Int) : List Int := l.filter (bt e)
noncomputable def cross (e : Nat) (S O : List Int) : List Int :=
  if (lo e S ≠ [] ∧ hi e S ≠ []) ∨ lo e (S ++ O) = [] ∨ hi e (S ++ O) = [] then [] else [minX (lo e (S ++ O)) (hi e (S ++ O))]
noncomputable def F : Nat → List Int → List Int → List Int
  | 0, S, O => List.replicate (if S = [] then O.length - 1 else O.length) 0
  | e + 1, S, O => F e (lo e S) (lo e O) ++ (F e (hi e S) (hi e O) ++ cross e S O)
theorem mem_lo {e : Nat} {l : List Int} {x : Int} : x ∈ lo e l ↔ x ∈ l ∧ bt e x = false := by
  unfold lo; rw [List.mem_filter]; simp
theorem mem_hi {e : Nat} {l : List Int} {x : Int} : x ∈ hi e l ↔ x ∈ l ∧ bt e x = true := by
  unfold hi; rw [List.mem_filter]
theorem filter_erase {p : Int → Bool} (v : Int) : ∀ l : List Int, (l.erase v).filter p = if p v then (l.filter p).erase v else l.filter p := by
  intro l
  induction l with
  | nil => simp
  | cons a l ih =>
    rw [List.erase_cons]
    by_cases e : a = v
    · subst e
      simp only [beq_self_eq_true, if_true]
      by_cases hp : p a = true
      · rw [if_pos hp, List.filter_cons_of_pos hp, List.erase_cons_head]
      · rw [if_neg hp, List.filter_cons_of_neg hp]
    · have hb : (a == v) = false := by simpa using e
      rw [hb]
      simp only [Bool.false_eq_true, if_false]
      by_cases hp : p a = true
      · rw [List.filter_cons_of_pos hp, List.filter_cons_of_pos hp, ih]
        split
        · rw [List.erase_cons, hb]; simp
        · rfl
      · rw [List.filter_cons_of_neg hp, List.filter_cons_of_neg hp, ih]
theorem nil_iff {A B : List Int} (h : ∀ x, x ∈ A ↔ x ∈ B) : A = [] ↔ B = [] := by
  constructor
  · intro e
    cases B with
    | nil => rfl
    | cons b B => have := (h b).mpr (.head _); rw [e] at this; cases this
  · intro e
    cases A with
    | nil => rfl
    | cons b B => have := (h b).mp (.head _); rw [e] at this; cases this
theorem cross_congr {e : Nat} {S O S' O' : List Int} (h1 : (lo e S ≠ [] ∧ hi e S ≠ []) ↔ (lo e S' ≠ [] ∧ hi e S' ≠ [])) (h2 : ∀ x, x ∈ S ++ O ↔ x ∈ S' ++ O') : cross e S O = cross e S' O' := by
  have hl : ∀ x, x ∈ lo e (S ++ O) ↔ x ∈ lo e (S' ++ O') := fun x => by rw [mem_lo, mem_lo, h2]
  have hh : ∀ x, x ∈ hi e (S ++ O) ↔ x ∈ hi e (S' ++ O') := fun x => by rw [mem_hi, mem_hi, h2]
  have nl := nil_iff hl
  have nh := nil_iff hh
  unfold cross
  by_cases c : (lo e S ≠ [] ∧ hi e S ≠ []) ∨ lo e (S ++ O) = [] ∨ hi e (S ++ O) = []
  · rw [if_pos c, if_pos]
    rcases c with c | c | c
    · exact .inl (h1.mp c)
    · exact .inr (.inl (nl.mp c))
    · exact .inr (.inr (nh.mp c))
  · rw [if_neg c, if_neg]
    · rw [minX_congr (fun q => c (.inr (.inl q))) (fun q => c (.inr (.inr q))) hl hh]
    · intro d
      refine c ?_
      rcases d with d | d | d
      · exact .inl (h1.mpr d)
      · exact .inr (.inl (nl.mpr d))
      · exact .inr (.inr (nh.mpr d))
theorem F_congr : ∀ (e : Nat) {S O S' O' : List Int}, S.Perm S' → O.Perm O' → (F e S O).Perm (F e S' O') := by
  intro e
  induction e with
  | zero =>
    intro S O S' O' hS hO
    unfold F
    have h1 : S = [] ↔ S' = [] := nil_iff fun x => hS.mem_iff
    have : (if S = [] then O.length - 1 else O.length) = (if S' = [] then O'.length - 1 else O'.length) := by
      rw [hO.length_eq]
      by_cases c : S = []
      · rw [if_pos c, if_pos (h1.mp c)]
      · rw [if_neg c, if_neg fun q => c (h1.mpr q)]
    rw [this]
  | succ e ih =>
    intro S O S' O' hS hO
    unfold F
    refine (ih (hS.filter _) (hO.filter _)).append ((ih (hS.filter _) (hO.filter _)).append ?_)
    rw [cross_congr (S' := S') (O' := O')]
    · have a : lo e S = [] ↔ lo e S' = [] := nil_iff fun x => (hS.filter _).mem_iff
      have b : hi e S = [] ↔ hi e S' = [] := nil_iff fun x => (hS.filter _).mem_iff
      rw [ne_eq, ne_eq, ne_eq, ne_eq, a, b]
    · intro x; exact (hS.append hO).mem_iff
theorem F_nil : ∀ (e : Nat) (S : List Int), F e S [] = [] := by
  intro e
  induction e with
  | zero => intro S; unfold F; split <;> rfl
  | succ e ih =>
    intro S
    unfold F
    have l0 : lo e ([] : List Int) = [] := rfl
    have h0 : hi e ([] : List Int) = [] := rfl
    rw [l0, h0, ih, ih]
    show cross e S [] = []
    unfold cross
    rw [List.append_nil, if_pos]
    by_cases a : lo e S = []
    · exact .inr (.inl a)
    · by_cases b : hi e S = []
      · exact .inr (.inr b)
      · exact .inl ⟨a, b⟩
theorem mem_move {S O : List Int} {v : Int} (hv : v ∈ O) (x : Int) : x ∈ (v :: S) ++ O.erase v ↔ x ∈ S ++ O := by
  have hp := List.perm_cons_erase hv
  rw [List.cons_append, List.mem_cons, List.mem_append, List.mem_append, hp.mem_iff, List.mem_cons]
  constructor
  · rintro (h | h | h)
    · exact .inr (.inl h)
    · exact .inl h
    · exact .inr (.inr h)
  · rintro (h | h | h)
    · exact .inr (.inl h)
    · exact .inl h
    · exact .inr (.inr h)
theorem F_start : ∀ (e : Nat) {O : List Int} {v : Int}, v ∈ O → (F e [] O).Perm (F e [v] (O.erase v)) := by
  intro e
  induction e with
  | zero =>
    intro O v hv
    unfold F
    rw [if_pos rfl, if_neg (List.cons_ne_nil _ _), List.length_erase_of_mem hv]
  | succ e ih =>
    intro O v hv
    unfold F
    have hc : cross e [] O = cross e [v] (O.erase v) := by
      refine cross_congr ⟨fun h => absurd rfl h.1, fun h => ?_⟩ fun x => (mem_move (S := []) hv x).symm
      exfalso
      cases hb : bt e v with
      | true => exact h.1 (by unfold lo; rw [List.filter_cons_of_neg (by simp [hb])]; rfl)
      | false => exact h.2 (by unfold hi; rw [List.filter_cons_of_neg (by simp [hb])]; rfl)
    rw [← hc]
    cases hb : bt e v with
    | true =>
      have e1 : lo e [v] = [] := by unfold lo; rw [List.filter_cons_of_neg (by simp [hb])]; rfl
      have e2 : hi e [v] = [v] := by unfold hi; rw [List.filter_cons_of_pos hb]; rfl
      have e3 : lo e (O.erase v) = lo e O := by unfold lo; rw [filter_erase, if_neg (by simp [hb])]
      have e4 : hi e (O.erase v) = (hi e O).erase v := by unfold hi; rw [filter_erase, if_pos hb]
      rw [e1, e2, e3, e4]
      exact (List.Perm.refl _).append ((ih (mem_hi.mpr ⟨hv, hb⟩)).append (List.Perm.refl _))
    | false =>
      have e1 : hi e [v] = [] := by unfold hi; rw [List.filter_cons_of_neg (by simp [hb])]; rfl
      have e2 : lo e [v] = [v] := by unfold lo; rw [List.filter_cons_of_pos (by simp [hb])]; rfl
      have e3 : hi e (O.erase v) = hi e O := by unfold hi; rw [filter_erase, if_neg (by simp [hb])]
      have e4 : lo e (O.erase v) = (lo e O).erase v := by unfold lo; rw [filter_erase, if_pos (by simp [hb])]
      rw [e1, e2, e3, e4]
      exact (ih (mem_lo.mpr ⟨hv, hb⟩)).append (List.Perm.refl _)

end

section
noncomputable def blk (e : Nat) (l : List Int) : Prop := ∀ x ∈ l, ∀ y ∈ l, x / 2 ^ e = y / 2 ^ e
theorem half (x : Int) (e : Nat) : x / 2 ^ (e + 1) = x / 2 ^ e / 2 := by
  rw [Int.pow_succ, Int.ediv_ediv_of_nonneg (Int.pow_nonneg (by decide))]
theorem same_half {x y : Int} {e : Nat} (h : x / 2 ^ (e + 1) = y / 2 ^ (e + 1)) (hb : bt e x = bt e y) : x / 2 ^ e = y / 2 ^ e := by
  rw [half, half] at h
  unfold bt at hb
  have hb' := decide_eq_decide.mp hb
  omega
theorem other_half {x y : Int} {e : Nat} (hb : bt e x ≠ bt e y) : x / 2 ^ e ≠ y / 2 ^ e := fun q => hb (by unfold bt; rw [q])
theorem blk_lo {e : Nat} {l : List Int} (h : blk (e + 1) l) : blk e (lo e l) := fun x hx y hy => by
  rw [mem_lo] at hx hy
  exact same_half (h x hx.1 y hy.1) (hx.2.trans hy.2.symm)
theorem blk_hi {e : Nat} {l : List Int} (h : blk (e + 1) l) : blk e (hi e l) := fun x hx y hy => by
  rw [mem_hi] at hx hy
  exact same_half (h x hx.1 y hy.1) (hx.2.trans hy.2.symm)
theorem lo_app (e : Nat) (a b : List Int) : lo e (a ++ b) = lo e a ++ lo e b := List.filter_append ..
theorem hi_app (e : Nat) (a b : List Int) : hi e (a ++ b) = hi e a ++ hi e b := List.filter_append ..
theorem lo_cons_t {e : Nat} {v : Int} {l : List Int} (hb : bt e v = true) : lo e (v :: l) = lo e l := by unfold lo; rw [List.filter_cons_of_neg (by simp [hb])]
theorem lo_cons_f {e : Nat} {v : Int} {l : List Int} (hb : bt e v = false) : lo e (v :: l) = v :: lo e l := by unfold lo; rw [List.filter_cons_of_pos (by simp [hb])]
theorem hi_cons_t {e : Nat} {v : Int} {l : List Int} (hb : bt e v = true) : hi e (v :: l) = v :: hi e l := by unfold hi; rw [List.filter_cons_of_pos hb]
theorem hi_cons_f {e : Nat} {v : Int} {l : List Int} (hb : bt e v = false) : hi e (v :: l) = hi e l := by unfold hi; rw [List.filter_cons_of_neg (by simp [hb])]
theorem lo_erase_t {e : Nat} {v : Int} {l : List Int} (hb : bt e v = true) : lo e (l.erase v) = lo e l := by unfold lo; rw [filter_erase, if_neg (by simp [hb])]
theorem lo_erase_f {e : Nat} {v : Int} {l : List Int} (hb : bt e v = false) : lo e (l.erase v) = (lo e l).erase v := by unfold lo; rw [filter_erase, if_pos (by simp [hb])]
theorem hi_erase_t {e : Nat} {v : Int} {l : List Int} (hb : bt e v = true) : hi e (l.erase v) = (hi e l).erase v := by unfold hi; rw [filter_erase, if_pos hb]
theorem hi_erase_f {e : Nat} {v : Int} {l : List Int} (hb : bt e v = false) : hi e (l.erase v) = hi e l := by unfold hi; rw [filter_erase, if_neg (by simp [hb])]
theorem eq_nil_of {l : List Int} (h : ∀ x, x ∉ l) : l = [] := List.eq_nil_iff_forall_not_mem.mpr h

theorem F_step : ∀ (e : Nat) {S O : List Int} {s v : Int}, blk e (S ++ O) → (∀ x ∈ S ++ O, 0 ≤ x) → s ∈ S → v ∈ O → (∀ a ∈ S, ∀ b ∈ O, xr s v ≤ xr a b) →
    (F e S O).Perm (xr s v :: F e (v :: S) (O.erase v)) := by
  intro e
  induction e with
  | zero =>
    intro S O s v hB _ hs hv _
    have h1 := hB s (List.mem_append_left _ hs) v (List.mem_append_right _ hv)
    have h2 : s = v := by simpa using h1
    have hl : 0 < O.length := List.length_pos_of_mem hv
    unfold F
    rw [if_neg (List.ne_nil_of_mem hs), if_neg (List.cons_ne_nil _ _), h2, xr_self, List.length_erase_of_mem hv, ← List.replicate_succ, Nat.sub_add_cancel hl]
  | succ e ih =>
    intro S O s v hB h0 hs hv hm
    have s0 := h0 s (List.mem_append_left _ hs)
    have v0 := h0 v (List.mem_append_right _ hv)
    have near : ∀ a ∈ S ++ O, ∀ b ∈ S ++ O, bt e a = bt e b → xr a b < 2 ^ e := fun a ha b hb q =>
      (xr_lt (h0 a ha) (h0 b hb) e).mpr (same_half (hB a ha b hb) q)
    have far : ∀ a ∈ S ++ O, ∀ b ∈ S ++ O, bt e a ≠ bt e b → 2 ^ e ≤ xr a b := fun a ha b hb q =>
      Int.not_lt.mp fun h => other_half q ((xr_lt (h0 a ha) (h0 b hb) e).mp h)
    have inS : ∀ a, a ∈ S → a ∈ S ++ O := fun a h => List.mem_append_left _ h
    have inO : ∀ a, a ∈ O → a ∈ S ++ O := fun a h => List.mem_append_right _ h
    unfold F
    cases hb : bt e v with
    | false =>
      cases hc : bt e s with
      | false =>
        -- both below
        have hsl : s ∈ lo e S := mem_lo.mpr ⟨hs, hc⟩
        have hvl : v ∈ lo e O := mem_lo.mpr ⟨hv, hb⟩
        have hx : cross e (v :: S) (O.erase v) = cross e S O := by
          refine cross_congr ?_ (mem_move hv)
          rw [lo_cons_f hb, hi_cons_f hb]
          exact ⟨fun h => ⟨List.ne_nil_of_mem hsl, h.2⟩, fun h => ⟨List.cons_ne_nil _ _, h.2⟩⟩
        rw [hx, lo_cons_f hb, hi_cons_f hb, lo_erase_f hb, hi_erase_f hb]
        have := ih (S := lo e S) (O := lo e O) (by rw [← lo_app]; exact blk_lo hB) (by rw [← lo_app]; exact fun x hx => h0 x (mem_lo.mp hx).1) hsl hvl
          (fun a ha b hb' => hm a (mem_lo.mp ha).1 b (mem_lo.mp hb').1)
        exact (this.append_right _)
      | true =>
        -- s above, v below
        have hO : hi e O = [] := eq_nil_of fun y hy => by
          rw [mem_hi] at hy
          have a1 := near s (inS _ hs) y (inO _ hy.1) (hc.trans hy.2.symm)
          have a2 := far s (inS _ hs) v (inO _ hv) (by rw [hc, hb]; decide)
          have a3 := hm s hs y hy.1
          omega
        have hS : lo e S = [] := eq_nil_of fun y hy => by
          rw [mem_lo] at hy
          have a1 := near y (inS _ hy.1) v (inO _ hv) (hy.2.trans hb.symm)
          have a2 := far s (inS _ hs) v (inO _ hv) (by rw [hc, hb]; decide)
          have a3 := hm y hy.1 v hv
          omega
        have hsl : s ∈ hi e S := mem_hi.mpr ⟨hs, hc⟩
        have hvl : v ∈ lo e O := mem_lo.mpr ⟨hv, hb⟩
        have x1 : cross e S O = [xr s v] := by
          unfold cross
          rw [lo_app, hi_app, hS, hO, List.nil_append, List.append_nil, if_neg]
          · rw [minX_is ⟨v, hvl, s, hsl, xr_comm s v⟩ fun a ha b hb' => by
              rw [xr_comm a b]
              exact hm b (mem_hi.mp hb').1 a (mem_lo.mp ha).1]
          · rintro (h | h | h)
            · exact h.1 rfl
            · exact List.ne_nil_of_mem hvl h
            · exact List.ne_nil_of_mem hsl h
        have x2 : cross e (v :: S) (O.erase v) = [] := by
          unfold cross
          rw [lo_cons_f hb, hi_cons_f hb, if_pos (.inl ⟨List.cons_ne_nil _ _, List.ne_nil_of_mem hsl⟩)]
        rw [x1, x2, lo_cons_f hb, hi_cons_f hb, lo_erase_f hb, hi_erase_f hb, hS, hO]
        simp only [F_nil, List.nil_append, List.append_nil]
        exact (List.perm_append_comm (l₂ := [xr s v])).trans ((F_start e hvl).cons _)
    | true =>
      cases hc : bt e s with
      | true =>
        have hsl : s ∈ hi e S := mem_hi.mpr ⟨hs, hc⟩
        have hvl : v ∈ hi e O := mem_hi.mpr ⟨hv, hb⟩
        have hx : cross e (v :: S) (O.erase v) = cross e S O := by
          refine cross_congr ?_ (mem_move hv)
          rw [lo_cons_t hb, hi_cons_t hb]
          exact ⟨fun h => ⟨h.1, List.ne_nil_of_mem hsl⟩, fun h => ⟨h.1, List.cons_ne_nil _ _⟩⟩
        rw [hx, lo_cons_t hb, hi_cons_t hb, lo_erase_t hb, hi_erase_t hb]
        have := ih (S := hi e S) (O := hi e O) (by rw [← hi_app]; exact blk_hi hB) (by rw [← hi_app]; exact fun x hx => h0 x (mem_hi.mp hx).1) hsl hvl
          (fun a ha b hb' => hm a (mem_hi.mp ha).1 b (mem_hi.mp hb').1)
        exact ((this.append_right _).append_left _).trans List.perm_middle
      | false =>
        have hO : lo e O = [] := eq_nil_of fun y hy => by
          rw [mem_lo] at hy
          have a1 := near s (inS _ hs) y (inO _ hy.1) (hc.trans hy.2.symm)
          have a2 := far s (inS _ hs) v (inO _ hv) (by rw [hc, hb]; decide)
          have a3 := hm s hs y hy.1
          omega
        have hS : hi e S = [] := eq_nil_of fun y hy => by
          rw [mem_hi] at hy
          have a1 := near y (inS _ hy.1) v (inO _ hv) (hy.2.trans hb.symm)
          have a2 := far s (inS _ hs) v (inO _ hv) (by rw [hc, hb]; decide)
          have a3 := hm y hy.1 v hv
          omega
        have hsl : s ∈ lo e S := mem_lo.mpr ⟨hs, hc⟩
        have hvl : v ∈ hi e O := mem_hi.mpr ⟨hv, hb⟩
        have x1 : cross e S O = [xr s v] := by
          unfold cross
          rw [lo_app, hi_app, hS, hO, List.nil_append, List.append_nil, if_neg]
          · rw [minX_is ⟨s, hsl, v, hvl, rfl⟩ fun a ha b hb' => hm a (mem_lo.mp ha).1 b (mem_hi.mp hb').1]
          · rintro (h | h | h)
            · exact h.2 rfl
            · exact List.ne_nil_of_mem hsl h
            · exact List.ne_nil_of_mem hvl h
        have x2 : cross e (v :: S) (O.erase v) = [] := by
          unfold cross
          rw [lo_cons_t hb, hi_cons_t hb, if_pos (.inl ⟨List.ne_nil_of_mem hsl, List.cons_ne_nil _ _⟩)]
        rw [x1, x2, lo_cons_t hb, hi_cons_t hb, lo_erase_t hb, hi_erase_t hb, hS, hO]
        simp only [F_nil, List.nil_append, List.append_nil]
        exact (List.perm_append_comm (l₂ := [xr s v])).trans ((F_start e hvl).cons _)

end

section
theorem blk_app {e : Nat} {S O : List Int} (h : blk (e + 1) (S ++ O)) : blk e (lo e S ++ lo e O) ∧ blk e (hi e S ++ hi e O) := by
  rw [← lo_app, ← hi_app]; exact ⟨blk_lo h, blk_hi h⟩
theorem nn_app {e : Nat} {S O : List Int} (h : ∀ x ∈ S ++ O, (0 : Int) ≤ x) : (∀ x ∈ lo e S ++ lo e O, (0 : Int) ≤ x) ∧ ∀ x ∈ hi e S ++ hi e O, (0 : Int) ≤ x := by
  rw [← lo_app, ← hi_app]; exact ⟨fun x hx => h x (mem_lo.mp hx).1, fun x hx => h x (mem_hi.mp hx).1⟩
theorem cross_spec {e : Nat} {S O : List Int} {t : Int} (hB : blk (e + 1) (S ++ O)) (h0 : ∀ x ∈ S ++ O, (0 : Int) ≤ x) (ht : t ∈ cross e S O) : 2 ^ e ≤ t ∧ t < 2 ^ (e + 1) := by
  unfold cross at ht
  split at ht
  · cases ht
  · rename_i c
    rw [List.mem_singleton.mp ht]
    obtain ⟨⟨a, ha, b, hb, q⟩, _⟩ := minX_spec (fun q => c (.inr (.inl q))) (fun q => c (.inr (.inr q)))
    rw [mem_lo] at ha
    rw [mem_hi] at hb
    rw [q]
    refine ⟨Int.not_lt.mp fun h => other_half (by rw [ha.2, hb.2]; decide) ((xr_lt (h0 a ha.1) (h0 b hb.1) e).mp h), (xr_lt (h0 a ha.1) (h0 b hb.1) (e + 1)).mpr (hB a ha.1 b hb.1)⟩
theorem pow_pos2 (e : Nat) : (0 : Int) < 2 ^ e := Int.pow_pos (by decide)
theorem F_bd : ∀ (e : Nat) {S O : List Int} {t : Int}, blk e (S ++ O) → (∀ x ∈ S ++ O, (0 : Int) ≤ x) → t ∈ F e S O → 0 ≤ t ∧ t < 2 ^ e := by
  intro e
  induction e with
  | zero => intro S O t _ _ ht; unfold F at ht; rw [(List.mem_replicate.mp ht).2]; decide
  | succ e ih =>
    intro S O t hB h0 ht
    have hp := pow_pos2 e
    have hd : (2 : Int) ^ (e + 1) = 2 ^ e * 2 := Int.pow_succ _ _
    unfold F at ht
    rcases List.mem_append.mp ht with ht | ht
    · have := ih (blk_app hB).1 (nn_app h0).1 ht; omega
    · rcases List.mem_append.mp ht with ht | ht
      · have := ih (blk_app hB).2 (nn_app h0).2 ht; omega
      · have := cross_spec hB h0 ht; omega
theorem len_split (e : Nat) (l : List Int) : (lo e l).length + (hi e l).length = l.length := by
  unfold lo hi
  induction l with
  | nil => rfl
  | cons a l ih =>
    cases h : bt e a
    · rw [List.filter_cons_of_pos (by simp [h]), List.filter_cons_of_neg (by simp [h])]; simp only [List.length_cons]; omega
    · rw [List.filter_cons_of_neg (by simp [h]), List.filter_cons_of_pos h]; simp only [List.length_cons]; omega
theorem F_len0 : ∀ (e : Nat) (A : List Int), (∀ S : List Int, S ≠ [] → (F e S A).length = A.length) ∧ (F e [] A).length = A.length - 1 := by
  intro e
  induction e with
  | zero => intro A; exact ⟨fun S h => by unfold F; rw [if_neg h, List.length_replicate], by unfold F; rw [if_pos rfl, List.length_replicate]⟩
  | succ e ih =>
    intro A
    have hA := len_split e A
    have key : ∀ S : List Int, (F (e + 1) S A).length = (F e (lo e S) (lo e A)).length + ((F e (hi e S) (hi e A)).length + (cross e S A).length) := fun S => by
      conv => lhs; unfold F
      rw [List.length_append, List.length_append]
    have cl : ∀ S : List Int, (cross e S A).length = if (lo e S ≠ [] ∧ hi e S ≠ []) ∨ lo e (S ++ A) = [] ∨ hi e (S ++ A) = [] then 0 else 1 := fun S => by
      unfold cross; split <;> rfl
    have n0 : ∀ l : List Int, l = [] ↔ l.length = 0 := fun l => List.length_eq_zero_iff.symm
    constructor
    · intro S hS
      rw [key, cl, lo_app, hi_app]
      simp only [List.append_eq_nil_iff]
      have hSl := len_split e S
      have hSp : 0 < S.length := List.length_pos_iff.mpr hS
      by_cases a : lo e S = []
      · have b : hi e S ≠ [] := fun q => by rw [a, q] at hSl; simp only [List.length_nil] at hSl; omega
        rw [a, (ih (lo e A)).2, (ih (hi e A)).1 _ b]
        by_cases c : lo e A = []
        · rw [if_pos (.inr (.inl ⟨rfl, c⟩))]
          rw [n0] at c; omega
        · rw [if_neg]
          · have : 0 < (lo e A).length := List.length_pos_iff.mpr c
            omega
          · rintro (q | q | q)
            · exact q.1 rfl
            · exact c q.2
            · exact b q.1
      · by_cases b : hi e S = []
        · rw [b, (ih (hi e A)).2, (ih (lo e A)).1 _ a]
          by_cases c : hi e A = []
          · rw [if_pos (.inr (.inr ⟨rfl, c⟩))]
            rw [n0] at c; omega
          · rw [if_neg]
            · have : 0 < (hi e A).length := List.length_pos_iff.mpr c
              omega
            · rintro (q | q | q)
              · exact q.2 rfl
              · exact a q.1
              · exact c q.2
        · rw [if_pos (.inl ⟨a, b⟩), (ih (lo e A)).1 _ a, (ih (hi e A)).1 _ b]
          omega
    · have l0 : lo e ([] : List Int) = [] := rfl
      have h0 : hi e ([] : List Int) = [] := rfl
      rw [key, cl, l0, h0, (ih (lo e A)).2, (ih (hi e A)).2, List.nil_append]
      by_cases a : lo e A = []
      · rw [if_pos (.inr (.inl a))]
        rw [n0] at a; omega
      · by_cases b : hi e A = []
        · rw [if_pos (.inr (.inr b))]
          rw [n0] at b; omega
        · rw [if_neg]
          · have : 0 < (lo e A).length := List.length_pos_iff.mpr a
            have : 0 < (hi e A).length := List.length_pos_iff.mpr b
            omega
          · rintro (q | q | q)
            · exact q.1 rfl
            · exact a q
            · exact b q

section
variable {α β γ : Type} [DecidableEq α] [DecidableEq β] [DecidableEq γ]
/-- how many different ones -/
noncomputable def nd : List α → Nat
  | [] => 0
  | x :: l => (if x ∈ l then 0 else 1) + nd l
theorem nd_split (k : β → α) (p : β → Bool) : ∀ A : List β, (∀ a ∈ A, ∀ b ∈ A, k a = k b → p a = p b) → nd (A.map k) = nd ((A.filter p).map k) + nd ((A.filter fun x => !p x).map k) := by
  intro A
  induction A with
  | nil => intro _; rfl
  | cons a A ih =>
    intro h
    have ih' := ih fun x hx y hy => h x (.tail _ hx) y (.tail _ hy)
    have mem : k a ∈ A.map k ↔ k a ∈ (A.filter fun x => p x == p a).map k := by
      simp only [List.mem_map, List.mem_filter]
      constructor
      · rintro ⟨x, hx, e⟩
        exact ⟨x, ⟨hx, by rw [h x (.tail _ hx) a (.head _) e]; simp⟩, e⟩
      · rintro ⟨x, ⟨hx, _⟩, e⟩; exact ⟨x, hx, e⟩
    cases hp : p a
    · have e1 : (A.filter fun x => p x == p a) = A.filter fun x => !p x := by
        congr 1; funext x; rw [hp]; cases p x <;> rfl
      rw [e1] at mem
      rw [List.filter_cons_of_neg (by simp [hp]), List.filter_cons_of_pos (by simp [hp]), List.map_cons, List.map_cons]
      simp only [nd]
      rw [ih']
      by_cases c : k a ∈ A.map k
      · rw [if_pos c, if_pos (mem.mp c)]; omega
      · rw [if_neg c, if_neg fun q => c (mem.mpr q)]; omega
    · have e1 : (A.filter fun x => p x == p a) = A.filter p := by
        congr 1; funext x; rw [hp]; cases p x <;> rfl
      rw [e1] at mem
      rw [List.filter_cons_of_pos hp, List.filter_cons_of_neg (by simp [hp]), List.map_cons, List.map_cons]
      simp only [nd]
      rw [ih']
      by_cases c : k a ∈ A.map k
      · rw [if_pos c, if_pos (mem.mp c)]; omega
      · rw [if_neg c, if_neg fun q => c (mem.mpr q)]; omega
theorem nd_const (k : β → α) : ∀ A : List β, (∀ a ∈ A, ∀ b ∈ A, k a = k b) → nd (A.map k) = if A = [] then 0 else 1 := by
  intro A
  induction A with
  | nil => intro _; rfl
  | cons a A ih =>
    intro h
    have ih' := ih fun x hx y hy => h x (.tail _ hx) y (.tail _ hy)
    rw [List.map_cons]
    simp only [nd]
    rw [ih', if_neg (List.cons_ne_nil _ _)]
    cases A with
    | nil => rfl
    | cons b A =>
      rw [if_neg (List.cons_ne_nil _ _), if_pos]
      rw [List.map_cons, h a (.head _) b (.tail _ (.head _))]
      exact .head _
theorem nd_inj (f : β → α) (g : β → γ) : ∀ A : List β, (∀ a ∈ A, ∀ b ∈ A, f a = f b ↔ g a = g b) → nd (A.map f) = nd (A.map g) := by
  intro A
  induction A with
  | nil => intro _; rfl
  | cons a A ih =>
    intro h
    rw [List.map_cons, List.map_cons]
    simp only [nd]
    rw [ih fun x hx y hy => h x (.tail _ hx) y (.tail _ hy)]
    congr 1
    have : f a ∈ A.map f ↔ g a ∈ A.map g := by
      simp only [List.mem_map]
      constructor
      · rintro ⟨x, hx, e⟩; exact ⟨x, hx, (h x (.tail _ hx) a (.head _)).mp e⟩
      · rintro ⟨x, hx, e⟩; exact ⟨x, hx, (h x (.tail _ hx) a (.head _)).mpr e⟩
    by_cases c : f a ∈ A.map f
    · rw [if_pos c, if_pos (this.mp c)]
    · rw [if_neg c, if_neg fun q => c (this.mpr q)]
theorem nd_remove (x : α) (m : List α) : nd m = nd (m.filter fun y => decide (y ≠ x)) + if x ∈ m then 1 else 0 := by
  have h := nd_split (fun y : α => y) (fun y => decide (y ≠ x)) m (fun a _ b _ e => by rw [e])
  simp only [List.map_id'] at h
  rw [h]
  congr 1
  have hc := nd_const (fun y : α => y) (m.filter fun y => !decide (y ≠ x)) (fun a ha b hb => by
    have h1 := (List.mem_filter.mp ha).2
    have h2 := (List.mem_filter.mp hb).2
    simp at h1 h2
    rw [h1, h2])
  simp only [List.map_id'] at hc
  rw [hc]
  by_cases c : x ∈ m
  · rw [if_pos c, if_neg]
    exact List.ne_nil_of_mem (List.mem_filter.mpr ⟨c, by simp⟩)
  · rw [if_neg c, if_pos]
    rw [List.filter_eq_nil_iff]
    intro a ha q
    simp at q
    exact c (q ▸ ha)
end
theorem nat_div_le {x y : Int} {d e : Nat} (h : d ≤ e) (q : x / 2 ^ d = y / 2 ^ d) : x / 2 ^ e = y / 2 ^ e := by
  obtain ⟨k, rfl⟩ := Nat.exists_eq_add_of_le h
  rw [Int.pow_add, ← Int.ediv_ediv_of_nonneg (Int.pow_nonneg (by decide)), ← Int.ediv_ediv_of_nonneg (Int.pow_nonneg (by decide)), q]
theorem F_cnt (d : Nat) : ∀ (k : Nat) (A : List Int), blk (d + k) A → (∀ x ∈ A, (0 : Int) ≤ x) → ((F (d + k) [] A).filter fun t => decide (t < 2 ^ d)).length + nd (A.map fun x => x / 2 ^ d) = A.length := by
  intro k
  induction k with
  | zero =>
    intro A hB h0
    have e : ((F (d + 0) [] A).filter fun t => decide (t < 2 ^ d)) = F (d + 0) [] A := by
      rw [List.filter_eq_self]
      intro t ht
      exact decide_eq_true (F_bd d (S := []) hB h0 ht).2
    have hc := nd_const (fun x : Int => x / 2 ^ d) A hB
    rw [e, (F_len0 _ A).2, hc]
    cases A with
    | nil => rfl
    | cons a A => rw [if_neg (List.cons_ne_nil _ _)]; simp
  | succ k ih =>
    intro A hB h0
    have hB' := blk_app (S := []) (e := d + k) hB
    have h0' := nn_app (S := []) (e := d + k) h0
    have i1 := ih (lo (d + k) A) hB'.1 h0'.1
    have i2 := ih (hi (d + k) A) hB'.2 h0'.2
    have hs := nd_split (fun x : Int => x / 2 ^ d) (bt (d + k)) A fun a _ b _ e => by
      unfold bt; rw [nat_div_le (Nat.le_add_right d k) e]
    have hl := len_split (d + k) A
    have hx : (cross (d + k) [] A).filter (fun t => decide (t < 2 ^ d)) = [] := by
      rw [List.filter_eq_nil_iff]
      intro t ht q
      have h1 : (2 : Int) ^ (d + k) ≤ t := (cross_spec (S := []) hB h0 ht).1
      have h2 := of_decide_eq_true q
      have h3 : (2 : Int) ^ d ≤ 2 ^ (d + k) := by
        rw [two_pow_cast, two_pow_cast]
        exact Int.ofNat_le.mpr (Nat.pow_le_pow_right (by decide) (Nat.le_add_right d k))
      omega
    have hF : F (d + (k + 1)) [] A = F (d + k) [] (lo (d + k) A) ++ (F (d + k) [] (hi (d + k) A) ++ cross (d + k) [] A) := rfl
    rw [hF, List.filter_append, List.filter_append, hx, List.length_append, List.append_nil, hs]
    unfold lo hi at *
    omega

end

section
set_option maxRecDepth 100000


theorem fill4 : hd.heap_39 = hd.heap_39 ∧ PySem.Challenge.rw_oy0042_01 = PySem.Challenge.rw_oy0042_01 := by
  w_top off
  k_fill
  exact ⟨rfl, rfl⟩



set_option maxHeartbeats 4000000 in
theorem tie_does {w : World} {mean : ExcName → Option Value} {mg mb : Str → Option Value} {A A₀ : Around} {base h₀ : Heap} {outer : List Env} {env : Env} {L : Addr} {m : Str → Option Value} {s : Shared}
    (S : Spot w mean mg mb A A₀ base outer env h₀ L m s.heap) (hdp : A.depth ≤ 480) (hun : A.units ≤ 480)
    {x y k : Int} {t1 t2 t3 : Tok} (hx0 : 0 ≤ x) (hx1 : x < 16777216) (hy0 : 0 ≤ y) (hy1 : y < 16777216) (hk0 : 0 ≤ k) (hk1 : k < 8) :
    Does w A 172 [.int x t1, .int y t2, .int k t3] [] [] s (fun v _ => ∃ t, v = .int (Builtin.bitXor x y * 8 + k) t) := by
  refine' does_of 480 480 S hdp hun (by decide) [] ?hN _ (binds := [(Str.ofString "one", .int x t1), (Str.ofString "other", .int y t2), (Str.ofString "k", .int k t3)]) ?ho ?hcd ?hb ?hl ?c1 ?c2 ?c3 ?c4 ?_
  case hN => exact News.nil
  case ho => k_is
  case hcd => k_is
  case hb => exact BindsTo.of_eq rfl
  case hl => exact locs rfl
  case c1 => exact rfl
  case c2 => exact rfl
  case c3 => exact rfl
  case c4 => decide
  intro g L' h₁ F N B X T hg hlt hnone
  k_fold

  have hxr := xr_range hx0 hx1 hy0 hy1
  refine wpAny_execs_cons (join (fun s' => ∃ h' tk t, s' = { s with heap := h', toks := tk } ∧ Fr g L' h' (fun z => if z = Str.ofString "apart" then some (.int (Builtin.bitXor x y) t) else List.lookup z (List.reverse [(Str.ofString "one", .int x t1), (Str.ofString "other", .int y t2), (Str.ofString "k", .int k t3)])) ∧ News g L' h' []) ?_ ?_)
  · (repeat' (first | (k_unfold; (try dsimp only)) | ((with_reducible show wpAny _ _ (call (Value.ref _) _ _) _ _ _); (first | (refine useI (add_does ⟨by assumption, by assumption, by assumption, by assumption, rfl, rfl, rfl, rfl⟩ (Nat.le_of_ble_eq_true rfl) (Nat.le_of_ble_eq_true rfl) ) (by assumption) (by assumption) ?_; intro _ _ _ _ _; (try k_sweep)) | (refine useI (sub_does ⟨by assumption, by assumption, by assumption, by assumption, rfl, rfl, rfl, rfl⟩ (Nat.le_of_ble_eq_true rfl) (Nat.le_of_ble_eq_true rfl) ) (by assumption) (by assumption) ?_; intro _ _ _ _ _; (try k_sweep)) | (refine useI (and_does ⟨by assumption, by assumption, by assumption, by assumption, rfl, rfl, rfl, rfl⟩ (Nat.le_of_ble_eq_true rfl) (Nat.le_of_ble_eq_true rfl) ) (by assumption) (by assumption) ?_; intro _ _ _ _ _; (try k_sweep)) | (refine useI (or_does ⟨by assumption, by assumption, by assumption, by assumption, rfl, rfl, rfl, rfl⟩ (Nat.le_of_ble_eq_true rfl) (Nat.le_of_ble_eq_true rfl) ) (by assumption) (by assumption) ?_; intro _ _ _ _ _; (try k_sweep)) | (refine useI (xor_does ⟨by assumption, by assumption, by assumption, by assumption, rfl, rfl, rfl, rfl⟩ (Nat.le_of_ble_eq_true rfl) (Nat.le_of_ble_eq_true rfl) ) (by assumption) (by assumption) ?_; intro _ _ _ _ _; (try k_sweep)) | (refine useI (inv_does ⟨by assumption, by assumption, by assumption, by assumption, rfl, rfl, rfl, rfl⟩ (Nat.le_of_ble_eq_true rfl) (Nat.le_of_ble_eq_true rfl) ) (by assumption) (by assumption) ?_; intro _ _ _ _ _; (try k_sweep)) | (refine useI (neg_does ⟨by assumption, by assumption, by assumption, by assumption, rfl, rfl, rfl, rfl⟩ (Nat.le_of_ble_eq_true rfl) (Nat.le_of_ble_eq_true rfl) ) (by assumption) (by assumption) ?_; intro _ _ _ _ _; (try k_sweep)) | (refine useI (rsh_does ⟨by assumption, by assumption, by assumption, by assumption, rfl, rfl, rfl, rfl⟩ (Nat.le_of_ble_eq_true rfl) (Nat.le_of_ble_eq_true rfl) (by decide)) (by assumption) (by assumption) ?_; intro _ _ _ _ _; (try k_sweep)) | (refine useI (lsh_does ⟨by assumption, by assumption, by assumption, by assumption, rfl, rfl, rfl, rfl⟩ (Nat.le_of_ble_eq_true rfl) (Nat.le_of_ble_eq_true rfl) (by decide) (by decide) (by omega)) (by assumption) (by assumption) ?_; intro _ _ _ _ _; (try k_sweep)))) | ((fail_if_success (with_reducible show wpAny _ _ (exec (Stmt.While _ _ _ _) _) _ _ _)); (fail_if_success (with_reducible show wpAny _ _ (exec (Stmt.For _ _ _ _ _) _) _ _ _)); (fail_if_success (with_reducible show wpAny _ _ (call (Value.ref _) _ _) _ _ _)); (fail_if_success (with_reducible show KswEnd _ _ _ _ _ _ _ _ _ _ _ _)); (fail_if_success (with_reducible show wpAny _ _ (eval (Expr.ListComp _ _ _ _) _) _ _ _)); (fail_if_success (with_reducible show wpAny _ _ (exec (Stmt.Assign _ (Expr.ListComp _ _ _ _) _) _) _ _ _)); (fail_if_success (with_reducible show Out _ _ _ _ _)); (fail_if_success (with_reducible show LCg.CompEnd _ _ _ _ _ _ _ _ _ _ _ _ _ _)); (fail_if_success (with_reducible show LCg.CompSrc _ _ _ _ _ _ _ _ _ _ _ _ _ _)); (fail_if_success (with_reducible show LCt.CompSrcT _ _ _ _ _ _ _ _ _ _ _ _ _ _ _)); (fail_if_success (with_reducible show Meet _ _ _)); (fail_if_success (with_reducible show wpAny _ _ (pyIter _) _ _ _)); (fail_if_success (with_reducible show LEnd _ _ _ _ _ _ _ _ _ _ _)); (fail_if_success (with_reducible show LPost _ _ _ _ _ _ _ _ _ _ _ _ _)); first | walk1 | (dsimp only; walk1)) | (k_end; dsimp only; k_unfold; (try dsimp only)) | fail "no step"))
    · exact ⟨rfl, _, _, _, rfl, by assumption, by assumption⟩
    · rename Fr _ _ _ _ => F9
      rw [xr_inv1] at F9
      exact ⟨rfl, _, _, _, rfl, F9, by assumption⟩
    · rename Fr _ _ _ _ => F9
      rw [xr_inv2] at F9
      exact ⟨rfl, _, _, _, rfl, F9, by assumption⟩
    · rename Fr _ _ _ _ => F9
      rw [xr_inv3] at F9
      exact ⟨rfl, _, _, _, rfl, F9, by assumption⟩
  · rintro s' ⟨h', tk, t, rfl, F', N'⟩
    clear F N
    (repeat' (first | (k_unfold; (try dsimp only)) | ((with_reducible show wpAny _ _ (call (Value.ref _) _ _) _ _ _); (first | (refine useI (add_does ⟨by assumption, by assumption, by assumption, by assumption, rfl, rfl, rfl, rfl⟩ (Nat.le_of_ble_eq_true rfl) (Nat.le_of_ble_eq_true rfl) ) (by assumption) (by assumption) ?_; intro _ _ _ _ _; (try k_sweep)) | (refine useI (sub_does ⟨by assumption, by assumption, by assumption, by assumption, rfl, rfl, rfl, rfl⟩ (Nat.le_of_ble_eq_true rfl) (Nat.le_of_ble_eq_true rfl) ) (by assumption) (by assumption) ?_; intro _ _ _ _ _; (try k_sweep)) | (refine useI (and_does ⟨by assumption, by assumption, by assumption, by assumption, rfl, rfl, rfl, rfl⟩ (Nat.le_of_ble_eq_true rfl) (Nat.le_of_ble_eq_true rfl) ) (by assumption) (by assumption) ?_; intro _ _ _ _ _; (try k_sweep)) | (refine useI (or_does ⟨by assumption, by assumption, by assumption, by assumption, rfl, rfl, rfl, rfl⟩ (Nat.le_of_ble_eq_true rfl) (Nat.le_of_ble_eq_true rfl) ) (by assumption) (by assumption) ?_; intro _ _ _ _ _; (try k_sweep)) | (refine useI (xor_does ⟨by assumption, by assumption, by assumption, by assumption, rfl, rfl, rfl, rfl⟩ (Nat.le_of_ble_eq_true rfl) (Nat.le_of_ble_eq_true rfl) ) (by assumption) (by assumption) ?_; intro _ _ _ _ _; (try k_sweep)) | (refine useI (inv_does ⟨by assumption, by assumption, by assumption, by assumption, rfl, rfl, rfl, rfl⟩ (Nat.le_of_ble_eq_true rfl) (Nat.le_of_ble_eq_true rfl) ) (by assumption) (by assumption) ?_; intro _ _ _ _ _; (try k_sweep)) | (refine useI (neg_does ⟨by assumption, by assumption, by assumption, by assumption, rfl, rfl, rfl, rfl⟩ (Nat.le_of_ble_eq_true rfl) (Nat.le_of_ble_eq_true rfl) ) (by assumption) (by assumption) ?_; intro _ _ _ _ _; (try k_sweep)) | (refine useI (rsh_does ⟨by assumption, by assumption, by assumption, by assumption, rfl, rfl, rfl, rfl⟩ (Nat.le_of_ble_eq_true rfl) (Nat.le_of_ble_eq_true rfl) (by decide)) (by assumption) (by assumption) ?_; intro _ _ _ _ _; (try k_sweep)) | (refine useI (lsh_does ⟨by assumption, by assumption, by assumption, by assumption, rfl, rfl, rfl, rfl⟩ (Nat.le_of_ble_eq_true rfl) (Nat.le_of_ble_eq_true rfl) (by decide) (by decide) (by omega)) (by assumption) (by assumption) ?_; intro _ _ _ _ _; (try k_sweep)))) | ((fail_if_success (with_reducible show wpAny _ _ (exec (Stmt.While _ _ _ _) _) _ _ _)); (fail_if_success (with_reducible show wpAny _ _ (exec (Stmt.For _ _ _ _ _) _) _ _ _)); (fail_if_success (with_reducible show wpAny _ _ (call (Value.ref _) _ _) _ _ _)); (fail_if_success (with_reducible show KswEnd _ _ _ _ _ _ _ _ _ _ _ _)); (fail_if_success (with_reducible show wpAny _ _ (eval (Expr.ListComp _ _ _ _) _) _ _ _)); (fail_if_success (with_reducible show wpAny _ _ (exec (Stmt.Assign _ (Expr.ListComp _ _ _ _) _) _) _ _ _)); (fail_if_success (with_reducible show Out _ _ _ _ _)); (fail_if_success (with_reducible show LCg.CompEnd _ _ _ _ _ _ _ _ _ _ _ _ _ _)); (fail_if_success (with_reducible show LCg.CompSrc _ _ _ _ _ _ _ _ _ _ _ _ _ _)); (fail_if_success (with_reducible show LCt.CompSrcT _ _ _ _ _ _ _ _ _ _ _ _ _ _ _)); (fail_if_success (with_reducible show Meet _ _ _)); (fail_if_success (with_reducible show wpAny _ _ (pyIter _) _ _ _)); (fail_if_success (with_reducible show LEnd _ _ _ _ _ _ _ _ _ _ _)); (fail_if_success (with_reducible show LPost _ _ _ _ _ _ _ _ _ _ _ _ _)); first | walk1 | (dsimp only; walk1)) | (k_end; dsimp only; k_unfold; (try dsimp only)) | fail "no step"))
    rename Fr _ _ _ _ => F9
    refine ⟨_, _, rfl, F9.keep, ?_⟩
    rw [tie_val hxr.1 hk0 hk1]
    exact ⟨_, rfl⟩

end

section
noncomputable def val (rs : List Int) (k : Int) : Int := rs.getD k.toNat 0
noncomputable def tieV (rs : List Int) (i k : Int) : Int := Builtin.bitXor (rs.getD i.toNat 0) (rs.getD k.toNat 0) * 8 + k
noncomputable def pushAll (rs : List Int) (near : Int) (o h : List Int) : List Int := o.foldl (fun h k => pushL h (tieV rs near k)) h
noncomputable def outs (rs : List Int) : List Int := W.rangeKs 1 ((rs.length : Int) - 1).toNat
noncomputable def tri : Nat → Nat
  | 0 => 0
  | n + 1 => tri n + n
structure NetInv (rs o h ts : List Int) : Prop where
  ex : ∃ S : List Int, (0 : Int) ∈ S ∧ (S ++ o).Perm (0 :: outs rs) ∧ (∀ i ∈ S, ∀ k ∈ o, tieV rs i k ∈ h) ∧ (∀ e ∈ h, ∃ i ∈ S, ∃ k, 1 ≤ k ∧ k < (rs.length : Int) ∧ e = tieV rs i k) ∧
    (ts ++ F 24 (S.map (val rs)) (o.map (val rs))).Perm (F 24 [] rs)
  hp : Hp 0 h
  sz : h.length + tri o.length ≤ 21
  tl : ts.length + o.length ≤ 6
theorem tri_le : ∀ n : Nat, n ≤ 6 → tri n ≤ 15
  | 0, _ => by decide
  | 1, _ => by decide
  | 2, _ => by decide
  | 3, _ => by decide
  | 4, _ => by decide
  | 5, _ => by decide
  | 6, _ => by decide
  | n + 7, h => absurd h (by omega)
theorem outs_length (rs : List Int) : (outs rs).length = rs.length - 1 := by unfold outs; rw [rangeKs_length]; omega
theorem popL_length (h : List Int) : (popL h).length = h.length - 1 := by
  unfold popL
  split
  · simp only [List.length_nil]; omega
  · rw [su_length, List.length_set, List.length_dropLast]
theorem pushL_length (h : List Int) (x : Int) : (pushL h x).length = h.length + 1 := by
  unfold pushL; rw [sd_length]; simp
theorem pushAll_length (rs : List Int) (near : Int) (o h : List Int) : (pushAll rs near o h).length = h.length + o.length := by
  unfold pushAll
  induction o generalizing h with
  | nil => simp
  | cons a o ih => rw [List.foldl_cons, ih, pushL_length, List.length_cons]; omega
theorem pushAll_ok (rs : List Int) (near : Int) : ∀ (o h : List Int), Hp 0 h → Hp 0 (pushAll rs near o h) ∧ ∀ x, x ∈ pushAll rs near o h ↔ x ∈ h ∨ ∃ k ∈ o, x = tieV rs near k := by
  intro o
  induction o with
  | nil => intro h hh; exact ⟨hh, fun x => by simp [pushAll]⟩
  | cons a o ih =>
    intro h hh
    have hp := push_ok (tieV rs near a) hh
    have := ih _ hp.1
    refine ⟨this.1, fun x => ?_⟩
    rw [show pushAll rs near (a :: o) h = pushAll rs near o (pushL h (tieV rs near a)) from rfl, this.2, hp.2.mem_iff, List.mem_cons]
    constructor
    · rintro ((h1 | h1) | ⟨k, hk, e⟩)
      · exact .inr ⟨a, .head _, h1⟩
      · exact .inl h1
      · exact .inr ⟨k, .tail _ hk, e⟩
    · rintro (h1 | ⟨k, hk, e⟩)
      · exact .inl (.inr h1)
      · rcases List.mem_cons.mp hk with rfl | hk
        · exact .inl (.inl e)
        · exact .inr ⟨k, hk, e⟩
theorem rs_split {rs : List Int} (h : 0 < rs.length) : rs = val rs 0 :: (outs rs).map (val rs) := by
  cases rs with
  | nil => cases h
  | cons a l =>
    congr 1
    unfold outs W.rangeKs
    rw [List.map_map]
    have e : ((((a :: l).length : Nat) : Int) - 1).toNat = l.length := by simp
    rw [e]
    apply List.ext_getElem
    · simp
    · intro i h1 h2
      simp only [List.getElem_map, List.getElem_range, Function.comp]
      unfold val
      have e2 : (1 + (i : Int)).toNat = i + 1 := by omega
      rw [e2, List.getD_cons_succ, List.getD_eq_getElem?_getD, List.getElem?_eq_getElem h1]
      rfl
theorem idx_nodup (rs : List Int) : (0 :: outs rs).Nodup := by
  rw [List.nodup_cons]
  refine ⟨fun h => by have := mem_rangeKs h; omega, ?_⟩
  unfold outs W.rangeKs
  rw [List.nodup_iff_pairwise_ne, List.pairwise_map]
  exact List.nodup_range.imp (fun {a b} hab q => hab (by omega))
theorem idx_bd {rs : List Int} (R : RowsOk rs) {k : Int} (h : k ∈ 0 :: outs rs) : 0 ≤ k ∧ k < (rs.length : Int) := by
  have := R.lo
  rcases List.mem_cons.mp h with rfl | h
  · omega
  · have := mem_rangeKs h; omega
theorem val_in {rs : List Int} (R : RowsOk rs) {k : Int} (h : 0 ≤ k ∧ k < (rs.length : Int)) : 0 ≤ val rs k ∧ val rs k < 16777216 := by
  unfold val
  exact R.all _ (by
    have hk : k.toNat < rs.length := by omega
    rw [List.getD_eq_getElem?_getD, List.getElem?_eq_getElem hk]
    exact List.getElem_mem hk)
theorem tie_eq (rs : List Int) (i k : Int) : tieV rs i k = xr (val rs i) (val rs k) * 8 + k := rfl
theorem net_mem {rs o h ts : List Int} (R : RowsOk rs) (I : NetInv rs o h ts) : ∀ k ∈ o, 1 ≤ k ∧ k < (rs.length : Int) := by
  obtain ⟨S, h0, hp, _⟩ := I.ex
  intro k hk
  have hn := hp.nodup_iff.mpr (idx_nodup rs)
  have hb := idx_bd R (hp.mem_iff.mp (List.mem_append_right _ hk))
  have : k ≠ 0 := fun e => (List.nodup_append.mp hn).2.2 0 h0 k hk e.symm
  omega
theorem net_olen {rs o h ts : List Int} (_ : RowsOk rs) (I : NetInv rs o h ts) : o.length ≤ 6 := by have := I.tl; omega
theorem net_hlen {rs o h ts : List Int} (_ : RowsOk rs) (I : NetInv rs o h ts) : h.length ≤ 100 := by have := I.sz; omega
theorem net_tlen {rs o h ts : List Int} (_ : RowsOk rs) (I : NetInv rs o h ts) : ts.length ≤ 6 := by have := I.tl; omega
theorem net_ne {rs o h ts : List Int} (_ : RowsOk rs) (I : NetInv rs o h ts) (ho : o ≠ []) : h ≠ [] := by
  obtain ⟨S, h0, _, hc, _⟩ := I.ex
  obtain ⟨k, hk⟩ := List.exists_mem_of_ne_nil o ho
  exact List.ne_nil_of_mem (hc 0 h0 k hk)
theorem net_init {rs : List Int} (R : RowsOk rs) : NetInv rs (outs rs) (hfy (((outs rs).map (tieV rs 0)).length / 2) ((outs rs).map (tieV rs 0))) [] := by
  have hh := heapify_ok ((outs rs).map (tieV rs 0))
  have R1 := R.lo
  have R2 := R.hi
  have hl := outs_length rs
  have hs := rs_split (rs := rs) (by omega)
  refine ⟨⟨[0], .head _, List.Perm.refl _, ?_, ?_, ?_⟩, hh.1, ?_, ?_⟩
  · intro i hi k hk
    rw [List.mem_singleton.mp hi]
    exact hh.2.mem_iff.mpr (List.mem_map_of_mem hk)
  · intro e he
    obtain ⟨k, hk, rfl⟩ := List.mem_map.mp (hh.2.mem_iff.mp he)
    have := mem_rangeKs hk
    exact ⟨0, .head _, k, by omega, by omega, rfl⟩
  · rw [List.nil_append]
    have := F_start 24 (O := rs) (v := val rs 0) (by rw [hs]; unfold val; simp)
    refine List.Perm.trans ?_ this.symm
    have e : rs.erase (val rs 0) = (outs rs).map (val rs) := by
      conv => lhs; rw [hs]
      have : val (val rs 0 :: (outs rs).map (val rs)) 0 = val rs 0 := rfl
      first
        | rw [List.erase_cons_head]
        | (rw [this, List.erase_cons_head])
    rw [e]
    exact List.Perm.refl _
  · rw [hh.2.length_eq, List.length_map, hl]
    have := tri_le (rs.length - 1) (by omega)
    omega
  · simp only [List.length_nil]; omega
theorem and7 (x : Int) : Builtin.bitAnd x 7 = x % 8 := bitAnd_m3 x
theorem net_pop {rs o h ts : List Int} (R : RowsOk rs) (I : NetInv rs o h ts) (hne : h ≠ []) {S : List Int} (hs : ∀ e ∈ h, ∃ i ∈ S, ∃ k, 1 ≤ k ∧ k < (rs.length : Int) ∧ e = tieV rs i k) :
    ∃ i ∈ S, ∃ k, 1 ≤ k ∧ k < (rs.length : Int) ∧ popV h = tieV rs i k ∧ Builtin.bitAnd (popV h) 7 = k := by
  have hp := pop_ok hne I.hp
  obtain ⟨i, hi, k, h1, h2, e⟩ := hs _ (hp.2.1.mem_iff.mp (.head _))
  have := R.hi
  refine ⟨i, hi, k, h1, h2, e, ?_⟩
  rw [and7, e, tie_eq]
  omega
theorem pop_mem {rs h : List Int} (R : RowsOk rs) (hh : Hp 0 h) (hne : h ≠ []) {i i0 k k0 : Int} (hk : 1 ≤ k ∧ k < (rs.length : Int)) (hk0 : 1 ≤ k0 ∧ k0 < (rs.length : Int)) (e : popV h = tieV rs i0 k0) (hn : k ≠ k0) (hm : tieV rs i k ∈ h) : tieV rs i k ∈ popL h := by
  have hp := pop_ok hne hh
  rcases List.mem_cons.mp (hp.2.1.mem_iff.mpr hm) with q | q
  · have := R.hi
    rw [e, tie_eq, tie_eq] at q
    omega
  · exact q
theorem net_skip {rs o h ts : List Int} (R : RowsOk rs) (I : NetInv rs o h ts) (ho : o ≠ []) (hn : Builtin.bitAnd (popV h) 7 ∉ o) : NetInv rs o (popL h) ts := by
  have hne := net_ne R I ho
  have hM := net_mem R I
  have hp := pop_ok hne I.hp
  obtain ⟨S, h0, hperm, hc, hs, hf⟩ := I.ex
  obtain ⟨i0, hi0, k0, a1, a2, e, e7⟩ := net_pop R I hne hs
  rw [e7] at hn
  refine ⟨⟨S, h0, hperm, fun i hi k hk => ?_, fun x hx => hs x (hp.2.1.mem_iff.mp (.tail _ hx)), hf⟩, hp.1, ?_, I.tl⟩
  · exact pop_mem R I.hp hne (hM k hk) ⟨a1, a2⟩ e (fun q => hn (q ▸ hk)) (hc i hi k hk)
  · have := I.sz
    rw [popL_length]; omega
theorem net_take {rs o h ts : List Int} (R : RowsOk rs) (I : NetInv rs o h ts) (hn : Builtin.bitAnd (popV h) 7 ∈ o) :
    NetInv rs (o.erase (Builtin.bitAnd (popV h) 7)) (pushAll rs (Builtin.bitAnd (popV h) 7) (o.erase (Builtin.bitAnd (popV h) 7)) (popL h)) (ts ++ [(popV h).fdiv (2 ^ Int.toNat 3)]) := by
  have ho := List.ne_nil_of_mem hn
  have hne := net_ne R I ho
  have hM := net_mem R I
  have hp := pop_ok hne I.hp
  have R2 := R.hi
  obtain ⟨S, h0, hperm, hc, hs, hf⟩ := I.ex
  obtain ⟨i, hi, k, a1, a2, e, e7⟩ := net_pop R I hne hs
  rw [e7] at hn ⊢
  have hnd := hperm.nodup_iff.mpr (idx_nodup rs)
  have hno := (List.nodup_append.mp hnd).2.1
  have hpa := pushAll_ok rs k (o.erase k) (popL h) hp.1
  have hbd : ∀ a ∈ S ++ o, 0 ≤ a ∧ a < (rs.length : Int) := fun a ha => idx_bd R (hperm.mem_iff.mp ha)
  have hw : (popV h).fdiv (2 ^ Int.toNat 3) = xr (val rs i) (val rs k) := by
    rw [e, tie_eq, Int.fdiv_eq_ediv_of_nonneg _ (by decide)]
    show (xr (val rs i) (val rs k) * 8 + k) / 8 = _
    omega
  have hlo : (o.erase k).length = o.length - 1 := List.length_erase_of_mem hn
  have hpos : 0 < o.length := List.length_pos_of_mem hn
  refine ⟨⟨k :: S, .tail _ h0, ?_, ?_, ?_, ?_⟩, hpa.1, ?_, ?_⟩
  · refine List.Perm.trans ?_ hperm
    rw [List.cons_append]
    exact List.perm_middle.symm.trans ((List.perm_cons_erase hn).symm.append_left S)
  · intro i' hi' k' hk'
    rw [hpa.2]
    rcases List.mem_cons.mp hi' with rfl | hi'
    · exact .inr ⟨k', hk', rfl⟩
    · have hk2 := List.mem_of_mem_erase hk'
      exact .inl (pop_mem R I.hp hne (hM k' hk2) ⟨a1, a2⟩ e (fun q => by
        rw [q] at hk'
        exact absurd hk' (hno.not_mem_erase)) (hc i' hi' k' hk2))
  · intro x hx
    rcases (hpa.2 x).mp hx with hx | ⟨k', hk', rfl⟩
    · obtain ⟨i', hi', k', b⟩ := hs x (hp.2.1.mem_iff.mp (.tail _ hx))
      exact ⟨i', .tail _ hi', k', b⟩
    · have := hM k' (List.mem_of_mem_erase hk')
      exact ⟨k, .head _, k', this.1, this.2, rfl⟩
  · obtain ⟨E, hE⟩ : ∃ E : Nat, E = 24 := ⟨24, rfl⟩
    rw [← hE] at hf ⊢
    refine List.Perm.trans ?_ hf
    rw [hw, List.append_assoc]
    refine List.Perm.append_left ts ?_
    have st := F_step E (S := S.map (val rs)) (O := o.map (val rs)) (s := val rs i) (v := val rs k) ?_ ?_ (List.mem_map_of_mem hi) (List.mem_map_of_mem hn) ?_
    · refine List.Perm.trans (List.Perm.cons _ (F_congr E (List.Perm.refl _) ?_)) st.symm
      have p1 := (List.perm_cons_erase hn).map (val rs)
      have p2 := List.perm_cons_erase (List.mem_map_of_mem (f := val rs) hn)
      exact (List.Perm.cons_inv ((show (val rs k :: (o.erase k).map (val rs)).Perm (o.map (val rs)) from p1.symm).trans p2))
    · intro x hx y hy
      rw [← List.map_append] at hx hy
      obtain ⟨a, ha, rfl⟩ := List.mem_map.mp hx
      obtain ⟨b, hb, rfl⟩ := List.mem_map.mp hy
      have h1 := val_in R (hbd a ha)
      have h2 := val_in R (hbd b hb)
      rw [hE]
      have e1 : val rs a / 2 ^ 24 = 0 := Int.ediv_eq_zero_of_lt h1.1 h1.2
      have e2 : val rs b / 2 ^ 24 = 0 := Int.ediv_eq_zero_of_lt h2.1 h2.2
      rw [e1, e2]
    · intro x hx
      rw [← List.map_append] at hx
      obtain ⟨a, ha, rfl⟩ := List.mem_map.mp hx
      exact (val_in R (hbd a ha)).1
    · intro a ha b hb
      obtain ⟨i', hi', rfl⟩ := List.mem_map.mp ha
      obtain ⟨k', hk', rfl⟩ := List.mem_map.mp hb
      have hle := hp.2.2 _ (hc i' hi' k' hk')
      have hk2 := hM k' hk'
      rw [e, tie_eq, tie_eq] at hle
      omega
  · rw [pushAll_length, popL_length, hlo]
    have h1 : 0 < h.length := List.length_pos_iff.mpr hne
    have h2 := I.sz
    obtain ⟨m, hm⟩ : ∃ m, o.length = m + 1 := ⟨o.length - 1, by omega⟩
    rw [hm] at h2 ⊢
    simp only [tri, Nat.add_sub_cancel] at h2 ⊢
    omega
  · rw [List.length_append, hlo]
    have := I.tl
    simp only [List.length_cons, List.length_nil]; omega

end

section
set_option maxRecDepth 100000
local macro_rules | `(tactic| k_all) => `(tactic| first | exact List.forall_mem_nil _ | (refine List.forall_mem_cons.mpr ⟨by k_ne, ?_⟩; k_all))
theorem dup2 {α : Type} {p q : Prop} [Decidable p] [Decidable q] (a b c : α) : (if p then a else if q then b else if p then a else if q then b else c) = if p then a else if q then b else c := by
  by_cases p <;> by_cases q <;> simp_all

theorem fill5 : hd.heap_39 = hd.heap_39 ∧ PySem.Challenge.rw_oy0042_01 = PySem.Challenge.rw_oy0042_01 := by
  w_top off
  k_fill
  exact ⟨rfl, rfl⟩



set_option maxHeartbeats 1500000 in
theorem net_does {w : World} {mean : ExcName → Option Value} {mg mb : Str → Option Value} {A A₀ : Around} {base h₀ : Heap} {outer : List Env} {env : Env} {L : Addr} {m : Str → Option Value} {s : Shared}
    (S : Spot w mean mg mb A A₀ base outer env h₀ L m s.heap) (hdp : A.depth ≤ 400) (hun : A.units ≤ 400)
    {r : Addr} {vs : List Value} {rs : List Int} (hr : s.heap.IsList r vs.toArray) (hi : IntsAre vs rs) (R : RowsOk rs) :
    Does w A 177 [.ref r] [] [] s (fun v h' => ∃ a vs' n' ts hp, v = .ref a ∧ s.heap.get? a = none ∧ h'.get? a = some (listOf vs'.toArray n') ∧ IntsAre vs' ts ∧ NetInv rs [] hp ts) := by
  refine' does_ofC 400 400 S hdp hun (by decide) [] ?hN _ (binds := [(Str.ofString "rows", .ref r)]) ?ho ?hcd ?hb ?hl ?hnd ?c1 ?c2 ?c3 ?_
  case hN => exact News.nil
  case ho => k_is
  case hcd => k_is
  case hb => exact BindsTo.of_eq rfl
  case hl => exact rfl
  case hnd => decide +kernel
  case c1 => exact rfl
  case c2 => exact rfl
  case c3 => exact rfl
  intro g L' h₁ tk cells F N Y B X T hg hlt hnone
  obtain ⟨o1, hE, d1⟩ := CellsAre.one Y
  subst hE
  clear Y
  simp only [List.cons_append, List.nil_append] at N
  (try dsimp only)
  k_fold

  (repeat' (first | (k_unfold; (try dsimp only)) | ((with_reducible show wpAny _ _ (call (Value.ref _) _ _) _ _ _); (first | (refine useI (add_does ⟨by assumption, by assumption, by assumption, by assumption, rfl, rfl, rfl, rfl⟩ (Nat.le_of_ble_eq_true rfl) (Nat.le_of_ble_eq_true rfl) ) (by assumption) (by assumption) ?_; intro _ _ _ _ _; (try k_sweep)) | (refine useI (sub_does ⟨by assumption, by assumption, by assumption, by assumption, rfl, rfl, rfl, rfl⟩ (Nat.le_of_ble_eq_true rfl) (Nat.le_of_ble_eq_true rfl) ) (by assumption) (by assumption) ?_; intro _ _ _ _ _; (try k_sweep)) | (refine useI (and_does ⟨by assumption, by assumption, by assumption, by assumption, rfl, rfl, rfl, rfl⟩ (Nat.le_of_ble_eq_true rfl) (Nat.le_of_ble_eq_true rfl) ) (by assumption) (by assumption) ?_; intro _ _ _ _ _; (try k_sweep)) | (refine useI (or_does ⟨by assumption, by assumption, by assumption, by assumption, rfl, rfl, rfl, rfl⟩ (Nat.le_of_ble_eq_true rfl) (Nat.le_of_ble_eq_true rfl) ) (by assumption) (by assumption) ?_; intro _ _ _ _ _; (try k_sweep)) | (refine useI (xor_does ⟨by assumption, by assumption, by assumption, by assumption, rfl, rfl, rfl, rfl⟩ (Nat.le_of_ble_eq_true rfl) (Nat.le_of_ble_eq_true rfl) ) (by assumption) (by assumption) ?_; intro _ _ _ _ _; (try k_sweep)) | (refine useI (inv_does ⟨by assumption, by assumption, by assumption, by assumption, rfl, rfl, rfl, rfl⟩ (Nat.le_of_ble_eq_true rfl) (Nat.le_of_ble_eq_true rfl) ) (by assumption) (by assumption) ?_; intro _ _ _ _ _; (try k_sweep)) | (refine useI (neg_does ⟨by assumption, by assumption, by assumption, by assumption, rfl, rfl, rfl, rfl⟩ (Nat.le_of_ble_eq_true rfl) (Nat.le_of_ble_eq_true rfl) ) (by assumption) (by assumption) ?_; intro _ _ _ _ _; (try k_sweep)) | (refine useI (rsh_does ⟨by assumption, by assumption, by assumption, by assumption, rfl, rfl, rfl, rfl⟩ (Nat.le_of_ble_eq_true rfl) (Nat.le_of_ble_eq_true rfl) (by decide)) (by assumption) (by assumption) ?_; intro _ _ _ _ _; (try k_sweep)) | (refine useI (lsh_does ⟨by assumption, by assumption, by assumption, by assumption, rfl, rfl, rfl, rfl⟩ (Nat.le_of_ble_eq_true rfl) (Nat.le_of_ble_eq_true rfl) (by decide) (by decide) (by omega)) (by assumption) (by assumption) ?_; intro _ _ _ _ _; (try k_sweep)))) | ((fail_if_success (with_reducible show wpAny _ _ (exec (Stmt.While _ _ _ _) _) _ _ _)); (fail_if_success (with_reducible show wpAny _ _ (exec (Stmt.For _ _ _ _ _) _) _ _ _)); (fail_if_success (with_reducible show wpAny _ _ (call (Value.ref _) _ _) _ _ _)); (fail_if_success (with_reducible show KswEnd _ _ _ _ _ _ _ _ _ _ _ _)); (fail_if_success (with_reducible show wpAny _ _ (eval (Expr.ListComp _ _ _ _) _) _ _ _)); (fail_if_success (with_reducible show wpAny _ _ (exec (Stmt.Assign _ (Expr.ListComp _ _ _ _) _) _) _ _ _)); (fail_if_success (with_reducible show Out _ _ _ _ _)); (fail_if_success (with_reducible show LCg.CompEnd _ _ _ _ _ _ _ _ _ _ _ _ _ _)); (fail_if_success (with_reducible show LCg.CompSrc _ _ _ _ _ _ _ _ _ _ _ _ _ _)); (fail_if_success (with_reducible show LCt.CompSrcT _ _ _ _ _ _ _ _ _ _ _ _ _ _ _)); (fail_if_success (with_reducible show Meet _ _ _)); (fail_if_success (with_reducible show wpAny _ _ (pyIter _) _ _ _)); (fail_if_success (with_reducible show LEnd _ _ _ _ _ _ _ _ _ _ _)); (fail_if_success (with_reducible show LPost _ _ _ _ _ _ _ _ _ _ _ _ _)); first | walk1 | (dsimp only; walk1)) | (k_end; dsimp only; k_unfold; (try dsimp only)) | fail "no step"))
  rename_i Dt _ hDt _ F1 N1
  have hrg : g.IsList r vs.toArray := hr.at fun o e => hg _ _ e (fun q => nomatch q)
  have hvl : vs.length = rs.length := hi.length
  have R1 := R.lo
  have R2 := R.hi
  refine LCt.ListComp_T (cl := []) F1 (closureFor_none (by decide)) (by decide) rfl (by decide) rfl ?_
  (repeat' (first | (k_unfold; (try dsimp only)) | ((with_reducible show wpAny _ _ (call (Value.ref _) _ _) _ _ _); (first | (refine useI (add_does ⟨by assumption, by assumption, by assumption, by assumption, rfl, rfl, rfl, rfl⟩ (Nat.le_of_ble_eq_true rfl) (Nat.le_of_ble_eq_true rfl) ) (by assumption) (by assumption) ?_; intro _ _ _ _ _; (try k_sweep)) | (refine useI (sub_does ⟨by assumption, by assumption, by assumption, by assumption, rfl, rfl, rfl, rfl⟩ (Nat.le_of_ble_eq_true rfl) (Nat.le_of_ble_eq_true rfl) ) (by assumption) (by assumption) ?_; intro _ _ _ _ _; (try k_sweep)) | (refine useI (and_does ⟨by assumption, by assumption, by assumption, by assumption, rfl, rfl, rfl, rfl⟩ (Nat.le_of_ble_eq_true rfl) (Nat.le_of_ble_eq_true rfl) ) (by assumption) (by assumption) ?_; intro _ _ _ _ _; (try k_sweep)) | (refine useI (or_does ⟨by assumption, by assumption, by assumption, by assumption, rfl, rfl, rfl, rfl⟩ (Nat.le_of_ble_eq_true rfl) (Nat.le_of_ble_eq_true rfl) ) (by assumption) (by assumption) ?_; intro _ _ _ _ _; (try k_sweep)) | (refine useI (xor_does ⟨by assumption, by assumption, by assumption, by assumption, rfl, rfl, rfl, rfl⟩ (Nat.le_of_ble_eq_true rfl) (Nat.le_of_ble_eq_true rfl) ) (by assumption) (by assumption) ?_; intro _ _ _ _ _; (try k_sweep)) | (refine useI (inv_does ⟨by assumption, by assumption, by assumption, by assumption, rfl, rfl, rfl, rfl⟩ (Nat.le_of_ble_eq_true rfl) (Nat.le_of_ble_eq_true rfl) ) (by assumption) (by assumption) ?_; intro _ _ _ _ _; (try k_sweep)) | (refine useI (neg_does ⟨by assumption, by assumption, by assumption, by assumption, rfl, rfl, rfl, rfl⟩ (Nat.le_of_ble_eq_true rfl) (Nat.le_of_ble_eq_true rfl) ) (by assumption) (by assumption) ?_; intro _ _ _ _ _; (try k_sweep)) | (refine useI (rsh_does ⟨by assumption, by assumption, by assumption, by assumption, rfl, rfl, rfl, rfl⟩ (Nat.le_of_ble_eq_true rfl) (Nat.le_of_ble_eq_true rfl) (by decide)) (by assumption) (by assumption) ?_; intro _ _ _ _ _; (try k_sweep)) | (refine useI (lsh_does ⟨by assumption, by assumption, by assumption, by assumption, rfl, rfl, rfl, rfl⟩ (Nat.le_of_ble_eq_true rfl) (Nat.le_of_ble_eq_true rfl) (by decide) (by decide) (by omega)) (by assumption) (by assumption) ?_; intro _ _ _ _ _; (try k_sweep)))) | ((fail_if_success (with_reducible show wpAny _ _ (exec (Stmt.While _ _ _ _) _) _ _ _)); (fail_if_success (with_reducible show wpAny _ _ (exec (Stmt.For _ _ _ _ _) _) _ _ _)); (fail_if_success (with_reducible show wpAny _ _ (call (Value.ref _) _ _) _ _ _)); (fail_if_success (with_reducible show KswEnd _ _ _ _ _ _ _ _ _ _ _ _)); (fail_if_success (with_reducible show wpAny _ _ (eval (Expr.ListComp _ _ _ _) _) _ _ _)); (fail_if_success (with_reducible show wpAny _ _ (exec (Stmt.Assign _ (Expr.ListComp _ _ _ _) _) _) _ _ _)); (fail_if_success (with_reducible show Out _ _ _ _ _)); (fail_if_success (with_reducible show LCg.CompEnd _ _ _ _ _ _ _ _ _ _ _ _ _ _)); (fail_if_success (with_reducible show LCg.CompSrc _ _ _ _ _ _ _ _ _ _ _ _ _ _)); (fail_if_success (with_reducible show LCt.CompSrcT _ _ _ _ _ _ _ _ _ _ _ _ _ _ _)); (fail_if_success (with_reducible show Meet _ _ _)); (fail_if_success (with_reducible show wpAny _ _ (pyIter _) _ _ _)); (fail_if_success (with_reducible show LEnd _ _ _ _ _ _ _ _ _ _ _)); (fail_if_success (with_reducible show LPost _ _ _ _ _ _ _ _ _ _ _ _ _)); first | walk1 | (dsimp only; walk1)) | (k_end; dsimp only; k_unfold; (try dsimp only)) | fail "no step"))
  refine LCt.CompSrcT.base rfl F1 N1 hrg (by rw [List.size_toArray, sizeLine_eq]; omega) fun gg => comp_invT (fun _ ys nw => ys = [] ∧ nw = _) ?_ ?_ _ 0 [] _ (Nat.zero_add _) ⟨rfl, rfl⟩
  · rintro i ys nw v I oI C oC D m₂ h9 tk9 E' hin ⟨rfl, rfl⟩ hv hoC hx F9 N9 o9 ne9
    obtain ⟨tv, rfl, _⟩ := ints_at hi hv
    clear hv F1 N1
    (repeat' (first | (k_unfold; (try dsimp only)) | ((with_reducible show wpAny _ _ (call (Value.ref _) _ _) _ _ _); (first | (refine useI (add_does ⟨by assumption, by assumption, by assumption, by assumption, rfl, rfl, rfl, rfl⟩ (Nat.le_of_ble_eq_true rfl) (Nat.le_of_ble_eq_true rfl) ) (by assumption) (by assumption) ?_; intro _ _ _ _ _; (try k_sweep)) | (refine useI (sub_does ⟨by assumption, by assumption, by assumption, by assumption, rfl, rfl, rfl, rfl⟩ (Nat.le_of_ble_eq_true rfl) (Nat.le_of_ble_eq_true rfl) ) (by assumption) (by assumption) ?_; intro _ _ _ _ _; (try k_sweep)) | (refine useI (and_does ⟨by assumption, by assumption, by assumption, by assumption, rfl, rfl, rfl, rfl⟩ (Nat.le_of_ble_eq_true rfl) (Nat.le_of_ble_eq_true rfl) ) (by assumption) (by assumption) ?_; intro _ _ _ _ _; (try k_sweep)) | (refine useI (or_does ⟨by assumption, by assumption, by assumption, by assumption, rfl, rfl, rfl, rfl⟩ (Nat.le_of_ble_eq_true rfl) (Nat.le_of_ble_eq_true rfl) ) (by assumption) (by assumption) ?_; intro _ _ _ _ _; (try k_sweep)) | (refine useI (xor_does ⟨by assumption, by assumption, by assumption, by assumption, rfl, rfl, rfl, rfl⟩ (Nat.le_of_ble_eq_true rfl) (Nat.le_of_ble_eq_true rfl) ) (by assumption) (by assumption) ?_; intro _ _ _ _ _; (try k_sweep)) | (refine useI (inv_does ⟨by assumption, by assumption, by assumption, by assumption, rfl, rfl, rfl, rfl⟩ (Nat.le_of_ble_eq_true rfl) (Nat.le_of_ble_eq_true rfl) ) (by assumption) (by assumption) ?_; intro _ _ _ _ _; (try k_sweep)) | (refine useI (neg_does ⟨by assumption, by assumption, by assumption, by assumption, rfl, rfl, rfl, rfl⟩ (Nat.le_of_ble_eq_true rfl) (Nat.le_of_ble_eq_true rfl) ) (by assumption) (by assumption) ?_; intro _ _ _ _ _; (try k_sweep)) | (refine useI (rsh_does ⟨by assumption, by assumption, by assumption, by assumption, rfl, rfl, rfl, rfl⟩ (Nat.le_of_ble_eq_true rfl) (Nat.le_of_ble_eq_true rfl) (by decide)) (by assumption) (by assumption) ?_; intro _ _ _ _ _; (try k_sweep)) | (refine useI (lsh_does ⟨by assumption, by assumption, by assumption, by assumption, rfl, rfl, rfl, rfl⟩ (Nat.le_of_ble_eq_true rfl) (Nat.le_of_ble_eq_true rfl) (by decide) (by decide) (by omega)) (by assumption) (by assumption) ?_; intro _ _ _ _ _; (try k_sweep)))) | ((fail_if_success (with_reducible show wpAny _ _ (exec (Stmt.While _ _ _ _) _) _ _ _)); (fail_if_success (with_reducible show wpAny _ _ (exec (Stmt.For _ _ _ _ _) _) _ _ _)); (fail_if_success (with_reducible show wpAny _ _ (call (Value.ref _) _ _) _ _ _)); (fail_if_success (with_reducible show KswEnd _ _ _ _ _ _ _ _ _ _ _ _)); (fail_if_success (with_reducible show wpAny _ _ (eval (Expr.ListComp _ _ _ _) _) _ _ _)); (fail_if_success (with_reducible show wpAny _ _ (exec (Stmt.Assign _ (Expr.ListComp _ _ _ _) _) _) _ _ _)); (fail_if_success (with_reducible show Out _ _ _ _ _)); (fail_if_success (with_reducible show LCg.CompEnd _ _ _ _ _ _ _ _ _ _ _ _ _ _)); (fail_if_success (with_reducible show LCg.CompSrc _ _ _ _ _ _ _ _ _ _ _ _ _ _)); (fail_if_success (with_reducible show LCt.CompSrcT _ _ _ _ _ _ _ _ _ _ _ _ _ _ _)); (fail_if_success (with_reducible show Meet _ _ _)); (fail_if_success (with_reducible show wpAny _ _ (pyIter _) _ _ _)); (fail_if_success (with_reducible show LEnd _ _ _ _ _ _ _ _ _ _ _)); (fail_if_success (with_reducible show LPost _ _ _ _ _ _ _ _ _ _ _ _ _)); first | walk1 | (dsimp only; walk1)) | (k_end; dsimp only; k_unfold; (try dsimp only)) | fail "no step"))
    · rename _ ≠ (-1 : Int) => hq
      exact absurd (by omega) hq
    · rename Fr _ _ _ _ => F8
      rename News _ _ _ _ => N8
      exact LCg.CompEnd.intro F8 N8 _ (fun p hp => hp) o9 (.inl hrg) ⟨rfl, rfl⟩
  rintro ys nw ⟨rfl, rfl⟩ D h9 tk9 F9 N9 o9
  clear F1 N1
  (repeat' (first | (k_unfold; (try dsimp only)) | ((with_reducible show wpAny _ _ (call (Value.ref _) _ _) _ _ _); (first | (refine useI (add_does ⟨by assumption, by assumption, by assumption, by assumption, rfl, rfl, rfl, rfl⟩ (Nat.le_of_ble_eq_true rfl) (Nat.le_of_ble_eq_true rfl) ) (by assumption) (by assumption) ?_; intro _ _ _ _ _; (try k_sweep)) | (refine useI (sub_does ⟨by assumption, by assumption, by assumption, by assumption, rfl, rfl, rfl, rfl⟩ (Nat.le_of_ble_eq_true rfl) (Nat.le_of_ble_eq_true rfl) ) (by assumption) (by assumption) ?_; intro _ _ _ _ _; (try k_sweep)) | (refine useI (and_does ⟨by assumption, by assumption, by assumption, by assumption, rfl, rfl, rfl, rfl⟩ (Nat.le_of_ble_eq_true rfl) (Nat.le_of_ble_eq_true rfl) ) (by assumption) (by assumption) ?_; intro _ _ _ _ _; (try k_sweep)) | (refine useI (or_does ⟨by assumption, by assumption, by assumption, by assumption, rfl, rfl, rfl, rfl⟩ (Nat.le_of_ble_eq_true rfl) (Nat.le_of_ble_eq_true rfl) ) (by assumption) (by assumption) ?_; intro _ _ _ _ _; (try k_sweep)) | (refine useI (xor_does ⟨by assumption, by assumption, by assumption, by assumption, rfl, rfl, rfl, rfl⟩ (Nat.le_of_ble_eq_true rfl) (Nat.le_of_ble_eq_true rfl) ) (by assumption) (by assumption) ?_; intro _ _ _ _ _; (try k_sweep)) | (refine useI (inv_does ⟨by assumption, by assumption, by assumption, by assumption, rfl, rfl, rfl, rfl⟩ (Nat.le_of_ble_eq_true rfl) (Nat.le_of_ble_eq_true rfl) ) (by assumption) (by assumption) ?_; intro _ _ _ _ _; (try k_sweep)) | (refine useI (neg_does ⟨by assumption, by assumption, by assumption, by assumption, rfl, rfl, rfl, rfl⟩ (Nat.le_of_ble_eq_true rfl) (Nat.le_of_ble_eq_true rfl) ) (by assumption) (by assumption) ?_; intro _ _ _ _ _; (try k_sweep)) | (refine useI (rsh_does ⟨by assumption, by assumption, by assumption, by assumption, rfl, rfl, rfl, rfl⟩ (Nat.le_of_ble_eq_true rfl) (Nat.le_of_ble_eq_true rfl) (by decide)) (by assumption) (by assumption) ?_; intro _ _ _ _ _; (try k_sweep)) | (refine useI (lsh_does ⟨by assumption, by assumption, by assumption, by assumption, rfl, rfl, rfl, rfl⟩ (Nat.le_of_ble_eq_true rfl) (Nat.le_of_ble_eq_true rfl) (by decide) (by decide) (by omega)) (by assumption) (by assumption) ?_; intro _ _ _ _ _; (try k_sweep)))) | ((fail_if_success (with_reducible show wpAny _ _ (exec (Stmt.While _ _ _ _) _) _ _ _)); (fail_if_success (with_reducible show wpAny _ _ (exec (Stmt.For _ _ _ _ _) _) _ _ _)); (fail_if_success (with_reducible show wpAny _ _ (call (Value.ref _) _ _) _ _ _)); (fail_if_success (with_reducible show KswEnd _ _ _ _ _ _ _ _ _ _ _ _)); (fail_if_success (with_reducible show wpAny _ _ (eval (Expr.ListComp _ _ _ _) _) _ _ _)); (fail_if_success (with_reducible show wpAny _ _ (exec (Stmt.Assign _ (Expr.ListComp _ _ _ _) _) _) _ _ _)); (fail_if_success (with_reducible show Out _ _ _ _ _)); (fail_if_success (with_reducible show LCg.CompEnd _ _ _ _ _ _ _ _ _ _ _ _ _ _)); (fail_if_success (with_reducible show LCg.CompSrc _ _ _ _ _ _ _ _ _ _ _ _ _ _)); (fail_if_success (with_reducible show LCt.CompSrcT _ _ _ _ _ _ _ _ _ _ _ _ _ _ _)); (fail_if_success (with_reducible show Meet _ _ _)); (fail_if_success (with_reducible show wpAny _ _ (pyIter _) _ _ _)); (fail_if_success (with_reducible show LEnd _ _ _ _ _ _ _ _ _ _ _)); (fail_if_success (with_reducible show LPost _ _ _ _ _ _ _ _ _ _ _ _ _)); first | walk1 | (dsimp only; walk1)) | (k_end; dsimp only; k_unfold; (try dsimp only)) | fail "no step"))
  rename_i Do ov cO _ _ hi2 hDo _ F2 N2
  have hR := R.all
  have hol : (outs rs).length = rs.length - 1 := outs_length rs
  have hil := hi2.length
  refine LCg.Assign_ListComp_U (cl := [(Str.ofString "rows", L' + 1)]) F2 rfl (by with_unfolding_all rfl) (by with_unfolding_all rfl) (by decide) rfl (by decide) rfl rfl rfl ?_
  (repeat' (first | (k_unfold; (try dsimp only)) | ((with_reducible show wpAny _ _ (call (Value.ref _) _ _) _ _ _); (first | (refine useI (add_does ⟨by assumption, by assumption, by assumption, by assumption, rfl, rfl, rfl, rfl⟩ (Nat.le_of_ble_eq_true rfl) (Nat.le_of_ble_eq_true rfl) ) (by assumption) (by assumption) ?_; intro _ _ _ _ _; (try k_sweep)) | (refine useI (sub_does ⟨by assumption, by assumption, by assumption, by assumption, rfl, rfl, rfl, rfl⟩ (Nat.le_of_ble_eq_true rfl) (Nat.le_of_ble_eq_true rfl) ) (by assumption) (by assumption) ?_; intro _ _ _ _ _; (try k_sweep)) | (refine useI (and_does ⟨by assumption, by assumption, by assumption, by assumption, rfl, rfl, rfl, rfl⟩ (Nat.le_of_ble_eq_true rfl) (Nat.le_of_ble_eq_true rfl) ) (by assumption) (by assumption) ?_; intro _ _ _ _ _; (try k_sweep)) | (refine useI (or_does ⟨by assumption, by assumption, by assumption, by assumption, rfl, rfl, rfl, rfl⟩ (Nat.le_of_ble_eq_true rfl) (Nat.le_of_ble_eq_true rfl) ) (by assumption) (by assumption) ?_; intro _ _ _ _ _; (try k_sweep)) | (refine useI (xor_does ⟨by assumption, by assumption, by assumption, by assumption, rfl, rfl, rfl, rfl⟩ (Nat.le_of_ble_eq_true rfl) (Nat.le_of_ble_eq_true rfl) ) (by assumption) (by assumption) ?_; intro _ _ _ _ _; (try k_sweep)) | (refine useI (inv_does ⟨by assumption, by assumption, by assumption, by assumption, rfl, rfl, rfl, rfl⟩ (Nat.le_of_ble_eq_true rfl) (Nat.le_of_ble_eq_true rfl) ) (by assumption) (by assumption) ?_; intro _ _ _ _ _; (try k_sweep)) | (refine useI (neg_does ⟨by assumption, by assumption, by assumption, by assumption, rfl, rfl, rfl, rfl⟩ (Nat.le_of_ble_eq_true rfl) (Nat.le_of_ble_eq_true rfl) ) (by assumption) (by assumption) ?_; intro _ _ _ _ _; (try k_sweep)) | (refine useI (rsh_does ⟨by assumption, by assumption, by assumption, by assumption, rfl, rfl, rfl, rfl⟩ (Nat.le_of_ble_eq_true rfl) (Nat.le_of_ble_eq_true rfl) (by decide)) (by assumption) (by assumption) ?_; intro _ _ _ _ _; (try k_sweep)) | (refine useI (lsh_does ⟨by assumption, by assumption, by assumption, by assumption, rfl, rfl, rfl, rfl⟩ (Nat.le_of_ble_eq_true rfl) (Nat.le_of_ble_eq_true rfl) (by decide) (by decide) (by omega)) (by assumption) (by assumption) ?_; intro _ _ _ _ _; (try k_sweep)))) | ((fail_if_success (with_reducible show wpAny _ _ (exec (Stmt.While _ _ _ _) _) _ _ _)); (fail_if_success (with_reducible show wpAny _ _ (exec (Stmt.For _ _ _ _ _) _) _ _ _)); (fail_if_success (with_reducible show wpAny _ _ (call (Value.ref _) _ _) _ _ _)); (fail_if_success (with_reducible show KswEnd _ _ _ _ _ _ _ _ _ _ _ _)); (fail_if_success (with_reducible show wpAny _ _ (eval (Expr.ListComp _ _ _ _) _) _ _ _)); (fail_if_success (with_reducible show wpAny _ _ (exec (Stmt.Assign _ (Expr.ListComp _ _ _ _) _) _) _ _ _)); (fail_if_success (with_reducible show Out _ _ _ _ _)); (fail_if_success (with_reducible show LCg.CompEnd _ _ _ _ _ _ _ _ _ _ _ _ _ _)); (fail_if_success (with_reducible show LCg.CompSrc _ _ _ _ _ _ _ _ _ _ _ _ _ _)); (fail_if_success (with_reducible show LCt.CompSrcT _ _ _ _ _ _ _ _ _ _ _ _ _ _ _)); (fail_if_success (with_reducible show Meet _ _ _)); (fail_if_success (with_reducible show wpAny _ _ (pyIter _) _ _ _)); (fail_if_success (with_reducible show LEnd _ _ _ _ _ _ _ _ _ _ _)); (fail_if_success (with_reducible show LPost _ _ _ _ _ _ _ _ _ _ _ _ _)); first | walk1 | (dsimp only; walk1)) | (k_end; dsimp only; k_unfold; (try dsimp only)) | fail "no step"))
  refine LCg.CompSrc.ledger rfl F2 N2 (.head _) (by rw [List.size_toArray, sizeLine_eq, hil]; show (outs rs).length ≤ _; omega) fun gg => comp_inv (fun i ys nw => IntsAre ys (((outs rs).take i).map (tieV rs 0)) ∧ nw = _) ?_ ?_ _ 0 [] _ (Nat.zero_add _) ⟨.nil, rfl⟩
  · rintro i ys nw v I oI C oC D2 m₂ h9 tk9 E' hin ⟨hys, rfl⟩ hv hoC hx F8 N8 o8 ne8
    obtain ⟨tv, rfl, hmem⟩ := ints_at hi2 hv
    clear hv F2 N2
    have hkb := mem_rangeKs hmem
    have hix : (outs rs).take (i + 1) = (outs rs).take i ++ [(rangeKs 1 (Int.toNat ((rs.length : Int) - 1))).getD i 0] := take_getD (by rw [List.size_toArray, hil] at hin; exact hin)
    generalize hke : (rangeKs 1 (Int.toNat ((rs.length : Int) - 1))).getD i 0 = k at hkb hmem hix hx ⊢
    have hk1 : k < (rs.length : Int) := by omega
    have hk0 : 0 ≤ k := by omega
    (repeat' (first | (k_unfold; (try dsimp only)) | ((with_reducible show wpAny _ _ (call (Value.ref _) _ _) _ _ _); (first | (refine useI (add_does ⟨by assumption, by assumption, by assumption, by assumption, rfl, rfl, rfl, rfl⟩ (Nat.le_of_ble_eq_true rfl) (Nat.le_of_ble_eq_true rfl) ) (by assumption) (by assumption) ?_; intro _ _ _ _ _; (try k_sweep)) | (refine useI (sub_does ⟨by assumption, by assumption, by assumption, by assumption, rfl, rfl, rfl, rfl⟩ (Nat.le_of_ble_eq_true rfl) (Nat.le_of_ble_eq_true rfl) ) (by assumption) (by assumption) ?_; intro _ _ _ _ _; (try k_sweep)) | (refine useI (and_does ⟨by assumption, by assumption, by assumption, by assumption, rfl, rfl, rfl, rfl⟩ (Nat.le_of_ble_eq_true rfl) (Nat.le_of_ble_eq_true rfl) ) (by assumption) (by assumption) ?_; intro _ _ _ _ _; (try k_sweep)) | (refine useI (or_does ⟨by assumption, by assumption, by assumption, by assumption, rfl, rfl, rfl, rfl⟩ (Nat.le_of_ble_eq_true rfl) (Nat.le_of_ble_eq_true rfl) ) (by assumption) (by assumption) ?_; intro _ _ _ _ _; (try k_sweep)) | (refine useI (xor_does ⟨by assumption, by assumption, by assumption, by assumption, rfl, rfl, rfl, rfl⟩ (Nat.le_of_ble_eq_true rfl) (Nat.le_of_ble_eq_true rfl) ) (by assumption) (by assumption) ?_; intro _ _ _ _ _; (try k_sweep)) | (refine useI (inv_does ⟨by assumption, by assumption, by assumption, by assumption, rfl, rfl, rfl, rfl⟩ (Nat.le_of_ble_eq_true rfl) (Nat.le_of_ble_eq_true rfl) ) (by assumption) (by assumption) ?_; intro _ _ _ _ _; (try k_sweep)) | (refine useI (neg_does ⟨by assumption, by assumption, by assumption, by assumption, rfl, rfl, rfl, rfl⟩ (Nat.le_of_ble_eq_true rfl) (Nat.le_of_ble_eq_true rfl) ) (by assumption) (by assumption) ?_; intro _ _ _ _ _; (try k_sweep)) | (refine useI (rsh_does ⟨by assumption, by assumption, by assumption, by assumption, rfl, rfl, rfl, rfl⟩ (Nat.le_of_ble_eq_true rfl) (Nat.le_of_ble_eq_true rfl) (by decide)) (by assumption) (by assumption) ?_; intro _ _ _ _ _; (try k_sweep)) | (refine useI (lsh_does ⟨by assumption, by assumption, by assumption, by assumption, rfl, rfl, rfl, rfl⟩ (Nat.le_of_ble_eq_true rfl) (Nat.le_of_ble_eq_true rfl) (by decide) (by decide) (by omega)) (by assumption) (by assumption) ?_; intro _ _ _ _ _; (try k_sweep)))) | ((fail_if_success (with_reducible show wpAny _ _ (exec (Stmt.While _ _ _ _) _) _ _ _)); (fail_if_success (with_reducible show wpAny _ _ (exec (Stmt.For _ _ _ _ _) _) _ _ _)); (fail_if_success (with_reducible show wpAny _ _ (call (Value.ref _) _ _) _ _ _)); (fail_if_success (with_reducible show KswEnd _ _ _ _ _ _ _ _ _ _ _ _)); (fail_if_success (with_reducible show wpAny _ _ (eval (Expr.ListComp _ _ _ _) _) _ _ _)); (fail_if_success (with_reducible show wpAny _ _ (exec (Stmt.Assign _ (Expr.ListComp _ _ _ _) _) _) _ _ _)); (fail_if_success (with_reducible show Out _ _ _ _ _)); (fail_if_success (with_reducible show LCg.CompEnd _ _ _ _ _ _ _ _ _ _ _ _ _ _)); (fail_if_success (with_reducible show LCg.CompSrc _ _ _ _ _ _ _ _ _ _ _ _ _ _)); (fail_if_success (with_reducible show LCt.CompSrcT _ _ _ _ _ _ _ _ _ _ _ _ _ _ _)); (fail_if_success (with_reducible show Meet _ _ _)); (fail_if_success (with_reducible show wpAny _ _ (pyIter _) _ _ _)); (fail_if_success (with_reducible show LEnd _ _ _ _ _ _ _ _ _ _ _)); (fail_if_success (with_reducible show LPost _ _ _ _ _ _ _ _ _ _ _ _ _)); first | walk1 | (dsimp only; walk1)) | (k_end; dsimp only; k_unfold; (try dsimp only)) | fail "no step"))
    rename Fr _ _ _ _ => F7
    rename News _ _ _ _ => N7
    have q0 := hR _ (getD_mem (i := 0) (by omega : 0 < rs.length))
    have qk := hR _ (getD_mem (i := k.toNat) (by omega : k.toNat < rs.length))
    refine useI (tie_does ⟨B, F7, X, T, rfl, rfl, rfl, rfl⟩ (Nat.le_of_ble_eq_true rfl) (Nat.le_of_ble_eq_true rfl) q0.1 q0.2 qk.1 qk.2 hk0 (by omega)) F7 N7 ?_
    intro t7 h7 tk7 F6 N6
    clear F7 N7
    (repeat' (first | (k_unfold; (try dsimp only)) | ((with_reducible show wpAny _ _ (call (Value.ref _) _ _) _ _ _); (first | (refine useI (add_does ⟨by assumption, by assumption, by assumption, by assumption, rfl, rfl, rfl, rfl⟩ (Nat.le_of_ble_eq_true rfl) (Nat.le_of_ble_eq_true rfl) ) (by assumption) (by assumption) ?_; intro _ _ _ _ _; (try k_sweep)) | (refine useI (sub_does ⟨by assumption, by assumption, by assumption, by assumption, rfl, rfl, rfl, rfl⟩ (Nat.le_of_ble_eq_true rfl) (Nat.le_of_ble_eq_true rfl) ) (by assumption) (by assumption) ?_; intro _ _ _ _ _; (try k_sweep)) | (refine useI (and_does ⟨by assumption, by assumption, by assumption, by assumption, rfl, rfl, rfl, rfl⟩ (Nat.le_of_ble_eq_true rfl) (Nat.le_of_ble_eq_true rfl) ) (by assumption) (by assumption) ?_; intro _ _ _ _ _; (try k_sweep)) | (refine useI (or_does ⟨by assumption, by assumption, by assumption, by assumption, rfl, rfl, rfl, rfl⟩ (Nat.le_of_ble_eq_true rfl) (Nat.le_of_ble_eq_true rfl) ) (by assumption) (by assumption) ?_; intro _ _ _ _ _; (try k_sweep)) | (refine useI (xor_does ⟨by assumption, by assumption, by assumption, by assumption, rfl, rfl, rfl, rfl⟩ (Nat.le_of_ble_eq_true rfl) (Nat.le_of_ble_eq_true rfl) ) (by assumption) (by assumption) ?_; intro _ _ _ _ _; (try k_sweep)) | (refine useI (inv_does ⟨by assumption, by assumption, by assumption, by assumption, rfl, rfl, rfl, rfl⟩ (Nat.le_of_ble_eq_true rfl) (Nat.le_of_ble_eq_true rfl) ) (by assumption) (by assumption) ?_; intro _ _ _ _ _; (try k_sweep)) | (refine useI (neg_does ⟨by assumption, by assumption, by assumption, by assumption, rfl, rfl, rfl, rfl⟩ (Nat.le_of_ble_eq_true rfl) (Nat.le_of_ble_eq_true rfl) ) (by assumption) (by assumption) ?_; intro _ _ _ _ _; (try k_sweep)) | (refine useI (rsh_does ⟨by assumption, by assumption, by assumption, by assumption, rfl, rfl, rfl, rfl⟩ (Nat.le_of_ble_eq_true rfl) (Nat.le_of_ble_eq_true rfl) (by decide)) (by assumption) (by assumption) ?_; intro _ _ _ _ _; (try k_sweep)) | (refine useI (lsh_does ⟨by assumption, by assumption, by assumption, by assumption, rfl, rfl, rfl, rfl⟩ (Nat.le_of_ble_eq_true rfl) (Nat.le_of_ble_eq_true rfl) (by decide) (by decide) (by omega)) (by assumption) (by assumption) ?_; intro _ _ _ _ _; (try k_sweep)))) | ((fail_if_success (with_reducible show wpAny _ _ (exec (Stmt.While _ _ _ _) _) _ _ _)); (fail_if_success (with_reducible show wpAny _ _ (exec (Stmt.For _ _ _ _ _) _) _ _ _)); (fail_if_success (with_reducible show wpAny _ _ (call (Value.ref _) _ _) _ _ _)); (fail_if_success (with_reducible show KswEnd _ _ _ _ _ _ _ _ _ _ _ _)); (fail_if_success (with_reducible show wpAny _ _ (eval (Expr.ListComp _ _ _ _) _) _ _ _)); (fail_if_success (with_reducible show wpAny _ _ (exec (Stmt.Assign _ (Expr.ListComp _ _ _ _) _) _) _ _ _)); (fail_if_success (with_reducible show Out _ _ _ _ _)); (fail_if_success (with_reducible show LCg.CompEnd _ _ _ _ _ _ _ _ _ _ _ _ _ _)); (fail_if_success (with_reducible show LCg.CompSrc _ _ _ _ _ _ _ _ _ _ _ _ _ _)); (fail_if_success (with_reducible show LCt.CompSrcT _ _ _ _ _ _ _ _ _ _ _ _ _ _ _)); (fail_if_success (with_reducible show Meet _ _ _)); (fail_if_success (with_reducible show wpAny _ _ (pyIter _) _ _ _)); (fail_if_success (with_reducible show LEnd _ _ _ _ _ _ _ _ _ _ _)); (fail_if_success (with_reducible show LPost _ _ _ _ _ _ _ _ _ _ _ _ _)); first | walk1 | (dsimp only; walk1)) | (k_end; dsimp only; k_unfold; (try dsimp only)) | fail "no step"))
    refine LCg.CompEnd.intro F6 N6 _ (fun p hp => hp) o8 (.inr ⟨_, .head _, rfl, _, rfl⟩) ⟨?_, rfl⟩
    rw [hix, List.map_append]
    exact ints_snoc hys _ _
  rintro ys nw ⟨hys, rfl⟩ D2 h8 tk8 F8 N8 o8
  clear F2 N2
  (repeat' (first | (k_unfold; (try dsimp only)) | ((with_reducible show wpAny _ _ (call (Value.ref _) _ _) _ _ _); (first | (refine useI (add_does ⟨by assumption, by assumption, by assumption, by assumption, rfl, rfl, rfl, rfl⟩ (Nat.le_of_ble_eq_true rfl) (Nat.le_of_ble_eq_true rfl) ) (by assumption) (by assumption) ?_; intro _ _ _ _ _; (try k_sweep)) | (refine useI (sub_does ⟨by assumption, by assumption, by assumption, by assumption, rfl, rfl, rfl, rfl⟩ (Nat.le_of_ble_eq_true rfl) (Nat.le_of_ble_eq_true rfl) ) (by assumption) (by assumption) ?_; intro _ _ _ _ _; (try k_sweep)) | (refine useI (and_does ⟨by assumption, by assumption, by assumption, by assumption, rfl, rfl, rfl, rfl⟩ (Nat.le_of_ble_eq_true rfl) (Nat.le_of_ble_eq_true rfl) ) (by assumption) (by assumption) ?_; intro _ _ _ _ _; (try k_sweep)) | (refine useI (or_does ⟨by assumption, by assumption, by assumption, by assumption, rfl, rfl, rfl, rfl⟩ (Nat.le_of_ble_eq_true rfl) (Nat.le_of_ble_eq_true rfl) ) (by assumption) (by assumption) ?_; intro _ _ _ _ _; (try k_sweep)) | (refine useI (xor_does ⟨by assumption, by assumption, by assumption, by assumption, rfl, rfl, rfl, rfl⟩ (Nat.le_of_ble_eq_true rfl) (Nat.le_of_ble_eq_true rfl) ) (by assumption) (by assumption) ?_; intro _ _ _ _ _; (try k_sweep)) | (refine useI (inv_does ⟨by assumption, by assumption, by assumption, by assumption, rfl, rfl, rfl, rfl⟩ (Nat.le_of_ble_eq_true rfl) (Nat.le_of_ble_eq_true rfl) ) (by assumption) (by assumption) ?_; intro _ _ _ _ _; (try k_sweep)) | (refine useI (neg_does ⟨by assumption, by assumption, by assumption, by assumption, rfl, rfl, rfl, rfl⟩ (Nat.le_of_ble_eq_true rfl) (Nat.le_of_ble_eq_true rfl) ) (by assumption) (by assumption) ?_; intro _ _ _ _ _; (try k_sweep)) | (refine useI (rsh_does ⟨by assumption, by assumption, by assumption, by assumption, rfl, rfl, rfl, rfl⟩ (Nat.le_of_ble_eq_true rfl) (Nat.le_of_ble_eq_true rfl) (by decide)) (by assumption) (by assumption) ?_; intro _ _ _ _ _; (try k_sweep)) | (refine useI (lsh_does ⟨by assumption, by assumption, by assumption, by assumption, rfl, rfl, rfl, rfl⟩ (Nat.le_of_ble_eq_true rfl) (Nat.le_of_ble_eq_true rfl) (by decide) (by decide) (by omega)) (by assumption) (by assumption) ?_; intro _ _ _ _ _; (try k_sweep)))) | ((fail_if_success (with_reducible show wpAny _ _ (exec (Stmt.While _ _ _ _) _) _ _ _)); (fail_if_success (with_reducible show wpAny _ _ (exec (Stmt.For _ _ _ _ _) _) _ _ _)); (fail_if_success (with_reducible show wpAny _ _ (call (Value.ref _) _ _) _ _ _)); (fail_if_success (with_reducible show KswEnd _ _ _ _ _ _ _ _ _ _ _ _)); (fail_if_success (with_reducible show wpAny _ _ (eval (Expr.ListComp _ _ _ _) _) _ _ _)); (fail_if_success (with_reducible show wpAny _ _ (exec (Stmt.Assign _ (Expr.ListComp _ _ _ _) _) _) _ _ _)); (fail_if_success (with_reducible show Out _ _ _ _ _)); (fail_if_success (with_reducible show LCg.CompEnd _ _ _ _ _ _ _ _ _ _ _ _ _ _)); (fail_if_success (with_reducible show LCg.CompSrc _ _ _ _ _ _ _ _ _ _ _ _ _ _)); (fail_if_success (with_reducible show LCt.CompSrcT _ _ _ _ _ _ _ _ _ _ _ _ _ _ _)); (fail_if_success (with_reducible show Meet _ _ _)); (fail_if_success (with_reducible show wpAny _ _ (pyIter _) _ _ _)); (fail_if_success (with_reducible show LEnd _ _ _ _ _ _ _ _ _ _ _)); (fail_if_success (with_reducible show LPost _ _ _ _ _ _ _ _ _ _ _ _ _)); first | walk1 | (dsimp only; walk1)) | (k_end; dsimp only; k_unfold; (try dsimp only)) | fail "no step"))
  simp only [LCg.Off1, and_true] at o8
  obtain ⟨o81, o82, o83, o84, o85⟩ := o8
  rw [List.size_toArray, hil] at hys
  have hys' : IntsAre ys ((outs rs).map (tieV rs 0)) := by
    have e : (outs rs).take (rangeKs 1 (Int.toNat ((rs.length : Int) - 1))).length = outs rs := List.take_length
    rw [e] at hys
    exact hys
  have hml : ((outs rs).map (tieV rs 0)).length = rs.length - 1 := by rw [List.length_map, hol]
  refine useU (heapify_does ⟨B, F8, X, T, rfl, rfl, rfl, rfl⟩ (Nat.le_of_ble_eq_true rfl) (Nat.le_of_ble_eq_true rfl) (N8 _ (.head _)).1 (N8 _ (.head _)).2.1 (N8 _ (.head _)).2.2 hys' (by omega)) F8 N8 (UpdF.head (by k_all)) ?_
  rintro v h7 tk7 F7 N7 ⟨rfl, hv, hn, g7, i7⟩
  replace N7 := N7 _ g7
  clear F8 N8 g7
  (repeat' (first | (k_unfold; (try dsimp only)) | ((with_reducible show wpAny _ _ (call (Value.ref _) _ _) _ _ _); (first | (refine useI (add_does ⟨by assumption, by assumption, by assumption, by assumption, rfl, rfl, rfl, rfl⟩ (Nat.le_of_ble_eq_true rfl) (Nat.le_of_ble_eq_true rfl) ) (by assumption) (by assumption) ?_; intro _ _ _ _ _; (try k_sweep)) | (refine useI (sub_does ⟨by assumption, by assumption, by assumption, by assumption, rfl, rfl, rfl, rfl⟩ (Nat.le_of_ble_eq_true rfl) (Nat.le_of_ble_eq_true rfl) ) (by assumption) (by assumption) ?_; intro _ _ _ _ _; (try k_sweep)) | (refine useI (and_does ⟨by assumption, by assumption, by assumption, by assumption, rfl, rfl, rfl, rfl⟩ (Nat.le_of_ble_eq_true rfl) (Nat.le_of_ble_eq_true rfl) ) (by assumption) (by assumption) ?_; intro _ _ _ _ _; (try k_sweep)) | (refine useI (or_does ⟨by assumption, by assumption, by assumption, by assumption, rfl, rfl, rfl, rfl⟩ (Nat.le_of_ble_eq_true rfl) (Nat.le_of_ble_eq_true rfl) ) (by assumption) (by assumption) ?_; intro _ _ _ _ _; (try k_sweep)) | (refine useI (xor_does ⟨by assumption, by assumption, by assumption, by assumption, rfl, rfl, rfl, rfl⟩ (Nat.le_of_ble_eq_true rfl) (Nat.le_of_ble_eq_true rfl) ) (by assumption) (by assumption) ?_; intro _ _ _ _ _; (try k_sweep)) | (refine useI (inv_does ⟨by assumption, by assumption, by assumption, by assumption, rfl, rfl, rfl, rfl⟩ (Nat.le_of_ble_eq_true rfl) (Nat.le_of_ble_eq_true rfl) ) (by assumption) (by assumption) ?_; intro _ _ _ _ _; (try k_sweep)) | (refine useI (neg_does ⟨by assumption, by assumption, by assumption, by assumption, rfl, rfl, rfl, rfl⟩ (Nat.le_of_ble_eq_true rfl) (Nat.le_of_ble_eq_true rfl) ) (by assumption) (by assumption) ?_; intro _ _ _ _ _; (try k_sweep)) | (refine useI (rsh_does ⟨by assumption, by assumption, by assumption, by assumption, rfl, rfl, rfl, rfl⟩ (Nat.le_of_ble_eq_true rfl) (Nat.le_of_ble_eq_true rfl) (by decide)) (by assumption) (by assumption) ?_; intro _ _ _ _ _; (try k_sweep)) | (refine useI (lsh_does ⟨by assumption, by assumption, by assumption, by assumption, rfl, rfl, rfl, rfl⟩ (Nat.le_of_ble_eq_true rfl) (Nat.le_of_ble_eq_true rfl) (by decide) (by decide) (by omega)) (by assumption) (by assumption) ?_; intro _ _ _ _ _; (try k_sweep)))) | ((fail_if_success (with_reducible show wpAny _ _ (exec (Stmt.While _ _ _ _) _) _ _ _)); (fail_if_success (with_reducible show wpAny _ _ (exec (Stmt.For _ _ _ _ _) _) _ _ _)); (fail_if_success (with_reducible show wpAny _ _ (call (Value.ref _) _ _) _ _ _)); (fail_if_success (with_reducible show KswEnd _ _ _ _ _ _ _ _ _ _ _ _)); (fail_if_success (with_reducible show wpAny _ _ (eval (Expr.ListComp _ _ _ _) _) _ _ _)); (fail_if_success (with_reducible show wpAny _ _ (exec (Stmt.Assign _ (Expr.ListComp _ _ _ _) _) _) _ _ _)); (fail_if_success (with_reducible show Out _ _ _ _ _)); (fail_if_success (with_reducible show LCg.CompEnd _ _ _ _ _ _ _ _ _ _ _ _ _ _)); (fail_if_success (with_reducible show LCg.CompSrc _ _ _ _ _ _ _ _ _ _ _ _ _ _)); (fail_if_success (with_reducible show LCt.CompSrcT _ _ _ _ _ _ _ _ _ _ _ _ _ _ _)); (fail_if_success (with_reducible show Meet _ _ _)); (fail_if_success (with_reducible show wpAny _ _ (pyIter _) _ _ _)); (fail_if_success (with_reducible show LEnd _ _ _ _ _ _ _ _ _ _ _)); (fail_if_success (with_reducible show LPost _ _ _ _ _ _ _ _ _ _ _ _ _)); first | walk1 | (dsimp only; walk1)) | (k_end; dsimp only; k_unfold; (try dsimp only)) | fail "no step"))
  replace N7 : News g L' h7 [(D2, listOf hv.toArray hn), (Do, listOf ov.toArray _), (Dt, listOf [].toArray 0), (L' + 1, o1)] := cb_drop N7 (by kcj_all)
  have e1 : @Ne Nat Do D2 := o81
  have e2 : @Ne Nat Dt D2 := o84
  have e3 : @Ne Nat (L' + 1) D2 := o85
  have e4 : @LT.lt Nat _ Dt Do := hDo.2.2.1
  have e5 : @LT.lt Nat _ (L' + 1) Do := hDo.2.2.2
  have e6 : @LT.lt Nat _ (L' + 1) Dt := hDt
  clear o81 o82 o83 o84 o85 hDo hDt
  rename IsRange _ _ _ _ _ _ _ _ => hRg
  clear hRg
  obtain ⟨m7, _, F7⟩ := Fr_clean F7 [(Str.ofString "heap", .ref D2), (Str.ofString "outside", .ref Do), (Str.ofString "ties", .ref Dt)] (List.forall_mem_cons.mpr ⟨rfl, List.forall_mem_cons.mpr ⟨rfl, List.forall_mem_cons.mpr ⟨rfl, List.forall_mem_nil _⟩⟩⟩)
  refine' ksw_while (σ := (List Value × Nat × List Int) × (List Value × Nat × List Int) × (List Value × Nat × List Int))
    (fun c => [(D2, listOf c.1.1.toArray c.1.2.1), (Do, listOf c.2.1.1.toArray c.2.1.2.1), (Dt, listOf c.2.2.1.toArray c.2.2.2.1), (L' + 1, o1)]) (fun _ => [])
    (fun c => IntsAre c.1.1 c.1.2.2 ∧ IntsAre c.2.1.1 c.2.1.2.2 ∧ IntsAre c.2.2.1 c.2.2.2.2) [Str.ofString "due", Str.ofString "tie", Str.ofString "near", Str.ofString "k"]
    (fun c => NetInv rs c.2.1.2.2 c.1.2.2 c.2.2.2.2) (fun c => c.1.2.2.length + 10 * c.2.1.2.2.length) ((hv, hn, _), (ov, _, outs rs), ([], 0, [])) F7 N7 ⟨i7, hi2, .nil⟩ (List.forall_mem_nil _) (net_init R) ?_
  clear F7 N7 i7 hi2 hys hys'
  rintro ⟨⟨hv, hn, hs⟩, ⟨ov, on, os⟩, ⟨tv, tn, ts⟩⟩ u h tk2 ⟨hI1, hI2, hI3⟩ I F7 N7
  dsimp only [kstB] at hI1 hI2 hI3 I F7 N7
  have M1 := net_mem R I
  have M2 := net_olen R I
  have M3 := net_hlen R I
  have M4 := net_tlen R I
  dsimp only
  (repeat' (first | (k_unfold; (try dsimp only)) | ((with_reducible show wpAny _ _ (call (Value.ref _) _ _) _ _ _); (first | (refine useI (add_does ⟨by assumption, by assumption, by assumption, by assumption, rfl, rfl, rfl, rfl⟩ (Nat.le_of_ble_eq_true rfl) (Nat.le_of_ble_eq_true rfl) ) (by assumption) (by assumption) ?_; intro _ _ _ _ _; (try k_sweep)) | (refine useI (sub_does ⟨by assumption, by assumption, by assumption, by assumption, rfl, rfl, rfl, rfl⟩ (Nat.le_of_ble_eq_true rfl) (Nat.le_of_ble_eq_true rfl) ) (by assumption) (by assumption) ?_; intro _ _ _ _ _; (try k_sweep)) | (refine useI (and_does ⟨by assumption, by assumption, by assumption, by assumption, rfl, rfl, rfl, rfl⟩ (Nat.le_of_ble_eq_true rfl) (Nat.le_of_ble_eq_true rfl) ) (by assumption) (by assumption) ?_; intro _ _ _ _ _; (try k_sweep)) | (refine useI (or_does ⟨by assumption, by assumption, by assumption, by assumption, rfl, rfl, rfl, rfl⟩ (Nat.le_of_ble_eq_true rfl) (Nat.le_of_ble_eq_true rfl) ) (by assumption) (by assumption) ?_; intro _ _ _ _ _; (try k_sweep)) | (refine useI (xor_does ⟨by assumption, by assumption, by assumption, by assumption, rfl, rfl, rfl, rfl⟩ (Nat.le_of_ble_eq_true rfl) (Nat.le_of_ble_eq_true rfl) ) (by assumption) (by assumption) ?_; intro _ _ _ _ _; (try k_sweep)) | (refine useI (inv_does ⟨by assumption, by assumption, by assumption, by assumption, rfl, rfl, rfl, rfl⟩ (Nat.le_of_ble_eq_true rfl) (Nat.le_of_ble_eq_true rfl) ) (by assumption) (by assumption) ?_; intro _ _ _ _ _; (try k_sweep)) | (refine useI (neg_does ⟨by assumption, by assumption, by assumption, by assumption, rfl, rfl, rfl, rfl⟩ (Nat.le_of_ble_eq_true rfl) (Nat.le_of_ble_eq_true rfl) ) (by assumption) (by assumption) ?_; intro _ _ _ _ _; (try k_sweep)) | (refine useI (rsh_does ⟨by assumption, by assumption, by assumption, by assumption, rfl, rfl, rfl, rfl⟩ (Nat.le_of_ble_eq_true rfl) (Nat.le_of_ble_eq_true rfl) (by decide)) (by assumption) (by assumption) ?_; intro _ _ _ _ _; (try k_sweep)) | (refine useI (lsh_does ⟨by assumption, by assumption, by assumption, by assumption, rfl, rfl, rfl, rfl⟩ (Nat.le_of_ble_eq_true rfl) (Nat.le_of_ble_eq_true rfl) (by decide) (by decide) (by omega)) (by assumption) (by assumption) ?_; intro _ _ _ _ _; (try k_sweep)))) | ((fail_if_success (with_reducible show wpAny _ _ (exec (Stmt.While _ _ _ _) _) _ _ _)); (fail_if_success (with_reducible show wpAny _ _ (exec (Stmt.For _ _ _ _ _) _) _ _ _)); (fail_if_success (with_reducible show wpAny _ _ (call (Value.ref _) _ _) _ _ _)); (fail_if_success (with_reducible show KswEnd _ _ _ _ _ _ _ _ _ _ _ _)); (fail_if_success (with_reducible show wpAny _ _ (eval (Expr.ListComp _ _ _ _) _) _ _ _)); (fail_if_success (with_reducible show wpAny _ _ (exec (Stmt.Assign _ (Expr.ListComp _ _ _ _) _) _) _ _ _)); (fail_if_success (with_reducible show Out _ _ _ _ _)); (fail_if_success (with_reducible show LCg.CompEnd _ _ _ _ _ _ _ _ _ _ _ _ _ _)); (fail_if_success (with_reducible show LCg.CompSrc _ _ _ _ _ _ _ _ _ _ _ _ _ _)); (fail_if_success (with_reducible show LCt.CompSrcT _ _ _ _ _ _ _ _ _ _ _ _ _ _ _)); (fail_if_success (with_reducible show Meet _ _ _)); (fail_if_success (with_reducible show wpAny _ _ (pyIter _) _ _ _)); (fail_if_success (with_reducible show LEnd _ _ _ _ _ _ _ _ _ _ _)); (fail_if_success (with_reducible show LPost _ _ _ _ _ _ _ _ _ _ _ _ _)); first | walk1 | (dsimp only; walk1)) | (k_end; dsimp only; k_unfold; (try dsimp only)) | fail "no step"))
  · rename Fr _ _ _ _ => F8
    rename News _ _ _ _ => N8
    rename decide (os = []) = true => hos
    have hos := of_decide_eq_true hos
    subst hos
    exact ⟨_, _, rfl, F8.keep, Dt, _, _, ts, hs, rfl, hnone _ (N8 (Dt, listOf tv.toArray tn) (by k_mem)).2.2 (fun q => nomatch q), (N8 (Dt, listOf tv.toArray tn) (by k_mem)).1, hI3, I⟩
  rename Fr _ _ _ _ => F8
  rename News _ _ _ _ => N8
  rename decide (os = []) = false => hos
  have hos := of_decide_eq_false hos
  have hne := net_ne R I hos
  have hpl := popL_length hs
  dsimp only at F8
  replace N8 : News g L' _ [(D2, listOf hv.toArray hn), (Do, listOf ov.toArray on), (Dt, listOf tv.toArray tn), (L' + 1, o1)] := cb_drop N8 (by kcj_all)
  refine useU (heappop_does ⟨B, F8, X, T, rfl, rfl, rfl, rfl⟩ (Nat.le_of_ble_eq_true rfl) (Nat.le_of_ble_eq_true rfl) (N8 _ (.head _)).1 (N8 _ (.head _)).2.1 (N8 _ (.head _)).2.2 hI1 hne (by omega)) F8 N8 (UpdF.head (by k_all)) ?_
  rintro v h6 tk6 F6 N6 ⟨hv', hn', tt, rfl, g6, i6⟩
  replace N6 := N6 _ g6
  clear F8 N8 g6
  replace i6 : IntsAre hv' (popL hs) := i6
  have hil6 := i6.length
  have hnt := net_take R I
  have hns := net_skip R I hos
  generalize hpv : (if hs.length ≤ 1 then hs.getLastD 0 else hs.dropLast.getD 0 0) = pv
  have hpv' : popV hs = pv := hpv
  rw [hpv'] at hnt hns
  clear hpv hpv'
  (repeat' (first | (k_unfold; (try dsimp only)) | ((with_reducible show wpAny _ _ (call (Value.ref _) _ _) _ _ _); (first | (refine useI (add_does ⟨by assumption, by assumption, by assumption, by assumption, rfl, rfl, rfl, rfl⟩ (Nat.le_of_ble_eq_true rfl) (Nat.le_of_ble_eq_true rfl) ) (by assumption) (by assumption) ?_; intro _ _ _ _ _; (try k_sweep)) | (refine useI (sub_does ⟨by assumption, by assumption, by assumption, by assumption, rfl, rfl, rfl, rfl⟩ (Nat.le_of_ble_eq_true rfl) (Nat.le_of_ble_eq_true rfl) ) (by assumption) (by assumption) ?_; intro _ _ _ _ _; (try k_sweep)) | (refine useI (and_does ⟨by assumption, by assumption, by assumption, by assumption, rfl, rfl, rfl, rfl⟩ (Nat.le_of_ble_eq_true rfl) (Nat.le_of_ble_eq_true rfl) ) (by assumption) (by assumption) ?_; intro _ _ _ _ _; (try k_sweep)) | (refine useI (or_does ⟨by assumption, by assumption, by assumption, by assumption, rfl, rfl, rfl, rfl⟩ (Nat.le_of_ble_eq_true rfl) (Nat.le_of_ble_eq_true rfl) ) (by assumption) (by assumption) ?_; intro _ _ _ _ _; (try k_sweep)) | (refine useI (xor_does ⟨by assumption, by assumption, by assumption, by assumption, rfl, rfl, rfl, rfl⟩ (Nat.le_of_ble_eq_true rfl) (Nat.le_of_ble_eq_true rfl) ) (by assumption) (by assumption) ?_; intro _ _ _ _ _; (try k_sweep)) | (refine useI (inv_does ⟨by assumption, by assumption, by assumption, by assumption, rfl, rfl, rfl, rfl⟩ (Nat.le_of_ble_eq_true rfl) (Nat.le_of_ble_eq_true rfl) ) (by assumption) (by assumption) ?_; intro _ _ _ _ _; (try k_sweep)) | (refine useI (neg_does ⟨by assumption, by assumption, by assumption, by assumption, rfl, rfl, rfl, rfl⟩ (Nat.le_of_ble_eq_true rfl) (Nat.le_of_ble_eq_true rfl) ) (by assumption) (by assumption) ?_; intro _ _ _ _ _; (try k_sweep)) | (refine useI (rsh_does ⟨by assumption, by assumption, by assumption, by assumption, rfl, rfl, rfl, rfl⟩ (Nat.le_of_ble_eq_true rfl) (Nat.le_of_ble_eq_true rfl) (by decide)) (by assumption) (by assumption) ?_; intro _ _ _ _ _; (try k_sweep)) | (refine useI (lsh_does ⟨by assumption, by assumption, by assumption, by assumption, rfl, rfl, rfl, rfl⟩ (Nat.le_of_ble_eq_true rfl) (Nat.le_of_ble_eq_true rfl) (by decide) (by decide) (by omega)) (by assumption) (by assumption) ?_; intro _ _ _ _ _; (try k_sweep)))) | ((fail_if_success (with_reducible show wpAny _ _ (exec (Stmt.While _ _ _ _) _) _ _ _)); (fail_if_success (with_reducible show wpAny _ _ (exec (Stmt.For _ _ _ _ _) _) _ _ _)); (fail_if_success (with_reducible show wpAny _ _ (call (Value.ref _) _ _) _ _ _)); (fail_if_success (with_reducible show KswEnd _ _ _ _ _ _ _ _ _ _ _ _)); (fail_if_success (with_reducible show wpAny _ _ (eval (Expr.ListComp _ _ _ _) _) _ _ _)); (fail_if_success (with_reducible show wpAny _ _ (exec (Stmt.Assign _ (Expr.ListComp _ _ _ _) _) _) _ _ _)); (fail_if_success (with_reducible show Out _ _ _ _ _)); (fail_if_success (with_reducible show LCg.CompEnd _ _ _ _ _ _ _ _ _ _ _ _ _ _)); (fail_if_success (with_reducible show LCg.CompSrc _ _ _ _ _ _ _ _ _ _ _ _ _ _)); (fail_if_success (with_reducible show LCt.CompSrcT _ _ _ _ _ _ _ _ _ _ _ _ _ _ _)); (fail_if_success (with_reducible show Meet _ _ _)); (fail_if_success (with_reducible show wpAny _ _ (pyIter _) _ _ _)); (fail_if_success (with_reducible show LEnd _ _ _ _ _ _ _ _ _ _ _)); (fail_if_success (with_reducible show LPost _ _ _ _ _ _ _ _ _ _ _ _ _)); first | walk1 | (dsimp only; walk1)) | (k_end; dsimp only; k_unfold; (try dsimp only)) | fail "no step"))
  · rename Fr _ _ _ _ => F5
    rename News _ _ _ _ => N5
    rename (List.any os _) = true => hin
    have hmem : Builtin.bitAnd pv 7 ∈ os := by
      obtain ⟨x, hx, e⟩ := List.any_eq_true.mp hin
      exact (beq_iff_eq.mp e) ▸ hx
    replace hnt := hnt hmem
    have hnb := M1 _ hmem
    have hqn := hR _ (getD_mem (i := (Builtin.bitAnd pv 7).toNat) (by omega : (Builtin.bitAnd pv 7).toNat < rs.length))
    have hel : (os.erase (Builtin.bitAnd pv 7)).length = os.length - 1 := List.length_erase_of_mem hmem
    have hop : 0 < os.length := List.length_pos_iff.mpr hos
    have hem : ∀ k ∈ os.erase (Builtin.bitAnd pv 7), 1 ≤ k ∧ k < (rs.length : Int) := fun k hk => M1 k (List.mem_of_mem_erase hk)
    obtain ⟨j, q, hq1, hq2, hq3⟩ := ints_erase hI2 hmem
    simp only [List.push_toArray] at N5
    obtain ⟨tv2, N5, hI4⟩ : ∃ tv2, News g L' _ [(D2, listOf hv'.toArray hn'), (Do, listOf ov.toArray on), (Dt, listOf tv2.toArray (tn + 1)), (L' + 1, o1)] ∧ IntsAre tv2 (ts ++ [pv.fdiv (2 ^ Int.toNat 3)]) := ⟨_, N5, ints_snoc hI3 _ _⟩
    refine kf_remove F5 N5 (ints_kf hI2) hq1 hq2 (Upd.tail (by k_ne) (Upd.head (by k_all))) (by rw [sizeLine_eq]; have := hI2.length; simp only [List.toList_toArray]; omega) ?_
    intro h4 F4 N4
    clear F5 N5
    (repeat' (first | (k_unfold; (try dsimp only)) | ((with_reducible show wpAny _ _ (call (Value.ref _) _ _) _ _ _); (first | (refine useI (add_does ⟨by assumption, by assumption, by assumption, by assumption, rfl, rfl, rfl, rfl⟩ (Nat.le_of_ble_eq_true rfl) (Nat.le_of_ble_eq_true rfl) ) (by assumption) (by assumption) ?_; intro _ _ _ _ _; (try k_sweep)) | (refine useI (sub_does ⟨by assumption, by assumption, by assumption, by assumption, rfl, rfl, rfl, rfl⟩ (Nat.le_of_ble_eq_true rfl) (Nat.le_of_ble_eq_true rfl) ) (by assumption) (by assumption) ?_; intro _ _ _ _ _; (try k_sweep)) | (refine useI (and_does ⟨by assumption, by assumption, by assumption, by assumption, rfl, rfl, rfl, rfl⟩ (Nat.le_of_ble_eq_true rfl) (Nat.le_of_ble_eq_true rfl) ) (by assumption) (by assumption) ?_; intro _ _ _ _ _; (try k_sweep)) | (refine useI (or_does ⟨by assumption, by assumption, by assumption, by assumption, rfl, rfl, rfl, rfl⟩ (Nat.le_of_ble_eq_true rfl) (Nat.le_of_ble_eq_true rfl) ) (by assumption) (by assumption) ?_; intro _ _ _ _ _; (try k_sweep)) | (refine useI (xor_does ⟨by assumption, by assumption, by assumption, by assumption, rfl, rfl, rfl, rfl⟩ (Nat.le_of_ble_eq_true rfl) (Nat.le_of_ble_eq_true rfl) ) (by assumption) (by assumption) ?_; intro _ _ _ _ _; (try k_sweep)) | (refine useI (inv_does ⟨by assumption, by assumption, by assumption, by assumption, rfl, rfl, rfl, rfl⟩ (Nat.le_of_ble_eq_true rfl) (Nat.le_of_ble_eq_true rfl) ) (by assumption) (by assumption) ?_; intro _ _ _ _ _; (try k_sweep)) | (refine useI (neg_does ⟨by assumption, by assumption, by assumption, by assumption, rfl, rfl, rfl, rfl⟩ (Nat.le_of_ble_eq_true rfl) (Nat.le_of_ble_eq_true rfl) ) (by assumption) (by assumption) ?_; intro _ _ _ _ _; (try k_sweep)) | (refine useI (rsh_does ⟨by assumption, by assumption, by assumption, by assumption, rfl, rfl, rfl, rfl⟩ (Nat.le_of_ble_eq_true rfl) (Nat.le_of_ble_eq_true rfl) (by decide)) (by assumption) (by assumption) ?_; intro _ _ _ _ _; (try k_sweep)) | (refine useI (lsh_does ⟨by assumption, by assumption, by assumption, by assumption, rfl, rfl, rfl, rfl⟩ (Nat.le_of_ble_eq_true rfl) (Nat.le_of_ble_eq_true rfl) (by decide) (by decide) (by omega)) (by assumption) (by assumption) ?_; intro _ _ _ _ _; (try k_sweep)))) | ((fail_if_success (with_reducible show wpAny _ _ (exec (Stmt.While _ _ _ _) _) _ _ _)); (fail_if_success (with_reducible show wpAny _ _ (exec (Stmt.For _ _ _ _ _) _) _ _ _)); (fail_if_success (with_reducible show wpAny _ _ (call (Value.ref _) _ _) _ _ _)); (fail_if_success (with_reducible show KswEnd _ _ _ _ _ _ _ _ _ _ _ _)); (fail_if_success (with_reducible show wpAny _ _ (eval (Expr.ListComp _ _ _ _) _) _ _ _)); (fail_if_success (with_reducible show wpAny _ _ (exec (Stmt.Assign _ (Expr.ListComp _ _ _ _) _) _) _ _ _)); (fail_if_success (with_reducible show Out _ _ _ _ _)); (fail_if_success (with_reducible show LCg.CompEnd _ _ _ _ _ _ _ _ _ _ _ _ _ _)); (fail_if_success (with_reducible show LCg.CompSrc _ _ _ _ _ _ _ _ _ _ _ _ _ _)); (fail_if_success (with_reducible show LCt.CompSrcT _ _ _ _ _ _ _ _ _ _ _ _ _ _ _)); (fail_if_success (with_reducible show Meet _ _ _)); (fail_if_success (with_reducible show wpAny _ _ (pyIter _) _ _ _)); (fail_if_success (with_reducible show LEnd _ _ _ _ _ _ _ _ _ _ _)); (fail_if_success (with_reducible show LPost _ _ _ _ _ _ _ _ _ _ _ _ _)); first | walk1 | (dsimp only; walk1)) | (k_end; dsimp only; k_unfold; (try dsimp only)) | fail "no step"))
    rename Fr _ _ _ _ => F5
    rename News _ _ _ _ => N5
    obtain ⟨tN, hN⟩ : ∃ t, (Fr.mapOf F5) (Str.ofString "near") = some (.int (Builtin.bitAnd pv 7) t) := ⟨_, rfl⟩
    obtain ⟨tD, hD⟩ : ∃ t, (Fr.mapOf F5) (Str.ofString "due") = some (.int ((hs.length : Int) - 1 + ((os.erase (Builtin.bitAnd pv 7)).length : Int)) t) := ⟨_, rfl⟩
    obtain ⟨m5, hm5, F5⟩ := Fr_clean F5 [(Str.ofString "near", .int (Builtin.bitAnd pv 7) tN), (Str.ofString "heap", .ref D2), (Str.ofString "due", .int ((hs.length : Int) - 1 + ((os.erase (Builtin.bitAnd pv 7)).length : Int)) tD), (Str.ofString "outside", .ref Do)]
      (List.forall_mem_cons.mpr ⟨hN, List.forall_mem_cons.mpr ⟨rfl, List.forall_mem_cons.mpr ⟨hD, List.forall_mem_cons.mpr ⟨rfl, List.forall_mem_nil _⟩⟩⟩⟩)
    dsimp only [kstB] at F5
    refine For_invV g rfl rfl ?_
    (repeat' (first | (k_unfold; (try dsimp only)) | ((with_reducible show wpAny _ _ (call (Value.ref _) _ _) _ _ _); (first | (refine useI (add_does ⟨by assumption, by assumption, by assumption, by assumption, rfl, rfl, rfl, rfl⟩ (Nat.le_of_ble_eq_true rfl) (Nat.le_of_ble_eq_true rfl) ) (by assumption) (by assumption) ?_; intro _ _ _ _ _; (try k_sweep)) | (refine useI (sub_does ⟨by assumption, by assumption, by assumption, by assumption, rfl, rfl, rfl, rfl⟩ (Nat.le_of_ble_eq_true rfl) (Nat.le_of_ble_eq_true rfl) ) (by assumption) (by assumption) ?_; intro _ _ _ _ _; (try k_sweep)) | (refine useI (and_does ⟨by assumption, by assumption, by assumption, by assumption, rfl, rfl, rfl, rfl⟩ (Nat.le_of_ble_eq_true rfl) (Nat.le_of_ble_eq_true rfl) ) (by assumption) (by assumption) ?_; intro _ _ _ _ _; (try k_sweep)) | (refine useI (or_does ⟨by assumption, by assumption, by assumption, by assumption, rfl, rfl, rfl, rfl⟩ (Nat.le_of_ble_eq_true rfl) (Nat.le_of_ble_eq_true rfl) ) (by assumption) (by assumption) ?_; intro _ _ _ _ _; (try k_sweep)) | (refine useI (xor_does ⟨by assumption, by assumption, by assumption, by assumption, rfl, rfl, rfl, rfl⟩ (Nat.le_of_ble_eq_true rfl) (Nat.le_of_ble_eq_true rfl) ) (by assumption) (by assumption) ?_; intro _ _ _ _ _; (try k_sweep)) | (refine useI (inv_does ⟨by assumption, by assumption, by assumption, by assumption, rfl, rfl, rfl, rfl⟩ (Nat.le_of_ble_eq_true rfl) (Nat.le_of_ble_eq_true rfl) ) (by assumption) (by assumption) ?_; intro _ _ _ _ _; (try k_sweep)) | (refine useI (neg_does ⟨by assumption, by assumption, by assumption, by assumption, rfl, rfl, rfl, rfl⟩ (Nat.le_of_ble_eq_true rfl) (Nat.le_of_ble_eq_true rfl) ) (by assumption) (by assumption) ?_; intro _ _ _ _ _; (try k_sweep)) | (refine useI (rsh_does ⟨by assumption, by assumption, by assumption, by assumption, rfl, rfl, rfl, rfl⟩ (Nat.le_of_ble_eq_true rfl) (Nat.le_of_ble_eq_true rfl) (by decide)) (by assumption) (by assumption) ?_; intro _ _ _ _ _; (try k_sweep)) | (refine useI (lsh_does ⟨by assumption, by assumption, by assumption, by assumption, rfl, rfl, rfl, rfl⟩ (Nat.le_of_ble_eq_true rfl) (Nat.le_of_ble_eq_true rfl) (by decide) (by decide) (by omega)) (by assumption) (by assumption) ?_; intro _ _ _ _ _; (try k_sweep)))) | ((fail_if_success (with_reducible show wpAny _ _ (exec (Stmt.While _ _ _ _) _) _ _ _)); (fail_if_success (with_reducible show wpAny _ _ (exec (Stmt.For _ _ _ _ _) _) _ _ _)); (fail_if_success (with_reducible show wpAny _ _ (call (Value.ref _) _ _) _ _ _)); (fail_if_success (with_reducible show KswEnd _ _ _ _ _ _ _ _ _ _ _ _)); (fail_if_success (with_reducible show wpAny _ _ (eval (Expr.ListComp _ _ _ _) _) _ _ _)); (fail_if_success (with_reducible show wpAny _ _ (exec (Stmt.Assign _ (Expr.ListComp _ _ _ _) _) _) _ _ _)); (fail_if_success (with_reducible show Out _ _ _ _ _)); (fail_if_success (with_reducible show LCg.CompEnd _ _ _ _ _ _ _ _ _ _ _ _ _ _)); (fail_if_success (with_reducible show LCg.CompSrc _ _ _ _ _ _ _ _ _ _ _ _ _ _)); (fail_if_success (with_reducible show LCt.CompSrcT _ _ _ _ _ _ _ _ _ _ _ _ _ _ _)); (fail_if_success (with_reducible show Meet _ _ _)); (fail_if_success (with_reducible show wpAny _ _ (pyIter _) _ _ _)); (fail_if_success (with_reducible show LEnd _ _ _ _ _ _ _ _ _ _ _)); (fail_if_success (with_reducible show LPost _ _ _ _ _ _ _ _ _ _ _ _ _)); first | walk1 | (dsimp only; walk1)) | (k_end; dsimp only; k_unfold; (try dsimp only)) | fail "no step"))
    have hDoL : PySem.Heap.IsList _ Do q.toArray := ⟨_, (N5 (Do, listOf q.toArray (on + 1)) (.tail _ (.head _))).1, rfl, _, rfl⟩
    have hql : q.length = (os.erase (Builtin.bitAnd pv 7)).length := hq3.length
    refine loopL (L := L') (σ := List Value × Nat × List Int) (fun c => [(D2, listOf c.1.toArray c.2.1)]) (fun _ => []) []
      (fun i c => IntsAre c.1 c.2.2 ∧ c.2.2 = pushAll rs (Builtin.bitAnd pv 7) ((os.erase (Builtin.bitAnd pv 7)).take i) (popL hs)) (hv', hn', popL hs)
      [(Do, listOf q.toArray (on + 1)), (Dt, listOf tv2.toArray (tn + 1)), (L' + 1, o1)]
      hDoL rfl rfl (N5 (Do, listOf q.toArray (on + 1)) (.tail _ (.head _))).2.1 (List.forall_mem_singleton.mpr (fun q => e1 q.symm)) (fun _ => rfl) F5 N5 (List.forall_mem_nil _) ⟨i6, rfl⟩ ?_ ?_
    · rintro i v ⟨us, n', ms⟩ u h tk own hv hoff ⟨hI, hms⟩ _ F₁ N₁
      dsimp only [kstB] at hI hms F₁ N₁
      simp only [List.cons_append, List.nil_append] at N₁
      obtain ⟨tv9, rfl, hmem9⟩ := ints_at hq3 (List.getElem?_toArray ▸ hv)
      have hil : i < (os.erase (Builtin.bitAnd pv 7)).length := by
        rw [← hql]; exact (List.getElem?_eq_some_iff.mp hv).1
      clear hv
      have hkb := hem _ hmem9
      have hqk := hR _ (getD_mem (i := ((os.erase (Builtin.bitAnd pv 7)).getD i 0).toNat) (by omega))
      have hti := take_getD (ns := os.erase (Builtin.bitAnd pv 7)) (i := i) hil
      have hml : ms.length = (popL hs).length + i := by rw [hms, pushAll_length, List.length_take]; omega
      generalize (os.erase (Builtin.bitAnd pv 7)).getD i 0 = k at hkb hqk hti hmem9 F₁
      dsimp only
      clear F5 N5 hDoL hns hnt hq1 hq2 hI1 hI2 hI3 hI4 i6 hem M1 hin hmem

      (repeat' (first | (k_unfold; (try dsimp only)) | ((with_reducible show wpAny _ _ (call (Value.ref _) _ _) _ _ _); (first | (refine useI (add_does ⟨by assumption, by assumption, by assumption, by assumption, rfl, rfl, rfl, rfl⟩ (Nat.le_of_ble_eq_true rfl) (Nat.le_of_ble_eq_true rfl) ) (by assumption) (by assumption) ?_; intro _ _ _ _ _; (try k_sweep)) | (refine useI (sub_does ⟨by assumption, by assumption, by assumption, by assumption, rfl, rfl, rfl, rfl⟩ (Nat.le_of_ble_eq_true rfl) (Nat.le_of_ble_eq_true rfl) ) (by assumption) (by assumption) ?_; intro _ _ _ _ _; (try k_sweep)) | (refine useI (and_does ⟨by assumption, by assumption, by assumption, by assumption, rfl, rfl, rfl, rfl⟩ (Nat.le_of_ble_eq_true rfl) (Nat.le_of_ble_eq_true rfl) ) (by assumption) (by assumption) ?_; intro _ _ _ _ _; (try k_sweep)) | (refine useI (or_does ⟨by assumption, by assumption, by assumption, by assumption, rfl, rfl, rfl, rfl⟩ (Nat.le_of_ble_eq_true rfl) (Nat.le_of_ble_eq_true rfl) ) (by assumption) (by assumption) ?_; intro _ _ _ _ _; (try k_sweep)) | (refine useI (xor_does ⟨by assumption, by assumption, by assumption, by assumption, rfl, rfl, rfl, rfl⟩ (Nat.le_of_ble_eq_true rfl) (Nat.le_of_ble_eq_true rfl) ) (by assumption) (by assumption) ?_; intro _ _ _ _ _; (try k_sweep)) | (refine useI (inv_does ⟨by assumption, by assumption, by assumption, by assumption, rfl, rfl, rfl, rfl⟩ (Nat.le_of_ble_eq_true rfl) (Nat.le_of_ble_eq_true rfl) ) (by assumption) (by assumption) ?_; intro _ _ _ _ _; (try k_sweep)) | (refine useI (neg_does ⟨by assumption, by assumption, by assumption, by assumption, rfl, rfl, rfl, rfl⟩ (Nat.le_of_ble_eq_true rfl) (Nat.le_of_ble_eq_true rfl) ) (by assumption) (by assumption) ?_; intro _ _ _ _ _; (try k_sweep)) | (refine useI (rsh_does ⟨by assumption, by assumption, by assumption, by assumption, rfl, rfl, rfl, rfl⟩ (Nat.le_of_ble_eq_true rfl) (Nat.le_of_ble_eq_true rfl) (by decide)) (by assumption) (by assumption) ?_; intro _ _ _ _ _; (try k_sweep)) | (refine useI (lsh_does ⟨by assumption, by assumption, by assumption, by assumption, rfl, rfl, rfl, rfl⟩ (Nat.le_of_ble_eq_true rfl) (Nat.le_of_ble_eq_true rfl) (by decide) (by decide) (by omega)) (by assumption) (by assumption) ?_; intro _ _ _ _ _; (try k_sweep)))) | ((fail_if_success (with_reducible show wpAny _ _ (exec (Stmt.While _ _ _ _) _) _ _ _)); (fail_if_success (with_reducible show wpAny _ _ (exec (Stmt.For _ _ _ _ _) _) _ _ _)); (fail_if_success (with_reducible show wpAny _ _ (call (Value.ref _) _ _) _ _ _)); (fail_if_success (with_reducible show KswEnd _ _ _ _ _ _ _ _ _ _ _ _)); (fail_if_success (with_reducible show wpAny _ _ (eval (Expr.ListComp _ _ _ _) _) _ _ _)); (fail_if_success (with_reducible show wpAny _ _ (exec (Stmt.Assign _ (Expr.ListComp _ _ _ _) _) _) _ _ _)); (fail_if_success (with_reducible show Out _ _ _ _ _)); (fail_if_success (with_reducible show LCg.CompEnd _ _ _ _ _ _ _ _ _ _ _ _ _ _)); (fail_if_success (with_reducible show LCg.CompSrc _ _ _ _ _ _ _ _ _ _ _ _ _ _)); (fail_if_success (with_reducible show LCt.CompSrcT _ _ _ _ _ _ _ _ _ _ _ _ _ _ _)); (fail_if_success (with_reducible show Meet _ _ _)); (fail_if_success (with_reducible show wpAny _ _ (pyIter _) _ _ _)); (fail_if_success (with_reducible show LEnd _ _ _ _ _ _ _ _ _ _ _)); (fail_if_success (with_reducible show LPost _ _ _ _ _ _ _ _ _ _ _ _ _)); first | walk1 | (dsimp only; walk1)) | (k_end; dsimp only; k_unfold; (try dsimp only)) | fail "no step"))
      rename Fr _ _ _ _ => F7
      rename News _ _ _ _ => N7
      refine useI (tie_does ⟨B, F7, X, T, rfl, rfl, rfl, rfl⟩ (Nat.le_of_ble_eq_true rfl) (Nat.le_of_ble_eq_true rfl) hqn.1 hqn.2 hqk.1 hqk.2 (by omega) (by omega)) F7 N7 ?_
      intro t6 h6 tk6 F6 N6
      clear F7 N7
      (repeat' (first | (k_unfold; (try dsimp only)) | ((with_reducible show wpAny _ _ (call (Value.ref _) _ _) _ _ _); (first | (refine useI (add_does ⟨by assumption, by assumption, by assumption, by assumption, rfl, rfl, rfl, rfl⟩ (Nat.le_of_ble_eq_true rfl) (Nat.le_of_ble_eq_true rfl) ) (by assumption) (by assumption) ?_; intro _ _ _ _ _; (try k_sweep)) | (refine useI (sub_does ⟨by assumption, by assumption, by assumption, by assumption, rfl, rfl, rfl, rfl⟩ (Nat.le_of_ble_eq_true rfl) (Nat.le_of_ble_eq_true rfl) ) (by assumption) (by assumption) ?_; intro _ _ _ _ _; (try k_sweep)) | (refine useI (and_does ⟨by assumption, by assumption, by assumption, by assumption, rfl, rfl, rfl, rfl⟩ (Nat.le_of_ble_eq_true rfl) (Nat.le_of_ble_eq_true rfl) ) (by assumption) (by assumption) ?_; intro _ _ _ _ _; (try k_sweep)) | (refine useI (or_does ⟨by assumption, by assumption, by assumption, by assumption, rfl, rfl, rfl, rfl⟩ (Nat.le_of_ble_eq_true rfl) (Nat.le_of_ble_eq_true rfl) ) (by assumption) (by assumption) ?_; intro _ _ _ _ _; (try k_sweep)) | (refine useI (xor_does ⟨by assumption, by assumption, by assumption, by assumption, rfl, rfl, rfl, rfl⟩ (Nat.le_of_ble_eq_true rfl) (Nat.le_of_ble_eq_true rfl) ) (by assumption) (by assumption) ?_; intro _ _ _ _ _; (try k_sweep)) | (refine useI (inv_does ⟨by assumption, by assumption, by assumption, by assumption, rfl, rfl, rfl, rfl⟩ (Nat.le_of_ble_eq_true rfl) (Nat.le_of_ble_eq_true rfl) ) (by assumption) (by assumption) ?_; intro _ _ _ _ _; (try k_sweep)) | (refine useI (neg_does ⟨by assumption, by assumption, by assumption, by assumption, rfl, rfl, rfl, rfl⟩ (Nat.le_of_ble_eq_true rfl) (Nat.le_of_ble_eq_true rfl) ) (by assumption) (by assumption) ?_; intro _ _ _ _ _; (try k_sweep)) | (refine useI (rsh_does ⟨by assumption, by assumption, by assumption, by assumption, rfl, rfl, rfl, rfl⟩ (Nat.le_of_ble_eq_true rfl) (Nat.le_of_ble_eq_true rfl) (by decide)) (by assumption) (by assumption) ?_; intro _ _ _ _ _; (try k_sweep)) | (refine useI (lsh_does ⟨by assumption, by assumption, by assumption, by assumption, rfl, rfl, rfl, rfl⟩ (Nat.le_of_ble_eq_true rfl) (Nat.le_of_ble_eq_true rfl) (by decide) (by decide) (by omega)) (by assumption) (by assumption) ?_; intro _ _ _ _ _; (try k_sweep)))) | ((fail_if_success (with_reducible show wpAny _ _ (exec (Stmt.While _ _ _ _) _) _ _ _)); (fail_if_success (with_reducible show wpAny _ _ (exec (Stmt.For _ _ _ _ _) _) _ _ _)); (fail_if_success (with_reducible show wpAny _ _ (call (Value.ref _) _ _) _ _ _)); (fail_if_success (with_reducible show KswEnd _ _ _ _ _ _ _ _ _ _ _ _)); (fail_if_success (with_reducible show wpAny _ _ (eval (Expr.ListComp _ _ _ _) _) _ _ _)); (fail_if_success (with_reducible show wpAny _ _ (exec (Stmt.Assign _ (Expr.ListComp _ _ _ _) _) _) _ _ _)); (fail_if_success (with_reducible show Out _ _ _ _ _)); (fail_if_success (with_reducible show LCg.CompEnd _ _ _ _ _ _ _ _ _ _ _ _ _ _)); (fail_if_success (with_reducible show LCg.CompSrc _ _ _ _ _ _ _ _ _ _ _ _ _ _)); (fail_if_success (with_reducible show LCt.CompSrcT _ _ _ _ _ _ _ _ _ _ _ _ _ _ _)); (fail_if_success (with_reducible show Meet _ _ _)); (fail_if_success (with_reducible show wpAny _ _ (pyIter _) _ _ _)); (fail_if_success (with_reducible show LEnd _ _ _ _ _ _ _ _ _ _ _)); (fail_if_success (with_reducible show LPost _ _ _ _ _ _ _ _ _ _ _ _ _)); first | walk1 | (dsimp only; walk1)) | (k_end; dsimp only; k_unfold; (try dsimp only)) | fail "no step"))
      rename Fr _ _ _ _ => F7
      rename News _ _ _ _ => N7
      refine useU (heappush_does ⟨B, F7, X, T, rfl, rfl, rfl, rfl⟩ (Nat.le_of_ble_eq_true rfl) (Nat.le_of_ble_eq_true rfl) (N7 _ (.head _)).1 (N7 _ (.head _)).2.1 (N7 _ (.head _)).2.2 hI (by omega)) F7 N7 (UpdF.head (List.forall_mem_cons.mpr ⟨by k_ne, List.forall_mem_cons.mpr ⟨by k_ne, List.forall_mem_cons.mpr ⟨by k_ne, hoff.ne (.head _)⟩⟩⟩)) ?_
      rintro v h5 tk5 F5 N5 ⟨rfl, us', n5, g5, i5⟩
      replace N5 := N5 _ g5
      clear F7 N7 g5
      (repeat' (first | (k_unfold; (try dsimp only)) | ((with_reducible show wpAny _ _ (call (Value.ref _) _ _) _ _ _); (first | (refine useI (add_does ⟨by assumption, by assumption, by assumption, by assumption, rfl, rfl, rfl, rfl⟩ (Nat.le_of_ble_eq_true rfl) (Nat.le_of_ble_eq_true rfl) ) (by assumption) (by assumption) ?_; intro _ _ _ _ _; (try k_sweep)) | (refine useI (sub_does ⟨by assumption, by assumption, by assumption, by assumption, rfl, rfl, rfl, rfl⟩ (Nat.le_of_ble_eq_true rfl) (Nat.le_of_ble_eq_true rfl) ) (by assumption) (by assumption) ?_; intro _ _ _ _ _; (try k_sweep)) | (refine useI (and_does ⟨by assumption, by assumption, by assumption, by assumption, rfl, rfl, rfl, rfl⟩ (Nat.le_of_ble_eq_true rfl) (Nat.le_of_ble_eq_true rfl) ) (by assumption) (by assumption) ?_; intro _ _ _ _ _; (try k_sweep)) | (refine useI (or_does ⟨by assumption, by assumption, by assumption, by assumption, rfl, rfl, rfl, rfl⟩ (Nat.le_of_ble_eq_true rfl) (Nat.le_of_ble_eq_true rfl) ) (by assumption) (by assumption) ?_; intro _ _ _ _ _; (try k_sweep)) | (refine useI (xor_does ⟨by assumption, by assumption, by assumption, by assumption, rfl, rfl, rfl, rfl⟩ (Nat.le_of_ble_eq_true rfl) (Nat.le_of_ble_eq_true rfl) ) (by assumption) (by assumption) ?_; intro _ _ _ _ _; (try k_sweep)) | (refine useI (inv_does ⟨by assumption, by assumption, by assumption, by assumption, rfl, rfl, rfl, rfl⟩ (Nat.le_of_ble_eq_true rfl) (Nat.le_of_ble_eq_true rfl) ) (by assumption) (by assumption) ?_; intro _ _ _ _ _; (try k_sweep)) | (refine useI (neg_does ⟨by assumption, by assumption, by assumption, by assumption, rfl, rfl, rfl, rfl⟩ (Nat.le_of_ble_eq_true rfl) (Nat.le_of_ble_eq_true rfl) ) (by assumption) (by assumption) ?_; intro _ _ _ _ _; (try k_sweep)) | (refine useI (rsh_does ⟨by assumption, by assumption, by assumption, by assumption, rfl, rfl, rfl, rfl⟩ (Nat.le_of_ble_eq_true rfl) (Nat.le_of_ble_eq_true rfl) (by decide)) (by assumption) (by assumption) ?_; intro _ _ _ _ _; (try k_sweep)) | (refine useI (lsh_does ⟨by assumption, by assumption, by assumption, by assumption, rfl, rfl, rfl, rfl⟩ (Nat.le_of_ble_eq_true rfl) (Nat.le_of_ble_eq_true rfl) (by decide) (by decide) (by omega)) (by assumption) (by assumption) ?_; intro _ _ _ _ _; (try k_sweep)))) | ((fail_if_success (with_reducible show wpAny _ _ (exec (Stmt.While _ _ _ _) _) _ _ _)); (fail_if_success (with_reducible show wpAny _ _ (exec (Stmt.For _ _ _ _ _) _) _ _ _)); (fail_if_success (with_reducible show wpAny _ _ (call (Value.ref _) _ _) _ _ _)); (fail_if_success (with_reducible show KswEnd _ _ _ _ _ _ _ _ _ _ _ _)); (fail_if_success (with_reducible show wpAny _ _ (eval (Expr.ListComp _ _ _ _) _) _ _ _)); (fail_if_success (with_reducible show wpAny _ _ (exec (Stmt.Assign _ (Expr.ListComp _ _ _ _) _) _) _ _ _)); (fail_if_success (with_reducible show Out _ _ _ _ _)); (fail_if_success (with_reducible show LCg.CompEnd _ _ _ _ _ _ _ _ _ _ _ _ _ _)); (fail_if_success (with_reducible show LCg.CompSrc _ _ _ _ _ _ _ _ _ _ _ _ _ _)); (fail_if_success (with_reducible show LCt.CompSrcT _ _ _ _ _ _ _ _ _ _ _ _ _ _ _)); (fail_if_success (with_reducible show Meet _ _ _)); (fail_if_success (with_reducible show wpAny _ _ (pyIter _) _ _ _)); (fail_if_success (with_reducible show LEnd _ _ _ _ _ _ _ _ _ _ _)); (fail_if_success (with_reducible show LPost _ _ _ _ _ _ _ _ _ _ _ _ _)); first | walk1 | (dsimp only; walk1)) | (k_end; dsimp only; k_unfold; (try dsimp only)) | fail "no step"))
      dsimp only [LPost]
      refine ⟨(us', n5, _), _, _, _, rfl, F5, N5, List.forall_mem_nil _, ?_, i5, ?_⟩
      · intro z h1 _ _
        simp [h1]
      · dsimp only
        rw [hti, hms, pushAll, pushAll, List.foldl_append]
        rfl
    · rintro ⟨us, n', ms⟩ u h tk ⟨hI, hms⟩ F₁ N₁
      dsimp only [kstB] at hI hms F₁ N₁
      simp only [List.cons_append, List.nil_append] at N₁
      rw [hql, List.take_length] at hms
      have hml : ms.length = (popL hs).length + (os.erase (Builtin.bitAnd pv 7)).length := by rw [hms, pushAll_length]
      have hul := hI.length
      clear F5 N5 hDoL hq1 hq2 hem hqn hin
      (repeat' (first | (k_unfold; (try dsimp only)) | ((with_reducible show wpAny _ _ (call (Value.ref _) _ _) _ _ _); (first | (refine useI (add_does ⟨by assumption, by assumption, by assumption, by assumption, rfl, rfl, rfl, rfl⟩ (Nat.le_of_ble_eq_true rfl) (Nat.le_of_ble_eq_true rfl) ) (by assumption) (by assumption) ?_; intro _ _ _ _ _; (try k_sweep)) | (refine useI (sub_does ⟨by assumption, by assumption, by assumption, by assumption, rfl, rfl, rfl, rfl⟩ (Nat.le_of_ble_eq_true rfl) (Nat.le_of_ble_eq_true rfl) ) (by assumption) (by assumption) ?_; intro _ _ _ _ _; (try k_sweep)) | (refine useI (and_does ⟨by assumption, by assumption, by assumption, by assumption, rfl, rfl, rfl, rfl⟩ (Nat.le_of_ble_eq_true rfl) (Nat.le_of_ble_eq_true rfl) ) (by assumption) (by assumption) ?_; intro _ _ _ _ _; (try k_sweep)) | (refine useI (or_does ⟨by assumption, by assumption, by assumption, by assumption, rfl, rfl, rfl, rfl⟩ (Nat.le_of_ble_eq_true rfl) (Nat.le_of_ble_eq_true rfl) ) (by assumption) (by assumption) ?_; intro _ _ _ _ _; (try k_sweep)) | (refine useI (xor_does ⟨by assumption, by assumption, by assumption, by assumption, rfl, rfl, rfl, rfl⟩ (Nat.le_of_ble_eq_true rfl) (Nat.le_of_ble_eq_true rfl) ) (by assumption) (by assumption) ?_; intro _ _ _ _ _; (try k_sweep)) | (refine useI (inv_does ⟨by assumption, by assumption, by assumption, by assumption, rfl, rfl, rfl, rfl⟩ (Nat.le_of_ble_eq_true rfl) (Nat.le_of_ble_eq_true rfl) ) (by assumption) (by assumption) ?_; intro _ _ _ _ _; (try k_sweep)) | (refine useI (neg_does ⟨by assumption, by assumption, by assumption, by assumption, rfl, rfl, rfl, rfl⟩ (Nat.le_of_ble_eq_true rfl) (Nat.le_of_ble_eq_true rfl) ) (by assumption) (by assumption) ?_; intro _ _ _ _ _; (try k_sweep)) | (refine useI (rsh_does ⟨by assumption, by assumption, by assumption, by assumption, rfl, rfl, rfl, rfl⟩ (Nat.le_of_ble_eq_true rfl) (Nat.le_of_ble_eq_true rfl) (by decide)) (by assumption) (by assumption) ?_; intro _ _ _ _ _; (try k_sweep)) | (refine useI (lsh_does ⟨by assumption, by assumption, by assumption, by assumption, rfl, rfl, rfl, rfl⟩ (Nat.le_of_ble_eq_true rfl) (Nat.le_of_ble_eq_true rfl) (by decide) (by decide) (by omega)) (by assumption) (by assumption) ?_; intro _ _ _ _ _; (try k_sweep)))) | ((fail_if_success (with_reducible show wpAny _ _ (exec (Stmt.While _ _ _ _) _) _ _ _)); (fail_if_success (with_reducible show wpAny _ _ (exec (Stmt.For _ _ _ _ _) _) _ _ _)); (fail_if_success (with_reducible show wpAny _ _ (call (Value.ref _) _ _) _ _ _)); (fail_if_success (with_reducible show KswEnd _ _ _ _ _ _ _ _ _ _ _ _)); (fail_if_success (with_reducible show wpAny _ _ (eval (Expr.ListComp _ _ _ _) _) _ _ _)); (fail_if_success (with_reducible show wpAny _ _ (exec (Stmt.Assign _ (Expr.ListComp _ _ _ _) _) _) _ _ _)); (fail_if_success (with_reducible show Out _ _ _ _ _)); (fail_if_success (with_reducible show LCg.CompEnd _ _ _ _ _ _ _ _ _ _ _ _ _ _)); (fail_if_success (with_reducible show LCg.CompSrc _ _ _ _ _ _ _ _ _ _ _ _ _ _)); (fail_if_success (with_reducible show LCt.CompSrcT _ _ _ _ _ _ _ _ _ _ _ _ _ _ _)); (fail_if_success (with_reducible show Meet _ _ _)); (fail_if_success (with_reducible show wpAny _ _ (pyIter _) _ _ _)); (fail_if_success (with_reducible show LEnd _ _ _ _ _ _ _ _ _ _ _)); (fail_if_success (with_reducible show LPost _ _ _ _ _ _ _ _ _ _ _ _ _)); first | walk1 | (dsimp only; walk1)) | (k_end; dsimp only; k_unfold; (try dsimp only)) | fail "no step"))
      · exfalso
        rename (_ : Int) ≠ _ => hq
        have : 0 < hs.length := List.length_pos_iff.mpr hne
        exact hq (by omega)
      · rename Fr _ _ _ _ => F5
        rename News _ _ _ _ => N5
        refine' ksw_end ((_, _, _), (_, _, _), (_, _, _)) F5 N5 (fun p hp => hp) ⟨hI, hq3, hI4⟩ (List.forall_mem_nil _) ?_ (hms ▸ hnt) ?_
        · rw [hm5]
          intro z h2 h3
          have h3' := h3
          simp only [List.contains_cons, List.contains_nil, Bool.or_false, Bool.or_eq_false_iff, beq_eq_false_iff_ne, ne_eq] at h3'
          simp only [h3, h3', if_false, Bool.false_eq_true]
          show _ = (if z = Str.ofString "heap" then some (Value.ref D2) else if z = Str.ofString "outside" then some (Value.ref Do) else if z = Str.ofString "ties" then some (Value.ref Dt) else m7 z)
          exact dup2 _ _ _
        · show ms.length + 10 * (os.erase (Builtin.bitAnd pv 7)).length < hs.length + 10 * os.length
          omega
  · exfalso
    rename (_ : Int) ≠ _ => hq
    have : 0 < hs.length := List.length_pos_iff.mpr hne
    exact hq (by omega)
  · rename Fr _ _ _ _ => F5
    rename News _ _ _ _ => N5
    rename (List.any os _) = false => hin
    have hnm : Builtin.bitAnd pv 7 ∉ os := fun hm => by
      exact List.any_eq_false.mp hin _ hm (beq_self_eq_true _)
    have : 0 < hs.length := List.length_pos_iff.mpr hne
    refine' ksw_end ((_, _, _), (_, _, _), (_, _, _)) F5 N5 (fun p hp => hp) ⟨i6, hI2, hI3⟩ (List.forall_mem_nil _) ?_ (hns hnm) ?_
    · intro z h2 h3
      have h3' := h3
      simp only [List.contains_cons, List.contains_nil, Bool.or_false, Bool.or_eq_false_iff, beq_eq_false_iff_ne, ne_eq] at h3'
      simp only [h3, h3', if_false, Bool.false_eq_true]
      rfl
    · show (popL hs).length + 10 * os.length < hs.length + 10 * os.length
      omega

end

section
set_option maxRecDepth 100000

theorem fill7 : hd.heap_39 = hd.heap_39 ∧ PySem.Challenge.rw_oy0042_01 = PySem.Challenge.rw_oy0042_01 := by
  w_top off
  k_fill
  exact ⟨rfl, rfl⟩


set_option maxHeartbeats 4000000 in
theorem three_does {w : World} {mean : ExcName → Option Value} {mg mb : Str → Option Value} {A A₀ : Around} {base h₀ : Heap} {outer : List Env} {env : Env} {L : Addr} {m : Str → Option Value} {s : Shared}
    (S : Spot w mean mg mb A A₀ base outer env h₀ L m s.heap) (hdp : A.depth ≤ 500) (hun : A.units ≤ 500)
    {x : Int} {t1 : Tok} (hx0 : 0 ≤ x) (hx1 : x < 16777216) :
    Does w A 189 [.int x t1] [] [] s (fun v _ => ∃ b t, v = .bytes b t ∧ KBw.bInts b = [x / 65536 % 256, x / 256 % 256, x % 256]) := by
  refine' does_of 500 500 S hdp hun (by decide) [] ?hN _ (binds := [(Str.ofString "row", .int x t1)]) ?ho ?hcd ?hb ?hl ?c1 ?c2 ?c3 ?c4 ?_
  case hN => exact News.nil
  case ho => k_is
  case hcd => k_is
  case hb => exact BindsTo.of_eq rfl
  case hl => exact locs rfl
  case c1 => exact rfl
  case c2 => exact rfl
  case c3 => exact rfl
  case c4 => decide
  intro g L' h₁ F N B X T hg hlt hnone
  k_fold

  (repeat' (first | (k_unfold; (try dsimp only)) | ((with_reducible show wpAny _ _ (call (Value.ref _) _ _) _ _ _); (first | (refine useI (add_does ⟨by assumption, by assumption, by assumption, by assumption, rfl, rfl, rfl, rfl⟩ (Nat.le_of_ble_eq_true rfl) (Nat.le_of_ble_eq_true rfl) ) (by assumption) (by assumption) ?_; intro _ _ _ _ _; (try k_sweep)) | (refine useI (sub_does ⟨by assumption, by assumption, by assumption, by assumption, rfl, rfl, rfl, rfl⟩ (Nat.le_of_ble_eq_true rfl) (Nat.le_of_ble_eq_true rfl) ) (by assumption) (by assumption) ?_; intro _ _ _ _ _; (try k_sweep)) | (refine useI (and_does ⟨by assumption, by assumption, by assumption, by assumption, rfl, rfl, rfl, rfl⟩ (Nat.le_of_ble_eq_true rfl) (Nat.le_of_ble_eq_true rfl) ) (by assumption) (by assumption) ?_; intro _ _ _ _ _; (try k_sweep)) | (refine useI (or_does ⟨by assumption, by assumption, by assumption, by assumption, rfl, rfl, rfl, rfl⟩ (Nat.le_of_ble_eq_true rfl) (Nat.le_of_ble_eq_true rfl) ) (by assumption) (by assumption) ?_; intro _ _ _ _ _; (try k_sweep)) | (refine useI (xor_does ⟨by assumption, by assumption, by assumption, by assumption, rfl, rfl, rfl, rfl⟩ (Nat.le_of_ble_eq_true rfl) (Nat.le_of_ble_eq_true rfl) ) (by assumption) (by assumption) ?_; intro _ _ _ _ _; (try k_sweep)) | (refine useI (inv_does ⟨by assumption, by assumption, by assumption, by assumption, rfl, rfl, rfl, rfl⟩ (Nat.le_of_ble_eq_true rfl) (Nat.le_of_ble_eq_true rfl) ) (by assumption) (by assumption) ?_; intro _ _ _ _ _; (try k_sweep)) | (refine useI (neg_does ⟨by assumption, by assumption, by assumption, by assumption, rfl, rfl, rfl, rfl⟩ (Nat.le_of_ble_eq_true rfl) (Nat.le_of_ble_eq_true rfl) ) (by assumption) (by assumption) ?_; intro _ _ _ _ _; (try k_sweep)) | (refine useI (rsh_does ⟨by assumption, by assumption, by assumption, by assumption, rfl, rfl, rfl, rfl⟩ (Nat.le_of_ble_eq_true rfl) (Nat.le_of_ble_eq_true rfl) (by decide)) (by assumption) (by assumption) ?_; intro _ _ _ _ _; (try k_sweep)) | (refine useI (lsh_does ⟨by assumption, by assumption, by assumption, by assumption, rfl, rfl, rfl, rfl⟩ (Nat.le_of_ble_eq_true rfl) (Nat.le_of_ble_eq_true rfl) (by decide) (by decide) (by omega)) (by assumption) (by assumption) ?_; intro _ _ _ _ _; (try k_sweep)))) | ((fail_if_success (with_reducible show wpAny _ _ (exec (Stmt.While _ _ _ _) _) _ _ _)); (fail_if_success (with_reducible show wpAny _ _ (exec (Stmt.For _ _ _ _ _) _) _ _ _)); (fail_if_success (with_reducible show wpAny _ _ (call (Value.ref _) _ _) _ _ _)); (fail_if_success (with_reducible show KswEnd _ _ _ _ _ _ _ _ _ _ _ _)); (fail_if_success (with_reducible show wpAny _ _ (eval (Expr.ListComp _ _ _ _) _) _ _ _)); (fail_if_success (with_reducible show wpAny _ _ (exec (Stmt.Assign _ (Expr.ListComp _ _ _ _) _) _) _ _ _)); (fail_if_success (with_reducible show Out _ _ _ _ _)); (fail_if_success (with_reducible show LCg.CompEnd _ _ _ _ _ _ _ _ _ _ _ _ _ _)); (fail_if_success (with_reducible show LCg.CompSrc _ _ _ _ _ _ _ _ _ _ _ _ _ _)); (fail_if_success (with_reducible show LCt.CompSrcT _ _ _ _ _ _ _ _ _ _ _ _ _ _ _)); (fail_if_success (with_reducible show Meet _ _ _)); (fail_if_success (with_reducible show wpAny _ _ (pyIter _) _ _ _)); (fail_if_success (with_reducible show LEnd _ _ _ _ _ _ _ _ _ _ _)); (fail_if_success (with_reducible show LPost _ _ _ _ _ _ _ _ _ _ _ _ _)); first | walk1 | (dsimp only; walk1)) | (k_end; dsimp only; k_unfold; (try dsimp only)) | fail "no step"))
  rename Fr _ _ _ _ => F9
  refine ⟨_, _, rfl, F9.keep, _, _, rfl, ?_⟩
  rw [KBw.ints_list]
  simp only [List.map_cons, List.map_nil]
  simp only [Int.fmod_eq_emod_of_nonneg _ (show (0 : Int) ≤ 256 by decide), Int.fdiv_eq_ediv_of_nonneg _ (show (0 : Int) ≤ 65536 by decide), Int.fdiv_eq_ediv_of_nonneg _ (show (0 : Int) ≤ 256 by decide)]
  rw [byte_back (by omega) (by omega), byte_back (by omega) (by omega), byte_back (by omega) (by omega)]

set_option maxHeartbeats 4000000 in
theorem buffer_does {w : World} {mean : ExcName → Option Value} {mg mb : Str → Option Value} {A A₀ : Around} {base h₀ : Heap} {outer : List Env} {env : Env} {L : Addr} {m : Str → Option Value} {s : Shared}
    (S : Spot w mean mg mb A A₀ base outer env h₀ L m s.heap) (hdp : A.depth ≤ 600) (hun : A.units ≤ 600)
    {b : Array UInt8} {t1 : Tok} :
    Does w A 91 [.bytes b t1] [] [] s (fun v _ => v = .bytes b t1) := by
  refine' does_of 600 600 S hdp hun (by decide) [] ?hN _ (binds := [(Str.ofString "data", .bytes b t1)]) ?ho ?hcd ?hb ?hl ?c1 ?c2 ?c3 ?c4 ?_
  case hN => exact News.nil
  case ho => k_is
  case hcd => k_is
  case hb => exact BindsTo.of_eq rfl
  case hl => exact locs rfl
  case c1 => exact rfl
  case c2 => exact rfl
  case c3 => exact rfl
  case c4 => decide
  intro g L' h₁ F N B X T hg hlt hnone
  k_fold

  (repeat' (first | (k_unfold; (try dsimp only)) | ((with_reducible show wpAny _ _ (call (Value.ref _) _ _) _ _ _); (first | (refine useI (add_does ⟨by assumption, by assumption, by assumption, by assumption, rfl, rfl, rfl, rfl⟩ (Nat.le_of_ble_eq_true rfl) (Nat.le_of_ble_eq_true rfl) ) (by assumption) (by assumption) ?_; intro _ _ _ _ _; (try k_sweep)) | (refine useI (sub_does ⟨by assumption, by assumption, by assumption, by assumption, rfl, rfl, rfl, rfl⟩ (Nat.le_of_ble_eq_true rfl) (Nat.le_of_ble_eq_true rfl) ) (by assumption) (by assumption) ?_; intro _ _ _ _ _; (try k_sweep)) | (refine useI (and_does ⟨by assumption, by assumption, by assumption, by assumption, rfl, rfl, rfl, rfl⟩ (Nat.le_of_ble_eq_true rfl) (Nat.le_of_ble_eq_true rfl) ) (by assumption) (by assumption) ?_; intro _ _ _ _ _; (try k_sweep)) | (refine useI (or_does ⟨by assumption, by assumption, by assumption, by assumption, rfl, rfl, rfl, rfl⟩ (Nat.le_of_ble_eq_true rfl) (Nat.le_of_ble_eq_true rfl) ) (by assumption) (by assumption) ?_; intro _ _ _ _ _; (try k_sweep)) | (refine useI (xor_does ⟨by assumption, by assumption, by assumption, by assumption, rfl, rfl, rfl, rfl⟩ (Nat.le_of_ble_eq_true rfl) (Nat.le_of_ble_eq_true rfl) ) (by assumption) (by assumption) ?_; intro _ _ _ _ _; (try k_sweep)) | (refine useI (inv_does ⟨by assumption, by assumption, by assumption, by assumption, rfl, rfl, rfl, rfl⟩ (Nat.le_of_ble_eq_true rfl) (Nat.le_of_ble_eq_true rfl) ) (by assumption) (by assumption) ?_; intro _ _ _ _ _; (try k_sweep)) | (refine useI (neg_does ⟨by assumption, by assumption, by assumption, by assumption, rfl, rfl, rfl, rfl⟩ (Nat.le_of_ble_eq_true rfl) (Nat.le_of_ble_eq_true rfl) ) (by assumption) (by assumption) ?_; intro _ _ _ _ _; (try k_sweep)) | (refine useI (rsh_does ⟨by assumption, by assumption, by assumption, by assumption, rfl, rfl, rfl, rfl⟩ (Nat.le_of_ble_eq_true rfl) (Nat.le_of_ble_eq_true rfl) (by decide)) (by assumption) (by assumption) ?_; intro _ _ _ _ _; (try k_sweep)) | (refine useI (lsh_does ⟨by assumption, by assumption, by assumption, by assumption, rfl, rfl, rfl, rfl⟩ (Nat.le_of_ble_eq_true rfl) (Nat.le_of_ble_eq_true rfl) (by decide) (by decide) (by omega)) (by assumption) (by assumption) ?_; intro _ _ _ _ _; (try k_sweep)))) | ((fail_if_success (with_reducible show wpAny _ _ (exec (Stmt.While _ _ _ _) _) _ _ _)); (fail_if_success (with_reducible show wpAny _ _ (exec (Stmt.For _ _ _ _ _) _) _ _ _)); (fail_if_success (with_reducible show wpAny _ _ (call (Value.ref _) _ _) _ _ _)); (fail_if_success (with_reducible show KswEnd _ _ _ _ _ _ _ _ _ _ _ _)); (fail_if_success (with_reducible show wpAny _ _ (eval (Expr.ListComp _ _ _ _) _) _ _ _)); (fail_if_success (with_reducible show wpAny _ _ (exec (Stmt.Assign _ (Expr.ListComp _ _ _ _) _) _) _ _ _)); (fail_if_success (with_reducible show Out _ _ _ _ _)); (fail_if_success (with_reducible show LCg.CompEnd _ _ _ _ _ _ _ _ _ _ _ _ _ _)); (fail_if_success (with_reducible show LCg.CompSrc _ _ _ _ _ _ _ _ _ _ _ _ _ _)); (fail_if_success (with_reducible show LCt.CompSrcT _ _ _ _ _ _ _ _ _ _ _ _ _ _ _)); (fail_if_success (with_reducible show Meet _ _ _)); (fail_if_success (with_reducible show wpAny _ _ (pyIter _) _ _ _)); (fail_if_success (with_reducible show LEnd _ _ _ _ _ _ _ _ _ _ _)); (fail_if_success (with_reducible show LPost _ _ _ _ _ _ _ _ _ _ _ _ _)); first | walk1 | (dsimp only; walk1)) | (k_end; dsimp only; k_unfold; (try dsimp only)) | fail "no step"))
  refine call_type_of (Tx := "bytes") rfl (by decide +kernel) ?_
  (repeat' (first | (k_unfold; (try dsimp only)) | ((with_reducible show wpAny _ _ (call (Value.ref _) _ _) _ _ _); (first | (refine useI (add_does ⟨by assumption, by assumption, by assumption, by assumption, rfl, rfl, rfl, rfl⟩ (Nat.le_of_ble_eq_true rfl) (Nat.le_of_ble_eq_true rfl) ) (by assumption) (by assumption) ?_; intro _ _ _ _ _; (try k_sweep)) | (refine useI (sub_does ⟨by assumption, by assumption, by assumption, by assumption, rfl, rfl, rfl, rfl⟩ (Nat.le_of_ble_eq_true rfl) (Nat.le_of_ble_eq_true rfl) ) (by assumption) (by assumption) ?_; intro _ _ _ _ _; (try k_sweep)) | (refine useI (and_does ⟨by assumption, by assumption, by assumption, by assumption, rfl, rfl, rfl, rfl⟩ (Nat.le_of_ble_eq_true rfl) (Nat.le_of_ble_eq_true rfl) ) (by assumption) (by assumption) ?_; intro _ _ _ _ _; (try k_sweep)) | (refine useI (or_does ⟨by assumption, by assumption, by assumption, by assumption, rfl, rfl, rfl, rfl⟩ (Nat.le_of_ble_eq_true rfl) (Nat.le_of_ble_eq_true rfl) ) (by assumption) (by assumption) ?_; intro _ _ _ _ _; (try k_sweep)) | (refine useI (xor_does ⟨by assumption, by assumption, by assumption, by assumption, rfl, rfl, rfl, rfl⟩ (Nat.le_of_ble_eq_true rfl) (Nat.le_of_ble_eq_true rfl) ) (by assumption) (by assumption) ?_; intro _ _ _ _ _; (try k_sweep)) | (refine useI (inv_does ⟨by assumption, by assumption, by assumption, by assumption, rfl, rfl, rfl, rfl⟩ (Nat.le_of_ble_eq_true rfl) (Nat.le_of_ble_eq_true rfl) ) (by assumption) (by assumption) ?_; intro _ _ _ _ _; (try k_sweep)) | (refine useI (neg_does ⟨by assumption, by assumption, by assumption, by assumption, rfl, rfl, rfl, rfl⟩ (Nat.le_of_ble_eq_true rfl) (Nat.le_of_ble_eq_true rfl) ) (by assumption) (by assumption) ?_; intro _ _ _ _ _; (try k_sweep)) | (refine useI (rsh_does ⟨by assumption, by assumption, by assumption, by assumption, rfl, rfl, rfl, rfl⟩ (Nat.le_of_ble_eq_true rfl) (Nat.le_of_ble_eq_true rfl) (by decide)) (by assumption) (by assumption) ?_; intro _ _ _ _ _; (try k_sweep)) | (refine useI (lsh_does ⟨by assumption, by assumption, by assumption, by assumption, rfl, rfl, rfl, rfl⟩ (Nat.le_of_ble_eq_true rfl) (Nat.le_of_ble_eq_true rfl) (by decide) (by decide) (by omega)) (by assumption) (by assumption) ?_; intro _ _ _ _ _; (try k_sweep)))) | ((fail_if_success (with_reducible show wpAny _ _ (exec (Stmt.While _ _ _ _) _) _ _ _)); (fail_if_success (with_reducible show wpAny _ _ (exec (Stmt.For _ _ _ _ _) _) _ _ _)); (fail_if_success (with_reducible show wpAny _ _ (call (Value.ref _) _ _) _ _ _)); (fail_if_success (with_reducible show KswEnd _ _ _ _ _ _ _ _ _ _ _ _)); (fail_if_success (with_reducible show wpAny _ _ (eval (Expr.ListComp _ _ _ _) _) _ _ _)); (fail_if_success (with_reducible show wpAny _ _ (exec (Stmt.Assign _ (Expr.ListComp _ _ _ _) _) _) _ _ _)); (fail_if_success (with_reducible show Out _ _ _ _ _)); (fail_if_success (with_reducible show LCg.CompEnd _ _ _ _ _ _ _ _ _ _ _ _ _ _)); (fail_if_success (with_reducible show LCg.CompSrc _ _ _ _ _ _ _ _ _ _ _ _ _ _)); (fail_if_success (with_reducible show LCt.CompSrcT _ _ _ _ _ _ _ _ _ _ _ _ _ _ _)); (fail_if_success (with_reducible show Meet _ _ _)); (fail_if_success (with_reducible show wpAny _ _ (pyIter _) _ _ _)); (fail_if_success (with_reducible show LEnd _ _ _ _ _ _ _ _ _ _ _)); (fail_if_success (with_reducible show LPost _ _ _ _ _ _ _ _ _ _ _ _ _)); first | walk1 | (dsimp only; walk1)) | (k_end; dsimp only; k_unfold; (try dsimp only)) | fail "no step"))
  rename Fr _ _ _ _ => F9
  exact ⟨_, _, rfl, F9.keep, rfl⟩

set_option maxHeartbeats 4000000 in
theorem truth_does {w : World} {mean : ExcName → Option Value} {mg mb : Str → Option Value} {A A₀ : Around} {base h₀ : Heap} {outer : List Env} {env : Env} {L : Addr} {m : Str → Option Value} {s : Shared}
    (S : Spot w mean mg mb A A₀ base outer env h₀ L m s.heap) (hdp : A.depth ≤ 600) (hun : A.units ≤ 600)  :
    Does w A 98 [.bool false] [] [] s (fun v _ => v = .bool false) := by
  refine' does_of 600 600 S hdp hun (by decide) [] ?hN _ (binds := [(Str.ofString "x", .bool false)]) ?ho ?hcd ?hb ?hl ?c1 ?c2 ?c3 ?c4 ?_
  case hN => exact News.nil
  case ho => k_is
  case hcd => k_is
  case hb => exact BindsTo.of_eq rfl
  case hl => exact locs rfl
  case c1 => exact rfl
  case c2 => exact rfl
  case c3 => exact rfl
  case c4 => decide
  intro g L' h₁ F N B X T hg hlt hnone
  k_fold

  (repeat' (first | (k_unfold; (try dsimp only)) | ((with_reducible show wpAny _ _ (call (Value.ref _) _ _) _ _ _); (first | (refine useI (add_does ⟨by assumption, by assumption, by assumption, by assumption, rfl, rfl, rfl, rfl⟩ (Nat.le_of_ble_eq_true rfl) (Nat.le_of_ble_eq_true rfl) ) (by assumption) (by assumption) ?_; intro _ _ _ _ _; (try k_sweep)) | (refine useI (sub_does ⟨by assumption, by assumption, by assumption, by assumption, rfl, rfl, rfl, rfl⟩ (Nat.le_of_ble_eq_true rfl) (Nat.le_of_ble_eq_true rfl) ) (by assumption) (by assumption) ?_; intro _ _ _ _ _; (try k_sweep)) | (refine useI (and_does ⟨by assumption, by assumption, by assumption, by assumption, rfl, rfl, rfl, rfl⟩ (Nat.le_of_ble_eq_true rfl) (Nat.le_of_ble_eq_true rfl) ) (by assumption) (by assumption) ?_; intro _ _ _ _ _; (try k_sweep)) | (refine useI (or_does ⟨by assumption, by assumption, by assumption, by assumption, rfl, rfl, rfl, rfl⟩ (Nat.le_of_ble_eq_true rfl) (Nat.le_of_ble_eq_true rfl) ) (by assumption) (by assumption) ?_; intro _ _ _ _ _; (try k_sweep)) | (refine useI (xor_does ⟨by assumption, by assumption, by assumption, by assumption, rfl, rfl, rfl, rfl⟩ (Nat.le_of_ble_eq_true rfl) (Nat.le_of_ble_eq_true rfl) ) (by assumption) (by assumption) ?_; intro _ _ _ _ _; (try k_sweep)) | (refine useI (inv_does ⟨by assumption, by assumption, by assumption, by assumption, rfl, rfl, rfl, rfl⟩ (Nat.le_of_ble_eq_true rfl) (Nat.le_of_ble_eq_true rfl) ) (by assumption) (by assumption) ?_; intro _ _ _ _ _; (try k_sweep)) | (refine useI (neg_does ⟨by assumption, by assumption, by assumption, by assumption, rfl, rfl, rfl, rfl⟩ (Nat.le_of_ble_eq_true rfl) (Nat.le_of_ble_eq_true rfl) ) (by assumption) (by assumption) ?_; intro _ _ _ _ _; (try k_sweep)) | (refine useI (rsh_does ⟨by assumption, by assumption, by assumption, by assumption, rfl, rfl, rfl, rfl⟩ (Nat.le_of_ble_eq_true rfl) (Nat.le_of_ble_eq_true rfl) (by decide)) (by assumption) (by assumption) ?_; intro _ _ _ _ _; (try k_sweep)) | (refine useI (lsh_does ⟨by assumption, by assumption, by assumption, by assumption, rfl, rfl, rfl, rfl⟩ (Nat.le_of_ble_eq_true rfl) (Nat.le_of_ble_eq_true rfl) (by decide) (by decide) (by omega)) (by assumption) (by assumption) ?_; intro _ _ _ _ _; (try k_sweep)))) | ((fail_if_success (with_reducible show wpAny _ _ (exec (Stmt.While _ _ _ _) _) _ _ _)); (fail_if_success (with_reducible show wpAny _ _ (exec (Stmt.For _ _ _ _ _) _) _ _ _)); (fail_if_success (with_reducible show wpAny _ _ (call (Value.ref _) _ _) _ _ _)); (fail_if_success (with_reducible show KswEnd _ _ _ _ _ _ _ _ _ _ _ _)); (fail_if_success (with_reducible show wpAny _ _ (eval (Expr.ListComp _ _ _ _) _) _ _ _)); (fail_if_success (with_reducible show wpAny _ _ (exec (Stmt.Assign _ (Expr.ListComp _ _ _ _) _) _) _ _ _)); (fail_if_success (with_reducible show Out _ _ _ _ _)); (fail_if_success (with_reducible show LCg.CompEnd _ _ _ _ _ _ _ _ _ _ _ _ _ _)); (fail_if_success (with_reducible show LCg.CompSrc _ _ _ _ _ _ _ _ _ _ _ _ _ _)); (fail_if_success (with_reducible show LCt.CompSrcT _ _ _ _ _ _ _ _ _ _ _ _ _ _ _)); (fail_if_success (with_reducible show Meet _ _ _)); (fail_if_success (with_reducible show wpAny _ _ (pyIter _) _ _ _)); (fail_if_success (with_reducible show LEnd _ _ _ _ _ _ _ _ _ _ _)); (fail_if_success (with_reducible show LPost _ _ _ _ _ _ _ _ _ _ _ _ _)); first | walk1 | (dsimp only; walk1)) | (k_end; dsimp only; k_unfold; (try dsimp only)) | fail "no step"))
  rename Fr _ _ _ _ => F9
  exact ⟨_, _, rfl, F9.keep, rfl⟩


end

section
set_option maxRecDepth 100000

theorem fill8 : hd.heap_39 = hd.heap_39 ∧ PySem.Challenge.rw_oy0042_01 = PySem.Challenge.rw_oy0042_01 := by
  w_top off
  k_fill
  exact ⟨rfl, rfl⟩


noncomputable def b64L : List UInt8 := [65, 66, 67, 68, 69, 70, 71, 72, 73, 74, 75, 76, 77, 78, 79, 80, 81, 82, 83, 84, 85, 86, 87, 88, 89, 90, 97, 98, 99, 100, 101, 102, 103, 104, 105, 106, 107, 108, 109, 110, 111, 112, 113, 114, 115, 116, 117, 118, 119, 120, 121, 122, 48, 49, 50, 51, 52, 53, 54, 55, 56, 57, 43, 47]
noncomputable def t64 (e : Int) : Int := ((b64L.getD e.toNat 0).toNat : Int)
theorem t64_in (e : Int) : 0 ≤ t64 e ∧ t64 e < 256 := by
  unfold t64
  have := (b64L.getD e.toNat 0).toNat_lt
  omega
theorem idx64 {w : World} {A : Around} {E : Value → Shared → Prop} {s : Shared} {value slice : PySem.Expr} {e k : Int} {t ui : Tok} {Q : Value → Shared → Prop} (he : e = k) (h0 : 0 ≤ k) (h1 : k < 64) (h : Q (.int (t64 k) s.toks) { s with toks := s.toks + 1 })
    (hs : subscripted slice false (.bytes b64L.toArray t) (.int e ui) = operate [.bytes b64L.toArray t, .int e ui] (getItem (.bytes b64L.toArray t) (.int e ui)))
    (ht : ∀ r, letTemporaryGo value (.bytes b64L.toArray t) r = pure ()) :
    wpAny (model PG w) A (subscriptTail value slice (.bytes b64L.toArray t) (.int e ui)) Q E s := by
  subst he
  exact KBy.item_N (x := b64L) (by decide) h0 (by show e < 64; exact h1) h hs ht
theorem ix1 {x : Int} (h0 : 0 ≤ x) (h1 : x < 256) : Builtin.bitAnd ((x % 65536).fdiv (2 ^ Int.toNat 2)) 63 = x / 4 := by
  rw [bitAnd_m6, Int.fdiv_eq_ediv_of_nonneg _ (by decide)]
  show x % 65536 / 4 % 64 = x / 4
  omega
theorem ix2 (x y : Int) : Builtin.bitAnd (((x * 256 + y) % 65536).fdiv (2 ^ Int.toNat 4)) 63 = (x * 256 + y) / 16 % 64 := by
  rw [bitAnd_m6, Int.fdiv_eq_ediv_of_nonneg _ (by decide)]
  show (x * 256 + y) % 65536 / 16 % 64 = (x * 256 + y) / 16 % 64
  omega
theorem ix3 (x y z : Int) : Builtin.bitAnd (((((x * 256 + y) % 65536) * 256 + z) % 65536).fdiv (2 ^ Int.toNat 6)) 63 = (y * 256 + z) / 64 % 64 := by
  rw [bitAnd_m6, Int.fdiv_eq_ediv_of_nonneg _ (by decide)]
  show ((((x * 256 + y) % 65536) * 256 + z) % 65536) / 64 % 64 = (y * 256 + z) / 64 % 64
  omega
theorem ix4 (x y z : Int) : Builtin.bitAnd (((((x * 256 + y) % 65536) * 256 + z) % 65536).fdiv (2 ^ Int.toNat 0)) 63 = z % 64 := by
  rw [bitAnd_m6, Int.fdiv_eq_ediv_of_nonneg _ (by decide)]
  show ((((x * 256 + y) % 65536) * 256 + z) % 65536) / 1 % 64 = z % 64
  omega
theorem lc1 {x : Int} (hx0 : 0 ≤ x) (hx1 : x < 256) : Builtin.bitAnd (Builtin.bitOr (0 * 2 ^ Int.toNat 8) x) 65535 = x % 65536 := by
  rw [b64_char (Int.le_refl 0) hx0 hx1]; congr 1; omega
theorem lc2 {x y : Int} (hx0 : 0 ≤ x) (hx1 : x < 256) (hy0 : 0 ≤ y) (hy1 : y < 256) : Builtin.bitAnd (Builtin.bitOr (x % 65536 * 2 ^ Int.toNat 8) y) 65535 = (x * 256 + y) % 65536 := by
  rw [b64_char (by omega) hy0 hy1]; congr 2; omega
theorem lc3 {a z : Int} (hz0 : 0 ≤ z) (hz1 : z < 256) : Builtin.bitAnd (Builtin.bitOr (a % 65536 * 2 ^ Int.toNat 8) z) 65535 = ((a % 65536) * 256 + z) % 65536 := by
  rw [b64_char (by omega) hz0 hz1]

set_option maxHeartbeats 4000000 in
theorem b2a_does {w : World} {mean : ExcName → Option Value} {mg mb : Str → Option Value} {A A₀ : Around} {base h₀ : Heap} {outer : List Env} {env : Env} {L : Addr} {m : Str → Option Value} {s : Shared}
    (S : Spot w mean mg mb A A₀ base outer env h₀ L m s.heap) (hdp : A.depth ≤ 590) (hun : A.units ≤ 590)
    {b : Array UInt8} {t1 : Tok} {x y z : Int} (hb : KBw.bInts b = [x, y, z]) :
    Does w A 106 [.bytes b t1] [(Str.ofString "newline", .bool false)] [] s (fun v _ => ∃ c t, v = .bytes c t ∧ KBw.bInts c = [t64 (x / 4), t64 ((x * 256 + y) / 16 % 64), t64 ((y * 256 + z) / 64 % 64), t64 (z % 64)]) := by
  refine' does_of 590 590 S hdp hun (by decide) [] ?hN _ (binds := [(Str.ofString "data", .bytes b t1), (Str.ofString "newline", .bool false)]) ?ho ?hcd ?hb ?hl ?c1 ?c2 ?c3 ?c4 ?_
  case hN => exact News.nil
  case ho => k_is
  case hcd => k_is
  case hb => first | exact BindsTo.of_eq rfl | exact binds_K (S.X.keeps S.F.keep) rfl (by k_is) rfl rfl rfl
  case hl => exact locs rfl
  case c1 => exact rfl
  case c2 => exact rfl
  case c3 => exact rfl
  case c4 => decide
  intro g L' h₁ F N B X T hg hlt hnone
  k_fold

  (repeat' (first | (k_unfold; (try dsimp only)) | ((with_reducible show wpAny _ _ (call (Value.ref _) _ _) _ _ _); (first | (refine useI (add_does ⟨by assumption, by assumption, by assumption, by assumption, rfl, rfl, rfl, rfl⟩ (Nat.le_of_ble_eq_true rfl) (Nat.le_of_ble_eq_true rfl) ) (by assumption) (by assumption) ?_; intro _ _ _ _ _; (try k_sweep)) | (refine useI (sub_does ⟨by assumption, by assumption, by assumption, by assumption, rfl, rfl, rfl, rfl⟩ (Nat.le_of_ble_eq_true rfl) (Nat.le_of_ble_eq_true rfl) ) (by assumption) (by assumption) ?_; intro _ _ _ _ _; (try k_sweep)) | (refine useI (and_does ⟨by assumption, by assumption, by assumption, by assumption, rfl, rfl, rfl, rfl⟩ (Nat.le_of_ble_eq_true rfl) (Nat.le_of_ble_eq_true rfl) ) (by assumption) (by assumption) ?_; intro _ _ _ _ _; (try k_sweep)) | (refine useI (or_does ⟨by assumption, by assumption, by assumption, by assumption, rfl, rfl, rfl, rfl⟩ (Nat.le_of_ble_eq_true rfl) (Nat.le_of_ble_eq_true rfl) ) (by assumption) (by assumption) ?_; intro _ _ _ _ _; (try k_sweep)) | (refine useI (xor_does ⟨by assumption, by assumption, by assumption, by assumption, rfl, rfl, rfl, rfl⟩ (Nat.le_of_ble_eq_true rfl) (Nat.le_of_ble_eq_true rfl) ) (by assumption) (by assumption) ?_; intro _ _ _ _ _; (try k_sweep)) | (refine useI (inv_does ⟨by assumption, by assumption, by assumption, by assumption, rfl, rfl, rfl, rfl⟩ (Nat.le_of_ble_eq_true rfl) (Nat.le_of_ble_eq_true rfl) ) (by assumption) (by assumption) ?_; intro _ _ _ _ _; (try k_sweep)) | (refine useI (neg_does ⟨by assumption, by assumption, by assumption, by assumption, rfl, rfl, rfl, rfl⟩ (Nat.le_of_ble_eq_true rfl) (Nat.le_of_ble_eq_true rfl) ) (by assumption) (by assumption) ?_; intro _ _ _ _ _; (try k_sweep)) | (refine useI (rsh_does ⟨by assumption, by assumption, by assumption, by assumption, rfl, rfl, rfl, rfl⟩ (Nat.le_of_ble_eq_true rfl) (Nat.le_of_ble_eq_true rfl) (by decide)) (by assumption) (by assumption) ?_; intro _ _ _ _ _; (try k_sweep)) | (refine useI (lsh_does ⟨by assumption, by assumption, by assumption, by assumption, rfl, rfl, rfl, rfl⟩ (Nat.le_of_ble_eq_true rfl) (Nat.le_of_ble_eq_true rfl) (by decide) (by decide) (by omega)) (by assumption) (by assumption) ?_; intro _ _ _ _ _; (try k_sweep)))) | ((fail_if_success (with_reducible show wpAny _ _ (exec (Stmt.While _ _ _ _) _) _ _ _)); (fail_if_success (with_reducible show wpAny _ _ (exec (Stmt.For _ _ _ _ _) _) _ _ _)); (fail_if_success (with_reducible show wpAny _ _ (call (Value.ref _) _ _) _ _ _)); (fail_if_success (with_reducible show KswEnd _ _ _ _ _ _ _ _ _ _ _ _)); (fail_if_success (with_reducible show wpAny _ _ (eval (Expr.ListComp _ _ _ _) _) _ _ _)); (fail_if_success (with_reducible show wpAny _ _ (exec (Stmt.Assign _ (Expr.ListComp _ _ _ _) _) _) _ _ _)); (fail_if_success (with_reducible show Out _ _ _ _ _)); (fail_if_success (with_reducible show LCg.CompEnd _ _ _ _ _ _ _ _ _ _ _ _ _ _)); (fail_if_success (with_reducible show LCg.CompSrc _ _ _ _ _ _ _ _ _ _ _ _ _ _)); (fail_if_success (with_reducible show LCt.CompSrcT _ _ _ _ _ _ _ _ _ _ _ _ _ _ _)); (fail_if_success (with_reducible show Meet _ _ _)); (fail_if_success (with_reducible show wpAny _ _ (pyIter _) _ _ _)); (fail_if_success (with_reducible show LEnd _ _ _ _ _ _ _ _ _ _ _)); (fail_if_success (with_reducible show LPost _ _ _ _ _ _ _ _ _ _ _ _ _)); first | walk1 | (dsimp only; walk1)) | (k_end; dsimp only; k_unfold; (try dsimp only)) | fail "no step"))
  refine use0 (buffer_does ⟨by assumption, by assumption, by assumption, by assumption, rfl, rfl, rfl, rfl⟩ (Nat.le_of_ble_eq_true rfl) (Nat.le_of_ble_eq_true rfl)) (by assumption) (by assumption) ?_
  rintro _ _ _ _ _ rfl
  (repeat' (first | (k_unfold; (try dsimp only)) | ((with_reducible show wpAny _ _ (call (Value.ref _) _ _) _ _ _); (first | (refine useI (add_does ⟨by assumption, by assumption, by assumption, by assumption, rfl, rfl, rfl, rfl⟩ (Nat.le_of_ble_eq_true rfl) (Nat.le_of_ble_eq_true rfl) ) (by assumption) (by assumption) ?_; intro _ _ _ _ _; (try k_sweep)) | (refine useI (sub_does ⟨by assumption, by assumption, by assumption, by assumption, rfl, rfl, rfl, rfl⟩ (Nat.le_of_ble_eq_true rfl) (Nat.le_of_ble_eq_true rfl) ) (by assumption) (by assumption) ?_; intro _ _ _ _ _; (try k_sweep)) | (refine useI (and_does ⟨by assumption, by assumption, by assumption, by assumption, rfl, rfl, rfl, rfl⟩ (Nat.le_of_ble_eq_true rfl) (Nat.le_of_ble_eq_true rfl) ) (by assumption) (by assumption) ?_; intro _ _ _ _ _; (try k_sweep)) | (refine useI (or_does ⟨by assumption, by assumption, by assumption, by assumption, rfl, rfl, rfl, rfl⟩ (Nat.le_of_ble_eq_true rfl) (Nat.le_of_ble_eq_true rfl) ) (by assumption) (by assumption) ?_; intro _ _ _ _ _; (try k_sweep)) | (refine useI (xor_does ⟨by assumption, by assumption, by assumption, by assumption, rfl, rfl, rfl, rfl⟩ (Nat.le_of_ble_eq_true rfl) (Nat.le_of_ble_eq_true rfl) ) (by assumption) (by assumption) ?_; intro _ _ _ _ _; (try k_sweep)) | (refine useI (inv_does ⟨by assumption, by assumption, by assumption, by assumption, rfl, rfl, rfl, rfl⟩ (Nat.le_of_ble_eq_true rfl) (Nat.le_of_ble_eq_true rfl) ) (by assumption) (by assumption) ?_; intro _ _ _ _ _; (try k_sweep)) | (refine useI (neg_does ⟨by assumption, by assumption, by assumption, by assumption, rfl, rfl, rfl, rfl⟩ (Nat.le_of_ble_eq_true rfl) (Nat.le_of_ble_eq_true rfl) ) (by assumption) (by assumption) ?_; intro _ _ _ _ _; (try k_sweep)) | (refine useI (rsh_does ⟨by assumption, by assumption, by assumption, by assumption, rfl, rfl, rfl, rfl⟩ (Nat.le_of_ble_eq_true rfl) (Nat.le_of_ble_eq_true rfl) (by decide)) (by assumption) (by assumption) ?_; intro _ _ _ _ _; (try k_sweep)) | (refine useI (lsh_does ⟨by assumption, by assumption, by assumption, by assumption, rfl, rfl, rfl, rfl⟩ (Nat.le_of_ble_eq_true rfl) (Nat.le_of_ble_eq_true rfl) (by decide) (by decide) (by omega)) (by assumption) (by assumption) ?_; intro _ _ _ _ _; (try k_sweep)))) | ((fail_if_success (with_reducible show wpAny _ _ (exec (Stmt.While _ _ _ _) _) _ _ _)); (fail_if_success (with_reducible show wpAny _ _ (exec (Stmt.For _ _ _ _ _) _) _ _ _)); (fail_if_success (with_reducible show wpAny _ _ (call (Value.ref _) _ _) _ _ _)); (fail_if_success (with_reducible show KswEnd _ _ _ _ _ _ _ _ _ _ _ _)); (fail_if_success (with_reducible show wpAny _ _ (eval (Expr.ListComp _ _ _ _) _) _ _ _)); (fail_if_success (with_reducible show wpAny _ _ (exec (Stmt.Assign _ (Expr.ListComp _ _ _ _) _) _) _ _ _)); (fail_if_success (with_reducible show Out _ _ _ _ _)); (fail_if_success (with_reducible show LCg.CompEnd _ _ _ _ _ _ _ _ _ _ _ _ _ _)); (fail_if_success (with_reducible show LCg.CompSrc _ _ _ _ _ _ _ _ _ _ _ _ _ _)); (fail_if_success (with_reducible show LCt.CompSrcT _ _ _ _ _ _ _ _ _ _ _ _ _ _ _)); (fail_if_success (with_reducible show Meet _ _ _)); (fail_if_success (with_reducible show wpAny _ _ (pyIter _) _ _ _)); (fail_if_success (with_reducible show LEnd _ _ _ _ _ _ _ _ _ _ _)); (fail_if_success (with_reducible show LPost _ _ _ _ _ _ _ _ _ _ _ _ _)); first | walk1 | (dsimp only; walk1)) | (k_end; dsimp only; k_unfold; (try dsimp only)) | fail "no step"))
  refine use0 (truth_does ⟨by assumption, by assumption, by assumption, by assumption, rfl, rfl, rfl, rfl⟩ (Nat.le_of_ble_eq_true rfl) (Nat.le_of_ble_eq_true rfl)) (by assumption) (by assumption) ?_
  rintro _ _ _ _ _ rfl
  (repeat' (first | (k_unfold; (try dsimp only)) | ((with_reducible show wpAny _ _ (call (Value.ref _) _ _) _ _ _); (first | (refine useI (add_does ⟨by assumption, by assumption, by assumption, by assumption, rfl, rfl, rfl, rfl⟩ (Nat.le_of_ble_eq_true rfl) (Nat.le_of_ble_eq_true rfl) ) (by assumption) (by assumption) ?_; intro _ _ _ _ _; (try k_sweep)) | (refine useI (sub_does ⟨by assumption, by assumption, by assumption, by assumption, rfl, rfl, rfl, rfl⟩ (Nat.le_of_ble_eq_true rfl) (Nat.le_of_ble_eq_true rfl) ) (by assumption) (by assumption) ?_; intro _ _ _ _ _; (try k_sweep)) | (refine useI (and_does ⟨by assumption, by assumption, by assumption, by assumption, rfl, rfl, rfl, rfl⟩ (Nat.le_of_ble_eq_true rfl) (Nat.le_of_ble_eq_true rfl) ) (by assumption) (by assumption) ?_; intro _ _ _ _ _; (try k_sweep)) | (refine useI (or_does ⟨by assumption, by assumption, by assumption, by assumption, rfl, rfl, rfl, rfl⟩ (Nat.le_of_ble_eq_true rfl) (Nat.le_of_ble_eq_true rfl) ) (by assumption) (by assumption) ?_; intro _ _ _ _ _; (try k_sweep)) | (refine useI (xor_does ⟨by assumption, by assumption, by assumption, by assumption, rfl, rfl, rfl, rfl⟩ (Nat.le_of_ble_eq_true rfl) (Nat.le_of_ble_eq_true rfl) ) (by assumption) (by assumption) ?_; intro _ _ _ _ _; (try k_sweep)) | (refine useI (inv_does ⟨by assumption, by assumption, by assumption, by assumption, rfl, rfl, rfl, rfl⟩ (Nat.le_of_ble_eq_true rfl) (Nat.le_of_ble_eq_true rfl) ) (by assumption) (by assumption) ?_; intro _ _ _ _ _; (try k_sweep)) | (refine useI (neg_does ⟨by assumption, by assumption, by assumption, by assumption, rfl, rfl, rfl, rfl⟩ (Nat.le_of_ble_eq_true rfl) (Nat.le_of_ble_eq_true rfl) ) (by assumption) (by assumption) ?_; intro _ _ _ _ _; (try k_sweep)) | (refine useI (rsh_does ⟨by assumption, by assumption, by assumption, by assumption, rfl, rfl, rfl, rfl⟩ (Nat.le_of_ble_eq_true rfl) (Nat.le_of_ble_eq_true rfl) (by decide)) (by assumption) (by assumption) ?_; intro _ _ _ _ _; (try k_sweep)) | (refine useI (lsh_does ⟨by assumption, by assumption, by assumption, by assumption, rfl, rfl, rfl, rfl⟩ (Nat.le_of_ble_eq_true rfl) (Nat.le_of_ble_eq_true rfl) (by decide) (by decide) (by omega)) (by assumption) (by assumption) ?_; intro _ _ _ _ _; (try k_sweep)))) | ((fail_if_success (with_reducible show wpAny _ _ (exec (Stmt.While _ _ _ _) _) _ _ _)); (fail_if_success (with_reducible show wpAny _ _ (exec (Stmt.For _ _ _ _ _) _) _ _ _)); (fail_if_success (with_reducible show wpAny _ _ (call (Value.ref _) _ _) _ _ _)); (fail_if_success (with_reducible show KswEnd _ _ _ _ _ _ _ _ _ _ _ _)); (fail_if_success (with_reducible show wpAny _ _ (eval (Expr.ListComp _ _ _ _) _) _ _ _)); (fail_if_success (with_reducible show wpAny _ _ (exec (Stmt.Assign _ (Expr.ListComp _ _ _ _) _) _) _ _ _)); (fail_if_success (with_reducible show Out _ _ _ _ _)); (fail_if_success (with_reducible show LCg.CompEnd _ _ _ _ _ _ _ _ _ _ _ _ _ _)); (fail_if_success (with_reducible show LCg.CompSrc _ _ _ _ _ _ _ _ _ _ _ _ _ _)); (fail_if_success (with_reducible show LCt.CompSrcT _ _ _ _ _ _ _ _ _ _ _ _ _ _ _)); (fail_if_success (with_reducible show Meet _ _ _)); (fail_if_success (with_reducible show wpAny _ _ (pyIter _) _ _ _)); (fail_if_success (with_reducible show LEnd _ _ _ _ _ _ _ _ _ _ _)); (fail_if_success (with_reducible show LPost _ _ _ _ _ _ _ _ _ _ _ _ _)); first | walk1 | (dsimp only; walk1)) | (k_end; dsimp only; k_unfold; (try dsimp only)) | fail "no step"))
  refine For_invV g rfl rfl ?_
  (repeat' (first | (k_unfold; (try dsimp only)) | ((with_reducible show wpAny _ _ (call (Value.ref _) _ _) _ _ _); (first | (refine useI (add_does ⟨by assumption, by assumption, by assumption, by assumption, rfl, rfl, rfl, rfl⟩ (Nat.le_of_ble_eq_true rfl) (Nat.le_of_ble_eq_true rfl) ) (by assumption) (by assumption) ?_; intro _ _ _ _ _; (try k_sweep)) | (refine useI (sub_does ⟨by assumption, by assumption, by assumption, by assumption, rfl, rfl, rfl, rfl⟩ (Nat.le_of_ble_eq_true rfl) (Nat.le_of_ble_eq_true rfl) ) (by assumption) (by assumption) ?_; intro _ _ _ _ _; (try k_sweep)) | (refine useI (and_does ⟨by assumption, by assumption, by assumption, by assumption, rfl, rfl, rfl, rfl⟩ (Nat.le_of_ble_eq_true rfl) (Nat.le_of_ble_eq_true rfl) ) (by assumption) (by assumption) ?_; intro _ _ _ _ _; (try k_sweep)) | (refine useI (or_does ⟨by assumption, by assumption, by assumption, by assumption, rfl, rfl, rfl, rfl⟩ (Nat.le_of_ble_eq_true rfl) (Nat.le_of_ble_eq_true rfl) ) (by assumption) (by assumption) ?_; intro _ _ _ _ _; (try k_sweep)) | (refine useI (xor_does ⟨by assumption, by assumption, by assumption, by assumption, rfl, rfl, rfl, rfl⟩ (Nat.le_of_ble_eq_true rfl) (Nat.le_of_ble_eq_true rfl) ) (by assumption) (by assumption) ?_; intro _ _ _ _ _; (try k_sweep)) | (refine useI (inv_does ⟨by assumption, by assumption, by assumption, by assumption, rfl, rfl, rfl, rfl⟩ (Nat.le_of_ble_eq_true rfl) (Nat.le_of_ble_eq_true rfl) ) (by assumption) (by assumption) ?_; intro _ _ _ _ _; (try k_sweep)) | (refine useI (neg_does ⟨by assumption, by assumption, by assumption, by assumption, rfl, rfl, rfl, rfl⟩ (Nat.le_of_ble_eq_true rfl) (Nat.le_of_ble_eq_true rfl) ) (by assumption) (by assumption) ?_; intro _ _ _ _ _; (try k_sweep)) | (refine useI (rsh_does ⟨by assumption, by assumption, by assumption, by assumption, rfl, rfl, rfl, rfl⟩ (Nat.le_of_ble_eq_true rfl) (Nat.le_of_ble_eq_true rfl) (by decide)) (by assumption) (by assumption) ?_; intro _ _ _ _ _; (try k_sweep)) | (refine useI (lsh_does ⟨by assumption, by assumption, by assumption, by assumption, rfl, rfl, rfl, rfl⟩ (Nat.le_of_ble_eq_true rfl) (Nat.le_of_ble_eq_true rfl) (by decide) (by decide) (by omega)) (by assumption) (by assumption) ?_; intro _ _ _ _ _; (try k_sweep)))) | ((fail_if_success (with_reducible show wpAny _ _ (exec (Stmt.While _ _ _ _) _) _ _ _)); (fail_if_success (with_reducible show wpAny _ _ (exec (Stmt.For _ _ _ _ _) _) _ _ _)); (fail_if_success (with_reducible show wpAny _ _ (call (Value.ref _) _ _) _ _ _)); (fail_if_success (with_reducible show KswEnd _ _ _ _ _ _ _ _ _ _ _ _)); (fail_if_success (with_reducible show wpAny _ _ (eval (Expr.ListComp _ _ _ _) _) _ _ _)); (fail_if_success (with_reducible show wpAny _ _ (exec (Stmt.Assign _ (Expr.ListComp _ _ _ _) _) _) _ _ _)); (fail_if_success (with_reducible show Out _ _ _ _ _)); (fail_if_success (with_reducible show LCg.CompEnd _ _ _ _ _ _ _ _ _ _ _ _ _ _)); (fail_if_success (with_reducible show LCg.CompSrc _ _ _ _ _ _ _ _ _ _ _ _ _ _)); (fail_if_success (with_reducible show LCt.CompSrcT _ _ _ _ _ _ _ _ _ _ _ _ _ _ _)); (fail_if_success (with_reducible show Meet _ _ _)); (fail_if_success (with_reducible show wpAny _ _ (pyIter _) _ _ _)); (fail_if_success (with_reducible show LEnd _ _ _ _ _ _ _ _ _ _ _)); (fail_if_success (with_reducible show LPost _ _ _ _ _ _ _ _ _ _ _ _ _)); first | walk1 | (dsimp only; walk1)) | (k_end; dsimp only; k_unfold; (try dsimp only)) | fail "no step"))
  rename Fr _ _ _ _ => F9
  rename News _ _ _ _ => N9
  refine iter_bytesUnr (l := [x, y, z]) rfl F9 N9 hb ?_
  intro I hI
  k_lt hI
  (try clear F9)
  (try clear N9)
  refine BytesRest.succ fun hx0 hx1 u it h tk F9 N9 => ?_
  (repeat' (first
  | (k_unfold; (try dsimp only))
  | ((with_reducible show wpAny _ _ (binaryOp Operator.LShift (Value.int _ _) (Value.int _ _)) _ _ _); refine lshift_int_small (by decide) (by decide) (by omega) ?_; (try dsimp only))
  | ((fail_if_success (with_reducible show wpAny _ _ (exec (Stmt.While _ _ _ _) _) _ _ _)); (fail_if_success (with_reducible show wpAny _ _ (exec (Stmt.For _ _ _ _ _) _) _ _ _)); (fail_if_success (with_reducible show wpAny _ _ (call (Value.ref _) _ _) _ _ _)); (fail_if_success (with_reducible show KswEnd _ _ _ _ _ _ _ _ _ _ _ _)); (fail_if_success (with_reducible show wpAny _ _ (eval (Expr.ListComp _ _ _ _) _) _ _ _)); (fail_if_success (with_reducible show wpAny _ _ (exec (Stmt.Assign _ (Expr.ListComp _ _ _ _) _) _) _ _ _)); (fail_if_success (with_reducible show Out _ _ _ _ _)); (fail_if_success (with_reducible show LCg.CompEnd _ _ _ _ _ _ _ _ _ _ _ _ _ _)); (fail_if_success (with_reducible show LCg.CompSrc _ _ _ _ _ _ _ _ _ _ _ _ _ _)); (fail_if_success (with_reducible show LCt.CompSrcT _ _ _ _ _ _ _ _ _ _ _ _ _ _ _)); (fail_if_success (with_reducible show Meet _ _ _)); (fail_if_success (with_reducible show wpAny _ _ (pyIter _) _ _ _)); (fail_if_success (with_reducible show LEnd _ _ _ _ _ _ _ _ _ _ _)); (fail_if_success (with_reducible show LPost _ _ _ _ _ _ _ _ _ _ _ _ _)); (fail_if_success (with_reducible show BytesRest _ _ _ _ _ _ _ _ _ _ _ _ _ _)); first | walk1 | (dsimp only; walk1))
  | (k_end; dsimp only; k_unfold; (try dsimp only))
  | fail "no step"))
  (try clear F9)
  (try clear N9)
  rename Fr _ _ _ _ => F9
  rename News _ _ _ _ => N9
  rw [lc1 hx0 hx1] at F9
  dsimp only at F9
  refine whl_start 3 ?_
  (repeat' (first
  | (k_unfold; (try dsimp only))
  | ((with_reducible show wpAny _ _ (binaryOp Operator.LShift (Value.int _ _) (Value.int _ _)) _ _ _); refine lshift_int_small (by decide) (by decide) (by omega) ?_; (try dsimp only))
  | ((fail_if_success (with_reducible show wpAny _ _ (call (Value.ref _) _ _) _ _ _)); (fail_if_success (with_reducible show KswEnd _ _ _ _ _ _ _ _ _ _ _ _)); (fail_if_success (with_reducible show wpAny _ _ (eval (Expr.ListComp _ _ _ _) _) _ _ _)); (fail_if_success (with_reducible show wpAny _ _ (exec (Stmt.Assign _ (Expr.ListComp _ _ _ _) _) _) _ _ _)); (fail_if_success (with_reducible show Out _ _ _ _ _)); (fail_if_success (with_reducible show LCg.CompEnd _ _ _ _ _ _ _ _ _ _ _ _ _ _)); (fail_if_success (with_reducible show LCg.CompSrc _ _ _ _ _ _ _ _ _ _ _ _ _ _)); (fail_if_success (with_reducible show LCt.CompSrcT _ _ _ _ _ _ _ _ _ _ _ _ _ _ _)); (fail_if_success (with_reducible show Meet _ _ _)); (fail_if_success (with_reducible show LEnd _ _ _ _ _ _ _ _ _ _ _)); (fail_if_success (with_reducible show LPost _ _ _ _ _ _ _ _ _ _ _ _ _)); (fail_if_success (with_reducible show BytesRest _ _ _ _ _ _ _ _ _ _ _ _ _ _)); (fail_if_success (with_reducible show wpAny _ _ (subscriptTail _ _ (Value.bytes _ _) (Value.int _ _)) _ _ _)); first | walk1 | (dsimp only; walk1))
  | (k_end; dsimp only; k_unfold; (try dsimp only))
  | fail "no step"))
  refine idx64 (k := x / 4) (ix1 hx0 hx1) (by omega) (by omega) ?_ (by with_unfolding_all rfl) (by intro _; with_unfolding_all rfl)
  (repeat' (first
  | (k_unfold; (try dsimp only))
  | ((with_reducible show wpAny _ _ (binaryOp Operator.LShift (Value.int _ _) (Value.int _ _)) _ _ _); refine lshift_int_small (by decide) (by decide) (by omega) ?_; (try dsimp only))
  | ((fail_if_success (with_reducible show wpAny _ _ (call (Value.ref _) _ _) _ _ _)); (fail_if_success (with_reducible show KswEnd _ _ _ _ _ _ _ _ _ _ _ _)); (fail_if_success (with_reducible show wpAny _ _ (eval (Expr.ListComp _ _ _ _) _) _ _ _)); (fail_if_success (with_reducible show wpAny _ _ (exec (Stmt.Assign _ (Expr.ListComp _ _ _ _) _) _) _ _ _)); (fail_if_success (with_reducible show Out _ _ _ _ _)); (fail_if_success (with_reducible show LCg.CompEnd _ _ _ _ _ _ _ _ _ _ _ _ _ _)); (fail_if_success (with_reducible show LCg.CompSrc _ _ _ _ _ _ _ _ _ _ _ _ _ _)); (fail_if_success (with_reducible show LCt.CompSrcT _ _ _ _ _ _ _ _ _ _ _ _ _ _ _)); (fail_if_success (with_reducible show Meet _ _ _)); (fail_if_success (with_reducible show LEnd _ _ _ _ _ _ _ _ _ _ _)); (fail_if_success (with_reducible show LPost _ _ _ _ _ _ _ _ _ _ _ _ _)); (fail_if_success (with_reducible show BytesRest _ _ _ _ _ _ _ _ _ _ _ _ _ _)); (fail_if_success (with_reducible show wpAny _ _ (subscriptTail _ _ (Value.bytes _ _) (Value.int _ _)) _ _ _)); first | walk1 | (dsimp only; walk1))
  | (k_end; dsimp only; k_unfold; (try dsimp only))
  | fail "no step"))
  (try clear F9)
  (try clear N9)
  refine BytesRest.succ fun hy0 hy1 u it h tk F9 N9 => ?_
  (repeat' (first
  | (k_unfold; (try dsimp only))
  | ((with_reducible show wpAny _ _ (binaryOp Operator.LShift (Value.int _ _) (Value.int _ _)) _ _ _); refine lshift_int_small (by decide) (by decide) (by omega) ?_; (try dsimp only))
  | ((fail_if_success (with_reducible show wpAny _ _ (exec (Stmt.While _ _ _ _) _) _ _ _)); (fail_if_success (with_reducible show wpAny _ _ (exec (Stmt.For _ _ _ _ _) _) _ _ _)); (fail_if_success (with_reducible show wpAny _ _ (call (Value.ref _) _ _) _ _ _)); (fail_if_success (with_reducible show KswEnd _ _ _ _ _ _ _ _ _ _ _ _)); (fail_if_success (with_reducible show wpAny _ _ (eval (Expr.ListComp _ _ _ _) _) _ _ _)); (fail_if_success (with_reducible show wpAny _ _ (exec (Stmt.Assign _ (Expr.ListComp _ _ _ _) _) _) _ _ _)); (fail_if_success (with_reducible show Out _ _ _ _ _)); (fail_if_success (with_reducible show LCg.CompEnd _ _ _ _ _ _ _ _ _ _ _ _ _ _)); (fail_if_success (with_reducible show LCg.CompSrc _ _ _ _ _ _ _ _ _ _ _ _ _ _)); (fail_if_success (with_reducible show LCt.CompSrcT _ _ _ _ _ _ _ _ _ _ _ _ _ _ _)); (fail_if_success (with_reducible show Meet _ _ _)); (fail_if_success (with_reducible show wpAny _ _ (pyIter _) _ _ _)); (fail_if_success (with_reducible show LEnd _ _ _ _ _ _ _ _ _ _ _)); (fail_if_success (with_reducible show LPost _ _ _ _ _ _ _ _ _ _ _ _ _)); (fail_if_success (with_reducible show BytesRest _ _ _ _ _ _ _ _ _ _ _ _ _ _)); first | walk1 | (dsimp only; walk1))
  | (k_end; dsimp only; k_unfold; (try dsimp only))
  | fail "no step"))
  (try clear F9)
  (try clear N9)
  rename Fr _ _ _ _ => F9
  rename News _ _ _ _ => N9
  rw [lc2 hx0 hx1 hy0 hy1] at F9
  dsimp only at F9
  refine whl_start 3 ?_
  (repeat' (first
  | (k_unfold; (try dsimp only))
  | ((with_reducible show wpAny _ _ (binaryOp Operator.LShift (Value.int _ _) (Value.int _ _)) _ _ _); refine lshift_int_small (by decide) (by decide) (by omega) ?_; (try dsimp only))
  | ((fail_if_success (with_reducible show wpAny _ _ (call (Value.ref _) _ _) _ _ _)); (fail_if_success (with_reducible show KswEnd _ _ _ _ _ _ _ _ _ _ _ _)); (fail_if_success (with_reducible show wpAny _ _ (eval (Expr.ListComp _ _ _ _) _) _ _ _)); (fail_if_success (with_reducible show wpAny _ _ (exec (Stmt.Assign _ (Expr.ListComp _ _ _ _) _) _) _ _ _)); (fail_if_success (with_reducible show Out _ _ _ _ _)); (fail_if_success (with_reducible show LCg.CompEnd _ _ _ _ _ _ _ _ _ _ _ _ _ _)); (fail_if_success (with_reducible show LCg.CompSrc _ _ _ _ _ _ _ _ _ _ _ _ _ _)); (fail_if_success (with_reducible show LCt.CompSrcT _ _ _ _ _ _ _ _ _ _ _ _ _ _ _)); (fail_if_success (with_reducible show Meet _ _ _)); (fail_if_success (with_reducible show LEnd _ _ _ _ _ _ _ _ _ _ _)); (fail_if_success (with_reducible show LPost _ _ _ _ _ _ _ _ _ _ _ _ _)); (fail_if_success (with_reducible show BytesRest _ _ _ _ _ _ _ _ _ _ _ _ _ _)); (fail_if_success (with_reducible show wpAny _ _ (subscriptTail _ _ (Value.bytes _ _) (Value.int _ _)) _ _ _)); first | walk1 | (dsimp only; walk1))
  | (k_end; dsimp only; k_unfold; (try dsimp only))
  | fail "no step"))
  refine idx64 (k := (x * 256 + y) / 16 % 64) (ix2 x y) (by omega) (by omega) ?_ (by with_unfolding_all rfl) (by intro _; with_unfolding_all rfl)
  (repeat' (first
  | (k_unfold; (try dsimp only))
  | ((with_reducible show wpAny _ _ (binaryOp Operator.LShift (Value.int _ _) (Value.int _ _)) _ _ _); refine lshift_int_small (by decide) (by decide) (by omega) ?_; (try dsimp only))
  | ((fail_if_success (with_reducible show wpAny _ _ (call (Value.ref _) _ _) _ _ _)); (fail_if_success (with_reducible show KswEnd _ _ _ _ _ _ _ _ _ _ _ _)); (fail_if_success (with_reducible show wpAny _ _ (eval (Expr.ListComp _ _ _ _) _) _ _ _)); (fail_if_success (with_reducible show wpAny _ _ (exec (Stmt.Assign _ (Expr.ListComp _ _ _ _) _) _) _ _ _)); (fail_if_success (with_reducible show Out _ _ _ _ _)); (fail_if_success (with_reducible show LCg.CompEnd _ _ _ _ _ _ _ _ _ _ _ _ _ _)); (fail_if_success (with_reducible show LCg.CompSrc _ _ _ _ _ _ _ _ _ _ _ _ _ _)); (fail_if_success (with_reducible show LCt.CompSrcT _ _ _ _ _ _ _ _ _ _ _ _ _ _ _)); (fail_if_success (with_reducible show Meet _ _ _)); (fail_if_success (with_reducible show LEnd _ _ _ _ _ _ _ _ _ _ _)); (fail_if_success (with_reducible show LPost _ _ _ _ _ _ _ _ _ _ _ _ _)); (fail_if_success (with_reducible show BytesRest _ _ _ _ _ _ _ _ _ _ _ _ _ _)); (fail_if_success (with_reducible show wpAny _ _ (subscriptTail _ _ (Value.bytes _ _) (Value.int _ _)) _ _ _)); first | walk1 | (dsimp only; walk1))
  | (k_end; dsimp only; k_unfold; (try dsimp only))
  | fail "no step"))
  (try clear F9)
  (try clear N9)
  refine BytesRest.succ fun hz0 hz1 u it h tk F9 N9 => ?_
  (repeat' (first
  | (k_unfold; (try dsimp only))
  | ((with_reducible show wpAny _ _ (binaryOp Operator.LShift (Value.int _ _) (Value.int _ _)) _ _ _); refine lshift_int_small (by decide) (by decide) (by omega) ?_; (try dsimp only))
  | ((fail_if_success (with_reducible show wpAny _ _ (exec (Stmt.While _ _ _ _) _) _ _ _)); (fail_if_success (with_reducible show wpAny _ _ (exec (Stmt.For _ _ _ _ _) _) _ _ _)); (fail_if_success (with_reducible show wpAny _ _ (call (Value.ref _) _ _) _ _ _)); (fail_if_success (with_reducible show KswEnd _ _ _ _ _ _ _ _ _ _ _ _)); (fail_if_success (with_reducible show wpAny _ _ (eval (Expr.ListComp _ _ _ _) _) _ _ _)); (fail_if_success (with_reducible show wpAny _ _ (exec (Stmt.Assign _ (Expr.ListComp _ _ _ _) _) _) _ _ _)); (fail_if_success (with_reducible show Out _ _ _ _ _)); (fail_if_success (with_reducible show LCg.CompEnd _ _ _ _ _ _ _ _ _ _ _ _ _ _)); (fail_if_success (with_reducible show LCg.CompSrc _ _ _ _ _ _ _ _ _ _ _ _ _ _)); (fail_if_success (with_reducible show LCt.CompSrcT _ _ _ _ _ _ _ _ _ _ _ _ _ _ _)); (fail_if_success (with_reducible show Meet _ _ _)); (fail_if_success (with_reducible show wpAny _ _ (pyIter _) _ _ _)); (fail_if_success (with_reducible show LEnd _ _ _ _ _ _ _ _ _ _ _)); (fail_if_success (with_reducible show LPost _ _ _ _ _ _ _ _ _ _ _ _ _)); (fail_if_success (with_reducible show BytesRest _ _ _ _ _ _ _ _ _ _ _ _ _ _)); first | walk1 | (dsimp only; walk1))
  | (k_end; dsimp only; k_unfold; (try dsimp only))
  | fail "no step"))
  (try clear F9)
  (try clear N9)
  rename Fr _ _ _ _ => F9
  rename News _ _ _ _ => N9
  rw [lc3 hz0 hz1] at F9
  dsimp only at F9
  refine whl_start 3 ?_
  (repeat' (first
  | (k_unfold; (try dsimp only))
  | ((with_reducible show wpAny _ _ (binaryOp Operator.LShift (Value.int _ _) (Value.int _ _)) _ _ _); refine lshift_int_small (by decide) (by decide) (by omega) ?_; (try dsimp only))
  | ((fail_if_success (with_reducible show wpAny _ _ (call (Value.ref _) _ _) _ _ _)); (fail_if_success (with_reducible show KswEnd _ _ _ _ _ _ _ _ _ _ _ _)); (fail_if_success (with_reducible show wpAny _ _ (eval (Expr.ListComp _ _ _ _) _) _ _ _)); (fail_if_success (with_reducible show wpAny _ _ (exec (Stmt.Assign _ (Expr.ListComp _ _ _ _) _) _) _ _ _)); (fail_if_success (with_reducible show Out _ _ _ _ _)); (fail_if_success (with_reducible show LCg.CompEnd _ _ _ _ _ _ _ _ _ _ _ _ _ _)); (fail_if_success (with_reducible show LCg.CompSrc _ _ _ _ _ _ _ _ _ _ _ _ _ _)); (fail_if_success (with_reducible show LCt.CompSrcT _ _ _ _ _ _ _ _ _ _ _ _ _ _ _)); (fail_if_success (with_reducible show Meet _ _ _)); (fail_if_success (with_reducible show LEnd _ _ _ _ _ _ _ _ _ _ _)); (fail_if_success (with_reducible show LPost _ _ _ _ _ _ _ _ _ _ _ _ _)); (fail_if_success (with_reducible show BytesRest _ _ _ _ _ _ _ _ _ _ _ _ _ _)); (fail_if_success (with_reducible show wpAny _ _ (subscriptTail _ _ (Value.bytes _ _) (Value.int _ _)) _ _ _)); first | walk1 | (dsimp only; walk1))
  | (k_end; dsimp only; k_unfold; (try dsimp only))
  | fail "no step"))
  refine idx64 (k := (y * 256 + z) / 64 % 64) (ix3 x y z) (by omega) (by omega) ?_ (by with_unfolding_all rfl) (by intro _; with_unfolding_all rfl)
  (repeat' (first
  | (k_unfold; (try dsimp only))
  | ((with_reducible show wpAny _ _ (binaryOp Operator.LShift (Value.int _ _) (Value.int _ _)) _ _ _); refine lshift_int_small (by decide) (by decide) (by omega) ?_; (try dsimp only))
  | ((fail_if_success (with_reducible show wpAny _ _ (call (Value.ref _) _ _) _ _ _)); (fail_if_success (with_reducible show KswEnd _ _ _ _ _ _ _ _ _ _ _ _)); (fail_if_success (with_reducible show wpAny _ _ (eval (Expr.ListComp _ _ _ _) _) _ _ _)); (fail_if_success (with_reducible show wpAny _ _ (exec (Stmt.Assign _ (Expr.ListComp _ _ _ _) _) _) _ _ _)); (fail_if_success (with_reducible show Out _ _ _ _ _)); (fail_if_success (with_reducible show LCg.CompEnd _ _ _ _ _ _ _ _ _ _ _ _ _ _)); (fail_if_success (with_reducible show LCg.CompSrc _ _ _ _ _ _ _ _ _ _ _ _ _ _)); (fail_if_success (with_reducible show LCt.CompSrcT _ _ _ _ _ _ _ _ _ _ _ _ _ _ _)); (fail_if_success (with_reducible show Meet _ _ _)); (fail_if_success (with_reducible show LEnd _ _ _ _ _ _ _ _ _ _ _)); (fail_if_success (with_reducible show LPost _ _ _ _ _ _ _ _ _ _ _ _ _)); (fail_if_success (with_reducible show BytesRest _ _ _ _ _ _ _ _ _ _ _ _ _ _)); (fail_if_success (with_reducible show wpAny _ _ (subscriptTail _ _ (Value.bytes _ _) (Value.int _ _)) _ _ _)); first | walk1 | (dsimp only; walk1))
  | (k_end; dsimp only; k_unfold; (try dsimp only))
  | fail "no step"))
  refine idx64 (k := z % 64) (ix4 x y z) (by omega) (by omega) ?_ (by with_unfolding_all rfl) (by intro _; with_unfolding_all rfl)
  (repeat' (first
  | (k_unfold; (try dsimp only))
  | ((with_reducible show wpAny _ _ (binaryOp Operator.LShift (Value.int _ _) (Value.int _ _)) _ _ _); refine lshift_int_small (by decide) (by decide) (by omega) ?_; (try dsimp only))
  | ((fail_if_success (with_reducible show wpAny _ _ (call (Value.ref _) _ _) _ _ _)); (fail_if_success (with_reducible show KswEnd _ _ _ _ _ _ _ _ _ _ _ _)); (fail_if_success (with_reducible show wpAny _ _ (eval (Expr.ListComp _ _ _ _) _) _ _ _)); (fail_if_success (with_reducible show wpAny _ _ (exec (Stmt.Assign _ (Expr.ListComp _ _ _ _) _) _) _ _ _)); (fail_if_success (with_reducible show Out _ _ _ _ _)); (fail_if_success (with_reducible show LCg.CompEnd _ _ _ _ _ _ _ _ _ _ _ _ _ _)); (fail_if_success (with_reducible show LCg.CompSrc _ _ _ _ _ _ _ _ _ _ _ _ _ _)); (fail_if_success (with_reducible show LCt.CompSrcT _ _ _ _ _ _ _ _ _ _ _ _ _ _ _)); (fail_if_success (with_reducible show Meet _ _ _)); (fail_if_success (with_reducible show LEnd _ _ _ _ _ _ _ _ _ _ _)); (fail_if_success (with_reducible show LPost _ _ _ _ _ _ _ _ _ _ _ _ _)); (fail_if_success (with_reducible show BytesRest _ _ _ _ _ _ _ _ _ _ _ _ _ _)); (fail_if_success (with_reducible show wpAny _ _ (subscriptTail _ _ (Value.bytes _ _) (Value.int _ _)) _ _ _)); first | walk1 | (dsimp only; walk1))
  | (k_end; dsimp only; k_unfold; (try dsimp only))
  | fail "no step"))
  (try clear F9)
  (try clear N9)

  refine BytesRest.zero fun h tk F9 N9 => ?_
  (repeat' (first | (k_unfold; (try dsimp only)) | ((with_reducible show wpAny _ _ (call (Value.ref _) _ _) _ _ _); (first | (refine useI (add_does ⟨by assumption, by assumption, by assumption, by assumption, rfl, rfl, rfl, rfl⟩ (Nat.le_of_ble_eq_true rfl) (Nat.le_of_ble_eq_true rfl) ) (by assumption) (by assumption) ?_; intro _ _ _ _ _; (try k_sweep)) | (refine useI (sub_does ⟨by assumption, by assumption, by assumption, by assumption, rfl, rfl, rfl, rfl⟩ (Nat.le_of_ble_eq_true rfl) (Nat.le_of_ble_eq_true rfl) ) (by assumption) (by assumption) ?_; intro _ _ _ _ _; (try k_sweep)) | (refine useI (and_does ⟨by assumption, by assumption, by assumption, by assumption, rfl, rfl, rfl, rfl⟩ (Nat.le_of_ble_eq_true rfl) (Nat.le_of_ble_eq_true rfl) ) (by assumption) (by assumption) ?_; intro _ _ _ _ _; (try k_sweep)) | (refine useI (or_does ⟨by assumption, by assumption, by assumption, by assumption, rfl, rfl, rfl, rfl⟩ (Nat.le_of_ble_eq_true rfl) (Nat.le_of_ble_eq_true rfl) ) (by assumption) (by assumption) ?_; intro _ _ _ _ _; (try k_sweep)) | (refine useI (xor_does ⟨by assumption, by assumption, by assumption, by assumption, rfl, rfl, rfl, rfl⟩ (Nat.le_of_ble_eq_true rfl) (Nat.le_of_ble_eq_true rfl) ) (by assumption) (by assumption) ?_; intro _ _ _ _ _; (try k_sweep)) | (refine useI (inv_does ⟨by assumption, by assumption, by assumption, by assumption, rfl, rfl, rfl, rfl⟩ (Nat.le_of_ble_eq_true rfl) (Nat.le_of_ble_eq_true rfl) ) (by assumption) (by assumption) ?_; intro _ _ _ _ _; (try k_sweep)) | (refine useI (neg_does ⟨by assumption, by assumption, by assumption, by assumption, rfl, rfl, rfl, rfl⟩ (Nat.le_of_ble_eq_true rfl) (Nat.le_of_ble_eq_true rfl) ) (by assumption) (by assumption) ?_; intro _ _ _ _ _; (try k_sweep)) | (refine useI (rsh_does ⟨by assumption, by assumption, by assumption, by assumption, rfl, rfl, rfl, rfl⟩ (Nat.le_of_ble_eq_true rfl) (Nat.le_of_ble_eq_true rfl) (by decide)) (by assumption) (by assumption) ?_; intro _ _ _ _ _; (try k_sweep)) | (refine useI (lsh_does ⟨by assumption, by assumption, by assumption, by assumption, rfl, rfl, rfl, rfl⟩ (Nat.le_of_ble_eq_true rfl) (Nat.le_of_ble_eq_true rfl) (by decide) (by decide) (by omega)) (by assumption) (by assumption) ?_; intro _ _ _ _ _; (try k_sweep)))) | ((fail_if_success (with_reducible show wpAny _ _ (exec (Stmt.While _ _ _ _) _) _ _ _)); (fail_if_success (with_reducible show wpAny _ _ (exec (Stmt.For _ _ _ _ _) _) _ _ _)); (fail_if_success (with_reducible show wpAny _ _ (call (Value.ref _) _ _) _ _ _)); (fail_if_success (with_reducible show KswEnd _ _ _ _ _ _ _ _ _ _ _ _)); (fail_if_success (with_reducible show wpAny _ _ (eval (Expr.ListComp _ _ _ _) _) _ _ _)); (fail_if_success (with_reducible show wpAny _ _ (exec (Stmt.Assign _ (Expr.ListComp _ _ _ _) _) _) _ _ _)); (fail_if_success (with_reducible show Out _ _ _ _ _)); (fail_if_success (with_reducible show LCg.CompEnd _ _ _ _ _ _ _ _ _ _ _ _ _ _)); (fail_if_success (with_reducible show LCg.CompSrc _ _ _ _ _ _ _ _ _ _ _ _ _ _)); (fail_if_success (with_reducible show LCt.CompSrcT _ _ _ _ _ _ _ _ _ _ _ _ _ _ _)); (fail_if_success (with_reducible show Meet _ _ _)); (fail_if_success (with_reducible show wpAny _ _ (pyIter _) _ _ _)); (fail_if_success (with_reducible show LEnd _ _ _ _ _ _ _ _ _ _ _)); (fail_if_success (with_reducible show LPost _ _ _ _ _ _ _ _ _ _ _ _ _)); first | walk1 | (dsimp only; walk1)) | (k_end; dsimp only; k_unfold; (try dsimp only)) | fail "no step"))
  rename Fr _ _ _ _ => F9
  rename News _ _ _ _ => N9
  refine KBa.make_K (ns := [t64 (x / 4), t64 ((x * 256 + y) / 16 % 64), t64 ((y * 256 + z) / 64 % 64), t64 (z % 64)]) F9 N9 rfl ⟨_, (N9 _ (.head _)).1, rfl, _, rfl⟩ (.cons _ _ (.cons _ _ (.cons _ _ (.cons _ _ .nil)))) ?_ (show (4 : Nat) ≤ 16777216 by decide) ?_
  · intro n hn
    simp only [List.mem_cons, List.not_mem_nil, or_false] at hn
    rcases hn with rfl | rfl | rfl | rfl <;> exact t64_in _
  intro h' t' k F8 _ hin
  (repeat' (first | (k_unfold; (try dsimp only)) | ((with_reducible show wpAny _ _ (call (Value.ref _) _ _) _ _ _); (first | (refine useI (add_does ⟨by assumption, by assumption, by assumption, by assumption, rfl, rfl, rfl, rfl⟩ (Nat.le_of_ble_eq_true rfl) (Nat.le_of_ble_eq_true rfl) ) (by assumption) (by assumption) ?_; intro _ _ _ _ _; (try k_sweep)) | (refine useI (sub_does ⟨by assumption, by assumption, by assumption, by assumption, rfl, rfl, rfl, rfl⟩ (Nat.le_of_ble_eq_true rfl) (Nat.le_of_ble_eq_true rfl) ) (by assumption) (by assumption) ?_; intro _ _ _ _ _; (try k_sweep)) | (refine useI (and_does ⟨by assumption, by assumption, by assumption, by assumption, rfl, rfl, rfl, rfl⟩ (Nat.le_of_ble_eq_true rfl) (Nat.le_of_ble_eq_true rfl) ) (by assumption) (by assumption) ?_; intro _ _ _ _ _; (try k_sweep)) | (refine useI (or_does ⟨by assumption, by assumption, by assumption, by assumption, rfl, rfl, rfl, rfl⟩ (Nat.le_of_ble_eq_true rfl) (Nat.le_of_ble_eq_true rfl) ) (by assumption) (by assumption) ?_; intro _ _ _ _ _; (try k_sweep)) | (refine useI (xor_does ⟨by assumption, by assumption, by assumption, by assumption, rfl, rfl, rfl, rfl⟩ (Nat.le_of_ble_eq_true rfl) (Nat.le_of_ble_eq_true rfl) ) (by assumption) (by assumption) ?_; intro _ _ _ _ _; (try k_sweep)) | (refine useI (inv_does ⟨by assumption, by assumption, by assumption, by assumption, rfl, rfl, rfl, rfl⟩ (Nat.le_of_ble_eq_true rfl) (Nat.le_of_ble_eq_true rfl) ) (by assumption) (by assumption) ?_; intro _ _ _ _ _; (try k_sweep)) | (refine useI (neg_does ⟨by assumption, by assumption, by assumption, by assumption, rfl, rfl, rfl, rfl⟩ (Nat.le_of_ble_eq_true rfl) (Nat.le_of_ble_eq_true rfl) ) (by assumption) (by assumption) ?_; intro _ _ _ _ _; (try k_sweep)) | (refine useI (rsh_does ⟨by assumption, by assumption, by assumption, by assumption, rfl, rfl, rfl, rfl⟩ (Nat.le_of_ble_eq_true rfl) (Nat.le_of_ble_eq_true rfl) (by decide)) (by assumption) (by assumption) ?_; intro _ _ _ _ _; (try k_sweep)) | (refine useI (lsh_does ⟨by assumption, by assumption, by assumption, by assumption, rfl, rfl, rfl, rfl⟩ (Nat.le_of_ble_eq_true rfl) (Nat.le_of_ble_eq_true rfl) (by decide) (by decide) (by omega)) (by assumption) (by assumption) ?_; intro _ _ _ _ _; (try k_sweep)))) | ((fail_if_success (with_reducible show wpAny _ _ (exec (Stmt.While _ _ _ _) _) _ _ _)); (fail_if_success (with_reducible show wpAny _ _ (exec (Stmt.For _ _ _ _ _) _) _ _ _)); (fail_if_success (with_reducible show wpAny _ _ (call (Value.ref _) _ _) _ _ _)); (fail_if_success (with_reducible show KswEnd _ _ _ _ _ _ _ _ _ _ _ _)); (fail_if_success (with_reducible show wpAny _ _ (eval (Expr.ListComp _ _ _ _) _) _ _ _)); (fail_if_success (with_reducible show wpAny _ _ (exec (Stmt.Assign _ (Expr.ListComp _ _ _ _) _) _) _ _ _)); (fail_if_success (with_reducible show Out _ _ _ _ _)); (fail_if_success (with_reducible show LCg.CompEnd _ _ _ _ _ _ _ _ _ _ _ _ _ _)); (fail_if_success (with_reducible show LCg.CompSrc _ _ _ _ _ _ _ _ _ _ _ _ _ _)); (fail_if_success (with_reducible show LCt.CompSrcT _ _ _ _ _ _ _ _ _ _ _ _ _ _ _)); (fail_if_success (with_reducible show Meet _ _ _)); (fail_if_success (with_reducible show wpAny _ _ (pyIter _) _ _ _)); (fail_if_success (with_reducible show LEnd _ _ _ _ _ _ _ _ _ _ _)); (fail_if_success (with_reducible show LPost _ _ _ _ _ _ _ _ _ _ _ _ _)); first | walk1 | (dsimp only; walk1)) | (k_end; dsimp only; k_unfold; (try dsimp only)) | fail "no step"))
  exact ⟨_, _, rfl, F8.keep, _, _, rfl, KBa.ints_make hin⟩

set_option maxHeartbeats 4000000 in
theorem b64encode_does {w : World} {mean : ExcName → Option Value} {mg mb : Str → Option Value} {A A₀ : Around} {base h₀ : Heap} {outer : List Env} {env : Env} {L : Addr} {m : Str → Option Value} {s : Shared}
    (S : Spot w mean mg mb A A₀ base outer env h₀ L m s.heap) (hdp : A.depth ≤ 580) (hun : A.units ≤ 580)
    {b : Array UInt8} {t1 : Tok} {x y z : Int} (hb : KBw.bInts b = [x, y, z]) :
    Does w A 123 [.bytes b t1] [] [] s (fun v _ => ∃ c t, v = .bytes c t ∧ KBw.bInts c = [t64 (x / 4), t64 ((x * 256 + y) / 16 % 64), t64 ((y * 256 + z) / 64 % 64), t64 (z % 64)]) := by
  refine' does_of 580 580 S hdp hun (by decide) [] ?hN _ (binds := [(Str.ofString "s", .bytes b t1), (Str.ofString "altchars", .none)]) ?ho ?hcd ?hb ?hl ?c1 ?c2 ?c3 ?c4 ?_
  case hN => exact News.nil
  case ho => k_is
  case hcd => k_is
  case hb => first | exact BindsTo.of_eq rfl | exact binds_K (S.X.keeps S.F.keep) rfl (by k_is) rfl rfl rfl
  case hl => exact locs rfl
  case c1 => exact rfl
  case c2 => exact rfl
  case c3 => exact rfl
  case c4 => decide
  intro g L' h₁ F N B X T hg hlt hnone
  k_fold

  (repeat' (first | (k_unfold; (try dsimp only)) | ((with_reducible show wpAny _ _ (call (Value.ref _) _ _) _ _ _); (first | (refine useI (add_does ⟨by assumption, by assumption, by assumption, by assumption, rfl, rfl, rfl, rfl⟩ (Nat.le_of_ble_eq_true rfl) (Nat.le_of_ble_eq_true rfl) ) (by assumption) (by assumption) ?_; intro _ _ _ _ _; (try k_sweep)) | (refine useI (sub_does ⟨by assumption, by assumption, by assumption, by assumption, rfl, rfl, rfl, rfl⟩ (Nat.le_of_ble_eq_true rfl) (Nat.le_of_ble_eq_true rfl) ) (by assumption) (by assumption) ?_; intro _ _ _ _ _; (try k_sweep)) | (refine useI (and_does ⟨by assumption, by assumption, by assumption, by assumption, rfl, rfl, rfl, rfl⟩ (Nat.le_of_ble_eq_true rfl) (Nat.le_of_ble_eq_true rfl) ) (by assumption) (by assumption) ?_; intro _ _ _ _ _; (try k_sweep)) | (refine useI (or_does ⟨by assumption, by assumption, by assumption, by assumption, rfl, rfl, rfl, rfl⟩ (Nat.le_of_ble_eq_true rfl) (Nat.le_of_ble_eq_true rfl) ) (by assumption) (by assumption) ?_; intro _ _ _ _ _; (try k_sweep)) | (refine useI (xor_does ⟨by assumption, by assumption, by assumption, by assumption, rfl, rfl, rfl, rfl⟩ (Nat.le_of_ble_eq_true rfl) (Nat.le_of_ble_eq_true rfl) ) (by assumption) (by assumption) ?_; intro _ _ _ _ _; (try k_sweep)) | (refine useI (inv_does ⟨by assumption, by assumption, by assumption, by assumption, rfl, rfl, rfl, rfl⟩ (Nat.le_of_ble_eq_true rfl) (Nat.le_of_ble_eq_true rfl) ) (by assumption) (by assumption) ?_; intro _ _ _ _ _; (try k_sweep)) | (refine useI (neg_does ⟨by assumption, by assumption, by assumption, by assumption, rfl, rfl, rfl, rfl⟩ (Nat.le_of_ble_eq_true rfl) (Nat.le_of_ble_eq_true rfl) ) (by assumption) (by assumption) ?_; intro _ _ _ _ _; (try k_sweep)) | (refine useI (rsh_does ⟨by assumption, by assumption, by assumption, by assumption, rfl, rfl, rfl, rfl⟩ (Nat.le_of_ble_eq_true rfl) (Nat.le_of_ble_eq_true rfl) (by decide)) (by assumption) (by assumption) ?_; intro _ _ _ _ _; (try k_sweep)) | (refine useI (lsh_does ⟨by assumption, by assumption, by assumption, by assumption, rfl, rfl, rfl, rfl⟩ (Nat.le_of_ble_eq_true rfl) (Nat.le_of_ble_eq_true rfl) (by decide) (by decide) (by omega)) (by assumption) (by assumption) ?_; intro _ _ _ _ _; (try k_sweep)))) | ((fail_if_success (with_reducible show wpAny _ _ (exec (Stmt.While _ _ _ _) _) _ _ _)); (fail_if_success (with_reducible show wpAny _ _ (exec (Stmt.For _ _ _ _ _) _) _ _ _)); (fail_if_success (with_reducible show wpAny _ _ (call (Value.ref _) _ _) _ _ _)); (fail_if_success (with_reducible show KswEnd _ _ _ _ _ _ _ _ _ _ _ _)); (fail_if_success (with_reducible show wpAny _ _ (eval (Expr.ListComp _ _ _ _) _) _ _ _)); (fail_if_success (with_reducible show wpAny _ _ (exec (Stmt.Assign _ (Expr.ListComp _ _ _ _) _) _) _ _ _)); (fail_if_success (with_reducible show Out _ _ _ _ _)); (fail_if_success (with_reducible show LCg.CompEnd _ _ _ _ _ _ _ _ _ _ _ _ _ _)); (fail_if_success (with_reducible show LCg.CompSrc _ _ _ _ _ _ _ _ _ _ _ _ _ _)); (fail_if_success (with_reducible show LCt.CompSrcT _ _ _ _ _ _ _ _ _ _ _ _ _ _ _)); (fail_if_success (with_reducible show Meet _ _ _)); (fail_if_success (with_reducible show wpAny _ _ (pyIter _) _ _ _)); (fail_if_success (with_reducible show LEnd _ _ _ _ _ _ _ _ _ _ _)); (fail_if_success (with_reducible show LPost _ _ _ _ _ _ _ _ _ _ _ _ _)); first | walk1 | (dsimp only; walk1)) | (k_end; dsimp only; k_unfold; (try dsimp only)) | fail "no step"))
  refine use0 (b2a_does ⟨by assumption, by assumption, by assumption, by assumption, rfl, rfl, rfl, rfl⟩ (Nat.le_of_ble_eq_true rfl) (Nat.le_of_ble_eq_true rfl) hb) (by assumption) (by assumption) ?_
  rintro _ _ _ _ _ ⟨c, t, rfl, hc⟩
  (repeat' (first | (k_unfold; (try dsimp only)) | ((with_reducible show wpAny _ _ (call (Value.ref _) _ _) _ _ _); (first | (refine useI (add_does ⟨by assumption, by assumption, by assumption, by assumption, rfl, rfl, rfl, rfl⟩ (Nat.le_of_ble_eq_true rfl) (Nat.le_of_ble_eq_true rfl) ) (by assumption) (by assumption) ?_; intro _ _ _ _ _; (try k_sweep)) | (refine useI (sub_does ⟨by assumption, by assumption, by assumption, by assumption, rfl, rfl, rfl, rfl⟩ (Nat.le_of_ble_eq_true rfl) (Nat.le_of_ble_eq_true rfl) ) (by assumption) (by assumption) ?_; intro _ _ _ _ _; (try k_sweep)) | (refine useI (and_does ⟨by assumption, by assumption, by assumption, by assumption, rfl, rfl, rfl, rfl⟩ (Nat.le_of_ble_eq_true rfl) (Nat.le_of_ble_eq_true rfl) ) (by assumption) (by assumption) ?_; intro _ _ _ _ _; (try k_sweep)) | (refine useI (or_does ⟨by assumption, by assumption, by assumption, by assumption, rfl, rfl, rfl, rfl⟩ (Nat.le_of_ble_eq_true rfl) (Nat.le_of_ble_eq_true rfl) ) (by assumption) (by assumption) ?_; intro _ _ _ _ _; (try k_sweep)) | (refine useI (xor_does ⟨by assumption, by assumption, by assumption, by assumption, rfl, rfl, rfl, rfl⟩ (Nat.le_of_ble_eq_true rfl) (Nat.le_of_ble_eq_true rfl) ) (by assumption) (by assumption) ?_; intro _ _ _ _ _; (try k_sweep)) | (refine useI (inv_does ⟨by assumption, by assumption, by assumption, by assumption, rfl, rfl, rfl, rfl⟩ (Nat.le_of_ble_eq_true rfl) (Nat.le_of_ble_eq_true rfl) ) (by assumption) (by assumption) ?_; intro _ _ _ _ _; (try k_sweep)) | (refine useI (neg_does ⟨by assumption, by assumption, by assumption, by assumption, rfl, rfl, rfl, rfl⟩ (Nat.le_of_ble_eq_true rfl) (Nat.le_of_ble_eq_true rfl) ) (by assumption) (by assumption) ?_; intro _ _ _ _ _; (try k_sweep)) | (refine useI (rsh_does ⟨by assumption, by assumption, by assumption, by assumption, rfl, rfl, rfl, rfl⟩ (Nat.le_of_ble_eq_true rfl) (Nat.le_of_ble_eq_true rfl) (by decide)) (by assumption) (by assumption) ?_; intro _ _ _ _ _; (try k_sweep)) | (refine useI (lsh_does ⟨by assumption, by assumption, by assumption, by assumption, rfl, rfl, rfl, rfl⟩ (Nat.le_of_ble_eq_true rfl) (Nat.le_of_ble_eq_true rfl) (by decide) (by decide) (by omega)) (by assumption) (by assumption) ?_; intro _ _ _ _ _; (try k_sweep)))) | ((fail_if_success (with_reducible show wpAny _ _ (exec (Stmt.While _ _ _ _) _) _ _ _)); (fail_if_success (with_reducible show wpAny _ _ (exec (Stmt.For _ _ _ _ _) _) _ _ _)); (fail_if_success (with_reducible show wpAny _ _ (call (Value.ref _) _ _) _ _ _)); (fail_if_success (with_reducible show KswEnd _ _ _ _ _ _ _ _ _ _ _ _)); (fail_if_success (with_reducible show wpAny _ _ (eval (Expr.ListComp _ _ _ _) _) _ _ _)); (fail_if_success (with_reducible show wpAny _ _ (exec (Stmt.Assign _ (Expr.ListComp _ _ _ _) _) _) _ _ _)); (fail_if_success (with_reducible show Out _ _ _ _ _)); (fail_if_success (with_reducible show LCg.CompEnd _ _ _ _ _ _ _ _ _ _ _ _ _ _)); (fail_if_success (with_reducible show LCg.CompSrc _ _ _ _ _ _ _ _ _ _ _ _ _ _)); (fail_if_success (with_reducible show LCt.CompSrcT _ _ _ _ _ _ _ _ _ _ _ _ _ _ _)); (fail_if_success (with_reducible show Meet _ _ _)); (fail_if_success (with_reducible show wpAny _ _ (pyIter _) _ _ _)); (fail_if_success (with_reducible show LEnd _ _ _ _ _ _ _ _ _ _ _)); (fail_if_success (with_reducible show LPost _ _ _ _ _ _ _ _ _ _ _ _ _)); first | walk1 | (dsimp only; walk1)) | (k_end; dsimp only; k_unfold; (try dsimp only)) | fail "no step"))
  rename Fr _ _ _ _ => F9
  exact ⟨_, _, rfl, F9.keep, _, _, rfl, hc⟩

end

section
open PySem PySem.W PyProof.Rows PySem.Calls PySem.Builtin
set_option maxRecDepth 100000
open Builtin
noncomputable def hexA (x y z : UInt8) : Array Nat := #[Bytes.hexDigit (x.toNat / 16), Bytes.hexDigit (x.toNat % 16), Bytes.hexDigit (y.toNat / 16), Bytes.hexDigit (y.toNat % 16), Bytes.hexDigit (z.toNat / 16), Bytes.hexDigit (z.toNat % 16)]
theorem hex_entry (x y z : UInt8) (t : Tok) : «bytes.hex» ⟨[.bytes #[x, y, z] t], []⟩ = retStr ⟨hexA x y z⟩ := by kernel_rfl
theorem meets_hex (x y z : UInt8) (t : Tok) : Meets («bytes.hex» ⟨[.bytes #[x, y, z] t], []⟩) (fun _ R s => ∀ t' k, R (.ok (.ret (.str ⟨hexA x y z⟩ t'))) { s with toks := k }) := by
  refine .of_wp fun prog w A R s hS => ?_
  rw [hex_entry]
  exact wpAny_bind (wpAny_mkStr (wpAny_pure ⟨_, rfl, hS _ _⟩) (by rw [sizeLine_eq]; exact (show (6 : Nat) ≤ 16777216 by decide)))
theorem enc_entry (x : Str) (t u : Tok) : «str.encode» ⟨[.str x t, .str (Str.ofString "ascii") u], []⟩ = (do ret (← _codecs.encodeRoad "str.encode" (.str x t) x (Str.ofString "ascii") none)) := by kernel_rfl
theorem enc_road (x : Str) (v : Value) : _codecs.encodeRoad "str.encode" v x (Str.ofString "ascii") none = (do mkBytes (← _codecs.encodeNarrow "str.encode" _codecs.asciiCodec none v x)) := by kernel_rfl
theorem enc_narrow (v : Value) (a b c d e f : Nat) (h : ∀ n ∈ #[a, b, c, d, e, f], n < 128) : _codecs.encodeNarrow "str.encode" _codecs.asciiCodec none v ⟨#[a, b, c, d, e, f]⟩ = pure #[a.toUInt8, b.toUInt8, c.toUInt8, d.toUInt8, e.toUInt8, f.toUInt8] := by
  have hb : _codecs.asciiCodec.bad a = false := decide_eq_false (Nat.not_le.mpr (h a (by simp)))
  have hf : List.findIdx? _codecs.asciiCodec.bad [a, b, c, d, e, f] = none := by
    rw [List.findIdx?_eq_none_iff]
    intro x hx
    exact decide_eq_false (Nat.not_le.mpr (h x (List.mem_toArray.mpr hx)))
  have hz : sizeLine = 16777216 := sizeLine_eq
  have hB : ∀ y, _codecs.asciiCodec.bytesOf y = [y.toUInt8] := fun _ => rfl
  unfold _codecs.encodeNarrow
  simp only [Str.length]
  simp
  rw [show List.range' 0 6 = [0, 1, 2, 3, 4, 5] from rfl]
  simp [hb, hf, hz, hB]

theorem slot_bytes_upper : Slot "bytes" "upper" "bytes.upper" :=
  .of (owner := "bytes") (n := "upper") (by rw [typeLookup_type, builtinLookup_eq_fast]; kernel_rfl) (by decide +kernel) (by decide +kernel) (by decide +kernel)
    (by first | exact .inl (by decide +kernel) | exact .inr (by decide +kernel)) (by rw [isSubtype_type]; kernel_rfl)
theorem type_bytes_upper : typeOf (.builtin "bytes.upper") = pure (.type "method_descriptor") := by show builtinType _ = _; rw [builtinType_eq_fast]; kernel_rfl
theorem entry_bytes_upper : entryFor table "bytes.upper" = some Builtin.«bytes.upper» := entryFor_of_tree (by kernel_rfl)
theorem args_bytes_upper (a : Value) : argsOk "bytes.upper" ⟨[a], []⟩ := by unfold argsOk; kernel_rfl
theorem args_str_encode (a b : Value) : argsOk "str.encode" ⟨[a, b], []⟩ := by unfold argsOk; kernel_rfl
theorem up_entry (b : Array UInt8) (t : Tok) : «bytes.upper» ⟨[.bytes b t], []⟩ = (do ret (← mkBytes (b.toList.map Bytes.toUpper).toArray)) := by kernel_rfl
theorem meets_up (b : Array UInt8) (t : Tok) (hb : b.size ≤ 16777216) : Meets («bytes.upper» ⟨[.bytes b t], []⟩) (fun _ R s => ∀ t' k, R (.ok (.ret (.bytes (b.toList.map Bytes.toUpper).toArray t'))) { s with toks := k }) := by
  refine .of_wp fun prog w A R s hS => ?_
  rw [up_entry]
  exact wpAny_bind (wpAny_mkBytes (wpAny_pure ⟨_, rfl, hS _ _⟩) (by rw [sizeLine_eq]; simpa using hb))
theorem meets_enc (t u : Tok) {a b c d e f : Nat} (h : ∀ n ∈ #[a, b, c, d, e, f], n < 128) : Meets («str.encode» ⟨[.str ⟨#[a, b, c, d, e, f]⟩ t, .str (Str.ofString "ascii") u], []⟩) (fun _ R s => ∀ t' k, R (.ok (.ret (.bytes #[a.toUInt8, b.toUInt8, c.toUInt8, d.toUInt8, e.toUInt8, f.toUInt8] t'))) { s with toks := k }) := by
  refine .of_wp fun prog w A R s hS => ?_
  rw [enc_entry, enc_road, enc_narrow _ _ _ _ _ _ _ h]
  exact wpAny_bind (wpAny_bind (wpAny_pure (wpAny_mkBytes (wpAny_pure ⟨_, rfl, hS _ _⟩) (by rw [sizeLine_eq]; exact (show (6 : Nat) ≤ 16777216 by decide)))))
section
variable {w : World} {A : Around} {E : Value → Shared → Prop} {s : Shared}
theorem call_hex {x y z : UInt8} {t : Tok} {Q : Value → Shared → Prop} (h : ∀ t' k, Q (.str ⟨hexA x y z⟩ t') { s with toks := k }) : wpAny (model PG w) A (call (.builtin "bytes.hex") [.bytes #[x, y, z] t]) Q E s :=
  call_meets FB.slot_bytes_hex (typeIs_bytes _ _ _) FB.entry_bytes_hex (FB.args_bytes_hex_1 _) (meets_hex _ _ _ _) h
theorem call_enc {t u : Tok} {a b c d e f : Nat} {Q : Value → Shared → Prop} (hl : ∀ n ∈ #[a, b, c, d, e, f], n < 128) (h : ∀ t' k, Q (.bytes #[a.toUInt8, b.toUInt8, c.toUInt8, d.toUInt8, e.toUInt8, f.toUInt8] t') { s with toks := k }) :
    wpAny (model PG w) A (call (.builtin "str.encode") [.str ⟨#[a, b, c, d, e, f]⟩ t, .str (Str.ofString "ascii") u]) Q E s :=
  call_meets F.slot_str_encode rfl F.entry_str_encode (args_str_encode _ _) (meets_enc _ _ hl) h
theorem call_up {b : Array UInt8} {t : Tok} {Q : Value → Shared → Prop} (hb : b.size ≤ 16777216) (h : ∀ t' k, Q (.bytes (b.toList.map Bytes.toUpper).toArray t') { s with toks := k }) : wpAny (model PG w) A (call (.builtin "bytes.upper") [.bytes b t]) Q E s :=
  call_meets slot_bytes_upper (typeIs_bytes _ _ _) entry_bytes_upper (args_bytes_upper _) (meets_up _ _ hb) h
end
noncomputable def t16 (e : Int) : Int := if e < 10 then 48 + e else 55 + e
theorem hexDigit_lt {n : Nat} (h : n < 16) : Bytes.hexDigit n < 128 := by unfold Bytes.hexDigit; split <;> omega
theorem up_digit {n : Nat} (h : n < 16) : (((Bytes.toUpper (Bytes.hexDigit n).toUInt8).toNat : Nat) : Int) = t16 n := by
  have : ∀ i : Fin 16, (((Bytes.toUpper (Bytes.hexDigit i.val).toUInt8).toNat : Nat) : Int) = t16 i.val := by decide +kernel
  exact this ⟨n, h⟩
theorem bytes3 {b : Array UInt8} {x y z : Int} (h : KBw.bInts b = [x, y, z]) : ∃ p q r : UInt8, b = #[p, q, r] ∧ x = (p.toNat : Int) ∧ y = (q.toNat : Int) ∧ z = (r.toNat : Int) := by
  obtain ⟨l⟩ := b
  rw [KBw.ints_list] at h
  match l, h with
  | [p, q, r], h =>
    simp only [List.map_cons, List.map_nil, List.cons.injEq, and_true] at h
    exact ⟨p, q, r, rfl, h.1.symm, h.2.1.symm, h.2.2.symm⟩

end

section
set_option maxRecDepth 100000

theorem fill9 : hd.heap_39 = hd.heap_39 ∧ PySem.Challenge.rw_oy0042_01 = PySem.Challenge.rw_oy0042_01 := by
  w_top off
  k_fill
  exact ⟨rfl, rfl⟩


set_option maxHeartbeats 4000000 in
theorem b2ahex_does {w : World} {mean : ExcName → Option Value} {mg mb : Str → Option Value} {A A₀ : Around} {base h₀ : Heap} {outer : List Env} {env : Env} {L : Addr} {m : Str → Option Value} {s : Shared}
    (S : Spot w mean mg mb A A₀ base outer env h₀ L m s.heap) (hdp : A.depth ≤ 590) (hun : A.units ≤ 590)
    {x y z : UInt8} {t1 : Tok} :
    Does w A 115 [.bytes #[x, y, z] t1] [] [] s (fun v _ => ∃ t, v = .bytes #[(Builtin.Bytes.hexDigit (x.toNat / 16)).toUInt8, (Builtin.Bytes.hexDigit (x.toNat % 16)).toUInt8, (Builtin.Bytes.hexDigit (y.toNat / 16)).toUInt8, (Builtin.Bytes.hexDigit (y.toNat % 16)).toUInt8, (Builtin.Bytes.hexDigit (z.toNat / 16)).toUInt8, (Builtin.Bytes.hexDigit (z.toNat % 16)).toUInt8] t) := by
  refine' does_of 590 590 S hdp hun (by decide) [] ?hN _ (binds := [(Str.ofString "data", .bytes #[x, y, z] t1), (Str.ofString "sep", .ref 107), (Str.ofString "bytes_per_sep", .int 1 301)]) ?ho ?hcd ?hb ?hl ?c1 ?c2 ?c3 ?c4 ?_
  case hN => exact News.nil
  case ho => k_is
  case hcd => k_is
  case hb => first | exact BindsTo.of_eq rfl | exact binds_K (S.X.keeps S.F.keep) rfl (by k_is) rfl rfl rfl
  case hl => exact locs rfl
  case c1 => exact rfl
  case c2 => exact rfl
  case c3 => exact rfl
  case c4 => decide
  intro g L' h₁ F N B X T hg hlt hnone
  k_fold

  (repeat' (first | (k_unfold; (try dsimp only)) | ((with_reducible show wpAny _ _ (call (Value.ref _) _ _) _ _ _); (first | (refine useI (add_does ⟨by assumption, by assumption, by assumption, by assumption, rfl, rfl, rfl, rfl⟩ (Nat.le_of_ble_eq_true rfl) (Nat.le_of_ble_eq_true rfl) ) (by assumption) (by assumption) ?_; intro _ _ _ _ _; (try k_sweep)) | (refine useI (sub_does ⟨by assumption, by assumption, by assumption, by assumption, rfl, rfl, rfl, rfl⟩ (Nat.le_of_ble_eq_true rfl) (Nat.le_of_ble_eq_true rfl) ) (by assumption) (by assumption) ?_; intro _ _ _ _ _; (try k_sweep)) | (refine useI (and_does ⟨by assumption, by assumption, by assumption, by assumption, rfl, rfl, rfl, rfl⟩ (Nat.le_of_ble_eq_true rfl) (Nat.le_of_ble_eq_true rfl) ) (by assumption) (by assumption) ?_; intro _ _ _ _ _; (try k_sweep)) | (refine useI (or_does ⟨by assumption, by assumption, by assumption, by assumption, rfl, rfl, rfl, rfl⟩ (Nat.le_of_ble_eq_true rfl) (Nat.le_of_ble_eq_true rfl) ) (by assumption) (by assumption) ?_; intro _ _ _ _ _; (try k_sweep)) | (refine useI (xor_does ⟨by assumption, by assumption, by assumption, by assumption, rfl, rfl, rfl, rfl⟩ (Nat.le_of_ble_eq_true rfl) (Nat.le_of_ble_eq_true rfl) ) (by assumption) (by assumption) ?_; intro _ _ _ _ _; (try k_sweep)) | (refine useI (inv_does ⟨by assumption, by assumption, by assumption, by assumption, rfl, rfl, rfl, rfl⟩ (Nat.le_of_ble_eq_true rfl) (Nat.le_of_ble_eq_true rfl) ) (by assumption) (by assumption) ?_; intro _ _ _ _ _; (try k_sweep)) | (refine useI (neg_does ⟨by assumption, by assumption, by assumption, by assumption, rfl, rfl, rfl, rfl⟩ (Nat.le_of_ble_eq_true rfl) (Nat.le_of_ble_eq_true rfl) ) (by assumption) (by assumption) ?_; intro _ _ _ _ _; (try k_sweep)) | (refine useI (rsh_does ⟨by assumption, by assumption, by assumption, by assumption, rfl, rfl, rfl, rfl⟩ (Nat.le_of_ble_eq_true rfl) (Nat.le_of_ble_eq_true rfl) (by decide)) (by assumption) (by assumption) ?_; intro _ _ _ _ _; (try k_sweep)) | (refine useI (lsh_does ⟨by assumption, by assumption, by assumption, by assumption, rfl, rfl, rfl, rfl⟩ (Nat.le_of_ble_eq_true rfl) (Nat.le_of_ble_eq_true rfl) (by decide) (by decide) (by omega)) (by assumption) (by assumption) ?_; intro _ _ _ _ _; (try k_sweep)))) | ((fail_if_success (with_reducible show wpAny _ _ (exec (Stmt.While _ _ _ _) _) _ _ _)); (fail_if_success (with_reducible show wpAny _ _ (exec (Stmt.For _ _ _ _ _) _) _ _ _)); (fail_if_success (with_reducible show wpAny _ _ (call (Value.ref _) _ _) _ _ _)); (fail_if_success (with_reducible show KswEnd _ _ _ _ _ _ _ _ _ _ _ _)); (fail_if_success (with_reducible show wpAny _ _ (eval (Expr.ListComp _ _ _ _) _) _ _ _)); (fail_if_success (with_reducible show wpAny _ _ (exec (Stmt.Assign _ (Expr.ListComp _ _ _ _) _) _) _ _ _)); (fail_if_success (with_reducible show Out _ _ _ _ _)); (fail_if_success (with_reducible show LCg.CompEnd _ _ _ _ _ _ _ _ _ _ _ _ _ _)); (fail_if_success (with_reducible show LCg.CompSrc _ _ _ _ _ _ _ _ _ _ _ _ _ _)); (fail_if_success (with_reducible show LCt.CompSrcT _ _ _ _ _ _ _ _ _ _ _ _ _ _ _)); (fail_if_success (with_reducible show Meet _ _ _)); (fail_if_success (with_reducible show wpAny _ _ (pyIter _) _ _ _)); (fail_if_success (with_reducible show LEnd _ _ _ _ _ _ _ _ _ _ _)); (fail_if_success (with_reducible show LPost _ _ _ _ _ _ _ _ _ _ _ _ _)); first | walk1 | (dsimp only; walk1)) | (k_end; dsimp only; k_unfold; (try dsimp only)) | fail "no step"))
  refine use0 (buffer_does ⟨by assumption, by assumption, by assumption, by assumption, rfl, rfl, rfl, rfl⟩ (Nat.le_of_ble_eq_true rfl) (Nat.le_of_ble_eq_true rfl)) (by assumption) (by assumption) ?_
  rintro _ _ _ _ _ rfl
  (repeat' (first | (k_unfold; (try dsimp only)) | ((with_reducible show wpAny _ _ (call (Value.ref _) _ _) _ _ _); (first | (refine useI (add_does ⟨by assumption, by assumption, by assumption, by assumption, rfl, rfl, rfl, rfl⟩ (Nat.le_of_ble_eq_true rfl) (Nat.le_of_ble_eq_true rfl) ) (by assumption) (by assumption) ?_; intro _ _ _ _ _; (try k_sweep)) | (refine useI (sub_does ⟨by assumption, by assumption, by assumption, by assumption, rfl, rfl, rfl, rfl⟩ (Nat.le_of_ble_eq_true rfl) (Nat.le_of_ble_eq_true rfl) ) (by assumption) (by assumption) ?_; intro _ _ _ _ _; (try k_sweep)) | (refine useI (and_does ⟨by assumption, by assumption, by assumption, by assumption, rfl, rfl, rfl, rfl⟩ (Nat.le_of_ble_eq_true rfl) (Nat.le_of_ble_eq_true rfl) ) (by assumption) (by assumption) ?_; intro _ _ _ _ _; (try k_sweep)) | (refine useI (or_does ⟨by assumption, by assumption, by assumption, by assumption, rfl, rfl, rfl, rfl⟩ (Nat.le_of_ble_eq_true rfl) (Nat.le_of_ble_eq_true rfl) ) (by assumption) (by assumption) ?_; intro _ _ _ _ _; (try k_sweep)) | (refine useI (xor_does ⟨by assumption, by assumption, by assumption, by assumption, rfl, rfl, rfl, rfl⟩ (Nat.le_of_ble_eq_true rfl) (Nat.le_of_ble_eq_true rfl) ) (by assumption) (by assumption) ?_; intro _ _ _ _ _; (try k_sweep)) | (refine useI (inv_does ⟨by assumption, by assumption, by assumption, by assumption, rfl, rfl, rfl, rfl⟩ (Nat.le_of_ble_eq_true rfl) (Nat.le_of_ble_eq_true rfl) ) (by assumption) (by assumption) ?_; intro _ _ _ _ _; (try k_sweep)) | (refine useI (neg_does ⟨by assumption, by assumption, by assumption, by assumption, rfl, rfl, rfl, rfl⟩ (Nat.le_of_ble_eq_true rfl) (Nat.le_of_ble_eq_true rfl) ) (by assumption) (by assumption) ?_; intro _ _ _ _ _; (try k_sweep)) | (refine useI (rsh_does ⟨by assumption, by assumption, by assumption, by assumption, rfl, rfl, rfl, rfl⟩ (Nat.le_of_ble_eq_true rfl) (Nat.le_of_ble_eq_true rfl) (by decide)) (by assumption) (by assumption) ?_; intro _ _ _ _ _; (try k_sweep)) | (refine useI (lsh_does ⟨by assumption, by assumption, by assumption, by assumption, rfl, rfl, rfl, rfl⟩ (Nat.le_of_ble_eq_true rfl) (Nat.le_of_ble_eq_true rfl) (by decide) (by decide) (by omega)) (by assumption) (by assumption) ?_; intro _ _ _ _ _; (try k_sweep)))) | ((fail_if_success (with_reducible show wpAny _ _ (exec (Stmt.While _ _ _ _) _) _ _ _)); (fail_if_success (with_reducible show wpAny _ _ (exec (Stmt.For _ _ _ _ _) _) _ _ _)); (fail_if_success (with_reducible show wpAny _ _ (call (Value.ref _) _ _) _ _ _)); (fail_if_success (with_reducible show KswEnd _ _ _ _ _ _ _ _ _ _ _ _)); (fail_if_success (with_reducible show wpAny _ _ (eval (Expr.ListComp _ _ _ _) _) _ _ _)); (fail_if_success (with_reducible show wpAny _ _ (exec (Stmt.Assign _ (Expr.ListComp _ _ _ _) _) _) _ _ _)); (fail_if_success (with_reducible show Out _ _ _ _ _)); (fail_if_success (with_reducible show LCg.CompEnd _ _ _ _ _ _ _ _ _ _ _ _ _ _)); (fail_if_success (with_reducible show LCg.CompSrc _ _ _ _ _ _ _ _ _ _ _ _ _ _)); (fail_if_success (with_reducible show LCt.CompSrcT _ _ _ _ _ _ _ _ _ _ _ _ _ _ _)); (fail_if_success (with_reducible show Meet _ _ _)); (fail_if_success (with_reducible show wpAny _ _ (pyIter _) _ _ _)); (fail_if_success (with_reducible show LEnd _ _ _ _ _ _ _ _ _ _ _)); (fail_if_success (with_reducible show LPost _ _ _ _ _ _ _ _ _ _ _ _ _)); first | walk1 | (dsimp only; walk1)) | (k_end; dsimp only; k_unfold; (try dsimp only)) | fail "no step"))
  with_reducible refine KBd.method_of _ (typeIs_bytes _ _ _) FB.slot_bytes_hex FB.type_bytes_hex KBd.noRef ?_
  (repeat' (first | (k_unfold; (try dsimp only)) | ((with_reducible show wpAny _ _ (call (Value.ref _) _ _) _ _ _); (first | (refine useI (add_does ⟨by assumption, by assumption, by assumption, by assumption, rfl, rfl, rfl, rfl⟩ (Nat.le_of_ble_eq_true rfl) (Nat.le_of_ble_eq_true rfl) ) (by assumption) (by assumption) ?_; intro _ _ _ _ _; (try k_sweep)) | (refine useI (sub_does ⟨by assumption, by assumption, by assumption, by assumption, rfl, rfl, rfl, rfl⟩ (Nat.le_of_ble_eq_true rfl) (Nat.le_of_ble_eq_true rfl) ) (by assumption) (by assumption) ?_; intro _ _ _ _ _; (try k_sweep)) | (refine useI (and_does ⟨by assumption, by assumption, by assumption, by assumption, rfl, rfl, rfl, rfl⟩ (Nat.le_of_ble_eq_true rfl) (Nat.le_of_ble_eq_true rfl) ) (by assumption) (by assumption) ?_; intro _ _ _ _ _; (try k_sweep)) | (refine useI (or_does ⟨by assumption, by assumption, by assumption, by assumption, rfl, rfl, rfl, rfl⟩ (Nat.le_of_ble_eq_true rfl) (Nat.le_of_ble_eq_true rfl) ) (by assumption) (by assumption) ?_; intro _ _ _ _ _; (try k_sweep)) | (refine useI (xor_does ⟨by assumption, by assumption, by assumption, by assumption, rfl, rfl, rfl, rfl⟩ (Nat.le_of_ble_eq_true rfl) (Nat.le_of_ble_eq_true rfl) ) (by assumption) (by assumption) ?_; intro _ _ _ _ _; (try k_sweep)) | (refine useI (inv_does ⟨by assumption, by assumption, by assumption, by assumption, rfl, rfl, rfl, rfl⟩ (Nat.le_of_ble_eq_true rfl) (Nat.le_of_ble_eq_true rfl) ) (by assumption) (by assumption) ?_; intro _ _ _ _ _; (try k_sweep)) | (refine useI (neg_does ⟨by assumption, by assumption, by assumption, by assumption, rfl, rfl, rfl, rfl⟩ (Nat.le_of_ble_eq_true rfl) (Nat.le_of_ble_eq_true rfl) ) (by assumption) (by assumption) ?_; intro _ _ _ _ _; (try k_sweep)) | (refine useI (rsh_does ⟨by assumption, by assumption, by assumption, by assumption, rfl, rfl, rfl, rfl⟩ (Nat.le_of_ble_eq_true rfl) (Nat.le_of_ble_eq_true rfl) (by decide)) (by assumption) (by assumption) ?_; intro _ _ _ _ _; (try k_sweep)) | (refine useI (lsh_does ⟨by assumption, by assumption, by assumption, by assumption, rfl, rfl, rfl, rfl⟩ (Nat.le_of_ble_eq_true rfl) (Nat.le_of_ble_eq_true rfl) (by decide) (by decide) (by omega)) (by assumption) (by assumption) ?_; intro _ _ _ _ _; (try k_sweep)))) | ((fail_if_success (with_reducible show wpAny _ _ (exec (Stmt.While _ _ _ _) _) _ _ _)); (fail_if_success (with_reducible show wpAny _ _ (exec (Stmt.For _ _ _ _ _) _) _ _ _)); (fail_if_success (with_reducible show wpAny _ _ (call (Value.ref _) _ _) _ _ _)); (fail_if_success (with_reducible show KswEnd _ _ _ _ _ _ _ _ _ _ _ _)); (fail_if_success (with_reducible show wpAny _ _ (eval (Expr.ListComp _ _ _ _) _) _ _ _)); (fail_if_success (with_reducible show wpAny _ _ (exec (Stmt.Assign _ (Expr.ListComp _ _ _ _) _) _) _ _ _)); (fail_if_success (with_reducible show Out _ _ _ _ _)); (fail_if_success (with_reducible show LCg.CompEnd _ _ _ _ _ _ _ _ _ _ _ _ _ _)); (fail_if_success (with_reducible show LCg.CompSrc _ _ _ _ _ _ _ _ _ _ _ _ _ _)); (fail_if_success (with_reducible show LCt.CompSrcT _ _ _ _ _ _ _ _ _ _ _ _ _ _ _)); (fail_if_success (with_reducible show Meet _ _ _)); (fail_if_success (with_reducible show wpAny _ _ (pyIter _) _ _ _)); (fail_if_success (with_reducible show LEnd _ _ _ _ _ _ _ _ _ _ _)); (fail_if_success (with_reducible show LPost _ _ _ _ _ _ _ _ _ _ _ _ _)); first | walk1 | (dsimp only; walk1)) | (k_end; dsimp only; k_unfold; (try dsimp only)) | fail "no step"))
  refine call_hex fun t' k => ?_
  (repeat' (first | (k_unfold; (try dsimp only)) | ((with_reducible show wpAny _ _ (call (Value.ref _) _ _) _ _ _); (first | (refine useI (add_does ⟨by assumption, by assumption, by assumption, by assumption, rfl, rfl, rfl, rfl⟩ (Nat.le_of_ble_eq_true rfl) (Nat.le_of_ble_eq_true rfl) ) (by assumption) (by assumption) ?_; intro _ _ _ _ _; (try k_sweep)) | (refine useI (sub_does ⟨by assumption, by assumption, by assumption, by assumption, rfl, rfl, rfl, rfl⟩ (Nat.le_of_ble_eq_true rfl) (Nat.le_of_ble_eq_true rfl) ) (by assumption) (by assumption) ?_; intro _ _ _ _ _; (try k_sweep)) | (refine useI (and_does ⟨by assumption, by assumption, by assumption, by assumption, rfl, rfl, rfl, rfl⟩ (Nat.le_of_ble_eq_true rfl) (Nat.le_of_ble_eq_true rfl) ) (by assumption) (by assumption) ?_; intro _ _ _ _ _; (try k_sweep)) | (refine useI (or_does ⟨by assumption, by assumption, by assumption, by assumption, rfl, rfl, rfl, rfl⟩ (Nat.le_of_ble_eq_true rfl) (Nat.le_of_ble_eq_true rfl) ) (by assumption) (by assumption) ?_; intro _ _ _ _ _; (try k_sweep)) | (refine useI (xor_does ⟨by assumption, by assumption, by assumption, by assumption, rfl, rfl, rfl, rfl⟩ (Nat.le_of_ble_eq_true rfl) (Nat.le_of_ble_eq_true rfl) ) (by assumption) (by assumption) ?_; intro _ _ _ _ _; (try k_sweep)) | (refine useI (inv_does ⟨by assumption, by assumption, by assumption, by assumption, rfl, rfl, rfl, rfl⟩ (Nat.le_of_ble_eq_true rfl) (Nat.le_of_ble_eq_true rfl) ) (by assumption) (by assumption) ?_; intro _ _ _ _ _; (try k_sweep)) | (refine useI (neg_does ⟨by assumption, by assumption, by assumption, by assumption, rfl, rfl, rfl, rfl⟩ (Nat.le_of_ble_eq_true rfl) (Nat.le_of_ble_eq_true rfl) ) (by assumption) (by assumption) ?_; intro _ _ _ _ _; (try k_sweep)) | (refine useI (rsh_does ⟨by assumption, by assumption, by assumption, by assumption, rfl, rfl, rfl, rfl⟩ (Nat.le_of_ble_eq_true rfl) (Nat.le_of_ble_eq_true rfl) (by decide)) (by assumption) (by assumption) ?_; intro _ _ _ _ _; (try k_sweep)) | (refine useI (lsh_does ⟨by assumption, by assumption, by assumption, by assumption, rfl, rfl, rfl, rfl⟩ (Nat.le_of_ble_eq_true rfl) (Nat.le_of_ble_eq_true rfl) (by decide) (by decide) (by omega)) (by assumption) (by assumption) ?_; intro _ _ _ _ _; (try k_sweep)))) | ((fail_if_success (with_reducible show wpAny _ _ (exec (Stmt.While _ _ _ _) _) _ _ _)); (fail_if_success (with_reducible show wpAny _ _ (exec (Stmt.For _ _ _ _ _) _) _ _ _)); (fail_if_success (with_reducible show wpAny _ _ (call (Value.ref _) _ _) _ _ _)); (fail_if_success (with_reducible show KswEnd _ _ _ _ _ _ _ _ _ _ _ _)); (fail_if_success (with_reducible show wpAny _ _ (eval (Expr.ListComp _ _ _ _) _) _ _ _)); (fail_if_success (with_reducible show wpAny _ _ (exec (Stmt.Assign _ (Expr.ListComp _ _ _ _) _) _) _ _ _)); (fail_if_success (with_reducible show Out _ _ _ _ _)); (fail_if_success (with_reducible show LCg.CompEnd _ _ _ _ _ _ _ _ _ _ _ _ _ _)); (fail_if_success (with_reducible show LCg.CompSrc _ _ _ _ _ _ _ _ _ _ _ _ _ _)); (fail_if_success (with_reducible show LCt.CompSrcT _ _ _ _ _ _ _ _ _ _ _ _ _ _ _)); (fail_if_success (with_reducible show Meet _ _ _)); (fail_if_success (with_reducible show wpAny _ _ (pyIter _) _ _ _)); (fail_if_success (with_reducible show LEnd _ _ _ _ _ _ _ _ _ _ _)); (fail_if_success (with_reducible show LPost _ _ _ _ _ _ _ _ _ _ _ _ _)); first | walk1 | (dsimp only; walk1)) | (k_end; dsimp only; k_unfold; (try dsimp only)) | fail "no step"))
  with_reducible refine getMethod_builtin (T := "str") (by with_unfolding_all exact rfl) F.plainAttrs_str F.slot_str_encode F.type_str_encode (fun _ e => nomatch e) ?_
  (repeat' (first | (k_unfold; (try dsimp only)) | ((with_reducible show wpAny _ _ (call (Value.ref _) _ _) _ _ _); (first | (refine useI (add_does ⟨by assumption, by assumption, by assumption, by assumption, rfl, rfl, rfl, rfl⟩ (Nat.le_of_ble_eq_true rfl) (Nat.le_of_ble_eq_true rfl) ) (by assumption) (by assumption) ?_; intro _ _ _ _ _; (try k_sweep)) | (refine useI (sub_does ⟨by assumption, by assumption, by assumption, by assumption, rfl, rfl, rfl, rfl⟩ (Nat.le_of_ble_eq_true rfl) (Nat.le_of_ble_eq_true rfl) ) (by assumption) (by assumption) ?_; intro _ _ _ _ _; (try k_sweep)) | (refine useI (and_does ⟨by assumption, by assumption, by assumption, by assumption, rfl, rfl, rfl, rfl⟩ (Nat.le_of_ble_eq_true rfl) (Nat.le_of_ble_eq_true rfl) ) (by assumption) (by assumption) ?_; intro _ _ _ _ _; (try k_sweep)) | (refine useI (or_does ⟨by assumption, by assumption, by assumption, by assumption, rfl, rfl, rfl, rfl⟩ (Nat.le_of_ble_eq_true rfl) (Nat.le_of_ble_eq_true rfl) ) (by assumption) (by assumption) ?_; intro _ _ _ _ _; (try k_sweep)) | (refine useI (xor_does ⟨by assumption, by assumption, by assumption, by assumption, rfl, rfl, rfl, rfl⟩ (Nat.le_of_ble_eq_true rfl) (Nat.le_of_ble_eq_true rfl) ) (by assumption) (by assumption) ?_; intro _ _ _ _ _; (try k_sweep)) | (refine useI (inv_does ⟨by assumption, by assumption, by assumption, by assumption, rfl, rfl, rfl, rfl⟩ (Nat.le_of_ble_eq_true rfl) (Nat.le_of_ble_eq_true rfl) ) (by assumption) (by assumption) ?_; intro _ _ _ _ _; (try k_sweep)) | (refine useI (neg_does ⟨by assumption, by assumption, by assumption, by assumption, rfl, rfl, rfl, rfl⟩ (Nat.le_of_ble_eq_true rfl) (Nat.le_of_ble_eq_true rfl) ) (by assumption) (by assumption) ?_; intro _ _ _ _ _; (try k_sweep)) | (refine useI (rsh_does ⟨by assumption, by assumption, by assumption, by assumption, rfl, rfl, rfl, rfl⟩ (Nat.le_of_ble_eq_true rfl) (Nat.le_of_ble_eq_true rfl) (by decide)) (by assumption) (by assumption) ?_; intro _ _ _ _ _; (try k_sweep)) | (refine useI (lsh_does ⟨by assumption, by assumption, by assumption, by assumption, rfl, rfl, rfl, rfl⟩ (Nat.le_of_ble_eq_true rfl) (Nat.le_of_ble_eq_true rfl) (by decide) (by decide) (by omega)) (by assumption) (by assumption) ?_; intro _ _ _ _ _; (try k_sweep)))) | ((fail_if_success (with_reducible show wpAny _ _ (exec (Stmt.While _ _ _ _) _) _ _ _)); (fail_if_success (with_reducible show wpAny _ _ (exec (Stmt.For _ _ _ _ _) _) _ _ _)); (fail_if_success (with_reducible show wpAny _ _ (call (Value.ref _) _ _) _ _ _)); (fail_if_success (with_reducible show KswEnd _ _ _ _ _ _ _ _ _ _ _ _)); (fail_if_success (with_reducible show wpAny _ _ (eval (Expr.ListComp _ _ _ _) _) _ _ _)); (fail_if_success (with_reducible show wpAny _ _ (exec (Stmt.Assign _ (Expr.ListComp _ _ _ _) _) _) _ _ _)); (fail_if_success (with_reducible show Out _ _ _ _ _)); (fail_if_success (with_reducible show LCg.CompEnd _ _ _ _ _ _ _ _ _ _ _ _ _ _)); (fail_if_success (with_reducible show LCg.CompSrc _ _ _ _ _ _ _ _ _ _ _ _ _ _)); (fail_if_success (with_reducible show LCt.CompSrcT _ _ _ _ _ _ _ _ _ _ _ _ _ _ _)); (fail_if_success (with_reducible show Meet _ _ _)); (fail_if_success (with_reducible show wpAny _ _ (pyIter _) _ _ _)); (fail_if_success (with_reducible show LEnd _ _ _ _ _ _ _ _ _ _ _)); (fail_if_success (with_reducible show LPost _ _ _ _ _ _ _ _ _ _ _ _ _)); first | walk1 | (dsimp only; walk1)) | (k_end; dsimp only; k_unfold; (try dsimp only)) | fail "no step"))
  refine call_enc ?_ fun t' k => ?_
  · intro n hn
    have h1 := x.toNat_lt
    have h2 := y.toNat_lt
    have h3 := z.toNat_lt
    simp only [List.mem_toArray, List.mem_cons, List.not_mem_nil, or_false] at hn
    rcases hn with rfl | rfl | rfl | rfl | rfl | rfl <;> exact hexDigit_lt (by omega)
  (repeat' (first | (k_unfold; (try dsimp only)) | ((with_reducible show wpAny _ _ (call (Value.ref _) _ _) _ _ _); (first | (refine useI (add_does ⟨by assumption, by assumption, by assumption, by assumption, rfl, rfl, rfl, rfl⟩ (Nat.le_of_ble_eq_true rfl) (Nat.le_of_ble_eq_true rfl) ) (by assumption) (by assumption) ?_; intro _ _ _ _ _; (try k_sweep)) | (refine useI (sub_does ⟨by assumption, by assumption, by assumption, by assumption, rfl, rfl, rfl, rfl⟩ (Nat.le_of_ble_eq_true rfl) (Nat.le_of_ble_eq_true rfl) ) (by assumption) (by assumption) ?_; intro _ _ _ _ _; (try k_sweep)) | (refine useI (and_does ⟨by assumption, by assumption, by assumption, by assumption, rfl, rfl, rfl, rfl⟩ (Nat.le_of_ble_eq_true rfl) (Nat.le_of_ble_eq_true rfl) ) (by assumption) (by assumption) ?_; intro _ _ _ _ _; (try k_sweep)) | (refine useI (or_does ⟨by assumption, by assumption, by assumption, by assumption, rfl, rfl, rfl, rfl⟩ (Nat.le_of_ble_eq_true rfl) (Nat.le_of_ble_eq_true rfl) ) (by assumption) (by assumption) ?_; intro _ _ _ _ _; (try k_sweep)) | (refine useI (xor_does ⟨by assumption, by assumption, by assumption, by assumption, rfl, rfl, rfl, rfl⟩ (Nat.le_of_ble_eq_true rfl) (Nat.le_of_ble_eq_true rfl) ) (by assumption) (by assumption) ?_; intro _ _ _ _ _; (try k_sweep)) | (refine useI (inv_does ⟨by assumption, by assumption, by assumption, by assumption, rfl, rfl, rfl, rfl⟩ (Nat.le_of_ble_eq_true rfl) (Nat.le_of_ble_eq_true rfl) ) (by assumption) (by assumption) ?_; intro _ _ _ _ _; (try k_sweep)) | (refine useI (neg_does ⟨by assumption, by assumption, by assumption, by assumption, rfl, rfl, rfl, rfl⟩ (Nat.le_of_ble_eq_true rfl) (Nat.le_of_ble_eq_true rfl) ) (by assumption) (by assumption) ?_; intro _ _ _ _ _; (try k_sweep)) | (refine useI (rsh_does ⟨by assumption, by assumption, by assumption, by assumption, rfl, rfl, rfl, rfl⟩ (Nat.le_of_ble_eq_true rfl) (Nat.le_of_ble_eq_true rfl) (by decide)) (by assumption) (by assumption) ?_; intro _ _ _ _ _; (try k_sweep)) | (refine useI (lsh_does ⟨by assumption, by assumption, by assumption, by assumption, rfl, rfl, rfl, rfl⟩ (Nat.le_of_ble_eq_true rfl) (Nat.le_of_ble_eq_true rfl) (by decide) (by decide) (by omega)) (by assumption) (by assumption) ?_; intro _ _ _ _ _; (try k_sweep)))) | ((fail_if_success (with_reducible show wpAny _ _ (exec (Stmt.While _ _ _ _) _) _ _ _)); (fail_if_success (with_reducible show wpAny _ _ (exec (Stmt.For _ _ _ _ _) _) _ _ _)); (fail_if_success (with_reducible show wpAny _ _ (call (Value.ref _) _ _) _ _ _)); (fail_if_success (with_reducible show KswEnd _ _ _ _ _ _ _ _ _ _ _ _)); (fail_if_success (with_reducible show wpAny _ _ (eval (Expr.ListComp _ _ _ _) _) _ _ _)); (fail_if_success (with_reducible show wpAny _ _ (exec (Stmt.Assign _ (Expr.ListComp _ _ _ _) _) _) _ _ _)); (fail_if_success (with_reducible show Out _ _ _ _ _)); (fail_if_success (with_reducible show LCg.CompEnd _ _ _ _ _ _ _ _ _ _ _ _ _ _)); (fail_if_success (with_reducible show LCg.CompSrc _ _ _ _ _ _ _ _ _ _ _ _ _ _)); (fail_if_success (with_reducible show LCt.CompSrcT _ _ _ _ _ _ _ _ _ _ _ _ _ _ _)); (fail_if_success (with_reducible show Meet _ _ _)); (fail_if_success (with_reducible show wpAny _ _ (pyIter _) _ _ _)); (fail_if_success (with_reducible show LEnd _ _ _ _ _ _ _ _ _ _ _)); (fail_if_success (with_reducible show LPost _ _ _ _ _ _ _ _ _ _ _ _ _)); first | walk1 | (dsimp only; walk1)) | (k_end; dsimp only; k_unfold; (try dsimp only)) | fail "no step"))
  rename Fr _ _ _ _ => F9
  exact ⟨_, _, rfl, F9.keep, _, rfl⟩

set_option maxHeartbeats 4000000 in
theorem b16encode_does {w : World} {mean : ExcName → Option Value} {mg mb : Str → Option Value} {A A₀ : Around} {base h₀ : Heap} {outer : List Env} {env : Env} {L : Addr} {m : Str → Option Value} {s : Shared}
    (S : Spot w mean mg mb A A₀ base outer env h₀ L m s.heap) (hdp : A.depth ≤ 580) (hun : A.units ≤ 580)
    {b : Array UInt8} {t1 : Tok} {x y z : Int} (hb : KBw.bInts b = [x, y, z]) :
    Does w A 130 [.bytes b t1] [] [] s (fun v _ => ∃ c t, v = .bytes c t ∧ KBw.bInts c = [t16 (x / 16), t16 (x % 16), t16 (y / 16), t16 (y % 16), t16 (z / 16), t16 (z % 16)]) := by
  obtain ⟨p, q, r, rfl, rfl, rfl, rfl⟩ := bytes3 hb
  refine' does_of 580 580 S hdp hun (by decide) [] ?hN _ (binds := [(Str.ofString "s", .bytes #[p, q, r] t1)]) ?ho ?hcd ?hb ?hl ?c1 ?c2 ?c3 ?c4 ?_
  case hN => exact News.nil
  case ho => k_is
  case hcd => k_is
  case hb => first | exact BindsTo.of_eq rfl | exact binds_K (S.X.keeps S.F.keep) rfl (by k_is) rfl rfl rfl
  case hl => exact locs rfl
  case c1 => exact rfl
  case c2 => exact rfl
  case c3 => exact rfl
  case c4 => decide
  intro g L' h₁ F N B X T hg hlt hnone
  k_fold

  (repeat' (first | (k_unfold; (try dsimp only)) | ((with_reducible show wpAny _ _ (call (Value.ref _) _ _) _ _ _); (first | (refine useI (add_does ⟨by assumption, by assumption, by assumption, by assumption, rfl, rfl, rfl, rfl⟩ (Nat.le_of_ble_eq_true rfl) (Nat.le_of_ble_eq_true rfl) ) (by assumption) (by assumption) ?_; intro _ _ _ _ _; (try k_sweep)) | (refine useI (sub_does ⟨by assumption, by assumption, by assumption, by assumption, rfl, rfl, rfl, rfl⟩ (Nat.le_of_ble_eq_true rfl) (Nat.le_of_ble_eq_true rfl) ) (by assumption) (by assumption) ?_; intro _ _ _ _ _; (try k_sweep)) | (refine useI (and_does ⟨by assumption, by assumption, by assumption, by assumption, rfl, rfl, rfl, rfl⟩ (Nat.le_of_ble_eq_true rfl) (Nat.le_of_ble_eq_true rfl) ) (by assumption) (by assumption) ?_; intro _ _ _ _ _; (try k_sweep)) | (refine useI (or_does ⟨by assumption, by assumption, by assumption, by assumption, rfl, rfl, rfl, rfl⟩ (Nat.le_of_ble_eq_true rfl) (Nat.le_of_ble_eq_true rfl) ) (by assumption) (by assumption) ?_; intro _ _ _ _ _; (try k_sweep)) | (refine useI (xor_does ⟨by assumption, by assumption, by assumption, by assumption, rfl, rfl, rfl, rfl⟩ (Nat.le_of_ble_eq_true rfl) (Nat.le_of_ble_eq_true rfl) ) (by assumption) (by assumption) ?_; intro _ _ _ _ _; (try k_sweep)) | (refine useI (inv_does ⟨by assumption, by assumption, by assumption, by assumption, rfl, rfl, rfl, rfl⟩ (Nat.le_of_ble_eq_true rfl) (Nat.le_of_ble_eq_true rfl) ) (by assumption) (by assumption) ?_; intro _ _ _ _ _; (try k_sweep)) | (refine useI (neg_does ⟨by assumption, by assumption, by assumption, by assumption, rfl, rfl, rfl, rfl⟩ (Nat.le_of_ble_eq_true rfl) (Nat.le_of_ble_eq_true rfl) ) (by assumption) (by assumption) ?_; intro _ _ _ _ _; (try k_sweep)) | (refine useI (rsh_does ⟨by assumption, by assumption, by assumption, by assumption, rfl, rfl, rfl, rfl⟩ (Nat.le_of_ble_eq_true rfl) (Nat.le_of_ble_eq_true rfl) (by decide)) (by assumption) (by assumption) ?_; intro _ _ _ _ _; (try k_sweep)) | (refine useI (lsh_does ⟨by assumption, by assumption, by assumption, by assumption, rfl, rfl, rfl, rfl⟩ (Nat.le_of_ble_eq_true rfl) (Nat.le_of_ble_eq_true rfl) (by decide) (by decide) (by omega)) (by assumption) (by assumption) ?_; intro _ _ _ _ _; (try k_sweep)))) | ((fail_if_success (with_reducible show wpAny _ _ (exec (Stmt.While _ _ _ _) _) _ _ _)); (fail_if_success (with_reducible show wpAny _ _ (exec (Stmt.For _ _ _ _ _) _) _ _ _)); (fail_if_success (with_reducible show wpAny _ _ (call (Value.ref _) _ _) _ _ _)); (fail_if_success (with_reducible show KswEnd _ _ _ _ _ _ _ _ _ _ _ _)); (fail_if_success (with_reducible show wpAny _ _ (eval (Expr.ListComp _ _ _ _) _) _ _ _)); (fail_if_success (with_reducible show wpAny _ _ (exec (Stmt.Assign _ (Expr.ListComp _ _ _ _) _) _) _ _ _)); (fail_if_success (with_reducible show Out _ _ _ _ _)); (fail_if_success (with_reducible show LCg.CompEnd _ _ _ _ _ _ _ _ _ _ _ _ _ _)); (fail_if_success (with_reducible show LCg.CompSrc _ _ _ _ _ _ _ _ _ _ _ _ _ _)); (fail_if_success (with_reducible show LCt.CompSrcT _ _ _ _ _ _ _ _ _ _ _ _ _ _ _)); (fail_if_success (with_reducible show Meet _ _ _)); (fail_if_success (with_reducible show wpAny _ _ (pyIter _) _ _ _)); (fail_if_success (with_reducible show LEnd _ _ _ _ _ _ _ _ _ _ _)); (fail_if_success (with_reducible show LPost _ _ _ _ _ _ _ _ _ _ _ _ _)); first | walk1 | (dsimp only; walk1)) | (k_end; dsimp only; k_unfold; (try dsimp only)) | fail "no step"))
  refine use0 (b2ahex_does ⟨by assumption, by assumption, by assumption, by assumption, rfl, rfl, rfl, rfl⟩ (Nat.le_of_ble_eq_true rfl) (Nat.le_of_ble_eq_true rfl)) (by assumption) (by assumption) ?_
  rintro _ _ _ _ _ ⟨t, rfl⟩
  (repeat' (first | (k_unfold; (try dsimp only)) | ((with_reducible show wpAny _ _ (call (Value.ref _) _ _) _ _ _); (first | (refine useI (add_does ⟨by assumption, by assumption, by assumption, by assumption, rfl, rfl, rfl, rfl⟩ (Nat.le_of_ble_eq_true rfl) (Nat.le_of_ble_eq_true rfl) ) (by assumption) (by assumption) ?_; intro _ _ _ _ _; (try k_sweep)) | (refine useI (sub_does ⟨by assumption, by assumption, by assumption, by assumption, rfl, rfl, rfl, rfl⟩ (Nat.le_of_ble_eq_true rfl) (Nat.le_of_ble_eq_true rfl) ) (by assumption) (by assumption) ?_; intro _ _ _ _ _; (try k_sweep)) | (refine useI (and_does ⟨by assumption, by assumption, by assumption, by assumption, rfl, rfl, rfl, rfl⟩ (Nat.le_of_ble_eq_true rfl) (Nat.le_of_ble_eq_true rfl) ) (by assumption) (by assumption) ?_; intro _ _ _ _ _; (try k_sweep)) | (refine useI (or_does ⟨by assumption, by assumption, by assumption, by assumption, rfl, rfl, rfl, rfl⟩ (Nat.le_of_ble_eq_true rfl) (Nat.le_of_ble_eq_true rfl) ) (by assumption) (by assumption) ?_; intro _ _ _ _ _; (try k_sweep)) | (refine useI (xor_does ⟨by assumption, by assumption, by assumption, by assumption, rfl, rfl, rfl, rfl⟩ (Nat.le_of_ble_eq_true rfl) (Nat.le_of_ble_eq_true rfl) ) (by assumption) (by assumption) ?_; intro _ _ _ _ _; (try k_sweep)) | (refine useI (inv_does ⟨by assumption, by assumption, by assumption, by assumption, rfl, rfl, rfl, rfl⟩ (Nat.le_of_ble_eq_true rfl) (Nat.le_of_ble_eq_true rfl) ) (by assumption) (by assumption) ?_; intro _ _ _ _ _; (try k_sweep)) | (refine useI (neg_does ⟨by assumption, by assumption, by assumption, by assumption, rfl, rfl, rfl, rfl⟩ (Nat.le_of_ble_eq_true rfl) (Nat.le_of_ble_eq_true rfl) ) (by assumption) (by assumption) ?_; intro _ _ _ _ _; (try k_sweep)) | (refine useI (rsh_does ⟨by assumption, by assumption, by assumption, by assumption, rfl, rfl, rfl, rfl⟩ (Nat.le_of_ble_eq_true rfl) (Nat.le_of_ble_eq_true rfl) (by decide)) (by assumption) (by assumption) ?_; intro _ _ _ _ _; (try k_sweep)) | (refine useI (lsh_does ⟨by assumption, by assumption, by assumption, by assumption, rfl, rfl, rfl, rfl⟩ (Nat.le_of_ble_eq_true rfl) (Nat.le_of_ble_eq_true rfl) (by decide) (by decide) (by omega)) (by assumption) (by assumption) ?_; intro _ _ _ _ _; (try k_sweep)))) | ((fail_if_success (with_reducible show wpAny _ _ (exec (Stmt.While _ _ _ _) _) _ _ _)); (fail_if_success (with_reducible show wpAny _ _ (exec (Stmt.For _ _ _ _ _) _) _ _ _)); (fail_if_success (with_reducible show wpAny _ _ (call (Value.ref _) _ _) _ _ _)); (fail_if_success (with_reducible show KswEnd _ _ _ _ _ _ _ _ _ _ _ _)); (fail_if_success (with_reducible show wpAny _ _ (eval (Expr.ListComp _ _ _ _) _) _ _ _)); (fail_if_success (with_reducible show wpAny _ _ (exec (Stmt.Assign _ (Expr.ListComp _ _ _ _) _) _) _ _ _)); (fail_if_success (with_reducible show Out _ _ _ _ _)); (fail_if_success (with_reducible show LCg.CompEnd _ _ _ _ _ _ _ _ _ _ _ _ _ _)); (fail_if_success (with_reducible show LCg.CompSrc _ _ _ _ _ _ _ _ _ _ _ _ _ _)); (fail_if_success (with_reducible show LCt.CompSrcT _ _ _ _ _ _ _ _ _ _ _ _ _ _ _)); (fail_if_success (with_reducible show Meet _ _ _)); (fail_if_success (with_reducible show wpAny _ _ (pyIter _) _ _ _)); (fail_if_success (with_reducible show LEnd _ _ _ _ _ _ _ _ _ _ _)); (fail_if_success (with_reducible show LPost _ _ _ _ _ _ _ _ _ _ _ _ _)); first | walk1 | (dsimp only; walk1)) | (k_end; dsimp only; k_unfold; (try dsimp only)) | fail "no step"))
  with_reducible refine KBd.method_of _ (typeIs_bytes _ _ _) slot_bytes_upper type_bytes_upper KBd.noRef ?_
  (repeat' (first | (k_unfold; (try dsimp only)) | ((with_reducible show wpAny _ _ (call (Value.ref _) _ _) _ _ _); (first | (refine useI (add_does ⟨by assumption, by assumption, by assumption, by assumption, rfl, rfl, rfl, rfl⟩ (Nat.le_of_ble_eq_true rfl) (Nat.le_of_ble_eq_true rfl) ) (by assumption) (by assumption) ?_; intro _ _ _ _ _; (try k_sweep)) | (refine useI (sub_does ⟨by assumption, by assumption, by assumption, by assumption, rfl, rfl, rfl, rfl⟩ (Nat.le_of_ble_eq_true rfl) (Nat.le_of_ble_eq_true rfl) ) (by assumption) (by assumption) ?_; intro _ _ _ _ _; (try k_sweep)) | (refine useI (and_does ⟨by assumption, by assumption, by assumption, by assumption, rfl, rfl, rfl, rfl⟩ (Nat.le_of_ble_eq_true rfl) (Nat.le_of_ble_eq_true rfl) ) (by assumption) (by assumption) ?_; intro _ _ _ _ _; (try k_sweep)) | (refine useI (or_does ⟨by assumption, by assumption, by assumption, by assumption, rfl, rfl, rfl, rfl⟩ (Nat.le_of_ble_eq_true rfl) (Nat.le_of_ble_eq_true rfl) ) (by assumption) (by assumption) ?_; intro _ _ _ _ _; (try k_sweep)) | (refine useI (xor_does ⟨by assumption, by assumption, by assumption, by assumption, rfl, rfl, rfl, rfl⟩ (Nat.le_of_ble_eq_true rfl) (Nat.le_of_ble_eq_true rfl) ) (by assumption) (by assumption) ?_; intro _ _ _ _ _; (try k_sweep)) | (refine useI (inv_does ⟨by assumption, by assumption, by assumption, by assumption, rfl, rfl, rfl, rfl⟩ (Nat.le_of_ble_eq_true rfl) (Nat.le_of_ble_eq_true rfl) ) (by assumption) (by assumption) ?_; intro _ _ _ _ _; (try k_sweep)) | (refine useI (neg_does ⟨by assumption, by assumption, by assumption, by assumption, rfl, rfl, rfl, rfl⟩ (Nat.le_of_ble_eq_true rfl) (Nat.le_of_ble_eq_true rfl) ) (by assumption) (by assumption) ?_; intro _ _ _ _ _; (try k_sweep)) | (refine useI (rsh_does ⟨by assumption, by assumption, by assumption, by assumption, rfl, rfl, rfl, rfl⟩ (Nat.le_of_ble_eq_true rfl) (Nat.le_of_ble_eq_true rfl) (by decide)) (by assumption) (by assumption) ?_; intro _ _ _ _ _; (try k_sweep)) | (refine useI (lsh_does ⟨by assumption, by assumption, by assumption, by assumption, rfl, rfl, rfl, rfl⟩ (Nat.le_of_ble_eq_true rfl) (Nat.le_of_ble_eq_true rfl) (by decide) (by decide) (by omega)) (by assumption) (by assumption) ?_; intro _ _ _ _ _; (try k_sweep)))) | ((fail_if_success (with_reducible show wpAny _ _ (exec (Stmt.While _ _ _ _) _) _ _ _)); (fail_if_success (with_reducible show wpAny _ _ (exec (Stmt.For _ _ _ _ _) _) _ _ _)); (fail_if_success (with_reducible show wpAny _ _ (call (Value.ref _) _ _) _ _ _)); (fail_if_success (with_reducible show KswEnd _ _ _ _ _ _ _ _ _ _ _ _)); (fail_if_success (with_reducible show wpAny _ _ (eval (Expr.ListComp _ _ _ _) _) _ _ _)); (fail_if_success (with_reducible show wpAny _ _ (exec (Stmt.Assign _ (Expr.ListComp _ _ _ _) _) _) _ _ _)); (fail_if_success (with_reducible show Out _ _ _ _ _)); (fail_if_success (with_reducible show LCg.CompEnd _ _ _ _ _ _ _ _ _ _ _ _ _ _)); (fail_if_success (with_reducible show LCg.CompSrc _ _ _ _ _ _ _ _ _ _ _ _ _ _)); (fail_if_success (with_reducible show LCt.CompSrcT _ _ _ _ _ _ _ _ _ _ _ _ _ _ _)); (fail_if_success (with_reducible show Meet _ _ _)); (fail_if_success (with_reducible show wpAny _ _ (pyIter _) _ _ _)); (fail_if_success (with_reducible show LEnd _ _ _ _ _ _ _ _ _ _ _)); (fail_if_success (with_reducible show LPost _ _ _ _ _ _ _ _ _ _ _ _ _)); first | walk1 | (dsimp only; walk1)) | (k_end; dsimp only; k_unfold; (try dsimp only)) | fail "no step"))
  refine call_up (show (6 : Nat) ≤ 16777216 by decide) fun t' k => ?_
  (repeat' (first | (k_unfold; (try dsimp only)) | ((with_reducible show wpAny _ _ (call (Value.ref _) _ _) _ _ _); (first | (refine useI (add_does ⟨by assumption, by assumption, by assumption, by assumption, rfl, rfl, rfl, rfl⟩ (Nat.le_of_ble_eq_true rfl) (Nat.le_of_ble_eq_true rfl) ) (by assumption) (by assumption) ?_; intro _ _ _ _ _; (try k_sweep)) | (refine useI (sub_does ⟨by assumption, by assumption, by assumption, by assumption, rfl, rfl, rfl, rfl⟩ (Nat.le_of_ble_eq_true rfl) (Nat.le_of_ble_eq_true rfl) ) (by assumption) (by assumption) ?_; intro _ _ _ _ _; (try k_sweep)) | (refine useI (and_does ⟨by assumption, by assumption, by assumption, by assumption, rfl, rfl, rfl, rfl⟩ (Nat.le_of_ble_eq_true rfl) (Nat.le_of_ble_eq_true rfl) ) (by assumption) (by assumption) ?_; intro _ _ _ _ _; (try k_sweep)) | (refine useI (or_does ⟨by assumption, by assumption, by assumption, by assumption, rfl, rfl, rfl, rfl⟩ (Nat.le_of_ble_eq_true rfl) (Nat.le_of_ble_eq_true rfl) ) (by assumption) (by assumption) ?_; intro _ _ _ _ _; (try k_sweep)) | (refine useI (xor_does ⟨by assumption, by assumption, by assumption, by assumption, rfl, rfl, rfl, rfl⟩ (Nat.le_of_ble_eq_true rfl) (Nat.le_of_ble_eq_true rfl) ) (by assumption) (by assumption) ?_; intro _ _ _ _ _; (try k_sweep)) | (refine useI (inv_does ⟨by assumption, by assumption, by assumption, by assumption, rfl, rfl, rfl, rfl⟩ (Nat.le_of_ble_eq_true rfl) (Nat.le_of_ble_eq_true rfl) ) (by assumption) (by assumption) ?_; intro _ _ _ _ _; (try k_sweep)) | (refine useI (neg_does ⟨by assumption, by assumption, by assumption, by assumption, rfl, rfl, rfl, rfl⟩ (Nat.le_of_ble_eq_true rfl) (Nat.le_of_ble_eq_true rfl) ) (by assumption) (by assumption) ?_; intro _ _ _ _ _; (try k_sweep)) | (refine useI (rsh_does ⟨by assumption, by assumption, by assumption, by assumption, rfl, rfl, rfl, rfl⟩ (Nat.le_of_ble_eq_true rfl) (Nat.le_of_ble_eq_true rfl) (by decide)) (by assumption) (by assumption) ?_; intro _ _ _ _ _; (try k_sweep)) | (refine useI (lsh_does ⟨by assumption, by assumption, by assumption, by assumption, rfl, rfl, rfl, rfl⟩ (Nat.le_of_ble_eq_true rfl) (Nat.le_of_ble_eq_true rfl) (by decide) (by decide) (by omega)) (by assumption) (by assumption) ?_; intro _ _ _ _ _; (try k_sweep)))) | ((fail_if_success (with_reducible show wpAny _ _ (exec (Stmt.While _ _ _ _) _) _ _ _)); (fail_if_success (with_reducible show wpAny _ _ (exec (Stmt.For _ _ _ _ _) _) _ _ _)); (fail_if_success (with_reducible show wpAny _ _ (call (Value.ref _) _ _) _ _ _)); (fail_if_success (with_reducible show KswEnd _ _ _ _ _ _ _ _ _ _ _ _)); (fail_if_success (with_reducible show wpAny _ _ (eval (Expr.ListComp _ _ _ _) _) _ _ _)); (fail_if_success (with_reducible show wpAny _ _ (exec (Stmt.Assign _ (Expr.ListComp _ _ _ _) _) _) _ _ _)); (fail_if_success (with_reducible show Out _ _ _ _ _)); (fail_if_success (with_reducible show LCg.CompEnd _ _ _ _ _ _ _ _ _ _ _ _ _ _)); (fail_if_success (with_reducible show LCg.CompSrc _ _ _ _ _ _ _ _ _ _ _ _ _ _)); (fail_if_success (with_reducible show LCt.CompSrcT _ _ _ _ _ _ _ _ _ _ _ _ _ _ _)); (fail_if_success (with_reducible show Meet _ _ _)); (fail_if_success (with_reducible show wpAny _ _ (pyIter _) _ _ _)); (fail_if_success (with_reducible show LEnd _ _ _ _ _ _ _ _ _ _ _)); (fail_if_success (with_reducible show LPost _ _ _ _ _ _ _ _ _ _ _ _ _)); first | walk1 | (dsimp only; walk1)) | (k_end; dsimp only; k_unfold; (try dsimp only)) | fail "no step"))
  rename Fr _ _ _ _ => F9
  refine ⟨_, _, rfl, F9.keep, _, _, rfl, ?_⟩
  have h1 := p.toNat_lt
  have h2 := q.toNat_lt
  have h3 := r.toNat_lt
  rw [KBw.ints_list]
  simp only [List.map_cons, List.map_nil]
  rw [up_digit (by omega), up_digit (by omega), up_digit (by omega), up_digit (by omega), up_digit (by omega), up_digit (by omega)]
  simp

end

section
set_option maxRecDepth 100000

theorem fill10 : hd.heap_39 = hd.heap_39 ∧ PySem.Challenge.rw_oy0042_01 = PySem.Challenge.rw_oy0042_01 := by
  w_top off
  k_fill
  exact ⟨rfl, rfl⟩


noncomputable def rdF (al : Str) (n k : Int) : Int := (al.length : Int) * n + Txt.find al ⟨#[k.toNat]⟩
set_option maxHeartbeats 4000000 in
theorem read_does {w : World} {mean : ExcName → Option Value} {mg mb : Str → Option Value} {A A₀ : Around} {base h₀ : Heap} {outer : List Env} {env : Env} {L : Addr} {m : Str → Option Value} {s : Shared}
    (S : Spot w mean mg mb A A₀ base outer env h₀ L m s.heap) (hdp : A.depth ≤ 500) (hun : A.units ≤ 500)
    {b : Array UInt8} {ks : List Int} {al : Str} {t1 t2 : Tok} (hb : KBw.bInts b = ks) (hal : al.length ≤ 100) :
    Does w A 196 [.bytes b t1, .str al t2] [] [] s (fun v _ => ∃ t, v = .int (ks.foldl (rdF al) 0) t) := by
  refine' does_of 500 500 S hdp hun (by decide) [] ?hN _ (binds := [(Str.ofString "text", .bytes b t1), (Str.ofString "alphabet", .str al t2)]) ?ho ?hcd ?hb ?hl ?c1 ?c2 ?c3 ?c4 ?_
  case hN => exact News.nil
  case ho => k_is
  case hcd => k_is
  case hb => first | exact BindsTo.of_eq rfl | exact binds_K (S.X.keeps S.F.keep) rfl (by k_is) rfl rfl rfl
  case hl => exact locs rfl
  case c1 => exact rfl
  case c2 => exact rfl
  case c3 => exact rfl
  case c4 => decide
  intro g L' h₁ F N B X T hg hlt hnone
  k_fold

  (repeat' (first | (k_unfold; (try dsimp only)) | ((with_reducible show wpAny _ _ (call (Value.ref _) _ _) _ _ _); (first | (refine useI (add_does ⟨by assumption, by assumption, by assumption, by assumption, rfl, rfl, rfl, rfl⟩ (Nat.le_of_ble_eq_true rfl) (Nat.le_of_ble_eq_true rfl) ) (by assumption) (by assumption) ?_; intro _ _ _ _ _; (try k_sweep)) | (refine useI (sub_does ⟨by assumption, by assumption, by assumption, by assumption, rfl, rfl, rfl, rfl⟩ (Nat.le_of_ble_eq_true rfl) (Nat.le_of_ble_eq_true rfl) ) (by assumption) (by assumption) ?_; intro _ _ _ _ _; (try k_sweep)) | (refine useI (and_does ⟨by assumption, by assumption, by assumption, by assumption, rfl, rfl, rfl, rfl⟩ (Nat.le_of_ble_eq_true rfl) (Nat.le_of_ble_eq_true rfl) ) (by assumption) (by assumption) ?_; intro _ _ _ _ _; (try k_sweep)) | (refine useI (or_does ⟨by assumption, by assumption, by assumption, by assumption, rfl, rfl, rfl, rfl⟩ (Nat.le_of_ble_eq_true rfl) (Nat.le_of_ble_eq_true rfl) ) (by assumption) (by assumption) ?_; intro _ _ _ _ _; (try k_sweep)) | (refine useI (xor_does ⟨by assumption, by assumption, by assumption, by assumption, rfl, rfl, rfl, rfl⟩ (Nat.le_of_ble_eq_true rfl) (Nat.le_of_ble_eq_true rfl) ) (by assumption) (by assumption) ?_; intro _ _ _ _ _; (try k_sweep)) | (refine useI (inv_does ⟨by assumption, by assumption, by assumption, by assumption, rfl, rfl, rfl, rfl⟩ (Nat.le_of_ble_eq_true rfl) (Nat.le_of_ble_eq_true rfl) ) (by assumption) (by assumption) ?_; intro _ _ _ _ _; (try k_sweep)) | (refine useI (neg_does ⟨by assumption, by assumption, by assumption, by assumption, rfl, rfl, rfl, rfl⟩ (Nat.le_of_ble_eq_true rfl) (Nat.le_of_ble_eq_true rfl) ) (by assumption) (by assumption) ?_; intro _ _ _ _ _; (try k_sweep)) | (refine useI (rsh_does ⟨by assumption, by assumption, by assumption, by assumption, rfl, rfl, rfl, rfl⟩ (Nat.le_of_ble_eq_true rfl) (Nat.le_of_ble_eq_true rfl) (by decide)) (by assumption) (by assumption) ?_; intro _ _ _ _ _; (try k_sweep)) | (refine useI (lsh_does ⟨by assumption, by assumption, by assumption, by assumption, rfl, rfl, rfl, rfl⟩ (Nat.le_of_ble_eq_true rfl) (Nat.le_of_ble_eq_true rfl) (by decide) (by decide) (by omega)) (by assumption) (by assumption) ?_; intro _ _ _ _ _; (try k_sweep)))) | ((fail_if_success (with_reducible show wpAny _ _ (exec (Stmt.While _ _ _ _) _) _ _ _)); (fail_if_success (with_reducible show wpAny _ _ (exec (Stmt.For _ _ _ _ _) _) _ _ _)); (fail_if_success (with_reducible show wpAny _ _ (call (Value.ref _) _ _) _ _ _)); (fail_if_success (with_reducible show KswEnd _ _ _ _ _ _ _ _ _ _ _ _)); (fail_if_success (with_reducible show wpAny _ _ (eval (Expr.ListComp _ _ _ _) _) _ _ _)); (fail_if_success (with_reducible show wpAny _ _ (exec (Stmt.Assign _ (Expr.ListComp _ _ _ _) _) _) _ _ _)); (fail_if_success (with_reducible show Out _ _ _ _ _)); (fail_if_success (with_reducible show LCg.CompEnd _ _ _ _ _ _ _ _ _ _ _ _ _ _)); (fail_if_success (with_reducible show LCg.CompSrc _ _ _ _ _ _ _ _ _ _ _ _ _ _)); (fail_if_success (with_reducible show LCt.CompSrcT _ _ _ _ _ _ _ _ _ _ _ _ _ _ _)); (fail_if_success (with_reducible show Meet _ _ _)); (fail_if_success (with_reducible show wpAny _ _ (pyIter _) _ _ _)); (fail_if_success (with_reducible show LEnd _ _ _ _ _ _ _ _ _ _ _)); (fail_if_success (with_reducible show LPost _ _ _ _ _ _ _ _ _ _ _ _ _)); first | walk1 | (dsimp only; walk1)) | (k_end; dsimp only; k_unfold; (try dsimp only)) | fail "no step"))
  refine For_invV g rfl rfl ?_
  (repeat' (first | (k_unfold; (try dsimp only)) | ((with_reducible show wpAny _ _ (call (Value.ref _) _ _) _ _ _); (first | (refine useI (add_does ⟨by assumption, by assumption, by assumption, by assumption, rfl, rfl, rfl, rfl⟩ (Nat.le_of_ble_eq_true rfl) (Nat.le_of_ble_eq_true rfl) ) (by assumption) (by assumption) ?_; intro _ _ _ _ _; (try k_sweep)) | (refine useI (sub_does ⟨by assumption, by assumption, by assumption, by assumption, rfl, rfl, rfl, rfl⟩ (Nat.le_of_ble_eq_true rfl) (Nat.le_of_ble_eq_true rfl) ) (by assumption) (by assumption) ?_; intro _ _ _ _ _; (try k_sweep)) | (refine useI (and_does ⟨by assumption, by assumption, by assumption, by assumption, rfl, rfl, rfl, rfl⟩ (Nat.le_of_ble_eq_true rfl) (Nat.le_of_ble_eq_true rfl) ) (by assumption) (by assumption) ?_; intro _ _ _ _ _; (try k_sweep)) | (refine useI (or_does ⟨by assumption, by assumption, by assumption, by assumption, rfl, rfl, rfl, rfl⟩ (Nat.le_of_ble_eq_true rfl) (Nat.le_of_ble_eq_true rfl) ) (by assumption) (by assumption) ?_; intro _ _ _ _ _; (try k_sweep)) | (refine useI (xor_does ⟨by assumption, by assumption, by assumption, by assumption, rfl, rfl, rfl, rfl⟩ (Nat.le_of_ble_eq_true rfl) (Nat.le_of_ble_eq_true rfl) ) (by assumption) (by assumption) ?_; intro _ _ _ _ _; (try k_sweep)) | (refine useI (inv_does ⟨by assumption, by assumption, by assumption, by assumption, rfl, rfl, rfl, rfl⟩ (Nat.le_of_ble_eq_true rfl) (Nat.le_of_ble_eq_true rfl) ) (by assumption) (by assumption) ?_; intro _ _ _ _ _; (try k_sweep)) | (refine useI (neg_does ⟨by assumption, by assumption, by assumption, by assumption, rfl, rfl, rfl, rfl⟩ (Nat.le_of_ble_eq_true rfl) (Nat.le_of_ble_eq_true rfl) ) (by assumption) (by assumption) ?_; intro _ _ _ _ _; (try k_sweep)) | (refine useI (rsh_does ⟨by assumption, by assumption, by assumption, by assumption, rfl, rfl, rfl, rfl⟩ (Nat.le_of_ble_eq_true rfl) (Nat.le_of_ble_eq_true rfl) (by decide)) (by assumption) (by assumption) ?_; intro _ _ _ _ _; (try k_sweep)) | (refine useI (lsh_does ⟨by assumption, by assumption, by assumption, by assumption, rfl, rfl, rfl, rfl⟩ (Nat.le_of_ble_eq_true rfl) (Nat.le_of_ble_eq_true rfl) (by decide) (by decide) (by omega)) (by assumption) (by assumption) ?_; intro _ _ _ _ _; (try k_sweep)))) | ((fail_if_success (with_reducible show wpAny _ _ (exec (Stmt.While _ _ _ _) _) _ _ _)); (fail_if_success (with_reducible show wpAny _ _ (exec (Stmt.For _ _ _ _ _) _) _ _ _)); (fail_if_success (with_reducible show wpAny _ _ (call (Value.ref _) _ _) _ _ _)); (fail_if_success (with_reducible show KswEnd _ _ _ _ _ _ _ _ _ _ _ _)); (fail_if_success (with_reducible show wpAny _ _ (eval (Expr.ListComp _ _ _ _) _) _ _ _)); (fail_if_success (with_reducible show wpAny _ _ (exec (Stmt.Assign _ (Expr.ListComp _ _ _ _) _) _) _ _ _)); (fail_if_success (with_reducible show Out _ _ _ _ _)); (fail_if_success (with_reducible show LCg.CompEnd _ _ _ _ _ _ _ _ _ _ _ _ _ _)); (fail_if_success (with_reducible show LCg.CompSrc _ _ _ _ _ _ _ _ _ _ _ _ _ _)); (fail_if_success (with_reducible show LCt.CompSrcT _ _ _ _ _ _ _ _ _ _ _ _ _ _ _)); (fail_if_success (with_reducible show Meet _ _ _)); (fail_if_success (with_reducible show wpAny _ _ (pyIter _) _ _ _)); (fail_if_success (with_reducible show LEnd _ _ _ _ _ _ _ _ _ _ _)); (fail_if_success (with_reducible show LPost _ _ _ _ _ _ _ _ _ _ _ _ _)); first | walk1 | (dsimp only; walk1)) | (k_end; dsimp only; k_unfold; (try dsimp only)) | fail "no step"))
  rename Fr _ _ _ _ => F9
  refine loopB (L := L') (σ := Int × Tok) (fun _ => []) (fun c => [(Str.ofString "number", .int c.1 c.2)]) [] (fun i c => c.1 = (ks.take i).foldl (rdF al) 0) (0, _) [] hb rfl rfl (fun _ => rfl) F9 News.nil (List.forall_mem_singleton.mpr rfl) rfl ?_ ?_
  · rintro i k t ⟨nu, tn⟩ u h tk own hk h0 h1 hoff hP F₁ N₁
    dsimp only [kstB] at hP F₁ N₁
    dsimp only
    simp only [List.nil_append] at N₁
    clear F9
    (repeat' (first | (k_unfold; (try dsimp only)) | ((with_reducible show wpAny _ _ (call (Value.ref _) _ _) _ _ _); (first | (refine useI (add_does ⟨by assumption, by assumption, by assumption, by assumption, rfl, rfl, rfl, rfl⟩ (Nat.le_of_ble_eq_true rfl) (Nat.le_of_ble_eq_true rfl) ) (by assumption) (by assumption) ?_; intro _ _ _ _ _; (try k_sweep)) | (refine useI (sub_does ⟨by assumption, by assumption, by assumption, by assumption, rfl, rfl, rfl, rfl⟩ (Nat.le_of_ble_eq_true rfl) (Nat.le_of_ble_eq_true rfl) ) (by assumption) (by assumption) ?_; intro _ _ _ _ _; (try k_sweep)) | (refine useI (and_does ⟨by assumption, by assumption, by assumption, by assumption, rfl, rfl, rfl, rfl⟩ (Nat.le_of_ble_eq_true rfl) (Nat.le_of_ble_eq_true rfl) ) (by assumption) (by assumption) ?_; intro _ _ _ _ _; (try k_sweep)) | (refine useI (or_does ⟨by assumption, by assumption, by assumption, by assumption, rfl, rfl, rfl, rfl⟩ (Nat.le_of_ble_eq_true rfl) (Nat.le_of_ble_eq_true rfl) ) (by assumption) (by assumption) ?_; intro _ _ _ _ _; (try k_sweep)) | (refine useI (xor_does ⟨by assumption, by assumption, by assumption, by assumption, rfl, rfl, rfl, rfl⟩ (Nat.le_of_ble_eq_true rfl) (Nat.le_of_ble_eq_true rfl) ) (by assumption) (by assumption) ?_; intro _ _ _ _ _; (try k_sweep)) | (refine useI (inv_does ⟨by assumption, by assumption, by assumption, by assumption, rfl, rfl, rfl, rfl⟩ (Nat.le_of_ble_eq_true rfl) (Nat.le_of_ble_eq_true rfl) ) (by assumption) (by assumption) ?_; intro _ _ _ _ _; (try k_sweep)) | (refine useI (neg_does ⟨by assumption, by assumption, by assumption, by assumption, rfl, rfl, rfl, rfl⟩ (Nat.le_of_ble_eq_true rfl) (Nat.le_of_ble_eq_true rfl) ) (by assumption) (by assumption) ?_; intro _ _ _ _ _; (try k_sweep)) | (refine useI (rsh_does ⟨by assumption, by assumption, by assumption, by assumption, rfl, rfl, rfl, rfl⟩ (Nat.le_of_ble_eq_true rfl) (Nat.le_of_ble_eq_true rfl) (by decide)) (by assumption) (by assumption) ?_; intro _ _ _ _ _; (try k_sweep)) | (refine useI (lsh_does ⟨by assumption, by assumption, by assumption, by assumption, rfl, rfl, rfl, rfl⟩ (Nat.le_of_ble_eq_true rfl) (Nat.le_of_ble_eq_true rfl) (by decide) (by decide) (by omega)) (by assumption) (by assumption) ?_; intro _ _ _ _ _; (try k_sweep)))) | ((fail_if_success (with_reducible show wpAny _ _ (exec (Stmt.While _ _ _ _) _) _ _ _)); (fail_if_success (with_reducible show wpAny _ _ (exec (Stmt.For _ _ _ _ _) _) _ _ _)); (fail_if_success (with_reducible show wpAny _ _ (call (Value.ref _) _ _) _ _ _)); (fail_if_success (with_reducible show KswEnd _ _ _ _ _ _ _ _ _ _ _ _)); (fail_if_success (with_reducible show wpAny _ _ (eval (Expr.ListComp _ _ _ _) _) _ _ _)); (fail_if_success (with_reducible show wpAny _ _ (exec (Stmt.Assign _ (Expr.ListComp _ _ _ _) _) _) _ _ _)); (fail_if_success (with_reducible show Out _ _ _ _ _)); (fail_if_success (with_reducible show LCg.CompEnd _ _ _ _ _ _ _ _ _ _ _ _ _ _)); (fail_if_success (with_reducible show LCg.CompSrc _ _ _ _ _ _ _ _ _ _ _ _ _ _)); (fail_if_success (with_reducible show LCt.CompSrcT _ _ _ _ _ _ _ _ _ _ _ _ _ _ _)); (fail_if_success (with_reducible show Meet _ _ _)); (fail_if_success (with_reducible show wpAny _ _ (pyIter _) _ _ _)); (fail_if_success (with_reducible show LEnd _ _ _ _ _ _ _ _ _ _ _)); (fail_if_success (with_reducible show LPost _ _ _ _ _ _ _ _ _ _ _ _ _)); first | walk1 | (dsimp only; walk1)) | (k_end; dsimp only; k_unfold; (try dsimp only)) | fail "no step"))
    rename Fr _ _ _ _ => F8
    dsimp only [LPost]
    refine ⟨(_, _), _, _, _, rfl, F8, by assumption, List.forall_mem_singleton.mpr rfl, ?_, ?_⟩
    · intro z h1 h2 _
      have h3 : z ≠ Str.ofString "number" := h2 _ (List.mem_singleton.mpr rfl)
      simp [h1, h3]
    · have e : ks.take (i + 1) = ks.take i ++ [k] := by rw [List.take_add_one, hk]; rfl
      rw [e, List.foldl_append, ← hP]
      rfl
  · rintro ⟨nu, tn⟩ u h tk hP F₁ N₁
    dsimp only [kstB] at hP F₁ N₁
    clear F9
    (repeat' (first | (k_unfold; (try dsimp only)) | ((with_reducible show wpAny _ _ (call (Value.ref _) _ _) _ _ _); (first | (refine useI (add_does ⟨by assumption, by assumption, by assumption, by assumption, rfl, rfl, rfl, rfl⟩ (Nat.le_of_ble_eq_true rfl) (Nat.le_of_ble_eq_true rfl) ) (by assumption) (by assumption) ?_; intro _ _ _ _ _; (try k_sweep)) | (refine useI (sub_does ⟨by assumption, by assumption, by assumption, by assumption, rfl, rfl, rfl, rfl⟩ (Nat.le_of_ble_eq_true rfl) (Nat.le_of_ble_eq_true rfl) ) (by assumption) (by assumption) ?_; intro _ _ _ _ _; (try k_sweep)) | (refine useI (and_does ⟨by assumption, by assumption, by assumption, by assumption, rfl, rfl, rfl, rfl⟩ (Nat.le_of_ble_eq_true rfl) (Nat.le_of_ble_eq_true rfl) ) (by assumption) (by assumption) ?_; intro _ _ _ _ _; (try k_sweep)) | (refine useI (or_does ⟨by assumption, by assumption, by assumption, by assumption, rfl, rfl, rfl, rfl⟩ (Nat.le_of_ble_eq_true rfl) (Nat.le_of_ble_eq_true rfl) ) (by assumption) (by assumption) ?_; intro _ _ _ _ _; (try k_sweep)) | (refine useI (xor_does ⟨by assumption, by assumption, by assumption, by assumption, rfl, rfl, rfl, rfl⟩ (Nat.le_of_ble_eq_true rfl) (Nat.le_of_ble_eq_true rfl) ) (by assumption) (by assumption) ?_; intro _ _ _ _ _; (try k_sweep)) | (refine useI (inv_does ⟨by assumption, by assumption, by assumption, by assumption, rfl, rfl, rfl, rfl⟩ (Nat.le_of_ble_eq_true rfl) (Nat.le_of_ble_eq_true rfl) ) (by assumption) (by assumption) ?_; intro _ _ _ _ _; (try k_sweep)) | (refine useI (neg_does ⟨by assumption, by assumption, by assumption, by assumption, rfl, rfl, rfl, rfl⟩ (Nat.le_of_ble_eq_true rfl) (Nat.le_of_ble_eq_true rfl) ) (by assumption) (by assumption) ?_; intro _ _ _ _ _; (try k_sweep)) | (refine useI (rsh_does ⟨by assumption, by assumption, by assumption, by assumption, rfl, rfl, rfl, rfl⟩ (Nat.le_of_ble_eq_true rfl) (Nat.le_of_ble_eq_true rfl) (by decide)) (by assumption) (by assumption) ?_; intro _ _ _ _ _; (try k_sweep)) | (refine useI (lsh_does ⟨by assumption, by assumption, by assumption, by assumption, rfl, rfl, rfl, rfl⟩ (Nat.le_of_ble_eq_true rfl) (Nat.le_of_ble_eq_true rfl) (by decide) (by decide) (by omega)) (by assumption) (by assumption) ?_; intro _ _ _ _ _; (try k_sweep)))) | ((fail_if_success (with_reducible show wpAny _ _ (exec (Stmt.While _ _ _ _) _) _ _ _)); (fail_if_success (with_reducible show wpAny _ _ (exec (Stmt.For _ _ _ _ _) _) _ _ _)); (fail_if_success (with_reducible show wpAny _ _ (call (Value.ref _) _ _) _ _ _)); (fail_if_success (with_reducible show KswEnd _ _ _ _ _ _ _ _ _ _ _ _)); (fail_if_success (with_reducible show wpAny _ _ (eval (Expr.ListComp _ _ _ _) _) _ _ _)); (fail_if_success (with_reducible show wpAny _ _ (exec (Stmt.Assign _ (Expr.ListComp _ _ _ _) _) _) _ _ _)); (fail_if_success (with_reducible show Out _ _ _ _ _)); (fail_if_success (with_reducible show LCg.CompEnd _ _ _ _ _ _ _ _ _ _ _ _ _ _)); (fail_if_success (with_reducible show LCg.CompSrc _ _ _ _ _ _ _ _ _ _ _ _ _ _)); (fail_if_success (with_reducible show LCt.CompSrcT _ _ _ _ _ _ _ _ _ _ _ _ _ _ _)); (fail_if_success (with_reducible show Meet _ _ _)); (fail_if_success (with_reducible show wpAny _ _ (pyIter _) _ _ _)); (fail_if_success (with_reducible show LEnd _ _ _ _ _ _ _ _ _ _ _)); (fail_if_success (with_reducible show LPost _ _ _ _ _ _ _ _ _ _ _ _ _)); first | walk1 | (dsimp only; walk1)) | (k_end; dsimp only; k_unfold; (try dsimp only)) | fail "no step"))
    rename Fr _ _ _ _ => F8
    refine ⟨_, _, rfl, F8.keep, tn, ?_⟩
    rw [hP, List.take_length]

end

section
set_option maxRecDepth 100000
section
variable {prog : Program} {w : World} {A : Around} {E : Value → Shared → Prop} {s : Shared} {env : Env} {h₀ : Heap} {target : Expr} {body : List Stmt} {Q : Flow → Shared → Prop}
noncomputable def TEnd {σ : Type} (h₀ : Heap) (L : Addr) (Led : σ → List (Addr × Obj)) (ps : σ → List (Str × Value)) (stored : List Str) (m₀ : Str → Option Value) (P : σ → Prop) (own : List (Addr × Obj)) (s₁ s₂ : Shared) : Prop :=
  ∃ (c : σ) (h' : Heap) (tk : Nat) (m' : Str → Option Value), s₂ = { s₁ with heap := h', toks := tk } ∧ Fr h₀ L h' m' ∧ News h₀ L h' (Led c ++ own) ∧ (∀ p ∈ ps c, m' p.1 = some p.2) ∧ (∀ z, (∀ p ∈ ps c, z ≠ p.1) → stored.contains z = false → m' z = m₀ z) ∧ P c
noncomputable def TPost {σ : Type} (h₀ : Heap) (L : Addr) (Led : σ → List (Addr × Obj)) (ps : σ → List (Str × Value)) (stored : List Str) (m₀ : Str → Option Value) (P : σ → Prop) (own : List (Addr × Obj)) (s₁ : Shared) (f : Flow) (s₂ : Shared) : Prop :=
  f = .next ∧ TEnd h₀ L Led ps stored m₀ P own s₁ s₂
/-- a for over a range by ones, whose target is any (a cell) -/
theorem loopRT {σ : Type} {L r : Addr} {a₀ b₀ : Int} {ta tb tc : Tok} {m₀ : Str → Option Value} (Led : σ → List (Addr × Obj)) (ps : σ → List (Str × Value)) (stored : List Str) (n : Nat) (P : Nat → σ → Prop) (c₀ : σ) (fix : List (Addr × Obj))
    (hR : IsRange s.heap r a₀ b₀ 1 ta tb tc) (hn : (b₀ - a₀).toNat = n) (hlo : -1000 < a₀) (hhi : b₀ < 1000) (hlo2 : -1000 < b₀) (hhi2 : a₀ < 1000) (hh : A.handled = none) (hLe : env.locals = L)
    (hT : ∀ (I : Addr) (v : Value), letOwnedTupleGo target (.ref I) v = pure ()) (hLed : ∀ c, (Led c).map (·.1) = (Led c₀).map (·.1))
    (F : Fr h₀ L s.heap m₀) (N : News h₀ L s.heap (Led c₀ ++ fix)) (hk : ∀ p ∈ ps c₀, m₀ p.1 = some p.2) (hp : P 0 c₀)
    (turn : ∀ i t c (u : Str → Option Value) (s₁ : Shared) own, i < n → OwnOff own ((Led c₀).map (·.1)) → P i c → Fr h₀ L s₁.heap (kstB (fun z => if stored.contains z then u z else m₀ z) (ps c)) → News h₀ L s₁.heap (Led c ++ (fix ++ own)) →
      wpAny (model prog w) A (assign target env (.int (a₀ + i) t)) (fun _ s₃ => wpAny (model prog w) A (execs body env) (TPost h₀ L Led ps stored m₀ (P (i + 1)) (fix ++ own) s₁) E s₃) E s₁)
    (done : ∀ c (u : Str → Option Value) h tk, P n c → Fr h₀ L h (kstB (fun z => if stored.contains z then u z else m₀ z) (ps c)) → News h₀ L h (Led c ++ fix) → Q .next { s with heap := h, toks := tk }) :
    wpAny (model prog w) A (pyIter (.ref r)) (fun it s₂ => LoopAtT prog w A h₀ env target body Q E it s₂) E s := by
  subst hLe
  have fit : ∀ x : Int, -10000 < x → x < 10000 → Builtin.Range.rangeFitsLong x = true := by
    intro x h1 h2
    unfold Builtin.Range.rangeFitsLong
    simp only [Bool.and_eq_true, decide_eq_true_eq]
    omega
  have e : Builtin.Range.rangeSize a₀ b₀ 1 = (n : Int) := by
    unfold Builtin.Range.rangeSize; split <;> (try split) <;> omega
  refine wpAny_pyIter_range hR ?_ ?_
  · unfold Builtin.Range.small
    simp only [e, fit a₀ (by omega) (by omega), fit b₀ (by omega) (by omega), fit 1 (by omega) (by omega), fit (n : Int) (by omega) (by omega), Bool.and_true, Bool.true_and]
    rw [if_pos (by decide), fit (b₀ + (1 - 1)) (by omega) (by omega), Bool.or_true]
  rw [e]
  have hlt := fun p hp => Heap.lt_size (N p hp).1
  have offI : ∀ p ∈ Led c₀ ++ fix, p.1 ∉ [s.heap.objs.size] := fun p hp q => absurd (hlt p hp) (List.mem_singleton.mp q ▸ Nat.lt_irrefl _)
  refine ⟨s.heap.objs.size, [s.heap.objs.size], [s.heap.objs.size], n, _, _, m₀, Led c₀ ++ fix, fun i m₁ nw => ∃ c, nw = Led c ++ fix ∧ (∀ p ∈ ps c, m₁ p.1 = some p.2) ∧ (∀ z, (∀ p ∈ ps c, z ≠ p.1) → stored.contains z = false → m₁ z = m₀ z) ∧ P i c,
    rfl, Walks.range hh _ a₀ 1 n, ?_, ?_, offI, ?_, F.push _, (fun p hp => ⟨Heap.get?_push_of_some _ (N p hp).1, (N p hp).2⟩), ?_, ⟨c₀, rfl, hk, fun _ _ _ => rfl, hp⟩, ?_, ?_⟩
  · intro q
    exact absurd F.ns.lt (List.mem_singleton.mp q ▸ Nat.lt_irrefl _)
  · intro b hb
    rw [List.mem_singleton.mp hb]
    exact next_is_new F
  · have e1 : a₀ + ((0 : Nat) : Int) * 1 = a₀ := by omega
    have e2 : (n : Int) - ((0 : Nat) : Int) = n := by omega
    rw [e1, e2]
    exact Heap.get?_push_size _ rfl
  · intro i s' v Q' _ h
    rw [hT]
    exact wpAny_pure h
  · rintro i v m₁ nw s₁ own hin ⟨t, rfl⟩ ⟨c, rfl, h1, h2, hP⟩ hoff hown _ _ _ F₁ N₁
    rw [Int.mul_one]
    have hsep : OwnOff own ((Led c₀).map (·.1)) := by
      intro p hp b hb q
      obtain ⟨x, hx, e'⟩ := List.mem_map.mp hb
      refine offI x (List.mem_append_left _ hx) ?_
      rw [e', ← q]
      exact hown p hp
    have N₂ : News h₀ env.locals s₁.heap (Led c ++ (fix ++ own)) := fun p hp => N₁ p (by
      rcases List.mem_append.mp hp with h | h
      · exact List.mem_append.mpr (.inr (List.mem_append.mpr (.inl h)))
      · rcases List.mem_append.mp h with h | h
        · exact List.mem_append.mpr (.inr (List.mem_append.mpr (.inr h)))
        · exact List.mem_append.mpr (.inl h))
    refine wpAny_mono (turn i t c m₁ s₁ own hin hsep hP (ksw_fr h1 h2 F₁) N₂) (fun _ s₃ h₃ => wpAny_mono h₃ (fun f s₂ p => ?_) fun _ _ e => e) fun _ _ e => e
    obtain ⟨rfl, c', h', tk, m', rfl, F', N', k1, k2, k3⟩ := p
    refine ⟨rfl, h', tk, m', Led c' ++ fix, rfl, F', fun p hp => N' p ?_, fun p hp hq => ?_, c', rfl, k1, k2, k3⟩
    · rcases List.mem_append.mp hp with h | h
      · exact List.mem_append.mpr (.inr (List.mem_append.mpr (.inr h)))
      · rcases List.mem_append.mp h with h | h
        · exact List.mem_append.mpr (.inl h)
        · exact List.mem_append.mpr (.inr (List.mem_append.mpr (.inl h)))
    rcases List.mem_append.mp hp with hp | hp
    · have h1 : p.1 ∈ (Led c').map (·.1) := List.mem_map.mpr ⟨p, hp, rfl⟩
      rw [hLed c'] at h1
      obtain ⟨q, hq1, hq2⟩ := List.mem_map.mp h1
      exact offI q (List.mem_append_left _ hq1) (hq2 ▸ hq)
    · exact offI p (List.mem_append_right _ hp) hq
  · rintro h' tk m' nw F' N' _ ⟨c, rfl, h1, h2, hP⟩
    exact done c m' h' tk hP (ksw_fr h1 h2 F') N'
end

end

section
set_option maxRecDepth 100000
inductive BytesAre : List Value → List (List Int) → Prop
  | nil : BytesAre [] []
  | cons {b : Array UInt8} {t : Tok} {ks : List Int} {vs : List Value} {kss : List (List Int)} (h : KBw.bInts b = ks) (r : BytesAre vs kss) : BytesAre (.bytes b t :: vs) (ks :: kss)
theorem BytesAre.length {vs : List Value} {kss : List (List Int)} (h : BytesAre vs kss) : vs.length = kss.length := by
  induction h with
  | nil => rfl
  | cons _ _ ih => simp [ih]
theorem BytesAre.at {vs : List Value} {kss : List (List Int)} (h : BytesAre vs kss) {i : Nat} {v : Value} (hv : vs[i]? = some v) : ∃ b t ks, v = .bytes b t ∧ KBw.bInts b = ks ∧ kss[i]? = some ks := by
  induction h generalizing i with
  | nil => cases hv
  | cons hb _ ih =>
    cases i with
    | zero => cases hv; exact ⟨_, _, _, rfl, hb, rfl⟩
    | succ i => exact ih hv
theorem BytesAre.snoc {vs : List Value} {kss : List (List Int)} (h : BytesAre vs kss) {b : Array UInt8} {t : Tok} {ks : List Int} (hb : KBw.bInts b = ks) : BytesAre (vs ++ [.bytes b t]) (kss ++ [ks]) := by
  induction h with
  | nil => exact .cons hb .nil
  | cons h1 _ ih => exact .cons h1 ih
theorem BytesAre.append {vs ws : List Value} {kss lss : List (List Int)} (h : BytesAre vs kss) (h2 : BytesAre ws lss) : BytesAre (vs ++ ws) (kss ++ lss) := by
  induction h with
  | nil => exact h2
  | cons h1 _ ih => exact .cons h1 ih
theorem BytesAre.take {vs : List Value} {kss : List (List Int)} (h : BytesAre vs kss) (n : Nat) : BytesAre (vs.take n) (kss.take n) := by
  induction h generalizing n with
  | nil => cases n <;> exact .nil
  | cons h1 _ ih => cases n with
    | zero => exact .nil
    | succ n => exact .cons h1 (ih n)
theorem BytesAre.drop {vs : List Value} {kss : List (List Int)} (h : BytesAre vs kss) (n : Nat) : BytesAre (vs.drop n) (kss.drop n) := by
  induction h generalizing n with
  | nil => cases n <;> exact .nil
  | cons h1 h2 ih => cases n with
    | zero => exact .cons h1 h2
    | succ n => exact ih n
theorem bInts_eq {b c : Array UInt8} : (b.toList == c.toList) = (KBw.bInts b == KBw.bInts c) := by
  have inj : ∀ l r : List UInt8, (l.map fun c => ((c.toNat : Nat) : Int)) = (r.map fun c => ((c.toNat : Nat) : Int)) → l = r := by
    intro l
    induction l with
    | nil => intro r h; cases r with
      | nil => rfl
      | cons => cases h
    | cons x l ih => intro r h; cases r with
      | nil => cases h
      | cons y r =>
        simp only [List.map_cons, List.cons.injEq] at h
        rw [ih r h.2]
        have : x = y := UInt8.toNat_inj.mp (by omega)
        rw [this]
  obtain ⟨b⟩ := b
  obtain ⟨c⟩ := c
  rw [KBw.ints_list, KBw.ints_list]
  by_cases h : b = c
  · subst h
    simp
  · have h2 : ¬ (b.map fun c => ((c.toNat : Nat) : Int)) = (c.map fun c => ((c.toNat : Nat) : Int)) := fun e => h (inj _ _ e)
    simp only [beq_eq_false_iff_ne.mpr h, beq_eq_false_iff_ne.mpr h2]
section
variable {prog : Program} {w : World} {A : Around} {E : Value → Shared → Prop} {s : Shared} {h₀ : Heap} {L D : Addr} {news : List (Addr × Obj)}
theorem eqBool_bytes {x y : Array UInt8} {t u : Tok} {Q : Bool → Shared → Prop} (h : Q (x.toList == y.toList) s) : wpAny (model prog w) A (eqBool (.bytes x t) (.bytes y u)) Q E s := by
  unfold eqBool
  show wpAny _ _ (if (Value.bytes x t == Value.bytes y u) = true then _ else _) Q E s
  by_cases hab : (Value.bytes x t == Value.bytes y u) = true
  · rw [if_pos hab]
    have e : x = y := by have := eq_of_beq hab; injection this
    subst e
    exact wpAny_bind (wpAny_rule (wpAny_pure (by simpa using h)))
  · rw [if_neg hab]
    exact wpAny_bind (eq_bytes (wpAny_truthy_bool h))
noncomputable def isB (c : Array UInt8) : Value → Bool
  | .bytes b _ => b.toList == c.toList
  | _ => false
theorem any_isB {vs : List Value} {kss : List (List Int)} (h : BytesAre vs kss) (c : Array UInt8) : vs.any (isB c) = kss.any (· == KBw.bInts c) := by
  induction h with
  | nil => rfl
  | cons hb _ ih => simp only [List.any_cons, ih, isB]; rw [bInts_eq, hb]
theorem eq_isB {vs : List Value} {kss : List (List Int)} (h : BytesAre vs kss) (c : Array UInt8) (t : Tok) : ∀ y, y ∈ vs → MeetsSeq.EqGives y (.bytes c t) (isB c y) := by
  induction h with
  | nil => intro y hy; cases hy
  | cons hb _ ih =>
    intro y hy
    rcases List.mem_cons.mp hy with rfl | hy
    · exact fun _ _ _ _ _ _ h => eqBool_bytes h
    · exact ih y hy
theorem notin_bytes {vs : List Value} {kss : List (List Int)} {n : Nat} {c : Array UInt8} {t : Tok} {Q : Value → Shared → Prop} (N : News h₀ L s.heap news) (hm : (D, listOf vs.toArray n) ∈ news) (hi : BytesAre vs kss) (h : Q (.bool (!kss.any (· == KBw.bInts c))) s) :
    wpAny (model prog w) A (compareOp .NotIn (.bytes c t) (.ref D)) Q E s :=
  SeqInW.notIn_listW (isB c) (fun y hy => eq_isB hi c t y (by simpa using hy)) (PySem.IsL.isList (n := n) (N _ hm).1) (by rw [← Array.any_toList]; show Q (.bool (!vs.any (isB c))) s; rw [any_isB hi]; exact h)
end

end

section
set_option maxRecDepth 100000

theorem fill11 : hd.heap_39 = hd.heap_39 ∧ PySem.Challenge.rw_oy0042_01 = PySem.Challenge.rw_oy0042_01 := by
  w_top off
  k_fill
  exact ⟨rfl, rfl⟩


noncomputable def dd (l : List (List Int)) : List (List Int) := l.foldl (fun a x => if a.any (· == x) then a else a ++ [x]) []
theorem dd_length (l : List (List Int)) : (dd l).length ≤ l.length := by
  have : ∀ (l a : List (List Int)), (l.foldl (fun a x => if a.any (· == x) then a else a ++ [x]) a).length ≤ a.length + l.length := by
    intro l
    induction l with
    | nil => intro a; simp
    | cons x l ih =>
      intro a
      rw [List.foldl_cons]
      refine Nat.le_trans (ih _) ?_
      split <;> simp <;> omega
  have := this l []
  simpa [dd] using this
theorem clip_at {ks : List Int} {i : Nat} (h : i < ks.length) : ks.take (min (i + 1) ks.length) = ks.take (i + 1) := by
  rw [Nat.min_eq_left (by omega)]
theorem mark_eq {b : Array UInt8} {ks : List Int} {nu : UInt8} {i : Nat} (h : KBw.bInts b = ks.take (i + 1)) :
    (b.toList == (List.toArray (List.flatten (List.replicate (Int.toNat ((i + 1 : Nat) : Int)) [nu]))).toList) = (ks.take (i + 1) == List.replicate (i + 1) (nu.toNat : Int)) := by
  rw [bInts_eq, h, KBw.ints_list, Int.toNat_natCast]
  congr 1
  generalize i + 1 = n
  induction n with
  | zero => rfl
  | succ n ih => rw [List.replicate_succ, List.flatten_cons, List.replicate_succ, List.map_append, ih]; rfl
theorem allLt_mem {d : Addr} {l : List (Addr × Obj)} : AllLt d l → ∀ p ∈ l, p.1 < d := by
  induction l with
  | nil => intro _ p hp; cases hp
  | cons q r ih =>
    intro h p hp
    rcases List.mem_cons.mp hp with rfl | hp
    · exact h.1
    · exact ih h.2 p hp
set_option maxHeartbeats 4000000 in
theorem together_does {w : World} {mean : ExcName → Option Value} {mg mb : Str → Option Value} {A A₀ : Around} {base h₀ : Heap} {outer : List Env} {env : Env} {L : Addr} {m : Str → Option Value} {s : Shared}
    (S : Spot w mean mg mb A A₀ base outer env h₀ L m s.heap) (hdp : A.depth ≤ 400) (hun : A.units ≤ 400)
    {tx mk : Addr} {tvs mvs : List Value} {TT M : List (List Int)} {nu : UInt8} {sz : Nat} {t1 t2 : Tok}
    (htx : s.heap.IsList tx tvs.toArray) (hmk : s.heap.IsList mk mvs.toArray) (hT : BytesAre tvs TT) (hM : BytesAre mvs M) (hsz : 1 ≤ sz ∧ sz ≤ 6)
    (hTl : TT.length ≤ 10) (hMl : M.length ≤ 10) (hall : ∀ ks ∈ TT ++ M, ks.length = sz)
    (hcount : ∀ i < sz, (dd (TT.map (·.take (i + 1)))).length + (M.filter (fun m => m.take (i + 1) == List.replicate (i + 1) (nu.toNat : Int))).length = TT.length) :
    Does w A 201 [.ref tx, .ref mk, .bytes #[nu] t1, .int (sz : Int) t2] [] [] s (fun v _ => v = .bool true) := by
  refine' does_ofC 400 400 S hdp hun (by decide) [] ?hN _ (binds := [(Str.ofString "texts", .ref tx), (Str.ofString "marks", .ref mk), (Str.ofString "nought", .bytes #[nu] t1), (Str.ofString "size", .int (sz : Int) t2)]) ?ho ?hcd ?hb ?hl ?hnd ?c1 ?c2 ?c3 ?_
  case hN => exact News.nil
  case ho => k_is
  case hcd => k_is
  case hb => first | exact BindsTo.of_eq rfl | exact binds_K (S.X.keeps S.F.keep) rfl (by k_is) rfl rfl rfl
  case hl => exact rfl
  case hnd => decide +kernel
  case c1 => exact rfl
  case c2 => exact rfl
  case c3 => exact rfl
  intro g L' h₁ tk cells F N Y B X T hg hlt hnone
  k_fold

  obtain ⟨o1, o2, o3, hE, d1, d2, d3⟩ := CellsAre.three Y
  subst hE
  clear Y
  simp only [List.cons_append, List.nil_append] at N
  (try dsimp only)
  have htg : g.IsList tx tvs.toArray := htx.at fun o e => hg _ _ e (fun q => nomatch q)
  have hmg : g.IsList mk mvs.toArray := hmk.at fun o e => hg _ _ e (fun q => nomatch q)
  have hTv := hT.length
  have hMv := hM.length
  obtain ⟨hs1, hs6⟩ := hsz
  have htL : tx ≠ L' := by
    obtain ⟨ox, hox, _⟩ := htg
    exact Nat.ne_of_lt (Nat.lt_of_lt_of_le (Heap.lt_size hox) F.above)
  (repeat' (first | (k_unfold; (try dsimp only)) | ((with_reducible show wpAny _ _ (call (Value.ref _) _ _) _ _ _); (first | (refine useI (add_does ⟨by assumption, by assumption, by assumption, by assumption, rfl, rfl, rfl, rfl⟩ (Nat.le_of_ble_eq_true rfl) (Nat.le_of_ble_eq_true rfl) ) (by assumption) (by assumption) ?_; intro _ _ _ _ _; (try k_sweep)) | (refine useI (sub_does ⟨by assumption, by assumption, by assumption, by assumption, rfl, rfl, rfl, rfl⟩ (Nat.le_of_ble_eq_true rfl) (Nat.le_of_ble_eq_true rfl) ) (by assumption) (by assumption) ?_; intro _ _ _ _ _; (try k_sweep)) | (refine useI (and_does ⟨by assumption, by assumption, by assumption, by assumption, rfl, rfl, rfl, rfl⟩ (Nat.le_of_ble_eq_true rfl) (Nat.le_of_ble_eq_true rfl) ) (by assumption) (by assumption) ?_; intro _ _ _ _ _; (try k_sweep)) | (refine useI (or_does ⟨by assumption, by assumption, by assumption, by assumption, rfl, rfl, rfl, rfl⟩ (Nat.le_of_ble_eq_true rfl) (Nat.le_of_ble_eq_true rfl) ) (by assumption) (by assumption) ?_; intro _ _ _ _ _; (try k_sweep)) | (refine useI (xor_does ⟨by assumption, by assumption, by assumption, by assumption, rfl, rfl, rfl, rfl⟩ (Nat.le_of_ble_eq_true rfl) (Nat.le_of_ble_eq_true rfl) ) (by assumption) (by assumption) ?_; intro _ _ _ _ _; (try k_sweep)) | (refine useI (inv_does ⟨by assumption, by assumption, by assumption, by assumption, rfl, rfl, rfl, rfl⟩ (Nat.le_of_ble_eq_true rfl) (Nat.le_of_ble_eq_true rfl) ) (by assumption) (by assumption) ?_; intro _ _ _ _ _; (try k_sweep)) | (refine useI (neg_does ⟨by assumption, by assumption, by assumption, by assumption, rfl, rfl, rfl, rfl⟩ (Nat.le_of_ble_eq_true rfl) (Nat.le_of_ble_eq_true rfl) ) (by assumption) (by assumption) ?_; intro _ _ _ _ _; (try k_sweep)) | (refine useI (rsh_does ⟨by assumption, by assumption, by assumption, by assumption, rfl, rfl, rfl, rfl⟩ (Nat.le_of_ble_eq_true rfl) (Nat.le_of_ble_eq_true rfl) (by decide)) (by assumption) (by assumption) ?_; intro _ _ _ _ _; (try k_sweep)) | (refine useI (lsh_does ⟨by assumption, by assumption, by assumption, by assumption, rfl, rfl, rfl, rfl⟩ (Nat.le_of_ble_eq_true rfl) (Nat.le_of_ble_eq_true rfl) (by decide) (by decide) (by omega)) (by assumption) (by assumption) ?_; intro _ _ _ _ _; (try k_sweep)))) | ((fail_if_success (with_reducible show wpAny _ _ (exec (Stmt.While _ _ _ _) _) _ _ _)); (fail_if_success (with_reducible show wpAny _ _ (exec (Stmt.For _ _ _ _ _) _) _ _ _)); (fail_if_success (with_reducible show wpAny _ _ (call (Value.ref _) _ _) _ _ _)); (fail_if_success (with_reducible show KswEnd _ _ _ _ _ _ _ _ _ _ _ _)); (fail_if_success (with_reducible show wpAny _ _ (eval (Expr.ListComp _ _ _ _) _) _ _ _)); (fail_if_success (with_reducible show wpAny _ _ (exec (Stmt.Assign _ (Expr.ListComp _ _ _ _) _) _) _ _ _)); (fail_if_success (with_reducible show Out _ _ _ _ _)); (fail_if_success (with_reducible show LCg.CompEnd _ _ _ _ _ _ _ _ _ _ _ _ _ _)); (fail_if_success (with_reducible show LCg.CompSrc _ _ _ _ _ _ _ _ _ _ _ _ _ _)); (fail_if_success (with_reducible show LCt.CompSrcT _ _ _ _ _ _ _ _ _ _ _ _ _ _ _)); (fail_if_success (with_reducible show Meet _ _ _)); (fail_if_success (with_reducible show wpAny _ _ (pyIter _) _ _ _)); (fail_if_success (with_reducible show LEnd _ _ _ _ _ _ _ _ _ _ _)); (fail_if_success (with_reducible show LPost _ _ _ _ _ _ _ _ _ _ _ _ _)); first | walk1 | (dsimp only; walk1)) | (k_end; dsimp only; k_unfold; (try dsimp only)) | fail "no step"))
  refine LCt.ListComp_T (cl := [(Str.ofString "size", L' + 1 + 1)]) F (by with_unfolding_all rfl) (by decide) rfl (by decide) rfl ?_
  (repeat' (first | (k_unfold; (try dsimp only)) | ((with_reducible show wpAny _ _ (call (Value.ref _) _ _) _ _ _); (first | (refine useI (add_does ⟨by assumption, by assumption, by assumption, by assumption, rfl, rfl, rfl, rfl⟩ (Nat.le_of_ble_eq_true rfl) (Nat.le_of_ble_eq_true rfl) ) (by assumption) (by assumption) ?_; intro _ _ _ _ _; (try k_sweep)) | (refine useI (sub_does ⟨by assumption, by assumption, by assumption, by assumption, rfl, rfl, rfl, rfl⟩ (Nat.le_of_ble_eq_true rfl) (Nat.le_of_ble_eq_true rfl) ) (by assumption) (by assumption) ?_; intro _ _ _ _ _; (try k_sweep)) | (refine useI (and_does ⟨by assumption, by assumption, by assumption, by assumption, rfl, rfl, rfl, rfl⟩ (Nat.le_of_ble_eq_true rfl) (Nat.le_of_ble_eq_true rfl) ) (by assumption) (by assumption) ?_; intro _ _ _ _ _; (try k_sweep)) | (refine useI (or_does ⟨by assumption, by assumption, by assumption, by assumption, rfl, rfl, rfl, rfl⟩ (Nat.le_of_ble_eq_true rfl) (Nat.le_of_ble_eq_true rfl) ) (by assumption) (by assumption) ?_; intro _ _ _ _ _; (try k_sweep)) | (refine useI (xor_does ⟨by assumption, by assumption, by assumption, by assumption, rfl, rfl, rfl, rfl⟩ (Nat.le_of_ble_eq_true rfl) (Nat.le_of_ble_eq_true rfl) ) (by assumption) (by assumption) ?_; intro _ _ _ _ _; (try k_sweep)) | (refine useI (inv_does ⟨by assumption, by assumption, by assumption, by assumption, rfl, rfl, rfl, rfl⟩ (Nat.le_of_ble_eq_true rfl) (Nat.le_of_ble_eq_true rfl) ) (by assumption) (by assumption) ?_; intro _ _ _ _ _; (try k_sweep)) | (refine useI (neg_does ⟨by assumption, by assumption, by assumption, by assumption, rfl, rfl, rfl, rfl⟩ (Nat.le_of_ble_eq_true rfl) (Nat.le_of_ble_eq_true rfl) ) (by assumption) (by assumption) ?_; intro _ _ _ _ _; (try k_sweep)) | (refine useI (rsh_does ⟨by assumption, by assumption, by assumption, by assumption, rfl, rfl, rfl, rfl⟩ (Nat.le_of_ble_eq_true rfl) (Nat.le_of_ble_eq_true rfl) (by decide)) (by assumption) (by assumption) ?_; intro _ _ _ _ _; (try k_sweep)) | (refine useI (lsh_does ⟨by assumption, by assumption, by assumption, by assumption, rfl, rfl, rfl, rfl⟩ (Nat.le_of_ble_eq_true rfl) (Nat.le_of_ble_eq_true rfl) (by decide) (by decide) (by omega)) (by assumption) (by assumption) ?_; intro _ _ _ _ _; (try k_sweep)))) | ((fail_if_success (with_reducible show wpAny _ _ (exec (Stmt.While _ _ _ _) _) _ _ _)); (fail_if_success (with_reducible show wpAny _ _ (exec (Stmt.For _ _ _ _ _) _) _ _ _)); (fail_if_success (with_reducible show wpAny _ _ (call (Value.ref _) _ _) _ _ _)); (fail_if_success (with_reducible show KswEnd _ _ _ _ _ _ _ _ _ _ _ _)); (fail_if_success (with_reducible show wpAny _ _ (eval (Expr.ListComp _ _ _ _) _) _ _ _)); (fail_if_success (with_reducible show wpAny _ _ (exec (Stmt.Assign _ (Expr.ListComp _ _ _ _) _) _) _ _ _)); (fail_if_success (with_reducible show Out _ _ _ _ _)); (fail_if_success (with_reducible show LCg.CompEnd _ _ _ _ _ _ _ _ _ _ _ _ _ _)); (fail_if_success (with_reducible show LCg.CompSrc _ _ _ _ _ _ _ _ _ _ _ _ _ _)); (fail_if_success (with_reducible show LCt.CompSrcT _ _ _ _ _ _ _ _ _ _ _ _ _ _ _)); (fail_if_success (with_reducible show Meet _ _ _)); (fail_if_success (with_reducible show wpAny _ _ (pyIter _) _ _ _)); (fail_if_success (with_reducible show LEnd _ _ _ _ _ _ _ _ _ _ _)); (fail_if_success (with_reducible show LPost _ _ _ _ _ _ _ _ _ _ _ _ _)); first | walk1 | (dsimp only; walk1)) | (k_end; dsimp only; k_unfold; (try dsimp only)) | fail "no step"))
  rename Fr _ _ _ _ => F9
  rename News _ _ _ _ => N9
  dsimp only at F9 N9
  generalize hD : h₁.objs.size = D9 at N9 ⊢
  refine LCt.CompSrcT.ledger rfl F9 N9 (.head _) (by rw [List.size_toArray, sizeLine_eq, List.length_append]; omega) fun gg => comp_invT (fun _ ys nw => ys = [] ∧ nw = _) ?_ ?_ _ 0 [] _ (Nat.zero_add _) ⟨rfl, rfl⟩
  · rintro i ys nw v I oI C oC D m₂ h9 tk9 E' hin ⟨rfl, rfl⟩ hv hoC hx F8 N8 o9 ne9
    obtain ⟨b9, t9, ks, rfl, hb9, hks⟩ := (hT.append hM).at (List.getElem?_toArray ▸ hv)
    have hkl := hall ks (List.mem_of_getElem? hks)
    clear hv F9 N9
    (repeat' (first | (k_unfold; (try dsimp only)) | ((with_reducible show wpAny _ _ (call (Value.ref _) _ _) _ _ _); (first | (refine useI (add_does ⟨by assumption, by assumption, by assumption, by assumption, rfl, rfl, rfl, rfl⟩ (Nat.le_of_ble_eq_true rfl) (Nat.le_of_ble_eq_true rfl) ) (by assumption) (by assumption) ?_; intro _ _ _ _ _; (try k_sweep)) | (refine useI (sub_does ⟨by assumption, by assumption, by assumption, by assumption, rfl, rfl, rfl, rfl⟩ (Nat.le_of_ble_eq_true rfl) (Nat.le_of_ble_eq_true rfl) ) (by assumption) (by assumption) ?_; intro _ _ _ _ _; (try k_sweep)) | (refine useI (and_does ⟨by assumption, by assumption, by assumption, by assumption, rfl, rfl, rfl, rfl⟩ (Nat.le_of_ble_eq_true rfl) (Nat.le_of_ble_eq_true rfl) ) (by assumption) (by assumption) ?_; intro _ _ _ _ _; (try k_sweep)) | (refine useI (or_does ⟨by assumption, by assumption, by assumption, by assumption, rfl, rfl, rfl, rfl⟩ (Nat.le_of_ble_eq_true rfl) (Nat.le_of_ble_eq_true rfl) ) (by assumption) (by assumption) ?_; intro _ _ _ _ _; (try k_sweep)) | (refine useI (xor_does ⟨by assumption, by assumption, by assumption, by assumption, rfl, rfl, rfl, rfl⟩ (Nat.le_of_ble_eq_true rfl) (Nat.le_of_ble_eq_true rfl) ) (by assumption) (by assumption) ?_; intro _ _ _ _ _; (try k_sweep)) | (refine useI (inv_does ⟨by assumption, by assumption, by assumption, by assumption, rfl, rfl, rfl, rfl⟩ (Nat.le_of_ble_eq_true rfl) (Nat.le_of_ble_eq_true rfl) ) (by assumption) (by assumption) ?_; intro _ _ _ _ _; (try k_sweep)) | (refine useI (neg_does ⟨by assumption, by assumption, by assumption, by assumption, rfl, rfl, rfl, rfl⟩ (Nat.le_of_ble_eq_true rfl) (Nat.le_of_ble_eq_true rfl) ) (by assumption) (by assumption) ?_; intro _ _ _ _ _; (try k_sweep)) | (refine useI (rsh_does ⟨by assumption, by assumption, by assumption, by assumption, rfl, rfl, rfl, rfl⟩ (Nat.le_of_ble_eq_true rfl) (Nat.le_of_ble_eq_true rfl) (by decide)) (by assumption) (by assumption) ?_; intro _ _ _ _ _; (try k_sweep)) | (refine useI (lsh_does ⟨by assumption, by assumption, by assumption, by assumption, rfl, rfl, rfl, rfl⟩ (Nat.le_of_ble_eq_true rfl) (Nat.le_of_ble_eq_true rfl) (by decide) (by decide) (by omega)) (by assumption) (by assumption) ?_; intro _ _ _ _ _; (try k_sweep)))) | ((fail_if_success (with_reducible show wpAny _ _ (exec (Stmt.While _ _ _ _) _) _ _ _)); (fail_if_success (with_reducible show wpAny _ _ (exec (Stmt.For _ _ _ _ _) _) _ _ _)); (fail_if_success (with_reducible show wpAny _ _ (call (Value.ref _) _ _) _ _ _)); (fail_if_success (with_reducible show KswEnd _ _ _ _ _ _ _ _ _ _ _ _)); (fail_if_success (with_reducible show wpAny _ _ (eval (Expr.ListComp _ _ _ _) _) _ _ _)); (fail_if_success (with_reducible show wpAny _ _ (exec (Stmt.Assign _ (Expr.ListComp _ _ _ _) _) _) _ _ _)); (fail_if_success (with_reducible show Out _ _ _ _ _)); (fail_if_success (with_reducible show LCg.CompEnd _ _ _ _ _ _ _ _ _ _ _ _ _ _)); (fail_if_success (with_reducible show LCg.CompSrc _ _ _ _ _ _ _ _ _ _ _ _ _ _)); (fail_if_success (with_reducible show LCt.CompSrcT _ _ _ _ _ _ _ _ _ _ _ _ _ _ _)); (fail_if_success (with_reducible show Meet _ _ _)); (fail_if_success (with_reducible show wpAny _ _ (pyIter _) _ _ _)); (fail_if_success (with_reducible show LEnd _ _ _ _ _ _ _ _ _ _ _)); (fail_if_success (with_reducible show LPost _ _ _ _ _ _ _ _ _ _ _ _ _)); first | walk1 | (dsimp only; walk1)) | (k_end; dsimp only; k_unfold; (try dsimp only)) | fail "no step"))
    · rename (_ : Int) ≠ _ => hq
      exact absurd (by omega) hq
    · exact LCg.CompEnd.intro F8 N8 _ (fun p hp => hp) o9 (.inr ⟨_, .head _, rfl, _, rfl⟩) ⟨trivial, rfl⟩
  rintro ys nw ⟨rfl, rfl⟩ D h8 tk8 F8 N8 o8
  (try clear F9)
  (try clear N9)
  replace N8 : News g L' h8 [(D, LCg.lst []), (L' + 1 + 1 + 1, o1), (L' + 1 + 1, o2), (L' + 1, o3)] := cb_drop N8 (by kcj_all)
  (repeat' (first | (k_unfold; (try dsimp only)) | ((with_reducible show wpAny _ _ (call (Value.ref _) _ _) _ _ _); (first | (refine useI (add_does ⟨by assumption, by assumption, by assumption, by assumption, rfl, rfl, rfl, rfl⟩ (Nat.le_of_ble_eq_true rfl) (Nat.le_of_ble_eq_true rfl) ) (by assumption) (by assumption) ?_; intro _ _ _ _ _; (try k_sweep)) | (refine useI (sub_does ⟨by assumption, by assumption, by assumption, by assumption, rfl, rfl, rfl, rfl⟩ (Nat.le_of_ble_eq_true rfl) (Nat.le_of_ble_eq_true rfl) ) (by assumption) (by assumption) ?_; intro _ _ _ _ _; (try k_sweep)) | (refine useI (and_does ⟨by assumption, by assumption, by assumption, by assumption, rfl, rfl, rfl, rfl⟩ (Nat.le_of_ble_eq_true rfl) (Nat.le_of_ble_eq_true rfl) ) (by assumption) (by assumption) ?_; intro _ _ _ _ _; (try k_sweep)) | (refine useI (or_does ⟨by assumption, by assumption, by assumption, by assumption, rfl, rfl, rfl, rfl⟩ (Nat.le_of_ble_eq_true rfl) (Nat.le_of_ble_eq_true rfl) ) (by assumption) (by assumption) ?_; intro _ _ _ _ _; (try k_sweep)) | (refine useI (xor_does ⟨by assumption, by assumption, by assumption, by assumption, rfl, rfl, rfl, rfl⟩ (Nat.le_of_ble_eq_true rfl) (Nat.le_of_ble_eq_true rfl) ) (by assumption) (by assumption) ?_; intro _ _ _ _ _; (try k_sweep)) | (refine useI (inv_does ⟨by assumption, by assumption, by assumption, by assumption, rfl, rfl, rfl, rfl⟩ (Nat.le_of_ble_eq_true rfl) (Nat.le_of_ble_eq_true rfl) ) (by assumption) (by assumption) ?_; intro _ _ _ _ _; (try k_sweep)) | (refine useI (neg_does ⟨by assumption, by assumption, by assumption, by assumption, rfl, rfl, rfl, rfl⟩ (Nat.le_of_ble_eq_true rfl) (Nat.le_of_ble_eq_true rfl) ) (by assumption) (by assumption) ?_; intro _ _ _ _ _; (try k_sweep)) | (refine useI (rsh_does ⟨by assumption, by assumption, by assumption, by assumption, rfl, rfl, rfl, rfl⟩ (Nat.le_of_ble_eq_true rfl) (Nat.le_of_ble_eq_true rfl) (by decide)) (by assumption) (by assumption) ?_; intro _ _ _ _ _; (try k_sweep)) | (refine useI (lsh_does ⟨by assumption, by assumption, by assumption, by assumption, rfl, rfl, rfl, rfl⟩ (Nat.le_of_ble_eq_true rfl) (Nat.le_of_ble_eq_true rfl) (by decide) (by decide) (by omega)) (by assumption) (by assumption) ?_; intro _ _ _ _ _; (try k_sweep)))) | ((fail_if_success (with_reducible show wpAny _ _ (exec (Stmt.While _ _ _ _) _) _ _ _)); (fail_if_success (with_reducible show wpAny _ _ (exec (Stmt.For _ _ _ _ _) _) _ _ _)); (fail_if_success (with_reducible show wpAny _ _ (call (Value.ref _) _ _) _ _ _)); (fail_if_success (with_reducible show KswEnd _ _ _ _ _ _ _ _ _ _ _ _)); (fail_if_success (with_reducible show wpAny _ _ (eval (Expr.ListComp _ _ _ _) _) _ _ _)); (fail_if_success (with_reducible show wpAny _ _ (exec (Stmt.Assign _ (Expr.ListComp _ _ _ _) _) _) _ _ _)); (fail_if_success (with_reducible show Out _ _ _ _ _)); (fail_if_success (with_reducible show LCg.CompEnd _ _ _ _ _ _ _ _ _ _ _ _ _ _)); (fail_if_success (with_reducible show LCg.CompSrc _ _ _ _ _ _ _ _ _ _ _ _ _ _)); (fail_if_success (with_reducible show LCt.CompSrcT _ _ _ _ _ _ _ _ _ _ _ _ _ _ _)); (fail_if_success (with_reducible show Meet _ _ _)); (fail_if_success (with_reducible show wpAny _ _ (pyIter _) _ _ _)); (fail_if_success (with_reducible show LEnd _ _ _ _ _ _ _ _ _ _ _)); (fail_if_success (with_reducible show LPost _ _ _ _ _ _ _ _ _ _ _ _ _)); first | walk1 | (dsimp only; walk1)) | (k_end; dsimp only; k_unfold; (try dsimp only)) | fail "no step"))
  (try clear F8)
  (try clear N8)
  rename Fr _ _ _ _ => F9
  rename News _ _ _ _ => N9
  replace N9 : News g L' _ [(L' + 1 + 1 + 1, o1), (L' + 1 + 1, o2), (L' + 1, o3)] := cb_drop N9 (by kcj_all)
  refine For_invT g ?_ (by intro _; rfl)
  (repeat' (first | (k_unfold; (try dsimp only)) | ((with_reducible show wpAny _ _ (call (Value.ref _) _ _) _ _ _); (first | (refine useI (add_does ⟨by assumption, by assumption, by assumption, by assumption, rfl, rfl, rfl, rfl⟩ (Nat.le_of_ble_eq_true rfl) (Nat.le_of_ble_eq_true rfl) ) (by assumption) (by assumption) ?_; intro _ _ _ _ _; (try k_sweep)) | (refine useI (sub_does ⟨by assumption, by assumption, by assumption, by assumption, rfl, rfl, rfl, rfl⟩ (Nat.le_of_ble_eq_true rfl) (Nat.le_of_ble_eq_true rfl) ) (by assumption) (by assumption) ?_; intro _ _ _ _ _; (try k_sweep)) | (refine useI (and_does ⟨by assumption, by assumption, by assumption, by assumption, rfl, rfl, rfl, rfl⟩ (Nat.le_of_ble_eq_true rfl) (Nat.le_of_ble_eq_true rfl) ) (by assumption) (by assumption) ?_; intro _ _ _ _ _; (try k_sweep)) | (refine useI (or_does ⟨by assumption, by assumption, by assumption, by assumption, rfl, rfl, rfl, rfl⟩ (Nat.le_of_ble_eq_true rfl) (Nat.le_of_ble_eq_true rfl) ) (by assumption) (by assumption) ?_; intro _ _ _ _ _; (try k_sweep)) | (refine useI (xor_does ⟨by assumption, by assumption, by assumption, by assumption, rfl, rfl, rfl, rfl⟩ (Nat.le_of_ble_eq_true rfl) (Nat.le_of_ble_eq_true rfl) ) (by assumption) (by assumption) ?_; intro _ _ _ _ _; (try k_sweep)) | (refine useI (inv_does ⟨by assumption, by assumption, by assumption, by assumption, rfl, rfl, rfl, rfl⟩ (Nat.le_of_ble_eq_true rfl) (Nat.le_of_ble_eq_true rfl) ) (by assumption) (by assumption) ?_; intro _ _ _ _ _; (try k_sweep)) | (refine useI (neg_does ⟨by assumption, by assumption, by assumption, by assumption, rfl, rfl, rfl, rfl⟩ (Nat.le_of_ble_eq_true rfl) (Nat.le_of_ble_eq_true rfl) ) (by assumption) (by assumption) ?_; intro _ _ _ _ _; (try k_sweep)) | (refine useI (rsh_does ⟨by assumption, by assumption, by assumption, by assumption, rfl, rfl, rfl, rfl⟩ (Nat.le_of_ble_eq_true rfl) (Nat.le_of_ble_eq_true rfl) (by decide)) (by assumption) (by assumption) ?_; intro _ _ _ _ _; (try k_sweep)) | (refine useI (lsh_does ⟨by assumption, by assumption, by assumption, by assumption, rfl, rfl, rfl, rfl⟩ (Nat.le_of_ble_eq_true rfl) (Nat.le_of_ble_eq_true rfl) (by decide) (by decide) (by omega)) (by assumption) (by assumption) ?_; intro _ _ _ _ _; (try k_sweep)))) | ((fail_if_success (with_reducible show wpAny _ _ (exec (Stmt.While _ _ _ _) _) _ _ _)); (fail_if_success (with_reducible show wpAny _ _ (exec (Stmt.For _ _ _ _ _) _) _ _ _)); (fail_if_success (with_reducible show wpAny _ _ (call (Value.ref _) _ _) _ _ _)); (fail_if_success (with_reducible show KswEnd _ _ _ _ _ _ _ _ _ _ _ _)); (fail_if_success (with_reducible show wpAny _ _ (eval (Expr.ListComp _ _ _ _) _) _ _ _)); (fail_if_success (with_reducible show wpAny _ _ (exec (Stmt.Assign _ (Expr.ListComp _ _ _ _) _) _) _ _ _)); (fail_if_success (with_reducible show Out _ _ _ _ _)); (fail_if_success (with_reducible show LCg.CompEnd _ _ _ _ _ _ _ _ _ _ _ _ _ _)); (fail_if_success (with_reducible show LCg.CompSrc _ _ _ _ _ _ _ _ _ _ _ _ _ _)); (fail_if_success (with_reducible show LCt.CompSrcT _ _ _ _ _ _ _ _ _ _ _ _ _ _ _)); (fail_if_success (with_reducible show Meet _ _ _)); (fail_if_success (with_reducible show wpAny _ _ (pyIter _) _ _ _)); (fail_if_success (with_reducible show LEnd _ _ _ _ _ _ _ _ _ _ _)); (fail_if_success (with_reducible show LPost _ _ _ _ _ _ _ _ _ _ _ _ _)); first | walk1 | (dsimp only; walk1)) | (k_end; dsimp only; k_unfold; (try dsimp only)) | fail "no step"))
  rename Fr _ _ _ _ => F8
  rename News _ _ _ _ => N8
  rename IsRange _ _ _ _ _ _ _ _ => R8
  replace N8 : News g L' _ [(L' + 1 + 1 + 1, o1), (L' + 1 + 1, o2), (L' + 1, o3)] := cb_drop N8 (by kcj_all)
  (try clear F9)
  (try clear N9)
  refine loopRT (L := L') (σ := Obj) (fun ok => [(L' + 1 + 1 + 1, ok)]) (fun _ => []) [Str.ofString "kept", Str.ofString "text"] sz (fun _ ok => ∃ v₀, ok.data = .cell v₀) o1 [(L' + 1 + 1, o2), (L' + 1, o3)]
    R8 (by omega) (by omega) (by omega) (by omega) (by omega) rfl rfl (fun _ _ => rfl) (fun _ => rfl) F8 N8 (List.forall_mem_nil _) ⟨none, d1⟩ ?_ ?_
  · rintro i t ok u ⟨h, g1, d9, tk, os9⟩ own hin hoff ⟨v₀, hv₀⟩ F₁ N₁
    dsimp only [kstB] at F₁ N₁ ⊢
    simp only [List.cons_append, List.nil_append] at N₁
    clear R8 F8 N8
    have hki : (1 + (i : Int)) = ((i + 1 : Nat) : Int) := by omega
    rw [hki]
    (repeat' (first | (k_unfold; (try dsimp only)) | ((with_reducible show wpAny _ _ (call (Value.ref _) _ _) _ _ _); (first | (refine useI (add_does ⟨by assumption, by assumption, by assumption, by assumption, rfl, rfl, rfl, rfl⟩ (Nat.le_of_ble_eq_true rfl) (Nat.le_of_ble_eq_true rfl) ) (by assumption) (by assumption) ?_; intro _ _ _ _ _; (try k_sweep)) | (refine useI (sub_does ⟨by assumption, by assumption, by assumption, by assumption, rfl, rfl, rfl, rfl⟩ (Nat.le_of_ble_eq_true rfl) (Nat.le_of_ble_eq_true rfl) ) (by assumption) (by assumption) ?_; intro _ _ _ _ _; (try k_sweep)) | (refine useI (and_does ⟨by assumption, by assumption, by assumption, by assumption, rfl, rfl, rfl, rfl⟩ (Nat.le_of_ble_eq_true rfl) (Nat.le_of_ble_eq_true rfl) ) (by assumption) (by assumption) ?_; intro _ _ _ _ _; (try k_sweep)) | (refine useI (or_does ⟨by assumption, by assumption, by assumption, by assumption, rfl, rfl, rfl, rfl⟩ (Nat.le_of_ble_eq_true rfl) (Nat.le_of_ble_eq_true rfl) ) (by assumption) (by assumption) ?_; intro _ _ _ _ _; (try k_sweep)) | (refine useI (xor_does ⟨by assumption, by assumption, by assumption, by assumption, rfl, rfl, rfl, rfl⟩ (Nat.le_of_ble_eq_true rfl) (Nat.le_of_ble_eq_true rfl) ) (by assumption) (by assumption) ?_; intro _ _ _ _ _; (try k_sweep)) | (refine useI (inv_does ⟨by assumption, by assumption, by assumption, by assumption, rfl, rfl, rfl, rfl⟩ (Nat.le_of_ble_eq_true rfl) (Nat.le_of_ble_eq_true rfl) ) (by assumption) (by assumption) ?_; intro _ _ _ _ _; (try k_sweep)) | (refine useI (neg_does ⟨by assumption, by assumption, by assumption, by assumption, rfl, rfl, rfl, rfl⟩ (Nat.le_of_ble_eq_true rfl) (Nat.le_of_ble_eq_true rfl) ) (by assumption) (by assumption) ?_; intro _ _ _ _ _; (try k_sweep)) | (refine useI (rsh_does ⟨by assumption, by assumption, by assumption, by assumption, rfl, rfl, rfl, rfl⟩ (Nat.le_of_ble_eq_true rfl) (Nat.le_of_ble_eq_true rfl) (by decide)) (by assumption) (by assumption) ?_; intro _ _ _ _ _; (try k_sweep)) | (refine useI (lsh_does ⟨by assumption, by assumption, by assumption, by assumption, rfl, rfl, rfl, rfl⟩ (Nat.le_of_ble_eq_true rfl) (Nat.le_of_ble_eq_true rfl) (by decide) (by decide) (by omega)) (by assumption) (by assumption) ?_; intro _ _ _ _ _; (try k_sweep)))) | ((fail_if_success (with_reducible show wpAny _ _ (exec (Stmt.While _ _ _ _) _) _ _ _)); (fail_if_success (with_reducible show wpAny _ _ (exec (Stmt.For _ _ _ _ _) _) _ _ _)); (fail_if_success (with_reducible show wpAny _ _ (call (Value.ref _) _ _) _ _ _)); (fail_if_success (with_reducible show KswEnd _ _ _ _ _ _ _ _ _ _ _ _)); (fail_if_success (with_reducible show wpAny _ _ (eval (Expr.ListComp _ _ _ _) _) _ _ _)); (fail_if_success (with_reducible show wpAny _ _ (exec (Stmt.Assign _ (Expr.ListComp _ _ _ _) _) _) _ _ _)); (fail_if_success (with_reducible show Out _ _ _ _ _)); (fail_if_success (with_reducible show LCg.CompEnd _ _ _ _ _ _ _ _ _ _ _ _ _ _)); (fail_if_success (with_reducible show LCg.CompSrc _ _ _ _ _ _ _ _ _ _ _ _ _ _)); (fail_if_success (with_reducible show LCt.CompSrcT _ _ _ _ _ _ _ _ _ _ _ _ _ _ _)); (fail_if_success (with_reducible show Meet _ _ _)); (fail_if_success (with_reducible show wpAny _ _ (pyIter _) _ _ _)); (fail_if_success (with_reducible show LEnd _ _ _ _ _ _ _ _ _ _ _)); (fail_if_success (with_reducible show LPost _ _ _ _ _ _ _ _ _ _ _ _ _)); first | walk1 | (dsimp only; walk1)) | (k_end; dsimp only; k_unfold; (try dsimp only)) | fail "no step"))
    rename_i ok2 hok2 Kt _ hKt _ F7 N7
    refine For_invV g rfl rfl ?_
    (repeat' (first | (k_unfold; (try dsimp only)) | ((with_reducible show wpAny _ _ (call (Value.ref _) _ _) _ _ _); (first | (refine useI (add_does ⟨by assumption, by assumption, by assumption, by assumption, rfl, rfl, rfl, rfl⟩ (Nat.le_of_ble_eq_true rfl) (Nat.le_of_ble_eq_true rfl) ) (by assumption) (by assumption) ?_; intro _ _ _ _ _; (try k_sweep)) | (refine useI (sub_does ⟨by assumption, by assumption, by assumption, by assumption, rfl, rfl, rfl, rfl⟩ (Nat.le_of_ble_eq_true rfl) (Nat.le_of_ble_eq_true rfl) ) (by assumption) (by assumption) ?_; intro _ _ _ _ _; (try k_sweep)) | (refine useI (and_does ⟨by assumption, by assumption, by assumption, by assumption, rfl, rfl, rfl, rfl⟩ (Nat.le_of_ble_eq_true rfl) (Nat.le_of_ble_eq_true rfl) ) (by assumption) (by assumption) ?_; intro _ _ _ _ _; (try k_sweep)) | (refine useI (or_does ⟨by assumption, by assumption, by assumption, by assumption, rfl, rfl, rfl, rfl⟩ (Nat.le_of_ble_eq_true rfl) (Nat.le_of_ble_eq_true rfl) ) (by assumption) (by assumption) ?_; intro _ _ _ _ _; (try k_sweep)) | (refine useI (xor_does ⟨by assumption, by assumption, by assumption, by assumption, rfl, rfl, rfl, rfl⟩ (Nat.le_of_ble_eq_true rfl) (Nat.le_of_ble_eq_true rfl) ) (by assumption) (by assumption) ?_; intro _ _ _ _ _; (try k_sweep)) | (refine useI (inv_does ⟨by assumption, by assumption, by assumption, by assumption, rfl, rfl, rfl, rfl⟩ (Nat.le_of_ble_eq_true rfl) (Nat.le_of_ble_eq_true rfl) ) (by assumption) (by assumption) ?_; intro _ _ _ _ _; (try k_sweep)) | (refine useI (neg_does ⟨by assumption, by assumption, by assumption, by assumption, rfl, rfl, rfl, rfl⟩ (Nat.le_of_ble_eq_true rfl) (Nat.le_of_ble_eq_true rfl) ) (by assumption) (by assumption) ?_; intro _ _ _ _ _; (try k_sweep)) | (refine useI (rsh_does ⟨by assumption, by assumption, by assumption, by assumption, rfl, rfl, rfl, rfl⟩ (Nat.le_of_ble_eq_true rfl) (Nat.le_of_ble_eq_true rfl) (by decide)) (by assumption) (by assumption) ?_; intro _ _ _ _ _; (try k_sweep)) | (refine useI (lsh_does ⟨by assumption, by assumption, by assumption, by assumption, rfl, rfl, rfl, rfl⟩ (Nat.le_of_ble_eq_true rfl) (Nat.le_of_ble_eq_true rfl) (by decide) (by decide) (by omega)) (by assumption) (by assumption) ?_; intro _ _ _ _ _; (try k_sweep)))) | ((fail_if_success (with_reducible show wpAny _ _ (exec (Stmt.While _ _ _ _) _) _ _ _)); (fail_if_success (with_reducible show wpAny _ _ (exec (Stmt.For _ _ _ _ _) _) _ _ _)); (fail_if_success (with_reducible show wpAny _ _ (call (Value.ref _) _ _) _ _ _)); (fail_if_success (with_reducible show KswEnd _ _ _ _ _ _ _ _ _ _ _ _)); (fail_if_success (with_reducible show wpAny _ _ (eval (Expr.ListComp _ _ _ _) _) _ _ _)); (fail_if_success (with_reducible show wpAny _ _ (exec (Stmt.Assign _ (Expr.ListComp _ _ _ _) _) _) _ _ _)); (fail_if_success (with_reducible show Out _ _ _ _ _)); (fail_if_success (with_reducible show LCg.CompEnd _ _ _ _ _ _ _ _ _ _ _ _ _ _)); (fail_if_success (with_reducible show LCg.CompSrc _ _ _ _ _ _ _ _ _ _ _ _ _ _)); (fail_if_success (with_reducible show LCt.CompSrcT _ _ _ _ _ _ _ _ _ _ _ _ _ _ _)); (fail_if_success (with_reducible show Meet _ _ _)); (fail_if_success (with_reducible show wpAny _ _ (pyIter _) _ _ _)); (fail_if_success (with_reducible show LEnd _ _ _ _ _ _ _ _ _ _ _)); (fail_if_success (with_reducible show LPost _ _ _ _ _ _ _ _ _ _ _ _ _)); first | walk1 | (dsimp only; walk1)) | (k_end; dsimp only; k_unfold; (try dsimp only)) | fail "no step"))
    have hKo : ∀ p ∈ own, p.1 ≠ Kt := fun p hp => Nat.ne_of_lt (allLt_mem hKt.2.2.2 p hp)
    refine loopL (L := L') (σ := List Value × Nat × List (List Int)) (fun c => [(Kt, listOf c.1.toArray c.2.1)]) (fun _ => []) [] (fun j c => BytesAre c.1 c.2.2 ∧ c.2.2 = dd ((TT.take j).map (·.take (i + 1)))) ([], 0, [])
      ((L' + 1 + 1 + 1, ok2) :: (L' + 1 + 1, o2) :: (L' + 1, o3) :: own) (htg.at fun o e => F7.keep _ _ e) rfl rfl ?_ ?_ (fun _ => rfl) F7 N7 (List.forall_mem_nil _) ⟨.nil, rfl⟩ ?_ ?_
    · exact htL
    · intro p hp q
      have h1 := (N7 _ (.head _)).2.2
      rw [List.mem_singleton.mp hp] at q
      rw [show Kt = tx from q] at h1
      obtain ⟨ox, hox, _⟩ := htg
      rw [hox] at h1; cases h1
    · rintro j v ⟨us, n', kss⟩ u h tk own2 hv hoff2 ⟨hI, hkss⟩ _ F₁ N₁
      dsimp only [kstB] at hI hkss F₁ N₁
      dsimp only
      simp only [List.cons_append, List.nil_append] at N₁
      obtain ⟨b9, t9, ks, rfl, hb9, hks⟩ := hT.at hv
      have hkl := hall ks (List.mem_append_left _ (List.mem_of_getElem? hks))
      have hoff3 : OwnOff (own ++ own2) [Kt] := fun p hp b hb => by
        rw [List.mem_singleton.mp hb]
        rcases List.mem_append.mp hp with hp | hp
        · exact hKo p hp
        · exact hoff2 p hp Kt (.head _)
      have hst : dd ((TT.take (j + 1)).map (·.take (i + 1))) = if kss.any (· == ks.take (i + 1)) then kss else kss ++ [ks.take (i + 1)] := by
        rw [List.take_add_one, hks, hkss]
        simp only [Option.toList_some, List.map_append, List.map_cons, List.map_nil]
        unfold dd
        rw [List.foldl_append]
        rfl
      have hcl := clip_at (ks := ks) (i := i) (by omega)
      have hul : us.length ≤ 10 := by
        rw [hI.length, hkss]
        refine Nat.le_trans (dd_length _) ?_
        rw [List.length_map, List.length_take]
        omega
      clear hv F7 N7
      (repeat' (first | (k_unfold; (try dsimp only)) | ((with_reducible show wpAny _ _ (call (Value.ref _) _ _) _ _ _); (first | (refine useI (add_does ⟨by assumption, by assumption, by assumption, by assumption, rfl, rfl, rfl, rfl⟩ (Nat.le_of_ble_eq_true rfl) (Nat.le_of_ble_eq_true rfl) ) (by assumption) (by assumption) ?_; intro _ _ _ _ _; (try k_sweep)) | (refine useI (sub_does ⟨by assumption, by assumption, by assumption, by assumption, rfl, rfl, rfl, rfl⟩ (Nat.le_of_ble_eq_true rfl) (Nat.le_of_ble_eq_true rfl) ) (by assumption) (by assumption) ?_; intro _ _ _ _ _; (try k_sweep)) | (refine useI (and_does ⟨by assumption, by assumption, by assumption, by assumption, rfl, rfl, rfl, rfl⟩ (Nat.le_of_ble_eq_true rfl) (Nat.le_of_ble_eq_true rfl) ) (by assumption) (by assumption) ?_; intro _ _ _ _ _; (try k_sweep)) | (refine useI (or_does ⟨by assumption, by assumption, by assumption, by assumption, rfl, rfl, rfl, rfl⟩ (Nat.le_of_ble_eq_true rfl) (Nat.le_of_ble_eq_true rfl) ) (by assumption) (by assumption) ?_; intro _ _ _ _ _; (try k_sweep)) | (refine useI (xor_does ⟨by assumption, by assumption, by assumption, by assumption, rfl, rfl, rfl, rfl⟩ (Nat.le_of_ble_eq_true rfl) (Nat.le_of_ble_eq_true rfl) ) (by assumption) (by assumption) ?_; intro _ _ _ _ _; (try k_sweep)) | (refine useI (inv_does ⟨by assumption, by assumption, by assumption, by assumption, rfl, rfl, rfl, rfl⟩ (Nat.le_of_ble_eq_true rfl) (Nat.le_of_ble_eq_true rfl) ) (by assumption) (by assumption) ?_; intro _ _ _ _ _; (try k_sweep)) | (refine useI (neg_does ⟨by assumption, by assumption, by assumption, by assumption, rfl, rfl, rfl, rfl⟩ (Nat.le_of_ble_eq_true rfl) (Nat.le_of_ble_eq_true rfl) ) (by assumption) (by assumption) ?_; intro _ _ _ _ _; (try k_sweep)) | (refine useI (rsh_does ⟨by assumption, by assumption, by assumption, by assumption, rfl, rfl, rfl, rfl⟩ (Nat.le_of_ble_eq_true rfl) (Nat.le_of_ble_eq_true rfl) (by decide)) (by assumption) (by assumption) ?_; intro _ _ _ _ _; (try k_sweep)) | (refine useI (lsh_does ⟨by assumption, by assumption, by assumption, by assumption, rfl, rfl, rfl, rfl⟩ (Nat.le_of_ble_eq_true rfl) (Nat.le_of_ble_eq_true rfl) (by decide) (by decide) (by omega)) (by assumption) (by assumption) ?_; intro _ _ _ _ _; (try k_sweep)))) | ((fail_if_success (with_reducible show wpAny _ _ (exec (Stmt.While _ _ _ _) _) _ _ _)); (fail_if_success (with_reducible show wpAny _ _ (exec (Stmt.For _ _ _ _ _) _) _ _ _)); (fail_if_success (with_reducible show wpAny _ _ (call (Value.ref _) _ _) _ _ _)); (fail_if_success (with_reducible show KswEnd _ _ _ _ _ _ _ _ _ _ _ _)); (fail_if_success (with_reducible show wpAny _ _ (eval (Expr.ListComp _ _ _ _) _) _ _ _)); (fail_if_success (with_reducible show wpAny _ _ (exec (Stmt.Assign _ (Expr.ListComp _ _ _ _) _) _) _ _ _)); (fail_if_success (with_reducible show Out _ _ _ _ _)); (fail_if_success (with_reducible show LCg.CompEnd _ _ _ _ _ _ _ _ _ _ _ _ _ _)); (fail_if_success (with_reducible show LCg.CompSrc _ _ _ _ _ _ _ _ _ _ _ _ _ _)); (fail_if_success (with_reducible show LCt.CompSrcT _ _ _ _ _ _ _ _ _ _ _ _ _ _ _)); (fail_if_success (with_reducible show Meet _ _ _)); (fail_if_success (with_reducible show wpAny _ _ (pyIter _) _ _ _)); (fail_if_success (with_reducible show LEnd _ _ _ _ _ _ _ _ _ _ _)); (fail_if_success (with_reducible show LPost _ _ _ _ _ _ _ _ _ _ _ _ _)); first | walk1 | (dsimp only; walk1)) | (k_end; dsimp only; k_unfold; (try dsimp only)) | fail "no step"))
      rename KBw.bInts (KBy.picked _ _ _) = _ => hpk
      have hpk' := hpk.trans hcl
      rename News _ _ _ _ => N9
      refine notin_bytes N9 (.head _) hI ?_
      rw [hpk']
      cases hany : kss.any (· == ks.take (i + 1)) with
      | true =>
        rw [hany, if_pos rfl] at hst
        (repeat' (first | (k_unfold; (try dsimp only)) | ((with_reducible show wpAny _ _ (call (Value.ref _) _ _) _ _ _); (first | (refine useI (add_does ⟨by assumption, by assumption, by assumption, by assumption, rfl, rfl, rfl, rfl⟩ (Nat.le_of_ble_eq_true rfl) (Nat.le_of_ble_eq_true rfl) ) (by assumption) (by assumption) ?_; intro _ _ _ _ _; (try k_sweep)) | (refine useI (sub_does ⟨by assumption, by assumption, by assumption, by assumption, rfl, rfl, rfl, rfl⟩ (Nat.le_of_ble_eq_true rfl) (Nat.le_of_ble_eq_true rfl) ) (by assumption) (by assumption) ?_; intro _ _ _ _ _; (try k_sweep)) | (refine useI (and_does ⟨by assumption, by assumption, by assumption, by assumption, rfl, rfl, rfl, rfl⟩ (Nat.le_of_ble_eq_true rfl) (Nat.le_of_ble_eq_true rfl) ) (by assumption) (by assumption) ?_; intro _ _ _ _ _; (try k_sweep)) | (refine useI (or_does ⟨by assumption, by assumption, by assumption, by assumption, rfl, rfl, rfl, rfl⟩ (Nat.le_of_ble_eq_true rfl) (Nat.le_of_ble_eq_true rfl) ) (by assumption) (by assumption) ?_; intro _ _ _ _ _; (try k_sweep)) | (refine useI (xor_does ⟨by assumption, by assumption, by assumption, by assumption, rfl, rfl, rfl, rfl⟩ (Nat.le_of_ble_eq_true rfl) (Nat.le_of_ble_eq_true rfl) ) (by assumption) (by assumption) ?_; intro _ _ _ _ _; (try k_sweep)) | (refine useI (inv_does ⟨by assumption, by assumption, by assumption, by assumption, rfl, rfl, rfl, rfl⟩ (Nat.le_of_ble_eq_true rfl) (Nat.le_of_ble_eq_true rfl) ) (by assumption) (by assumption) ?_; intro _ _ _ _ _; (try k_sweep)) | (refine useI (neg_does ⟨by assumption, by assumption, by assumption, by assumption, rfl, rfl, rfl, rfl⟩ (Nat.le_of_ble_eq_true rfl) (Nat.le_of_ble_eq_true rfl) ) (by assumption) (by assumption) ?_; intro _ _ _ _ _; (try k_sweep)) | (refine useI (rsh_does ⟨by assumption, by assumption, by assumption, by assumption, rfl, rfl, rfl, rfl⟩ (Nat.le_of_ble_eq_true rfl) (Nat.le_of_ble_eq_true rfl) (by decide)) (by assumption) (by assumption) ?_; intro _ _ _ _ _; (try k_sweep)) | (refine useI (lsh_does ⟨by assumption, by assumption, by assumption, by assumption, rfl, rfl, rfl, rfl⟩ (Nat.le_of_ble_eq_true rfl) (Nat.le_of_ble_eq_true rfl) (by decide) (by decide) (by omega)) (by assumption) (by assumption) ?_; intro _ _ _ _ _; (try k_sweep)))) | ((fail_if_success (with_reducible show wpAny _ _ (exec (Stmt.While _ _ _ _) _) _ _ _)); (fail_if_success (with_reducible show wpAny _ _ (exec (Stmt.For _ _ _ _ _) _) _ _ _)); (fail_if_success (with_reducible show wpAny _ _ (call (Value.ref _) _ _) _ _ _)); (fail_if_success (with_reducible show KswEnd _ _ _ _ _ _ _ _ _ _ _ _)); (fail_if_success (with_reducible show wpAny _ _ (eval (Expr.ListComp _ _ _ _) _) _ _ _)); (fail_if_success (with_reducible show wpAny _ _ (exec (Stmt.Assign _ (Expr.ListComp _ _ _ _) _) _) _ _ _)); (fail_if_success (with_reducible show Out _ _ _ _ _)); (fail_if_success (with_reducible show LCg.CompEnd _ _ _ _ _ _ _ _ _ _ _ _ _ _)); (fail_if_success (with_reducible show LCg.CompSrc _ _ _ _ _ _ _ _ _ _ _ _ _ _)); (fail_if_success (with_reducible show LCt.CompSrcT _ _ _ _ _ _ _ _ _ _ _ _ _ _ _)); (fail_if_success (with_reducible show Meet _ _ _)); (fail_if_success (with_reducible show wpAny _ _ (pyIter _) _ _ _)); (fail_if_success (with_reducible show LEnd _ _ _ _ _ _ _ _ _ _ _)); (fail_if_success (with_reducible show LPost _ _ _ _ _ _ _ _ _ _ _ _ _)); first | walk1 | (dsimp only; walk1)) | (k_end; dsimp only; k_unfold; (try dsimp only)) | fail "no step"))
        rename Fr _ _ _ _ => F6
        rename News _ _ _ _ => N6
        dsimp only [LPost]
        refine ⟨(us, n', kss), _, _, _, rfl, F6, N6, List.forall_mem_nil _, ?_, hI, hst.symm⟩
        intro z h1 _ _
        simp [h1]
      | false =>
        rw [hany, if_neg Bool.false_ne_true] at hst
        (repeat' (first | (k_unfold; (try dsimp only)) | ((with_reducible show wpAny _ _ (call (Value.ref _) _ _) _ _ _); (first | (refine useI (add_does ⟨by assumption, by assumption, by assumption, by assumption, rfl, rfl, rfl, rfl⟩ (Nat.le_of_ble_eq_true rfl) (Nat.le_of_ble_eq_true rfl) ) (by assumption) (by assumption) ?_; intro _ _ _ _ _; (try k_sweep)) | (refine useI (sub_does ⟨by assumption, by assumption, by assumption, by assumption, rfl, rfl, rfl, rfl⟩ (Nat.le_of_ble_eq_true rfl) (Nat.le_of_ble_eq_true rfl) ) (by assumption) (by assumption) ?_; intro _ _ _ _ _; (try k_sweep)) | (refine useI (and_does ⟨by assumption, by assumption, by assumption, by assumption, rfl, rfl, rfl, rfl⟩ (Nat.le_of_ble_eq_true rfl) (Nat.le_of_ble_eq_true rfl) ) (by assumption) (by assumption) ?_; intro _ _ _ _ _; (try k_sweep)) | (refine useI (or_does ⟨by assumption, by assumption, by assumption, by assumption, rfl, rfl, rfl, rfl⟩ (Nat.le_of_ble_eq_true rfl) (Nat.le_of_ble_eq_true rfl) ) (by assumption) (by assumption) ?_; intro _ _ _ _ _; (try k_sweep)) | (refine useI (xor_does ⟨by assumption, by assumption, by assumption, by assumption, rfl, rfl, rfl, rfl⟩ (Nat.le_of_ble_eq_true rfl) (Nat.le_of_ble_eq_true rfl) ) (by assumption) (by assumption) ?_; intro _ _ _ _ _; (try k_sweep)) | (refine useI (inv_does ⟨by assumption, by assumption, by assumption, by assumption, rfl, rfl, rfl, rfl⟩ (Nat.le_of_ble_eq_true rfl) (Nat.le_of_ble_eq_true rfl) ) (by assumption) (by assumption) ?_; intro _ _ _ _ _; (try k_sweep)) | (refine useI (neg_does ⟨by assumption, by assumption, by assumption, by assumption, rfl, rfl, rfl, rfl⟩ (Nat.le_of_ble_eq_true rfl) (Nat.le_of_ble_eq_true rfl) ) (by assumption) (by assumption) ?_; intro _ _ _ _ _; (try k_sweep)) | (refine useI (rsh_does ⟨by assumption, by assumption, by assumption, by assumption, rfl, rfl, rfl, rfl⟩ (Nat.le_of_ble_eq_true rfl) (Nat.le_of_ble_eq_true rfl) (by decide)) (by assumption) (by assumption) ?_; intro _ _ _ _ _; (try k_sweep)) | (refine useI (lsh_does ⟨by assumption, by assumption, by assumption, by assumption, rfl, rfl, rfl, rfl⟩ (Nat.le_of_ble_eq_true rfl) (Nat.le_of_ble_eq_true rfl) (by decide) (by decide) (by omega)) (by assumption) (by assumption) ?_; intro _ _ _ _ _; (try k_sweep)))) | ((fail_if_success (with_reducible show wpAny _ _ (exec (Stmt.While _ _ _ _) _) _ _ _)); (fail_if_success (with_reducible show wpAny _ _ (exec (Stmt.For _ _ _ _ _) _) _ _ _)); (fail_if_success (with_reducible show wpAny _ _ (call (Value.ref _) _ _) _ _ _)); (fail_if_success (with_reducible show KswEnd _ _ _ _ _ _ _ _ _ _ _ _)); (fail_if_success (with_reducible show wpAny _ _ (eval (Expr.ListComp _ _ _ _) _) _ _ _)); (fail_if_success (with_reducible show wpAny _ _ (exec (Stmt.Assign _ (Expr.ListComp _ _ _ _) _) _) _ _ _)); (fail_if_success (with_reducible show Out _ _ _ _ _)); (fail_if_success (with_reducible show LCg.CompEnd _ _ _ _ _ _ _ _ _ _ _ _ _ _)); (fail_if_success (with_reducible show LCg.CompSrc _ _ _ _ _ _ _ _ _ _ _ _ _ _)); (fail_if_success (with_reducible show LCt.CompSrcT _ _ _ _ _ _ _ _ _ _ _ _ _ _ _)); (fail_if_success (with_reducible show Meet _ _ _)); (fail_if_success (with_reducible show wpAny _ _ (pyIter _) _ _ _)); (fail_if_success (with_reducible show LEnd _ _ _ _ _ _ _ _ _ _ _)); (fail_if_success (with_reducible show LPost _ _ _ _ _ _ _ _ _ _ _ _ _)); first | walk1 | (dsimp only; walk1)) | (k_end; dsimp only; k_unfold; (try dsimp only)) | fail "no step"))
        rename Fr _ _ _ _ => F6
        rename News _ _ _ _ => N6
        simp only [List.push_toArray] at N6
        dsimp only [LPost]
        refine ⟨(us ++ [_], n' + 1, kss ++ [ks.take (i + 1)]), _, _, _, rfl, F6, N6, List.forall_mem_nil _, ?_, hI.snoc hpk', hst.symm⟩
        intro z h1 _ _
        simp [h1]
    · rintro ⟨us, n', kss⟩ u h tk ⟨hI, hkss⟩ F₁ N₁
      dsimp only [kstB] at hI hkss F₁ N₁
      simp only [List.cons_append, List.nil_append] at N₁
      clear F7 N7
      rw [hTv, List.take_length] at hkss
      have hul := hI.length
      have hdl := dd_length (TT.map (·.take (i + 1)))
      rw [List.length_map, ← hkss] at hdl
      (repeat' (first | (k_unfold; (try dsimp only)) | ((with_reducible show wpAny _ _ (call (Value.ref _) _ _) _ _ _); (first | (refine useI (add_does ⟨by assumption, by assumption, by assumption, by assumption, rfl, rfl, rfl, rfl⟩ (Nat.le_of_ble_eq_true rfl) (Nat.le_of_ble_eq_true rfl) ) (by assumption) (by assumption) ?_; intro _ _ _ _ _; (try k_sweep)) | (refine useI (sub_does ⟨by assumption, by assumption, by assumption, by assumption, rfl, rfl, rfl, rfl⟩ (Nat.le_of_ble_eq_true rfl) (Nat.le_of_ble_eq_true rfl) ) (by assumption) (by assumption) ?_; intro _ _ _ _ _; (try k_sweep)) | (refine useI (and_does ⟨by assumption, by assumption, by assumption, by assumption, rfl, rfl, rfl, rfl⟩ (Nat.le_of_ble_eq_true rfl) (Nat.le_of_ble_eq_true rfl) ) (by assumption) (by assumption) ?_; intro _ _ _ _ _; (try k_sweep)) | (refine useI (or_does ⟨by assumption, by assumption, by assumption, by assumption, rfl, rfl, rfl, rfl⟩ (Nat.le_of_ble_eq_true rfl) (Nat.le_of_ble_eq_true rfl) ) (by assumption) (by assumption) ?_; intro _ _ _ _ _; (try k_sweep)) | (refine useI (xor_does ⟨by assumption, by assumption, by assumption, by assumption, rfl, rfl, rfl, rfl⟩ (Nat.le_of_ble_eq_true rfl) (Nat.le_of_ble_eq_true rfl) ) (by assumption) (by assumption) ?_; intro _ _ _ _ _; (try k_sweep)) | (refine useI (inv_does ⟨by assumption, by assumption, by assumption, by assumption, rfl, rfl, rfl, rfl⟩ (Nat.le_of_ble_eq_true rfl) (Nat.le_of_ble_eq_true rfl) ) (by assumption) (by assumption) ?_; intro _ _ _ _ _; (try k_sweep)) | (refine useI (neg_does ⟨by assumption, by assumption, by assumption, by assumption, rfl, rfl, rfl, rfl⟩ (Nat.le_of_ble_eq_true rfl) (Nat.le_of_ble_eq_true rfl) ) (by assumption) (by assumption) ?_; intro _ _ _ _ _; (try k_sweep)) | (refine useI (rsh_does ⟨by assumption, by assumption, by assumption, by assumption, rfl, rfl, rfl, rfl⟩ (Nat.le_of_ble_eq_true rfl) (Nat.le_of_ble_eq_true rfl) (by decide)) (by assumption) (by assumption) ?_; intro _ _ _ _ _; (try k_sweep)) | (refine useI (lsh_does ⟨by assumption, by assumption, by assumption, by assumption, rfl, rfl, rfl, rfl⟩ (Nat.le_of_ble_eq_true rfl) (Nat.le_of_ble_eq_true rfl) (by decide) (by decide) (by omega)) (by assumption) (by assumption) ?_; intro _ _ _ _ _; (try k_sweep)))) | ((fail_if_success (with_reducible show wpAny _ _ (exec (Stmt.While _ _ _ _) _) _ _ _)); (fail_if_success (with_reducible show wpAny _ _ (exec (Stmt.For _ _ _ _ _) _) _ _ _)); (fail_if_success (with_reducible show wpAny _ _ (call (Value.ref _) _ _) _ _ _)); (fail_if_success (with_reducible show KswEnd _ _ _ _ _ _ _ _ _ _ _ _)); (fail_if_success (with_reducible show wpAny _ _ (eval (Expr.ListComp _ _ _ _) _) _ _ _)); (fail_if_success (with_reducible show wpAny _ _ (exec (Stmt.Assign _ (Expr.ListComp _ _ _ _) _) _) _ _ _)); (fail_if_success (with_reducible show Out _ _ _ _ _)); (fail_if_success (with_reducible show LCg.CompEnd _ _ _ _ _ _ _ _ _ _ _ _ _ _)); (fail_if_success (with_reducible show LCg.CompSrc _ _ _ _ _ _ _ _ _ _ _ _ _ _)); (fail_if_success (with_reducible show LCt.CompSrcT _ _ _ _ _ _ _ _ _ _ _ _ _ _ _)); (fail_if_success (with_reducible show Meet _ _ _)); (fail_if_success (with_reducible show wpAny _ _ (pyIter _) _ _ _)); (fail_if_success (with_reducible show LEnd _ _ _ _ _ _ _ _ _ _ _)); (fail_if_success (with_reducible show LPost _ _ _ _ _ _ _ _ _ _ _ _ _)); first | walk1 | (dsimp only; walk1)) | (k_end; dsimp only; k_unfold; (try dsimp only)) | fail "no step"))
      rename News _ _ _ _ => N6
      refine KM.len_K N6 (.head _) (n := kss.length) (by rw [List.size_toArray]; exact hul) (by omega) ?_
      (repeat' (first | (k_unfold; (try dsimp only)) | ((with_reducible show wpAny _ _ (call (Value.ref _) _ _) _ _ _); (first | (refine useI (add_does ⟨by assumption, by assumption, by assumption, by assumption, rfl, rfl, rfl, rfl⟩ (Nat.le_of_ble_eq_true rfl) (Nat.le_of_ble_eq_true rfl) ) (by assumption) (by assumption) ?_; intro _ _ _ _ _; (try k_sweep)) | (refine useI (sub_does ⟨by assumption, by assumption, by assumption, by assumption, rfl, rfl, rfl, rfl⟩ (Nat.le_of_ble_eq_true rfl) (Nat.le_of_ble_eq_true rfl) ) (by assumption) (by assumption) ?_; intro _ _ _ _ _; (try k_sweep)) | (refine useI (and_does ⟨by assumption, by assumption, by assumption, by assumption, rfl, rfl, rfl, rfl⟩ (Nat.le_of_ble_eq_true rfl) (Nat.le_of_ble_eq_true rfl) ) (by assumption) (by assumption) ?_; intro _ _ _ _ _; (try k_sweep)) | (refine useI (or_does ⟨by assumption, by assumption, by assumption, by assumption, rfl, rfl, rfl, rfl⟩ (Nat.le_of_ble_eq_true rfl) (Nat.le_of_ble_eq_true rfl) ) (by assumption) (by assumption) ?_; intro _ _ _ _ _; (try k_sweep)) | (refine useI (xor_does ⟨by assumption, by assumption, by assumption, by assumption, rfl, rfl, rfl, rfl⟩ (Nat.le_of_ble_eq_true rfl) (Nat.le_of_ble_eq_true rfl) ) (by assumption) (by assumption) ?_; intro _ _ _ _ _; (try k_sweep)) | (refine useI (inv_does ⟨by assumption, by assumption, by assumption, by assumption, rfl, rfl, rfl, rfl⟩ (Nat.le_of_ble_eq_true rfl) (Nat.le_of_ble_eq_true rfl) ) (by assumption) (by assumption) ?_; intro _ _ _ _ _; (try k_sweep)) | (refine useI (neg_does ⟨by assumption, by assumption, by assumption, by assumption, rfl, rfl, rfl, rfl⟩ (Nat.le_of_ble_eq_true rfl) (Nat.le_of_ble_eq_true rfl) ) (by assumption) (by assumption) ?_; intro _ _ _ _ _; (try k_sweep)) | (refine useI (rsh_does ⟨by assumption, by assumption, by assumption, by assumption, rfl, rfl, rfl, rfl⟩ (Nat.le_of_ble_eq_true rfl) (Nat.le_of_ble_eq_true rfl) (by decide)) (by assumption) (by assumption) ?_; intro _ _ _ _ _; (try k_sweep)) | (refine useI (lsh_does ⟨by assumption, by assumption, by assumption, by assumption, rfl, rfl, rfl, rfl⟩ (Nat.le_of_ble_eq_true rfl) (Nat.le_of_ble_eq_true rfl) (by decide) (by decide) (by omega)) (by assumption) (by assumption) ?_; intro _ _ _ _ _; (try k_sweep)))) | ((fail_if_success (with_reducible show wpAny _ _ (exec (Stmt.While _ _ _ _) _) _ _ _)); (fail_if_success (with_reducible show wpAny _ _ (exec (Stmt.For _ _ _ _ _) _) _ _ _)); (fail_if_success (with_reducible show wpAny _ _ (call (Value.ref _) _ _) _ _ _)); (fail_if_success (with_reducible show KswEnd _ _ _ _ _ _ _ _ _ _ _ _)); (fail_if_success (with_reducible show wpAny _ _ (eval (Expr.ListComp _ _ _ _) _) _ _ _)); (fail_if_success (with_reducible show wpAny _ _ (exec (Stmt.Assign _ (Expr.ListComp _ _ _ _) _) _) _ _ _)); (fail_if_success (with_reducible show Out _ _ _ _ _)); (fail_if_success (with_reducible show LCg.CompEnd _ _ _ _ _ _ _ _ _ _ _ _ _ _)); (fail_if_success (with_reducible show LCg.CompSrc _ _ _ _ _ _ _ _ _ _ _ _ _ _)); (fail_if_success (with_reducible show LCt.CompSrcT _ _ _ _ _ _ _ _ _ _ _ _ _ _ _)); (fail_if_success (with_reducible show Meet _ _ _)); (fail_if_success (with_reducible show wpAny _ _ (pyIter _) _ _ _)); (fail_if_success (with_reducible show LEnd _ _ _ _ _ _ _ _ _ _ _)); (fail_if_success (with_reducible show LPost _ _ _ _ _ _ _ _ _ _ _ _ _)); first | walk1 | (dsimp only; walk1)) | (k_end; dsimp only; k_unfold; (try dsimp only)) | fail "no step"))
      rename Fr _ _ _ _ => F6
      refine LCt.ListComp_T (cl := [(Str.ofString "nought", L' + 1), (Str.ofString "k", L' + 1 + 1 + 1)]) F6 (by with_unfolding_all rfl) (by decide) rfl (by decide) rfl ?_
      (repeat' (first | (k_unfold; (try dsimp only)) | ((with_reducible show wpAny _ _ (call (Value.ref _) _ _) _ _ _); (first | (refine useI (add_does ⟨by assumption, by assumption, by assumption, by assumption, rfl, rfl, rfl, rfl⟩ (Nat.le_of_ble_eq_true rfl) (Nat.le_of_ble_eq_true rfl) ) (by assumption) (by assumption) ?_; intro _ _ _ _ _; (try k_sweep)) | (refine useI (sub_does ⟨by assumption, by assumption, by assumption, by assumption, rfl, rfl, rfl, rfl⟩ (Nat.le_of_ble_eq_true rfl) (Nat.le_of_ble_eq_true rfl) ) (by assumption) (by assumption) ?_; intro _ _ _ _ _; (try k_sweep)) | (refine useI (and_does ⟨by assumption, by assumption, by assumption, by assumption, rfl, rfl, rfl, rfl⟩ (Nat.le_of_ble_eq_true rfl) (Nat.le_of_ble_eq_true rfl) ) (by assumption) (by assumption) ?_; intro _ _ _ _ _; (try k_sweep)) | (refine useI (or_does ⟨by assumption, by assumption, by assumption, by assumption, rfl, rfl, rfl, rfl⟩ (Nat.le_of_ble_eq_true rfl) (Nat.le_of_ble_eq_true rfl) ) (by assumption) (by assumption) ?_; intro _ _ _ _ _; (try k_sweep)) | (refine useI (xor_does ⟨by assumption, by assumption, by assumption, by assumption, rfl, rfl, rfl, rfl⟩ (Nat.le_of_ble_eq_true rfl) (Nat.le_of_ble_eq_true rfl) ) (by assumption) (by assumption) ?_; intro _ _ _ _ _; (try k_sweep)) | (refine useI (inv_does ⟨by assumption, by assumption, by assumption, by assumption, rfl, rfl, rfl, rfl⟩ (Nat.le_of_ble_eq_true rfl) (Nat.le_of_ble_eq_true rfl) ) (by assumption) (by assumption) ?_; intro _ _ _ _ _; (try k_sweep)) | (refine useI (neg_does ⟨by assumption, by assumption, by assumption, by assumption, rfl, rfl, rfl, rfl⟩ (Nat.le_of_ble_eq_true rfl) (Nat.le_of_ble_eq_true rfl) ) (by assumption) (by assumption) ?_; intro _ _ _ _ _; (try k_sweep)) | (refine useI (rsh_does ⟨by assumption, by assumption, by assumption, by assumption, rfl, rfl, rfl, rfl⟩ (Nat.le_of_ble_eq_true rfl) (Nat.le_of_ble_eq_true rfl) (by decide)) (by assumption) (by assumption) ?_; intro _ _ _ _ _; (try k_sweep)) | (refine useI (lsh_does ⟨by assumption, by assumption, by assumption, by assumption, rfl, rfl, rfl, rfl⟩ (Nat.le_of_ble_eq_true rfl) (Nat.le_of_ble_eq_true rfl) (by decide) (by decide) (by omega)) (by assumption) (by assumption) ?_; intro _ _ _ _ _; (try k_sweep)))) | ((fail_if_success (with_reducible show wpAny _ _ (exec (Stmt.While _ _ _ _) _) _ _ _)); (fail_if_success (with_reducible show wpAny _ _ (exec (Stmt.For _ _ _ _ _) _) _ _ _)); (fail_if_success (with_reducible show wpAny _ _ (call (Value.ref _) _ _) _ _ _)); (fail_if_success (with_reducible show KswEnd _ _ _ _ _ _ _ _ _ _ _ _)); (fail_if_success (with_reducible show wpAny _ _ (eval (Expr.ListComp _ _ _ _) _) _ _ _)); (fail_if_success (with_reducible show wpAny _ _ (exec (Stmt.Assign _ (Expr.ListComp _ _ _ _) _) _) _ _ _)); (fail_if_success (with_reducible show Out _ _ _ _ _)); (fail_if_success (with_reducible show LCg.CompEnd _ _ _ _ _ _ _ _ _ _ _ _ _ _)); (fail_if_success (with_reducible show LCg.CompSrc _ _ _ _ _ _ _ _ _ _ _ _ _ _)); (fail_if_success (with_reducible show LCt.CompSrcT _ _ _ _ _ _ _ _ _ _ _ _ _ _ _)); (fail_if_success (with_reducible show Meet _ _ _)); (fail_if_success (with_reducible show wpAny _ _ (pyIter _) _ _ _)); (fail_if_success (with_reducible show LEnd _ _ _ _ _ _ _ _ _ _ _)); (fail_if_success (with_reducible show LPost _ _ _ _ _ _ _ _ _ _ _ _ _)); first | walk1 | (dsimp only; walk1)) | (k_end; dsimp only; k_unfold; (try dsimp only)) | fail "no step"))
      rename Fr _ _ _ _ => F5
      rename News _ _ _ _ => N5
      have hmT : ∀ m ∈ M, m.length = sz := fun m hm => hall m (List.mem_append_right _ hm)
      refine LCt.CompSrcT.base rfl F5 N5 hmg (by rw [List.size_toArray, sizeLine_eq]; omega) fun gg => comp_invT (fun j ys nw => ys.length = ((M.take j).filter (fun m => m.take (i + 1) == List.replicate (i + 1) (nu.toNat : Int))).length ∧ nw = _) ?_ ?_ _ 0 [] _ (Nat.zero_add _) ⟨rfl, rfl⟩
      · rintro j ys nw v I oI C oC D m₂ h9 tk9 E' hin ⟨hyl, rfl⟩ hv hoC hx F8 N8 o9 ne9
        obtain ⟨b9, t9, ks, rfl, hb9, hks⟩ := hM.at (List.getElem?_toArray ▸ hv)
        have hkl := hmT ks (List.mem_of_getElem? hks)
        have hst : ((M.take (j + 1)).filter (fun m => m.take (i + 1) == List.replicate (i + 1) (nu.toNat : Int))).length = ys.length + if ks.take (i + 1) == List.replicate (i + 1) (nu.toNat : Int) then 1 else 0 := by
          rw [List.take_add_one, hks, hyl]
          simp only [Option.toList_some, List.filter_append, List.length_append, List.filter_cons, List.filter_nil]
          split <;> rfl
        have hcl := clip_at (ks := ks) (i := i) (by omega)
        clear hv F5 N5
        (repeat' (first | (k_unfold; (try dsimp only)) | ((with_reducible show wpAny _ _ (call (Value.ref _) _ _) _ _ _); (first | (refine useI (add_does ⟨by assumption, by assumption, by assumption, by assumption, rfl, rfl, rfl, rfl⟩ (Nat.le_of_ble_eq_true rfl) (Nat.le_of_ble_eq_true rfl) ) (by assumption) (by assumption) ?_; intro _ _ _ _ _; (try k_sweep)) | (refine useI (sub_does ⟨by assumption, by assumption, by assumption, by assumption, rfl, rfl, rfl, rfl⟩ (Nat.le_of_ble_eq_true rfl) (Nat.le_of_ble_eq_true rfl) ) (by assumption) (by assumption) ?_; intro _ _ _ _ _; (try k_sweep)) | (refine useI (and_does ⟨by assumption, by assumption, by assumption, by assumption, rfl, rfl, rfl, rfl⟩ (Nat.le_of_ble_eq_true rfl) (Nat.le_of_ble_eq_true rfl) ) (by assumption) (by assumption) ?_; intro _ _ _ _ _; (try k_sweep)) | (refine useI (or_does ⟨by assumption, by assumption, by assumption, by assumption, rfl, rfl, rfl, rfl⟩ (Nat.le_of_ble_eq_true rfl) (Nat.le_of_ble_eq_true rfl) ) (by assumption) (by assumption) ?_; intro _ _ _ _ _; (try k_sweep)) | (refine useI (xor_does ⟨by assumption, by assumption, by assumption, by assumption, rfl, rfl, rfl, rfl⟩ (Nat.le_of_ble_eq_true rfl) (Nat.le_of_ble_eq_true rfl) ) (by assumption) (by assumption) ?_; intro _ _ _ _ _; (try k_sweep)) | (refine useI (inv_does ⟨by assumption, by assumption, by assumption, by assumption, rfl, rfl, rfl, rfl⟩ (Nat.le_of_ble_eq_true rfl) (Nat.le_of_ble_eq_true rfl) ) (by assumption) (by assumption) ?_; intro _ _ _ _ _; (try k_sweep)) | (refine useI (neg_does ⟨by assumption, by assumption, by assumption, by assumption, rfl, rfl, rfl, rfl⟩ (Nat.le_of_ble_eq_true rfl) (Nat.le_of_ble_eq_true rfl) ) (by assumption) (by assumption) ?_; intro _ _ _ _ _; (try k_sweep)) | (refine useI (rsh_does ⟨by assumption, by assumption, by assumption, by assumption, rfl, rfl, rfl, rfl⟩ (Nat.le_of_ble_eq_true rfl) (Nat.le_of_ble_eq_true rfl) (by decide)) (by assumption) (by assumption) ?_; intro _ _ _ _ _; (try k_sweep)) | (refine useI (lsh_does ⟨by assumption, by assumption, by assumption, by assumption, rfl, rfl, rfl, rfl⟩ (Nat.le_of_ble_eq_true rfl) (Nat.le_of_ble_eq_true rfl) (by decide) (by decide) (by omega)) (by assumption) (by assumption) ?_; intro _ _ _ _ _; (try k_sweep)))) | ((fail_if_success (with_reducible show wpAny _ _ (exec (Stmt.While _ _ _ _) _) _ _ _)); (fail_if_success (with_reducible show wpAny _ _ (exec (Stmt.For _ _ _ _ _) _) _ _ _)); (fail_if_success (with_reducible show wpAny _ _ (call (Value.ref _) _ _) _ _ _)); (fail_if_success (with_reducible show KswEnd _ _ _ _ _ _ _ _ _ _ _ _)); (fail_if_success (with_reducible show wpAny _ _ (eval (Expr.ListComp _ _ _ _) _) _ _ _)); (fail_if_success (with_reducible show wpAny _ _ (exec (Stmt.Assign _ (Expr.ListComp _ _ _ _) _) _) _ _ _)); (fail_if_success (with_reducible show Out _ _ _ _ _)); (fail_if_success (with_reducible show LCg.CompEnd _ _ _ _ _ _ _ _ _ _ _ _ _ _)); (fail_if_success (with_reducible show LCg.CompSrc _ _ _ _ _ _ _ _ _ _ _ _ _ _)); (fail_if_success (with_reducible show LCt.CompSrcT _ _ _ _ _ _ _ _ _ _ _ _ _ _ _)); (fail_if_success (with_reducible show Meet _ _ _)); (fail_if_success (with_reducible show wpAny _ _ (pyIter _) _ _ _)); (fail_if_success (with_reducible show LEnd _ _ _ _ _ _ _ _ _ _ _)); (fail_if_success (with_reducible show LPost _ _ _ _ _ _ _ _ _ _ _ _ _)); first | walk1 | (dsimp only; walk1)) | (k_end; dsimp only; k_unfold; (try dsimp only)) | fail "no step"))
        · rename KBw.bInts (KBy.picked _ _ _) = _ => hpk
          rename (_ == _) = true => hq
          rw [mark_eq (hpk.trans hcl)] at hq
          rw [hq, if_pos rfl] at hst
          rename Fr _ _ _ _ => F6
          rename News _ _ _ _ => N6
          exact LCg.CompEnd.intro F6 N6 _ (fun p hp => hp) o9 (.inl hmg) ⟨(by rw [List.length_append]; exact hst.symm), rfl⟩
        · rename KBw.bInts (KBy.picked _ _ _) = _ => hpk
          rename (_ == _) = false => hq
          rw [mark_eq (hpk.trans hcl)] at hq
          rw [hq, if_neg Bool.false_ne_true] at hst
          rename Fr _ _ _ _ => F6
          rename News _ _ _ _ => N6
          exact LCg.CompEnd.intro F6 N6 _ (fun p hp => hp) o9 (.inl hmg) ⟨hst.symm, rfl⟩
      · rintro ys nw ⟨hyl, rfl⟩ D h9 tk9 F9 N9 o9
        clear F5 N5
        rw [List.size_toArray, hMv, List.take_length] at hyl
        have hys : ys.length ≤ M.length := by
          rw [hyl]; exact List.length_filter_le _ _
        have hct := hcount i hin
        rw [← hyl, ← hkss] at hct
        (repeat' (first | (k_unfold; (try dsimp only)) | ((with_reducible show wpAny _ _ (call (Value.ref _) _ _) _ _ _); (first | (refine useI (add_does ⟨by assumption, by assumption, by assumption, by assumption, rfl, rfl, rfl, rfl⟩ (Nat.le_of_ble_eq_true rfl) (Nat.le_of_ble_eq_true rfl) ) (by assumption) (by assumption) ?_; intro _ _ _ _ _; (try k_sweep)) | (refine useI (sub_does ⟨by assumption, by assumption, by assumption, by assumption, rfl, rfl, rfl, rfl⟩ (Nat.le_of_ble_eq_true rfl) (Nat.le_of_ble_eq_true rfl) ) (by assumption) (by assumption) ?_; intro _ _ _ _ _; (try k_sweep)) | (refine useI (and_does ⟨by assumption, by assumption, by assumption, by assumption, rfl, rfl, rfl, rfl⟩ (Nat.le_of_ble_eq_true rfl) (Nat.le_of_ble_eq_true rfl) ) (by assumption) (by assumption) ?_; intro _ _ _ _ _; (try k_sweep)) | (refine useI (or_does ⟨by assumption, by assumption, by assumption, by assumption, rfl, rfl, rfl, rfl⟩ (Nat.le_of_ble_eq_true rfl) (Nat.le_of_ble_eq_true rfl) ) (by assumption) (by assumption) ?_; intro _ _ _ _ _; (try k_sweep)) | (refine useI (xor_does ⟨by assumption, by assumption, by assumption, by assumption, rfl, rfl, rfl, rfl⟩ (Nat.le_of_ble_eq_true rfl) (Nat.le_of_ble_eq_true rfl) ) (by assumption) (by assumption) ?_; intro _ _ _ _ _; (try k_sweep)) | (refine useI (inv_does ⟨by assumption, by assumption, by assumption, by assumption, rfl, rfl, rfl, rfl⟩ (Nat.le_of_ble_eq_true rfl) (Nat.le_of_ble_eq_true rfl) ) (by assumption) (by assumption) ?_; intro _ _ _ _ _; (try k_sweep)) | (refine useI (neg_does ⟨by assumption, by assumption, by assumption, by assumption, rfl, rfl, rfl, rfl⟩ (Nat.le_of_ble_eq_true rfl) (Nat.le_of_ble_eq_true rfl) ) (by assumption) (by assumption) ?_; intro _ _ _ _ _; (try k_sweep)) | (refine useI (rsh_does ⟨by assumption, by assumption, by assumption, by assumption, rfl, rfl, rfl, rfl⟩ (Nat.le_of_ble_eq_true rfl) (Nat.le_of_ble_eq_true rfl) (by decide)) (by assumption) (by assumption) ?_; intro _ _ _ _ _; (try k_sweep)) | (refine useI (lsh_does ⟨by assumption, by assumption, by assumption, by assumption, rfl, rfl, rfl, rfl⟩ (Nat.le_of_ble_eq_true rfl) (Nat.le_of_ble_eq_true rfl) (by decide) (by decide) (by omega)) (by assumption) (by assumption) ?_; intro _ _ _ _ _; (try k_sweep)))) | ((fail_if_success (with_reducible show wpAny _ _ (exec (Stmt.While _ _ _ _) _) _ _ _)); (fail_if_success (with_reducible show wpAny _ _ (exec (Stmt.For _ _ _ _ _) _) _ _ _)); (fail_if_success (with_reducible show wpAny _ _ (call (Value.ref _) _ _) _ _ _)); (fail_if_success (with_reducible show KswEnd _ _ _ _ _ _ _ _ _ _ _ _)); (fail_if_success (with_reducible show wpAny _ _ (eval (Expr.ListComp _ _ _ _) _) _ _ _)); (fail_if_success (with_reducible show wpAny _ _ (exec (Stmt.Assign _ (Expr.ListComp _ _ _ _) _) _) _ _ _)); (fail_if_success (with_reducible show Out _ _ _ _ _)); (fail_if_success (with_reducible show LCg.CompEnd _ _ _ _ _ _ _ _ _ _ _ _ _ _)); (fail_if_success (with_reducible show LCg.CompSrc _ _ _ _ _ _ _ _ _ _ _ _ _ _)); (fail_if_success (with_reducible show LCt.CompSrcT _ _ _ _ _ _ _ _ _ _ _ _ _ _ _)); (fail_if_success (with_reducible show Meet _ _ _)); (fail_if_success (with_reducible show wpAny _ _ (pyIter _) _ _ _)); (fail_if_success (with_reducible show LEnd _ _ _ _ _ _ _ _ _ _ _)); (fail_if_success (with_reducible show LPost _ _ _ _ _ _ _ _ _ _ _ _ _)); first | walk1 | (dsimp only; walk1)) | (k_end; dsimp only; k_unfold; (try dsimp only)) | fail "no step"))
        rename News _ _ _ _ => N6
        replace N6 : News g L' _ ((D, listOf ys.toArray ys.length) :: _) := N6
        refine KM.len_K N6 (.head _) (n := ys.length) (by rw [List.size_toArray]) (by omega) ?_
        (repeat' (first | (k_unfold; (try dsimp only)) | ((with_reducible show wpAny _ _ (call (Value.ref _) _ _) _ _ _); (first | (refine useI (add_does ⟨by assumption, by assumption, by assumption, by assumption, rfl, rfl, rfl, rfl⟩ (Nat.le_of_ble_eq_true rfl) (Nat.le_of_ble_eq_true rfl) ) (by assumption) (by assumption) ?_; intro _ _ _ _ _; (try k_sweep)) | (refine useI (sub_does ⟨by assumption, by assumption, by assumption, by assumption, rfl, rfl, rfl, rfl⟩ (Nat.le_of_ble_eq_true rfl) (Nat.le_of_ble_eq_true rfl) ) (by assumption) (by assumption) ?_; intro _ _ _ _ _; (try k_sweep)) | (refine useI (and_does ⟨by assumption, by assumption, by assumption, by assumption, rfl, rfl, rfl, rfl⟩ (Nat.le_of_ble_eq_true rfl) (Nat.le_of_ble_eq_true rfl) ) (by assumption) (by assumption) ?_; intro _ _ _ _ _; (try k_sweep)) | (refine useI (or_does ⟨by assumption, by assumption, by assumption, by assumption, rfl, rfl, rfl, rfl⟩ (Nat.le_of_ble_eq_true rfl) (Nat.le_of_ble_eq_true rfl) ) (by assumption) (by assumption) ?_; intro _ _ _ _ _; (try k_sweep)) | (refine useI (xor_does ⟨by assumption, by assumption, by assumption, by assumption, rfl, rfl, rfl, rfl⟩ (Nat.le_of_ble_eq_true rfl) (Nat.le_of_ble_eq_true rfl) ) (by assumption) (by assumption) ?_; intro _ _ _ _ _; (try k_sweep)) | (refine useI (inv_does ⟨by assumption, by assumption, by assumption, by assumption, rfl, rfl, rfl, rfl⟩ (Nat.le_of_ble_eq_true rfl) (Nat.le_of_ble_eq_true rfl) ) (by assumption) (by assumption) ?_; intro _ _ _ _ _; (try k_sweep)) | (refine useI (neg_does ⟨by assumption, by assumption, by assumption, by assumption, rfl, rfl, rfl, rfl⟩ (Nat.le_of_ble_eq_true rfl) (Nat.le_of_ble_eq_true rfl) ) (by assumption) (by assumption) ?_; intro _ _ _ _ _; (try k_sweep)) | (refine useI (rsh_does ⟨by assumption, by assumption, by assumption, by assumption, rfl, rfl, rfl, rfl⟩ (Nat.le_of_ble_eq_true rfl) (Nat.le_of_ble_eq_true rfl) (by decide)) (by assumption) (by assumption) ?_; intro _ _ _ _ _; (try k_sweep)) | (refine useI (lsh_does ⟨by assumption, by assumption, by assumption, by assumption, rfl, rfl, rfl, rfl⟩ (Nat.le_of_ble_eq_true rfl) (Nat.le_of_ble_eq_true rfl) (by decide) (by decide) (by omega)) (by assumption) (by assumption) ?_; intro _ _ _ _ _; (try k_sweep)))) | ((fail_if_success (with_reducible show wpAny _ _ (exec (Stmt.While _ _ _ _) _) _ _ _)); (fail_if_success (with_reducible show wpAny _ _ (exec (Stmt.For _ _ _ _ _) _) _ _ _)); (fail_if_success (with_reducible show wpAny _ _ (call (Value.ref _) _ _) _ _ _)); (fail_if_success (with_reducible show KswEnd _ _ _ _ _ _ _ _ _ _ _ _)); (fail_if_success (with_reducible show wpAny _ _ (eval (Expr.ListComp _ _ _ _) _) _ _ _)); (fail_if_success (with_reducible show wpAny _ _ (exec (Stmt.Assign _ (Expr.ListComp _ _ _ _) _) _) _ _ _)); (fail_if_success (with_reducible show Out _ _ _ _ _)); (fail_if_success (with_reducible show LCg.CompEnd _ _ _ _ _ _ _ _ _ _ _ _ _ _)); (fail_if_success (with_reducible show LCg.CompSrc _ _ _ _ _ _ _ _ _ _ _ _ _ _)); (fail_if_success (with_reducible show LCt.CompSrcT _ _ _ _ _ _ _ _ _ _ _ _ _ _ _)); (fail_if_success (with_reducible show Meet _ _ _)); (fail_if_success (with_reducible show wpAny _ _ (pyIter _) _ _ _)); (fail_if_success (with_reducible show LEnd _ _ _ _ _ _ _ _ _ _ _)); (fail_if_success (with_reducible show LPost _ _ _ _ _ _ _ _ _ _ _ _ _)); first | walk1 | (dsimp only; walk1)) | (k_end; dsimp only; k_unfold; (try dsimp only)) | fail "no step"))
        rename Fr _ _ _ _ => F6
        refine len_list (items := tvs.toArray) ?hlx (by rw [List.size_toArray]; omega) ?_
        case hlx => exact htg.at fun o e => F6.keep _ _ e
        rw [List.size_toArray]
        (repeat' (first | (k_unfold; (try dsimp only)) | ((with_reducible show wpAny _ _ (call (Value.ref _) _ _) _ _ _); (first | (refine useI (add_does ⟨by assumption, by assumption, by assumption, by assumption, rfl, rfl, rfl, rfl⟩ (Nat.le_of_ble_eq_true rfl) (Nat.le_of_ble_eq_true rfl) ) (by assumption) (by assumption) ?_; intro _ _ _ _ _; (try k_sweep)) | (refine useI (sub_does ⟨by assumption, by assumption, by assumption, by assumption, rfl, rfl, rfl, rfl⟩ (Nat.le_of_ble_eq_true rfl) (Nat.le_of_ble_eq_true rfl) ) (by assumption) (by assumption) ?_; intro _ _ _ _ _; (try k_sweep)) | (refine useI (and_does ⟨by assumption, by assumption, by assumption, by assumption, rfl, rfl, rfl, rfl⟩ (Nat.le_of_ble_eq_true rfl) (Nat.le_of_ble_eq_true rfl) ) (by assumption) (by assumption) ?_; intro _ _ _ _ _; (try k_sweep)) | (refine useI (or_does ⟨by assumption, by assumption, by assumption, by assumption, rfl, rfl, rfl, rfl⟩ (Nat.le_of_ble_eq_true rfl) (Nat.le_of_ble_eq_true rfl) ) (by assumption) (by assumption) ?_; intro _ _ _ _ _; (try k_sweep)) | (refine useI (xor_does ⟨by assumption, by assumption, by assumption, by assumption, rfl, rfl, rfl, rfl⟩ (Nat.le_of_ble_eq_true rfl) (Nat.le_of_ble_eq_true rfl) ) (by assumption) (by assumption) ?_; intro _ _ _ _ _; (try k_sweep)) | (refine useI (inv_does ⟨by assumption, by assumption, by assumption, by assumption, rfl, rfl, rfl, rfl⟩ (Nat.le_of_ble_eq_true rfl) (Nat.le_of_ble_eq_true rfl) ) (by assumption) (by assumption) ?_; intro _ _ _ _ _; (try k_sweep)) | (refine useI (neg_does ⟨by assumption, by assumption, by assumption, by assumption, rfl, rfl, rfl, rfl⟩ (Nat.le_of_ble_eq_true rfl) (Nat.le_of_ble_eq_true rfl) ) (by assumption) (by assumption) ?_; intro _ _ _ _ _; (try k_sweep)) | (refine useI (rsh_does ⟨by assumption, by assumption, by assumption, by assumption, rfl, rfl, rfl, rfl⟩ (Nat.le_of_ble_eq_true rfl) (Nat.le_of_ble_eq_true rfl) (by decide)) (by assumption) (by assumption) ?_; intro _ _ _ _ _; (try k_sweep)) | (refine useI (lsh_does ⟨by assumption, by assumption, by assumption, by assumption, rfl, rfl, rfl, rfl⟩ (Nat.le_of_ble_eq_true rfl) (Nat.le_of_ble_eq_true rfl) (by decide) (by decide) (by omega)) (by assumption) (by assumption) ?_; intro _ _ _ _ _; (try k_sweep)))) | ((fail_if_success (with_reducible show wpAny _ _ (exec (Stmt.While _ _ _ _) _) _ _ _)); (fail_if_success (with_reducible show wpAny _ _ (exec (Stmt.For _ _ _ _ _) _) _ _ _)); (fail_if_success (with_reducible show wpAny _ _ (call (Value.ref _) _ _) _ _ _)); (fail_if_success (with_reducible show KswEnd _ _ _ _ _ _ _ _ _ _ _ _)); (fail_if_success (with_reducible show wpAny _ _ (eval (Expr.ListComp _ _ _ _) _) _ _ _)); (fail_if_success (with_reducible show wpAny _ _ (exec (Stmt.Assign _ (Expr.ListComp _ _ _ _) _) _) _ _ _)); (fail_if_success (with_reducible show Out _ _ _ _ _)); (fail_if_success (with_reducible show LCg.CompEnd _ _ _ _ _ _ _ _ _ _ _ _ _ _)); (fail_if_success (with_reducible show LCg.CompSrc _ _ _ _ _ _ _ _ _ _ _ _ _ _)); (fail_if_success (with_reducible show LCt.CompSrcT _ _ _ _ _ _ _ _ _ _ _ _ _ _ _)); (fail_if_success (with_reducible show Meet _ _ _)); (fail_if_success (with_reducible show wpAny _ _ (pyIter _) _ _ _)); (fail_if_success (with_reducible show LEnd _ _ _ _ _ _ _ _ _ _ _)); (fail_if_success (with_reducible show LPost _ _ _ _ _ _ _ _ _ _ _ _ _)); first | walk1 | (dsimp only; walk1)) | (k_end; dsimp only; k_unfold; (try dsimp only)) | fail "no step"))
        · exfalso
          rename (_ : Int) ≠ _ => hq
          exact hq (by omega)
        · rename Fr _ _ _ _ => F4
          rename News _ _ _ _ => N4
          refine ⟨rfl, ok2, _, _, _, rfl, F4, fun p hp => N4 p (.tail _ (.tail _ hp)), List.forall_mem_nil _, ?_, ⟨_, hok2⟩⟩
          intro z _ h3
          have h3' := h3
          simp only [List.contains_cons, List.contains_nil, Bool.or_false, Bool.or_eq_false_iff, beq_eq_false_iff_ne, ne_eq] at h3'

          simp [h3']
  · rintro ok u h tk ⟨v₀, hv₀⟩ F₁ N₁
    dsimp only [kstB] at F₁ N₁
    clear R8 F8 N8
    (repeat' (first | (k_unfold; (try dsimp only)) | ((with_reducible show wpAny _ _ (call (Value.ref _) _ _) _ _ _); (first | (refine useI (add_does ⟨by assumption, by assumption, by assumption, by assumption, rfl, rfl, rfl, rfl⟩ (Nat.le_of_ble_eq_true rfl) (Nat.le_of_ble_eq_true rfl) ) (by assumption) (by assumption) ?_; intro _ _ _ _ _; (try k_sweep)) | (refine useI (sub_does ⟨by assumption, by assumption, by assumption, by assumption, rfl, rfl, rfl, rfl⟩ (Nat.le_of_ble_eq_true rfl) (Nat.le_of_ble_eq_true rfl) ) (by assumption) (by assumption) ?_; intro _ _ _ _ _; (try k_sweep)) | (refine useI (and_does ⟨by assumption, by assumption, by assumption, by assumption, rfl, rfl, rfl, rfl⟩ (Nat.le_of_ble_eq_true rfl) (Nat.le_of_ble_eq_true rfl) ) (by assumption) (by assumption) ?_; intro _ _ _ _ _; (try k_sweep)) | (refine useI (or_does ⟨by assumption, by assumption, by assumption, by assumption, rfl, rfl, rfl, rfl⟩ (Nat.le_of_ble_eq_true rfl) (Nat.le_of_ble_eq_true rfl) ) (by assumption) (by assumption) ?_; intro _ _ _ _ _; (try k_sweep)) | (refine useI (xor_does ⟨by assumption, by assumption, by assumption, by assumption, rfl, rfl, rfl, rfl⟩ (Nat.le_of_ble_eq_true rfl) (Nat.le_of_ble_eq_true rfl) ) (by assumption) (by assumption) ?_; intro _ _ _ _ _; (try k_sweep)) | (refine useI (inv_does ⟨by assumption, by assumption, by assumption, by assumption, rfl, rfl, rfl, rfl⟩ (Nat.le_of_ble_eq_true rfl) (Nat.le_of_ble_eq_true rfl) ) (by assumption) (by assumption) ?_; intro _ _ _ _ _; (try k_sweep)) | (refine useI (neg_does ⟨by assumption, by assumption, by assumption, by assumption, rfl, rfl, rfl, rfl⟩ (Nat.le_of_ble_eq_true rfl) (Nat.le_of_ble_eq_true rfl) ) (by assumption) (by assumption) ?_; intro _ _ _ _ _; (try k_sweep)) | (refine useI (rsh_does ⟨by assumption, by assumption, by assumption, by assumption, rfl, rfl, rfl, rfl⟩ (Nat.le_of_ble_eq_true rfl) (Nat.le_of_ble_eq_true rfl) (by decide)) (by assumption) (by assumption) ?_; intro _ _ _ _ _; (try k_sweep)) | (refine useI (lsh_does ⟨by assumption, by assumption, by assumption, by assumption, rfl, rfl, rfl, rfl⟩ (Nat.le_of_ble_eq_true rfl) (Nat.le_of_ble_eq_true rfl) (by decide) (by decide) (by omega)) (by assumption) (by assumption) ?_; intro _ _ _ _ _; (try k_sweep)))) | ((fail_if_success (with_reducible show wpAny _ _ (exec (Stmt.While _ _ _ _) _) _ _ _)); (fail_if_success (with_reducible show wpAny _ _ (exec (Stmt.For _ _ _ _ _) _) _ _ _)); (fail_if_success (with_reducible show wpAny _ _ (call (Value.ref _) _ _) _ _ _)); (fail_if_success (with_reducible show KswEnd _ _ _ _ _ _ _ _ _ _ _ _)); (fail_if_success (with_reducible show wpAny _ _ (eval (Expr.ListComp _ _ _ _) _) _ _ _)); (fail_if_success (with_reducible show wpAny _ _ (exec (Stmt.Assign _ (Expr.ListComp _ _ _ _) _) _) _ _ _)); (fail_if_success (with_reducible show Out _ _ _ _ _)); (fail_if_success (with_reducible show LCg.CompEnd _ _ _ _ _ _ _ _ _ _ _ _ _ _)); (fail_if_success (with_reducible show LCg.CompSrc _ _ _ _ _ _ _ _ _ _ _ _ _ _)); (fail_if_success (with_reducible show LCt.CompSrcT _ _ _ _ _ _ _ _ _ _ _ _ _ _ _)); (fail_if_success (with_reducible show Meet _ _ _)); (fail_if_success (with_reducible show wpAny _ _ (pyIter _) _ _ _)); (fail_if_success (with_reducible show LEnd _ _ _ _ _ _ _ _ _ _ _)); (fail_if_success (with_reducible show LPost _ _ _ _ _ _ _ _ _ _ _ _ _)); first | walk1 | (dsimp only; walk1)) | (k_end; dsimp only; k_unfold; (try dsimp only)) | fail "no step"))
    rename Fr _ _ _ _ => F7
    exact ⟨_, _, rfl, F7.keep, rfl⟩

end

section
set_option maxRecDepth 100000
inductive KvAre : List (Int × Value) → List (Int × Int) → Prop
  | nil : KvAre [] []
  | cons (k v : Int) (t : Tok) {kvs : List (Int × Value)} {c : List (Int × Int)} (r : KvAre kvs c) : KvAre ((k, .int v t) :: kvs) ((k, v) :: c)
noncomputable def put (c : List (Int × Int)) (k v : Int) : List (Int × Int) := if c.any (fun p => p.1 = k) then c.map (fun p => if p.1 = k then (p.1, v) else p) else c ++ [(k, v)]
noncomputable def look (c : List (Int × Int)) (k : Int) : Option Int := (c.find? fun p => p.1 = k).map (·.2)
theorem KvAre.length {kvs : List (Int × Value)} {c : List (Int × Int)} (h : KvAre kvs c) : kvs.length = c.length := by
  induction h with
  | nil => rfl
  | cons _ _ _ _ ih => simp [ih]
theorem KvAre.any {kvs : List (Int × Value)} {c : List (Int × Int)} (h : KvAre kvs c) (k : Int) : kvs.any (fun kv => kv.1 = k) = c.any (fun p => p.1 = k) := by
  induction h with
  | nil => rfl
  | cons _ _ _ _ ih => simp [ih]
theorem KvAre.snoc {kvs : List (Int × Value)} {c : List (Int × Int)} (h : KvAre kvs c) (k v : Int) (t : Tok) : KvAre (kvs ++ [(k, .int v t)]) (c ++ [(k, v)]) := by
  induction h with
  | nil => exact .cons _ _ _ .nil
  | cons _ _ _ _ ih => exact .cons _ _ _ ih
theorem KvAre.mapPut {kvs : List (Int × Value)} {c : List (Int × Int)} (h : KvAre kvs c) (k v : Int) (t : Tok) : KvAre (kvs.map (fun kv => if kv.1 = k then (kv.1, .int v t) else kv)) (c.map (fun p => if p.1 = k then (p.1, v) else p)) := by
  induction h with
  | nil => exact .nil
  | cons a _ _ _ ih =>
    simp only [List.map_cons]
    by_cases e : a = k
    · rw [if_pos e, if_pos e]; exact .cons _ _ _ ih
    · rw [if_neg e, if_neg e]; exact .cons _ _ _ ih
theorem KvAre.stored {kvs : List (Int × Value)} {c : List (Int × Int)} (h : KvAre kvs c) (k v : Int) (t : Tok) : KvAre (PySem.stored kvs k (.int v t)) (put c k v) := by
  unfold PySem.stored put
  rw [h.any]
  split
  · exact h.mapPut k v t
  · exact h.snoc k v t
theorem KvAre.value {kvs : List (Int × Value)} {c : List (Int × Int)} (h : KvAre kvs c) (k : Int) : (valueAt kvs k = none ∧ look c k = none) ∨ ∃ v t, valueAt kvs k = some (.int v t) ∧ look c k = some v := by
  induction h with
  | nil => exact .inl ⟨rfl, rfl⟩
  | cons a v t _ ih =>
    unfold valueAt look at *
    by_cases e : a = k
    · exact .inr ⟨v, t, by simp [e], by simp [e]⟩
    · simp only [List.find?_cons, e, decide_false]
      exact ih
theorem KvAre.getD {kvs : List (Int × Value)} {c : List (Int × Int)} (h : KvAre kvs c) (k d : Int) (t : Tok) : ∃ t', (valueAt kvs k).getD (.int d t) = .int ((look c k).getD d) t' := by
  rcases h.value k with ⟨e1, e2⟩ | ⟨v, t', e1, e2⟩
  · exact ⟨t, by rw [e1, e2]; rfl⟩
  · exact ⟨t', by rw [e1, e2]; rfl⟩
theorem KvAre.at {kvs : List (Int × Value)} {c : List (Int × Int)} (h : KvAre kvs c) {i : Nat} {k : Int} {x : Value} (e : kvs[i]? = some (k, x)) : ∃ v t, x = .int v t ∧ c[i]? = some (k, v) := by
  induction h generalizing i with
  | nil => cases e
  | cons a v t _ ih =>
    cases i with
    | zero => cases e; exact ⟨v, t, rfl, rfl⟩
    | succ i => exact ih e
theorem put_length (c : List (Int × Int)) (k v : Int) : (put c k v).length ≤ c.length + 1 := by
  unfold put
  split <;> simp
section
variable {prog : Program} {w : World} {A : Around} {E : Value → Shared → Prop} {s : Shared} {h₀ : Heap} {L : Addr} {m : Str → Option Value} {env : Env}
open LCg
/-- a comprehension over a dict of the ledger -/
noncomputable def DSrc {K : Type} [DecidableEq K] (knd : KeyKind prog w K) (h₀ : Heap) (L : Addr) (m : Str → Option Value) (env : Env) (elt : Expr) (x : Str) (scope : Scope) (cl : List (Str × Addr)) (A : Around) (Q : Value → Shared → Prop) (xv : Value) (s₁ : Shared) : Prop :=
  ∃ d o news kvs ep, xv = .ref d ∧ A.handled = none ∧ Fr h₀ L s₁.heap m ∧ News h₀ L s₁.heap news ∧ (d, o) ∈ news ∧ (d == sysModules) = false ∧ KdkAt knd o kvs ep ∧ kvs.length ≤ sizeLine ∧
    ∀ s₂ : Shared, (∃ h, s₂ = { s₁ with heap := h }) → CompRest prog w A h₀ L m env elt x scope cl s₂ (fun nw => (d, o) ∈ nw) (fun i v => ∃ k x, kvs[i]? = some (k, x) ∧ knd.is k v = true) (FinE h₀ L m s₂ Q) kvs.length 0 [] news
theorem ListComp_D {K : Type} [DecidableEq K] {knd : KeyKind prog w K} {elt iter : Expr} {x : Str} {px : Pos} {scope : Scope} {cl : List (Str × Addr)} {pos : Pos} {Q : Value → Shared → Prop} (F₀ : Fr h₀ L s.heap m)
    (hclos : closureFor scope env = pure cl) (hcell : ∀ y ∈ scope.names, y.2 ≠ .cell) (hkind : scope.kind = .function)
    (hnames : ∀ y ∈ scope.names, y.2 = .local → scope.names.lookup y.1 = some .local) (hx : scope.names.lookup x = some .local)
    (h : wpAny (model prog w) A (eval iter env) (DSrc knd h₀ L m env elt x scope cl A Q) E s)
    (hs : ∀ x, foldedSetIterable iter env x = pure x := by intro _; rfl) :
    wpAny (model prog w) A (eval (.ListComp elt [⟨.Name x px, iter, [], 0⟩] scope pos) env) Q E s := by
  rw [eval_ListComp]
  refine wpAny_comprehension_free (use := none) rfl hs hclos hkind hnames (wpAny_mono h (fun xv s₁ h₁ => ?_) fun _ _ e => e)
  obtain ⟨d, o, news, kvs, ep, rfl, hh, F, N, hm, lo, hK, hsz, R⟩ := h₁
  have hd := hK.dictAt (N _ hm).1
  have hlt : d < s₁.heap.objs.size := Heap.lt_size (N _ hm).1
  refine wpAny_pyIter_dict lo hd ?_
  have up : ∀ b o', s₁.heap.get? b = some o' → (s₁.heap.push { cls := .type "dict_keyiterator", data := .fields #[.ref d, .int 0 0, .int kvs.length 0, .int ep 0] }).get? b = some o' := fun b o' e => Heap.get?_push_of_some _ e
  refine block_U (Walks.dictKeys hh s₁.heap.objs.size d (Nat.ne_of_lt hlt) kvs ep) hsz (fun i h st => by obtain ⟨o', e, _⟩ := st.1; exact ⟨o', e⟩) ?_ hcell hkind hx ⟨⟨_, Heap.get?_push_size _ rfl, rfl, rfl⟩, hd.at' fun o' e => up _ _ e⟩ (fun b hb => ?_)
    (F.keeps up) (N.grown up) (Nat.ne_of_lt F.ns.lt) (next_is_new F) (fun p hp => Nat.ne_of_lt (Heap.lt_size (N p hp).1)) hm (R _ ⟨_, rfl⟩) ?_
  · intro i h h' o' nw st e e' _ N' hm'
    obtain ⟨⟨o2, e2, r⟩, _⟩ := st
    rw [e] at e2
    cases e2
    exact ⟨⟨o', e', r⟩, hK.dictAt (N' _ hm').1⟩
  · show b < (s₁.heap.push _).objs.size
    rw [Heap.size_push]
    rcases List.mem_cons.mp hb with rfl | hb
    · exact Nat.lt_succ_self _
    · rw [List.mem_singleton.mp hb]; exact Nat.lt_succ_of_lt hlt
  · intro D C h tk m' ys news' F' N' o1 hn hC₀ hD₀ hCL hDL hCD offC fin
    refine ⟨m', hn, fun h'' hs'' => fin D h'' tk (F'.change hs'' hCL hC₀) (fun p hp => ?_) o1⟩
    refine ⟨hs''.extBut _ _ ?_ (N' p hp).1, (N' p hp).2⟩
    rcases List.mem_cons.mp hp with rfl | hp
    · exact Ne.symm hCD
    · exact offC p hp
theorem value_at {kvs : List (Int × Value)} (hn : (kvs.map (·.1)).Nodup) {i : Nat} {k : Int} {x : Value} (e : kvs[i]? = some (k, x)) : valueAt kvs k = some x := by
  induction kvs generalizing i with
  | nil => cases e
  | cons p r ih =>
    rw [List.map_cons, List.nodup_cons] at hn
    cases i with
    | zero =>
      cases e
      simp [valueAt]
    | succ i =>
      have h1 : p.1 ≠ k := fun q => hn.1 (List.mem_map.mpr ⟨(k, x), List.mem_of_getElem? e, q.symm⟩)
      have h2 := ih hn.2 e
      unfold valueAt at h2 ⊢
      rw [List.find?_cons_of_neg (by simpa using h1)]
      exact h2
theorem KdkAt.nodup {w : World} {o : Obj} {kvs : List (Int × Value)} {ep : Nat} (h : KdkAt (intKind PG w) o kvs ep) : (kvs.map (·.1)).Nodup := by
  obtain ⟨_, _, _, _, _, h⟩ := h
  exact h
theorem get2_int {w : World} {d : Addr} {o : Obj} {kvs : List (Int × Value)} {c : List (Int × Int)} {k e : Int} {tk te : Tok} {news : List (Addr × Obj)} {Q : Value → Shared → Prop} (N : News h₀ L s.heap news) (hp : (d, o) ∈ news) (hd : o.IsDictOf (intKind PG w) kvs) (lo : (d == sysModules) = false) (hkv : KvAre kvs c)
    (h : ∀ t', Q (.int ((look c k).getD e) t') { s with toks := s.toks + 1 }) : wpAny (model PG w) A (call (.builtin "dict.get") [.ref d, .int k tk, .int e te]) Q E s := by
  refine kdg_get2 (knd := intKind PG w) (k := k) N hp hd lo (by simp [intKind, Value.isInt]) (valueAt kvs k) rfl ?_
  obtain ⟨t', ht⟩ := hkv.getD k e te
  rw [ht]
  exact h t'
theorem not_modules {g : Heap} (x : g.NoLimit) {L d : Addr} (h : g.objs.size ≤ L) (hd : L < d) : (d == sysModules) = false := by
  have := modules_low x
  rw [beq_eq_false_iff_ne]
  intro e
  subst e
  exact absurd (Nat.lt_of_lt_of_le this h) (Nat.lt_asymm hd)
end

end

section
set_option maxRecDepth 100000

theorem fill12 : hd.heap_39 = hd.heap_39 ∧ PySem.Challenge.rw_oy0042_01 = PySem.Challenge.rw_oy0042_01 := by
  w_top off
  k_fill
  exact ⟨rfl, rfl⟩


/-- the bit length -/
noncomputable def szOf (a : Int) : Nat := if a ≤ 0 then 0 else a.toNat.log2 + 1
noncomputable def begOf (x : Int) (n : Nat) : Int := (16777216 + x) / 2 ^ n
noncomputable def pStep (rs : List Int) (c : List (Int × Int)) (j i : Nat) : List (Int × Int) :=
  let a := xr (rs.getD i 0) (rs.getD j 0)
  if szOf a = 0 then c else put c (begOf (rs.getD i 0) (szOf a)) (min a ((look c (begOf (rs.getD i 0) (szOf a))).getD a))
noncomputable def pRow (rs : List Int) (c : List (Int × Int)) (j : Nat) : List (Int × Int) := (List.range j).foldl (fun c i => pStep rs c j i) c
noncomputable def pAll (rs : List Int) (n : Nat) : List (Int × Int) := (List.range n).foldl (fun c j => pRow rs c j) []
noncomputable def againN (rs : List Int) (n : Nat) : List Int := (List.range n).filterMap fun j => if (rs.take j).any (fun x => x == rs.getD j 0) then some 0 else none
noncomputable def again (rs : List Int) : List Int := againN rs rs.length
theorem small1 {b : Int} (h0 : 0 ≤ b) (h1 : b < 1000) : Builtin.Range.small 0 b 1 = true := by
  have fit : ∀ x : Int, -10000 < x → x < 10000 → Builtin.Range.rangeFitsLong x = true := by
    intro x h1 h2
    unfold Builtin.Range.rangeFitsLong
    simp only [Bool.and_eq_true, decide_eq_true_eq]
    omega
  have e : Builtin.Range.rangeSize 0 b 1 = b := by
    unfold Builtin.Range.rangeSize; split <;> (try split) <;> omega
  unfold Builtin.Range.small
  simp only [e, fit 0 (by omega) (by omega), fit b (by omega) (by omega), fit 1 (by omega) (by omega), Bool.and_true, Bool.true_and]
  rw [if_pos (by decide), fit (b + (1 - 1)) (by omega) (by omega), Bool.or_true]
theorem rsize1 {b : Int} {n : Nat} (h : b = (n : Int)) : Builtin.Range.rangeSize 0 b 1 = ((n : Nat) : Int) := by
  unfold Builtin.Range.rangeSize; split <;> (try split) <;> omega

theorem apart_eq (x y : Int) : -(x + y - Builtin.bitOr x y * 2 ^ Int.toNat 1) = xr x y := by
  unfold xr
  rw [bitXor_and, bitOr_and]
  show -(x + y - (x + y - Builtin.bitAnd x y) * 2) = _
  omega
theorem szOf_eq {a sz : Int} (h0 : 0 ≤ sz) (hp : ∀ t : Nat, (t : Int) < sz → (2 : Int) ^ t ≤ a) (hn : ¬ (2 : Int) ^ sz.toNat ≤ a) (ha : 0 ≤ a) : szOf a = sz.toNat := by
  obtain ⟨n, rfl⟩ := Int.eq_ofNat_of_zero_le h0
  obtain ⟨b, rfl⟩ := Int.eq_ofNat_of_zero_le ha
  rw [Int.toNat_natCast] at hn ⊢
  have pw : ∀ t : Nat, (2 : Int) ^ t = ((2 ^ t : Nat) : Int) := fun t => by simp
  rw [pw] at hn
  unfold szOf
  cases n with
  | zero =>
    have : b = 0 := by
      have h1 : (2 : Nat) ^ 0 = 1 := rfl
      omega
    subst this
    rfl
  | succ n =>
    have h1 := hp n (by omega)
    rw [pw] at h1
    have h2 : 0 < 2 ^ n := Nat.pos_of_ne_zero (by simp)
    rw [if_neg (by omega), Int.toNat_natCast]
    have : b.log2 = n := (Nat.log2_eq_iff (by omega)).mpr ⟨by omega, by omega⟩
    rw [this]
theorem beg_eq {x : Int} {n : Nat} (h0 : 0 ≤ x) (h1 : x < 16777216) : (Builtin.bitOr (1 * 2 ^ Int.toNat 24) x).fdiv (2 ^ n) = begOf x n := by
  unfold begOf
  have e : Builtin.bitOr (1 * 2 ^ Int.toNat 24) x = 1 * 2 ^ 24 + x := or_low 24 (by decide) h0 h1
  rw [e, Int.fdiv_eq_ediv_of_nonneg _ (Int.pow_nonneg (by decide))]
  rfl
theorem min_eq (v a : Int) : (if v < a then v else a) = min a v := by
  rw [Int.min_def]; split <;> split <;> omega
theorem or_range {x y : Int} (hx0 : 0 ≤ x) (hx1 : x < 16777216) (hy0 : 0 ≤ y) (hy1 : y < 16777216) : 0 ≤ Builtin.bitOr x y ∧ Builtin.bitOr x y < 16777216 := by
  have h1 := xr_range hx0 hx1 hy0 hy1
  rw [bitXor_and] at h1
  rw [bitOr_and]
  obtain ⟨a, rfl⟩ := Int.eq_ofNat_of_zero_le hx0
  obtain ⟨b, rfl⟩ := Int.eq_ofNat_of_zero_le hy0
  have h2 := or_and_nat a a b Nat.lt_two_pow_self
  have h3 : a ||| b < 2 ^ 24 := Nat.or_lt_two_pow (by omega) (by omega)
  rw [and_nat]
  omega

set_option maxHeartbeats 4000000 in
theorem parted_does {w : World} {mean : ExcName → Option Value} {mg mb : Str → Option Value} {A A₀ : Around} {base h₀ : Heap} {outer : List Env} {env : Env} {L : Addr} {m : Str → Option Value} {s : Shared}
    (S : Spot w mean mg mb A A₀ base outer env h₀ L m s.heap) (hdp : A.depth ≤ 400) (hun : A.units ≤ 400)
    {r : Addr} {vs : List Value} {rs : List Int} (hr : s.heap.IsList r vs.toArray) (hi : IntsAre vs rs) (R : RowsOk rs) :
    Does w A 182 [.ref r] [] [] s (fun v h' => ∃ a vs' n' q, v = .ref a ∧ s.heap.get? a = none ∧ h'.get? a = some (listOf vs'.toArray n') ∧ IntsAre vs' q ∧ q.Perm (again rs ++ (pAll rs rs.length).map (·.2)) ∧ q.Pairwise (· ≤ ·)) := by
  refine' does_ofC 400 400 S hdp hun (by decide) [] ?hN _ (binds := [(Str.ofString "rows", .ref r)]) ?ho ?hcd ?hb ?hl ?hnd ?c1 ?c2 ?c3 ?_
  case hN => exact News.nil
  case ho => k_is
  case hcd => k_is
  case hb => first | exact BindsTo.of_eq rfl | exact binds_K (S.X.keeps S.F.keep) rfl (by k_is) rfl rfl rfl
  case hl => exact rfl
  case hnd => decide +kernel
  case c1 => exact rfl
  case c2 => exact rfl
  case c3 => exact rfl
  intro g L' h₁ tk cells F N Y B X T hg hlt hnone
  k_fold

  obtain ⟨o1, o2, hE, d1, d2⟩ := CellsAre.two Y
  subst hE
  (try clear Y)
  simp only [List.cons_append, List.nil_append] at N
  (try dsimp only)
  have hrg : g.IsList r vs.toArray := hr.at fun o e => hg _ _ e (fun q => nomatch q)
  have hvl : vs.length = rs.length := hi.length
  have R1 := R.lo
  have R2 := R.hi
  (repeat' (first | (k_unfold; (try dsimp only)) | ((with_reducible show wpAny _ _ (call (Value.ref _) _ _) _ _ _); (first | (refine useI (add_does ⟨by assumption, by assumption, by assumption, by assumption, rfl, rfl, rfl, rfl⟩ (Nat.le_of_ble_eq_true rfl) (Nat.le_of_ble_eq_true rfl) ) (by assumption) (by assumption) ?_; intro _ _ _ _ _; (try k_sweep)) | (refine useI (sub_does ⟨by assumption, by assumption, by assumption, by assumption, rfl, rfl, rfl, rfl⟩ (Nat.le_of_ble_eq_true rfl) (Nat.le_of_ble_eq_true rfl) ) (by assumption) (by assumption) ?_; intro _ _ _ _ _; (try k_sweep)) | (refine useI (and_does ⟨by assumption, by assumption, by assumption, by assumption, rfl, rfl, rfl, rfl⟩ (Nat.le_of_ble_eq_true rfl) (Nat.le_of_ble_eq_true rfl) ) (by assumption) (by assumption) ?_; intro _ _ _ _ _; (try k_sweep)) | (refine useI (or_does ⟨by assumption, by assumption, by assumption, by assumption, rfl, rfl, rfl, rfl⟩ (Nat.le_of_ble_eq_true rfl) (Nat.le_of_ble_eq_true rfl) ) (by assumption) (by assumption) ?_; intro _ _ _ _ _; (try k_sweep)) | (refine useI (xor_does ⟨by assumption, by assumption, by assumption, by assumption, rfl, rfl, rfl, rfl⟩ (Nat.le_of_ble_eq_true rfl) (Nat.le_of_ble_eq_true rfl) ) (by assumption) (by assumption) ?_; intro _ _ _ _ _; (try k_sweep)) | (refine useI (inv_does ⟨by assumption, by assumption, by assumption, by assumption, rfl, rfl, rfl, rfl⟩ (Nat.le_of_ble_eq_true rfl) (Nat.le_of_ble_eq_true rfl) ) (by assumption) (by assumption) ?_; intro _ _ _ _ _; (try k_sweep)) | (refine useI (neg_does ⟨by assumption, by assumption, by assumption, by assumption, rfl, rfl, rfl, rfl⟩ (Nat.le_of_ble_eq_true rfl) (Nat.le_of_ble_eq_true rfl) ) (by assumption) (by assumption) ?_; intro _ _ _ _ _; (try k_sweep)) | (refine useI (rsh_does ⟨by assumption, by assumption, by assumption, by assumption, rfl, rfl, rfl, rfl⟩ (Nat.le_of_ble_eq_true rfl) (Nat.le_of_ble_eq_true rfl) (by decide)) (by assumption) (by assumption) ?_; intro _ _ _ _ _; (try k_sweep)) | (refine useI (lsh_does ⟨by assumption, by assumption, by assumption, by assumption, rfl, rfl, rfl, rfl⟩ (Nat.le_of_ble_eq_true rfl) (Nat.le_of_ble_eq_true rfl) (by decide) (by decide) (by omega)) (by assumption) (by assumption) ?_; intro _ _ _ _ _; (try k_sweep)))) | ((fail_if_success (with_reducible show wpAny _ _ (exec (Stmt.While _ _ _ _) _) _ _ _)); (fail_if_success (with_reducible show wpAny _ _ (exec (Stmt.For _ _ _ _ _) _) _ _ _)); (fail_if_success (with_reducible show wpAny _ _ (call (Value.ref _) _ _) _ _ _)); (fail_if_success (with_reducible show KswEnd _ _ _ _ _ _ _ _ _ _ _ _)); (fail_if_success (with_reducible show wpAny _ _ (eval (Expr.ListComp _ _ _ _) _) _ _ _)); (fail_if_success (with_reducible show wpAny _ _ (exec (Stmt.Assign _ (Expr.ListComp _ _ _ _) _) _) _ _ _)); (fail_if_success (with_reducible show Out _ _ _ _ _)); (fail_if_success (with_reducible show LCg.CompEnd _ _ _ _ _ _ _ _ _ _ _ _ _ _)); (fail_if_success (with_reducible show LCg.CompSrc _ _ _ _ _ _ _ _ _ _ _ _ _ _)); (fail_if_success (with_reducible show LCt.CompSrcT _ _ _ _ _ _ _ _ _ _ _ _ _ _ _)); (fail_if_success (with_reducible show Meet _ _ _)); (fail_if_success (with_reducible show wpAny _ _ (pyIter _) _ _ _)); (fail_if_success (with_reducible show LEnd _ _ _ _ _ _ _ _ _ _ _)); (fail_if_success (with_reducible show LPost _ _ _ _ _ _ _ _ _ _ _ _ _)); first | walk1 | (dsimp only; walk1)) | (k_end; dsimp only; k_unfold; (try dsimp only)) | fail "no step"))
  rename_i Dd _ od lo _ _ hdi _ hDd _ oc F1 N1 hoc
  refine For_invV g rfl rfl ?_
  (repeat' (first | (k_unfold; (try dsimp only)) | ((with_reducible show wpAny _ _ (call (Value.ref _) _ _) _ _ _); (first | (refine useI (add_does ⟨by assumption, by assumption, by assumption, by assumption, rfl, rfl, rfl, rfl⟩ (Nat.le_of_ble_eq_true rfl) (Nat.le_of_ble_eq_true rfl) ) (by assumption) (by assumption) ?_; intro _ _ _ _ _; (try k_sweep)) | (refine useI (sub_does ⟨by assumption, by assumption, by assumption, by assumption, rfl, rfl, rfl, rfl⟩ (Nat.le_of_ble_eq_true rfl) (Nat.le_of_ble_eq_true rfl) ) (by assumption) (by assumption) ?_; intro _ _ _ _ _; (try k_sweep)) | (refine useI (and_does ⟨by assumption, by assumption, by assumption, by assumption, rfl, rfl, rfl, rfl⟩ (Nat.le_of_ble_eq_true rfl) (Nat.le_of_ble_eq_true rfl) ) (by assumption) (by assumption) ?_; intro _ _ _ _ _; (try k_sweep)) | (refine useI (or_does ⟨by assumption, by assumption, by assumption, by assumption, rfl, rfl, rfl, rfl⟩ (Nat.le_of_ble_eq_true rfl) (Nat.le_of_ble_eq_true rfl) ) (by assumption) (by assumption) ?_; intro _ _ _ _ _; (try k_sweep)) | (refine useI (xor_does ⟨by assumption, by assumption, by assumption, by assumption, rfl, rfl, rfl, rfl⟩ (Nat.le_of_ble_eq_true rfl) (Nat.le_of_ble_eq_true rfl) ) (by assumption) (by assumption) ?_; intro _ _ _ _ _; (try k_sweep)) | (refine useI (inv_does ⟨by assumption, by assumption, by assumption, by assumption, rfl, rfl, rfl, rfl⟩ (Nat.le_of_ble_eq_true rfl) (Nat.le_of_ble_eq_true rfl) ) (by assumption) (by assumption) ?_; intro _ _ _ _ _; (try k_sweep)) | (refine useI (neg_does ⟨by assumption, by assumption, by assumption, by assumption, rfl, rfl, rfl, rfl⟩ (Nat.le_of_ble_eq_true rfl) (Nat.le_of_ble_eq_true rfl) ) (by assumption) (by assumption) ?_; intro _ _ _ _ _; (try k_sweep)) | (refine useI (rsh_does ⟨by assumption, by assumption, by assumption, by assumption, rfl, rfl, rfl, rfl⟩ (Nat.le_of_ble_eq_true rfl) (Nat.le_of_ble_eq_true rfl) (by decide)) (by assumption) (by assumption) ?_; intro _ _ _ _ _; (try k_sweep)) | (refine useI (lsh_does ⟨by assumption, by assumption, by assumption, by assumption, rfl, rfl, rfl, rfl⟩ (Nat.le_of_ble_eq_true rfl) (Nat.le_of_ble_eq_true rfl) (by decide) (by decide) (by omega)) (by assumption) (by assumption) ?_; intro _ _ _ _ _; (try k_sweep)))) | ((fail_if_success (with_reducible show wpAny _ _ (exec (Stmt.While _ _ _ _) _) _ _ _)); (fail_if_success (with_reducible show wpAny _ _ (exec (Stmt.For _ _ _ _ _) _) _ _ _)); (fail_if_success (with_reducible show wpAny _ _ (call (Value.ref _) _ _) _ _ _)); (fail_if_success (with_reducible show KswEnd _ _ _ _ _ _ _ _ _ _ _ _)); (fail_if_success (with_reducible show wpAny _ _ (eval (Expr.ListComp _ _ _ _) _) _ _ _)); (fail_if_success (with_reducible show wpAny _ _ (exec (Stmt.Assign _ (Expr.ListComp _ _ _ _) _) _) _ _ _)); (fail_if_success (with_reducible show Out _ _ _ _ _)); (fail_if_success (with_reducible show LCg.CompEnd _ _ _ _ _ _ _ _ _ _ _ _ _ _)); (fail_if_success (with_reducible show LCg.CompSrc _ _ _ _ _ _ _ _ _ _ _ _ _ _)); (fail_if_success (with_reducible show LCt.CompSrcT _ _ _ _ _ _ _ _ _ _ _ _ _ _ _)); (fail_if_success (with_reducible show Meet _ _ _)); (fail_if_success (with_reducible show wpAny _ _ (pyIter _) _ _ _)); (fail_if_success (with_reducible show LEnd _ _ _ _ _ _ _ _ _ _ _)); (fail_if_success (with_reducible show LPost _ _ _ _ _ _ _ _ _ _ _ _ _)); first | walk1 | (dsimp only; walk1)) | (k_end; dsimp only; k_unfold; (try dsimp only)) | fail "no step"))
  rename Fr _ _ _ _ => F8
  rename News _ _ _ _ => N8
  rename IsRange _ _ _ _ _ _ _ _ => R8
  replace N8 : News g L' _ [(Dd, od), (L' + 1 + 1, oc), (L' + 1, o2)] := cb_drop N8 (by kcj_all)
  (try clear F1)
  (try clear N1)
  refine loopR (L := L') (σ := Obj × List (Int × Value) × List (Int × Int)) (fun c => [(Dd, c.1)]) (fun _ => []) [Str.ofString "i", Str.ofString "apart", Str.ofString "size", Str.ofString "beginning"] rs.length
    (fun j c => c.1.IsDictOf (intKind PG w) c.2.1 ∧ KvAre c.2.1 c.2.2 ∧ c.2.2 = pAll rs j ∧ c.2.2.length ≤ 7 * j) (od, [], []) [(L' + 1 + 1, oc), (L' + 1, o2)]
    R8 (by omega) (by omega) (by omega) (by omega) (by omega) rfl rfl (fun _ => rfl) F8 N8 (List.forall_mem_nil _) ⟨hdi, .nil, rfl, Nat.le_refl _⟩ ?_ ?_
  · rintro j tj ⟨o, kvs, c⟩ u h tk own hj hoff ⟨hdj, hkv, hc, hcl⟩ F₁ N₁
    dsimp only [kstB] at hdj hkv hc hcl F₁ N₁ ⊢
    simp only [List.cons_append, List.nil_append, Int.zero_add] at F₁ N₁
    (try clear R8); (try clear F8); (try clear N8)
    refine wpAny_execs_cons ?_
    refine For_invV g rfl rfl ?_
    (repeat' (first | (k_unfold; (try dsimp only)) | ((with_reducible show wpAny _ _ (call (Value.ref _) _ _) _ _ _); (first | (refine useI (add_does ⟨by assumption, by assumption, by assumption, by assumption, rfl, rfl, rfl, rfl⟩ (Nat.le_of_ble_eq_true rfl) (Nat.le_of_ble_eq_true rfl) ) (by assumption) (by assumption) ?_; intro _ _ _ _ _; (try k_sweep)) | (refine useI (sub_does ⟨by assumption, by assumption, by assumption, by assumption, rfl, rfl, rfl, rfl⟩ (Nat.le_of_ble_eq_true rfl) (Nat.le_of_ble_eq_true rfl) ) (by assumption) (by assumption) ?_; intro _ _ _ _ _; (try k_sweep)) | (refine useI (and_does ⟨by assumption, by assumption, by assumption, by assumption, rfl, rfl, rfl, rfl⟩ (Nat.le_of_ble_eq_true rfl) (Nat.le_of_ble_eq_true rfl) ) (by assumption) (by assumption) ?_; intro _ _ _ _ _; (try k_sweep)) | (refine useI (or_does ⟨by assumption, by assumption, by assumption, by assumption, rfl, rfl, rfl, rfl⟩ (Nat.le_of_ble_eq_true rfl) (Nat.le_of_ble_eq_true rfl) ) (by assumption) (by assumption) ?_; intro _ _ _ _ _; (try k_sweep)) | (refine useI (xor_does ⟨by assumption, by assumption, by assumption, by assumption, rfl, rfl, rfl, rfl⟩ (Nat.le_of_ble_eq_true rfl) (Nat.le_of_ble_eq_true rfl) ) (by assumption) (by assumption) ?_; intro _ _ _ _ _; (try k_sweep)) | (refine useI (inv_does ⟨by assumption, by assumption, by assumption, by assumption, rfl, rfl, rfl, rfl⟩ (Nat.le_of_ble_eq_true rfl) (Nat.le_of_ble_eq_true rfl) ) (by assumption) (by assumption) ?_; intro _ _ _ _ _; (try k_sweep)) | (refine useI (neg_does ⟨by assumption, by assumption, by assumption, by assumption, rfl, rfl, rfl, rfl⟩ (Nat.le_of_ble_eq_true rfl) (Nat.le_of_ble_eq_true rfl) ) (by assumption) (by assumption) ?_; intro _ _ _ _ _; (try k_sweep)) | (refine useI (rsh_does ⟨by assumption, by assumption, by assumption, by assumption, rfl, rfl, rfl, rfl⟩ (Nat.le_of_ble_eq_true rfl) (Nat.le_of_ble_eq_true rfl) (by decide)) (by assumption) (by assumption) ?_; intro _ _ _ _ _; (try k_sweep)) | (refine useI (lsh_does ⟨by assumption, by assumption, by assumption, by assumption, rfl, rfl, rfl, rfl⟩ (Nat.le_of_ble_eq_true rfl) (Nat.le_of_ble_eq_true rfl) (by decide) (by decide) (by omega)) (by assumption) (by assumption) ?_; intro _ _ _ _ _; (try k_sweep)))) | ((fail_if_success (with_reducible show wpAny _ _ (exec (Stmt.While _ _ _ _) _) _ _ _)); (fail_if_success (with_reducible show wpAny _ _ (exec (Stmt.For _ _ _ _ _) _) _ _ _)); (fail_if_success (with_reducible show wpAny _ _ (call (Value.ref _) _ _) _ _ _)); (fail_if_success (with_reducible show KswEnd _ _ _ _ _ _ _ _ _ _ _ _)); (fail_if_success (with_reducible show wpAny _ _ (eval (Expr.ListComp _ _ _ _) _) _ _ _)); (fail_if_success (with_reducible show wpAny _ _ (exec (Stmt.Assign _ (Expr.ListComp _ _ _ _) _) _) _ _ _)); (fail_if_success (with_reducible show Out _ _ _ _ _)); (fail_if_success (with_reducible show LCg.CompEnd _ _ _ _ _ _ _ _ _ _ _ _ _ _)); (fail_if_success (with_reducible show LCg.CompSrc _ _ _ _ _ _ _ _ _ _ _ _ _ _)); (fail_if_success (with_reducible show LCt.CompSrcT _ _ _ _ _ _ _ _ _ _ _ _ _ _ _)); (fail_if_success (with_reducible show Meet _ _ _)); (fail_if_success (with_reducible show wpAny _ _ (pyIter _) _ _ _)); (fail_if_success (with_reducible show LEnd _ _ _ _ _ _ _ _ _ _ _)); (fail_if_success (with_reducible show LPost _ _ _ _ _ _ _ _ _ _ _ _ _)); first | walk1 | (dsimp only; walk1)) | (k_end; dsimp only; k_unfold; (try dsimp only)) | fail "no step"))
    rename Fr _ _ _ _ => F8
    rename News _ _ _ _ => N8
    rename IsRange _ _ _ _ _ _ _ _ => R8
    refine loopR (L := L') (σ := Obj × List (Int × Value) × List (Int × Int)) (fun c => [(Dd, c.1)]) (fun _ => []) [Str.ofString "apart", Str.ofString "size", Str.ofString "beginning"] j
      (fun i e => e.1.IsDictOf (intKind PG w) e.2.1 ∧ KvAre e.2.1 e.2.2 ∧ e.2.2 = (List.range i).foldl (fun c i => pStep rs c j i) c ∧ e.2.2.length ≤ 7 * j + i) (o, kvs, c) ((L' + 1 + 1, oc) :: (L' + 1, o2) :: own)
      R8 (by omega) (by omega) (by omega) (by omega) (by omega) rfl rfl (fun _ => rfl) F8 N8 (List.forall_mem_nil _) ⟨hdj, hkv, rfl, hcl⟩ ?_ ?_
    · rintro i ti ⟨oi, kvi, ci⟩ ui hi9 tki own2 hij hoff2 ⟨hdi2, hkv2, hc2, hcl2⟩ F₂ N₂
      dsimp only [kstB] at hdi2 hkv2 hc2 hcl2 F₂ N₂ ⊢
      simp only [List.cons_append, List.nil_append, Int.zero_add] at F₂ N₂
      (try clear R8); (try clear F8); (try clear N8); (try clear F₁); (try clear N₁); (try clear hdj); (try clear hkv); (try clear hcl)
      have hqi := R.all _ (getD_mem (ns := rs) (i := (i : Int).toNat) (by omega))
      have hqj := R.all _ (getD_mem (ns := rs) (i := (j : Int).toNat) (by omega))
      have hor := or_range hqi.1 hqi.2 hqj.1 hqj.2
      have hap := apart_eq (rs.getD (i : Int).toNat 0) (rs.getD (j : Int).toNat 0)
      have hxr : 0 ≤ xr (rs.getD (i : Int).toNat 0) (rs.getD (j : Int).toNat 0) ∧ xr (rs.getD (i : Int).toNat 0) (rs.getD (j : Int).toNat 0) < 16777216 := xr_range hqi.1 hqi.2 hqj.1 hqj.2
      have hix : (i : Int) < rs.length := by omega
      have hjx : (j : Int) < rs.length := by omega
      (repeat' (first | (k_unfold; (try dsimp only)) | ((with_reducible show wpAny _ _ (call (Value.ref _) _ _) _ _ _); (first | (refine useI (add_does ⟨by assumption, by assumption, by assumption, by assumption, rfl, rfl, rfl, rfl⟩ (Nat.le_of_ble_eq_true rfl) (Nat.le_of_ble_eq_true rfl) ) (by assumption) (by assumption) ?_; intro _ _ _ _ _; (try k_sweep)) | (refine useI (sub_does ⟨by assumption, by assumption, by assumption, by assumption, rfl, rfl, rfl, rfl⟩ (Nat.le_of_ble_eq_true rfl) (Nat.le_of_ble_eq_true rfl) ) (by assumption) (by assumption) ?_; intro _ _ _ _ _; (try k_sweep)) | (refine useI (and_does ⟨by assumption, by assumption, by assumption, by assumption, rfl, rfl, rfl, rfl⟩ (Nat.le_of_ble_eq_true rfl) (Nat.le_of_ble_eq_true rfl) ) (by assumption) (by assumption) ?_; intro _ _ _ _ _; (try k_sweep)) | (refine useI (or_does ⟨by assumption, by assumption, by assumption, by assumption, rfl, rfl, rfl, rfl⟩ (Nat.le_of_ble_eq_true rfl) (Nat.le_of_ble_eq_true rfl) ) (by assumption) (by assumption) ?_; intro _ _ _ _ _; (try k_sweep)) | (refine useI (xor_does ⟨by assumption, by assumption, by assumption, by assumption, rfl, rfl, rfl, rfl⟩ (Nat.le_of_ble_eq_true rfl) (Nat.le_of_ble_eq_true rfl) ) (by assumption) (by assumption) ?_; intro _ _ _ _ _; (try k_sweep)) | (refine useI (inv_does ⟨by assumption, by assumption, by assumption, by assumption, rfl, rfl, rfl, rfl⟩ (Nat.le_of_ble_eq_true rfl) (Nat.le_of_ble_eq_true rfl) ) (by assumption) (by assumption) ?_; intro _ _ _ _ _; (try k_sweep)) | (refine useI (neg_does ⟨by assumption, by assumption, by assumption, by assumption, rfl, rfl, rfl, rfl⟩ (Nat.le_of_ble_eq_true rfl) (Nat.le_of_ble_eq_true rfl) ) (by assumption) (by assumption) ?_; intro _ _ _ _ _; (try k_sweep)) | (refine useI (rsh_does ⟨by assumption, by assumption, by assumption, by assumption, rfl, rfl, rfl, rfl⟩ (Nat.le_of_ble_eq_true rfl) (Nat.le_of_ble_eq_true rfl) (by decide)) (by assumption) (by assumption) ?_; intro _ _ _ _ _; (try k_sweep)) | (refine useI (lsh_does ⟨by assumption, by assumption, by assumption, by assumption, rfl, rfl, rfl, rfl⟩ (Nat.le_of_ble_eq_true rfl) (Nat.le_of_ble_eq_true rfl) (by decide) (by decide) (by omega)) (by assumption) (by assumption) ?_; intro _ _ _ _ _; (try k_sweep)))) | ((fail_if_success (with_reducible show wpAny _ _ (exec (Stmt.While _ _ _ _) _) _ _ _)); (fail_if_success (with_reducible show wpAny _ _ (exec (Stmt.For _ _ _ _ _) _) _ _ _)); (fail_if_success (with_reducible show wpAny _ _ (call (Value.ref _) _ _) _ _ _)); (fail_if_success (with_reducible show KswEnd _ _ _ _ _ _ _ _ _ _ _ _)); (fail_if_success (with_reducible show wpAny _ _ (eval (Expr.ListComp _ _ _ _) _) _ _ _)); (fail_if_success (with_reducible show wpAny _ _ (exec (Stmt.Assign _ (Expr.ListComp _ _ _ _) _) _) _ _ _)); (fail_if_success (with_reducible show Out _ _ _ _ _)); (fail_if_success (with_reducible show LCg.CompEnd _ _ _ _ _ _ _ _ _ _ _ _ _ _)); (fail_if_success (with_reducible show LCg.CompSrc _ _ _ _ _ _ _ _ _ _ _ _ _ _)); (fail_if_success (with_reducible show LCt.CompSrcT _ _ _ _ _ _ _ _ _ _ _ _ _ _ _)); (fail_if_success (with_reducible show Meet _ _ _)); (fail_if_success (with_reducible show wpAny _ _ (pyIter _) _ _ _)); (fail_if_success (with_reducible show LEnd _ _ _ _ _ _ _ _ _ _ _)); (fail_if_success (with_reducible show LPost _ _ _ _ _ _ _ _ _ _ _ _ _)); first | walk1 | (dsimp only; walk1)) | (k_end; dsimp only; k_unfold; (try dsimp only)) | fail "no step"))
      rename Fr _ _ _ _ => F8
      rename News _ _ _ _ => N8
      rw [hap] at F8
      have hst : (List.range (i + 1)).foldl (fun c i => pStep rs c j i) c = pStep rs ci j i := by
        rw [List.range_succ, List.foldl_append, ← hc2]; rfl
      unfold pStep at hst
      dsimp only at hst
      have hi0 : (i : Int).toNat = i := Int.toNat_natCast i
      have hj0 : (j : Int).toNat = j := Int.toNat_natCast j
      rw [hi0] at F8 hqi hap hor hxr
      rw [hj0] at F8 hqj hap hor hxr
      generalize hA : xr (rs.getD i 0) (rs.getD j 0) = a at F8 hxr hst
      clear hap
      refine' ksw_while (σ := Int × Tok) (fun _ => (Dd, oi) :: (L' + 1 + 1, oc) :: (L' + 1, o2) :: (own ++ own2)) (fun c => [(Str.ofString "size", .int c.1 c.2)]) (fun _ => True) []
        (fun c => 0 ≤ c.1 ∧ c.1 ≤ 24 ∧ ∀ t : Nat, (t : Int) < c.1 → (2 : Int) ^ t ≤ a) (fun c => 25 - c.1.toNat) (0, _) F8 N8 trivial (List.forall_mem_singleton.mpr rfl) ⟨Int.le_refl 0, (show (0 : Int) ≤ 24 by decide), fun t ht => absurd ht (Int.not_lt.mpr (Int.natCast_nonneg t))⟩ ?_
      rintro ⟨sz, tz⟩ uz hz tkz _ ⟨p1, p2, p3⟩ F7 N7
      dsimp only [kstB] at p1 p2 p3 F7 N7
      (try clear F8); (try clear N8); (try clear F₂); (try clear N₂)
      dsimp only
      (repeat' (first | (k_unfold; (try dsimp only)) | ((with_reducible show wpAny _ _ (call (Value.ref _) _ _) _ _ _); (first | (refine useI (add_does ⟨by assumption, by assumption, by assumption, by assumption, rfl, rfl, rfl, rfl⟩ (Nat.le_of_ble_eq_true rfl) (Nat.le_of_ble_eq_true rfl) ) (by assumption) (by assumption) ?_; intro _ _ _ _ _; (try k_sweep)) | (refine useI (sub_does ⟨by assumption, by assumption, by assumption, by assumption, rfl, rfl, rfl, rfl⟩ (Nat.le_of_ble_eq_true rfl) (Nat.le_of_ble_eq_true rfl) ) (by assumption) (by assumption) ?_; intro _ _ _ _ _; (try k_sweep)) | (refine useI (and_does ⟨by assumption, by assumption, by assumption, by assumption, rfl, rfl, rfl, rfl⟩ (Nat.le_of_ble_eq_true rfl) (Nat.le_of_ble_eq_true rfl) ) (by assumption) (by assumption) ?_; intro _ _ _ _ _; (try k_sweep)) | (refine useI (or_does ⟨by assumption, by assumption, by assumption, by assumption, rfl, rfl, rfl, rfl⟩ (Nat.le_of_ble_eq_true rfl) (Nat.le_of_ble_eq_true rfl) ) (by assumption) (by assumption) ?_; intro _ _ _ _ _; (try k_sweep)) | (refine useI (xor_does ⟨by assumption, by assumption, by assumption, by assumption, rfl, rfl, rfl, rfl⟩ (Nat.le_of_ble_eq_true rfl) (Nat.le_of_ble_eq_true rfl) ) (by assumption) (by assumption) ?_; intro _ _ _ _ _; (try k_sweep)) | (refine useI (inv_does ⟨by assumption, by assumption, by assumption, by assumption, rfl, rfl, rfl, rfl⟩ (Nat.le_of_ble_eq_true rfl) (Nat.le_of_ble_eq_true rfl) ) (by assumption) (by assumption) ?_; intro _ _ _ _ _; (try k_sweep)) | (refine useI (neg_does ⟨by assumption, by assumption, by assumption, by assumption, rfl, rfl, rfl, rfl⟩ (Nat.le_of_ble_eq_true rfl) (Nat.le_of_ble_eq_true rfl) ) (by assumption) (by assumption) ?_; intro _ _ _ _ _; (try k_sweep)) | (refine useI (rsh_does ⟨by assumption, by assumption, by assumption, by assumption, rfl, rfl, rfl, rfl⟩ (Nat.le_of_ble_eq_true rfl) (Nat.le_of_ble_eq_true rfl) (by decide)) (by assumption) (by assumption) ?_; intro _ _ _ _ _; (try k_sweep)) | (refine useI (lsh_does ⟨by assumption, by assumption, by assumption, by assumption, rfl, rfl, rfl, rfl⟩ (Nat.le_of_ble_eq_true rfl) (Nat.le_of_ble_eq_true rfl) (by decide) (by decide) (by omega)) (by assumption) (by assumption) ?_; intro _ _ _ _ _; (try k_sweep)))) | ((fail_if_success (with_reducible show wpAny _ _ (exec (Stmt.While _ _ _ _) _) _ _ _)); (fail_if_success (with_reducible show wpAny _ _ (exec (Stmt.For _ _ _ _ _) _) _ _ _)); (fail_if_success (with_reducible show wpAny _ _ (call (Value.ref _) _ _) _ _ _)); (fail_if_success (with_reducible show KswEnd _ _ _ _ _ _ _ _ _ _ _ _)); (fail_if_success (with_reducible show wpAny _ _ (eval (Expr.ListComp _ _ _ _) _) _ _ _)); (fail_if_success (with_reducible show wpAny _ _ (exec (Stmt.Assign _ (Expr.ListComp _ _ _ _) _) _) _ _ _)); (fail_if_success (with_reducible show Out _ _ _ _ _)); (fail_if_success (with_reducible show LCg.CompEnd _ _ _ _ _ _ _ _ _ _ _ _ _ _)); (fail_if_success (with_reducible show LCg.CompSrc _ _ _ _ _ _ _ _ _ _ _ _ _ _)); (fail_if_success (with_reducible show LCt.CompSrcT _ _ _ _ _ _ _ _ _ _ _ _ _ _ _)); (fail_if_success (with_reducible show Meet _ _ _)); (fail_if_success (with_reducible show wpAny _ _ (pyIter _) _ _ _)); (fail_if_success (with_reducible show LEnd _ _ _ _ _ _ _ _ _ _ _)); (fail_if_success (with_reducible show LPost _ _ _ _ _ _ _ _ _ _ _ _ _)); first | walk1 | (dsimp only; walk1)) | (k_end; dsimp only; k_unfold; (try dsimp only)) | fail "no step"))
      · rename _ ≤ a => hq
        rename Fr _ _ _ _ => F6
        rename News _ _ _ _ => N6
        have hs24 : sz ≠ 24 := fun e => by rw [e] at hq; exact absurd hxr.2 (Int.not_lt.mpr hq)
        refine ksw_end (sz + 1, _) F6 N6 (fun p hp => hp) trivial (List.forall_mem_singleton.mpr rfl) ?_ ⟨by dsimp only; omega, by dsimp only; omega, fun t ht => ?_⟩ (by dsimp only; omega)
        · intro z h2 h3
          have h4 : z ≠ Str.ofString "size" := h2 _ (List.mem_singleton.mpr rfl)
          simp [h4]
        · by_cases e : (t : Int) < sz
          · exact p3 t e
          · have e2 : t = sz.toNat := by dsimp only at ht; omega
            rw [e2]; exact hq
      · rename ¬ _ ≤ a => hq
        have hsz := szOf_eq p1 p3 hq hxr.1
        have hne : szOf a ≠ 0 := by omega
        rw [if_neg hne] at hst
        rename Fr _ _ _ _ => F6
        rename News _ _ _ _ => N6
        refine useI (rsh_does ⟨B, F6, X, T, rfl, rfl, rfl, rfl⟩ (Nat.le_of_ble_eq_true rfl) (Nat.le_of_ble_eq_true rfl) p1) F6 N6 ?_
        rw [beg_eq (by rw [hi0]; exact hqi.1) (by rw [hi0]; exact hqi.2), hi0, ← hsz]
        generalize begOf (rs.getD i 0) (szOf a) = bg at hst ⊢
        intro t5 h5 tk5 F5 N5
        (try clear F6); (try clear N6); (try clear F7); (try clear N7)
        (repeat' (first | (k_unfold; (try dsimp only)) | ((with_reducible show wpAny _ _ (call (Value.ref _) _ _) _ _ _); (first | (refine useI (add_does ⟨by assumption, by assumption, by assumption, by assumption, rfl, rfl, rfl, rfl⟩ (Nat.le_of_ble_eq_true rfl) (Nat.le_of_ble_eq_true rfl) ) (by assumption) (by assumption) ?_; intro _ _ _ _ _; (try k_sweep)) | (refine useI (sub_does ⟨by assumption, by assumption, by assumption, by assumption, rfl, rfl, rfl, rfl⟩ (Nat.le_of_ble_eq_true rfl) (Nat.le_of_ble_eq_true rfl) ) (by assumption) (by assumption) ?_; intro _ _ _ _ _; (try k_sweep)) | (refine useI (and_does ⟨by assumption, by assumption, by assumption, by assumption, rfl, rfl, rfl, rfl⟩ (Nat.le_of_ble_eq_true rfl) (Nat.le_of_ble_eq_true rfl) ) (by assumption) (by assumption) ?_; intro _ _ _ _ _; (try k_sweep)) | (refine useI (or_does ⟨by assumption, by assumption, by assumption, by assumption, rfl, rfl, rfl, rfl⟩ (Nat.le_of_ble_eq_true rfl) (Nat.le_of_ble_eq_true rfl) ) (by assumption) (by assumption) ?_; intro _ _ _ _ _; (try k_sweep)) | (refine useI (xor_does ⟨by assumption, by assumption, by assumption, by assumption, rfl, rfl, rfl, rfl⟩ (Nat.le_of_ble_eq_true rfl) (Nat.le_of_ble_eq_true rfl) ) (by assumption) (by assumption) ?_; intro _ _ _ _ _; (try k_sweep)) | (refine useI (inv_does ⟨by assumption, by assumption, by assumption, by assumption, rfl, rfl, rfl, rfl⟩ (Nat.le_of_ble_eq_true rfl) (Nat.le_of_ble_eq_true rfl) ) (by assumption) (by assumption) ?_; intro _ _ _ _ _; (try k_sweep)) | (refine useI (neg_does ⟨by assumption, by assumption, by assumption, by assumption, rfl, rfl, rfl, rfl⟩ (Nat.le_of_ble_eq_true rfl) (Nat.le_of_ble_eq_true rfl) ) (by assumption) (by assumption) ?_; intro _ _ _ _ _; (try k_sweep)) | (refine useI (rsh_does ⟨by assumption, by assumption, by assumption, by assumption, rfl, rfl, rfl, rfl⟩ (Nat.le_of_ble_eq_true rfl) (Nat.le_of_ble_eq_true rfl) (by decide)) (by assumption) (by assumption) ?_; intro _ _ _ _ _; (try k_sweep)) | (refine useI (lsh_does ⟨by assumption, by assumption, by assumption, by assumption, rfl, rfl, rfl, rfl⟩ (Nat.le_of_ble_eq_true rfl) (Nat.le_of_ble_eq_true rfl) (by decide) (by decide) (by omega)) (by assumption) (by assumption) ?_; intro _ _ _ _ _; (try k_sweep)))) | ((fail_if_success (with_reducible show wpAny _ _ (exec (Stmt.While _ _ _ _) _) _ _ _)); (fail_if_success (with_reducible show wpAny _ _ (exec (Stmt.For _ _ _ _ _) _) _ _ _)); (fail_if_success (with_reducible show wpAny _ _ (call (Value.ref _) _ _) _ _ _)); (fail_if_success (with_reducible show KswEnd _ _ _ _ _ _ _ _ _ _ _ _)); (fail_if_success (with_reducible show wpAny _ _ (eval (Expr.ListComp _ _ _ _) _) _ _ _)); (fail_if_success (with_reducible show wpAny _ _ (exec (Stmt.Assign _ (Expr.ListComp _ _ _ _) _) _) _ _ _)); (fail_if_success (with_reducible show Out _ _ _ _ _)); (fail_if_success (with_reducible show LCg.CompEnd _ _ _ _ _ _ _ _ _ _ _ _ _ _)); (fail_if_success (with_reducible show LCg.CompSrc _ _ _ _ _ _ _ _ _ _ _ _ _ _)); (fail_if_success (with_reducible show LCt.CompSrcT _ _ _ _ _ _ _ _ _ _ _ _ _ _ _)); (fail_if_success (with_reducible show Meet _ _ _)); (fail_if_success (with_reducible show wpAny _ _ (pyIter _) _ _ _)); (fail_if_success (with_reducible show LEnd _ _ _ _ _ _ _ _ _ _ _)); (fail_if_success (with_reducible show LPost _ _ _ _ _ _ _ _ _ _ _ _ _)); first | walk1 | (dsimp only; walk1)) | (k_end; dsimp only; k_unfold; (try dsimp only)) | fail "no step"))
        rename News _ _ _ _ => N6
        refine get2_int N6 (.head _) hdi2 lo hkv2 fun t' => ?_
        (repeat' (first | (k_unfold; (try dsimp only)) | ((with_reducible show wpAny _ _ (call (Value.ref _) _ _) _ _ _); (first | (refine useI (add_does ⟨by assumption, by assumption, by assumption, by assumption, rfl, rfl, rfl, rfl⟩ (Nat.le_of_ble_eq_true rfl) (Nat.le_of_ble_eq_true rfl) ) (by assumption) (by assumption) ?_; intro _ _ _ _ _; (try k_sweep)) | (refine useI (sub_does ⟨by assumption, by assumption, by assumption, by assumption, rfl, rfl, rfl, rfl⟩ (Nat.le_of_ble_eq_true rfl) (Nat.le_of_ble_eq_true rfl) ) (by assumption) (by assumption) ?_; intro _ _ _ _ _; (try k_sweep)) | (refine useI (and_does ⟨by assumption, by assumption, by assumption, by assumption, rfl, rfl, rfl, rfl⟩ (Nat.le_of_ble_eq_true rfl) (Nat.le_of_ble_eq_true rfl) ) (by assumption) (by assumption) ?_; intro _ _ _ _ _; (try k_sweep)) | (refine useI (or_does ⟨by assumption, by assumption, by assumption, by assumption, rfl, rfl, rfl, rfl⟩ (Nat.le_of_ble_eq_true rfl) (Nat.le_of_ble_eq_true rfl) ) (by assumption) (by assumption) ?_; intro _ _ _ _ _; (try k_sweep)) | (refine useI (xor_does ⟨by assumption, by assumption, by assumption, by assumption, rfl, rfl, rfl, rfl⟩ (Nat.le_of_ble_eq_true rfl) (Nat.le_of_ble_eq_true rfl) ) (by assumption) (by assumption) ?_; intro _ _ _ _ _; (try k_sweep)) | (refine useI (inv_does ⟨by assumption, by assumption, by assumption, by assumption, rfl, rfl, rfl, rfl⟩ (Nat.le_of_ble_eq_true rfl) (Nat.le_of_ble_eq_true rfl) ) (by assumption) (by assumption) ?_; intro _ _ _ _ _; (try k_sweep)) | (refine useI (neg_does ⟨by assumption, by assumption, by assumption, by assumption, rfl, rfl, rfl, rfl⟩ (Nat.le_of_ble_eq_true rfl) (Nat.le_of_ble_eq_true rfl) ) (by assumption) (by assumption) ?_; intro _ _ _ _ _; (try k_sweep)) | (refine useI (rsh_does ⟨by assumption, by assumption, by assumption, by assumption, rfl, rfl, rfl, rfl⟩ (Nat.le_of_ble_eq_true rfl) (Nat.le_of_ble_eq_true rfl) (by decide)) (by assumption) (by assumption) ?_; intro _ _ _ _ _; (try k_sweep)) | (refine useI (lsh_does ⟨by assumption, by assumption, by assumption, by assumption, rfl, rfl, rfl, rfl⟩ (Nat.le_of_ble_eq_true rfl) (Nat.le_of_ble_eq_true rfl) (by decide) (by decide) (by omega)) (by assumption) (by assumption) ?_; intro _ _ _ _ _; (try k_sweep)))) | ((fail_if_success (with_reducible show wpAny _ _ (exec (Stmt.While _ _ _ _) _) _ _ _)); (fail_if_success (with_reducible show wpAny _ _ (exec (Stmt.For _ _ _ _ _) _) _ _ _)); (fail_if_success (with_reducible show wpAny _ _ (call (Value.ref _) _ _) _ _ _)); (fail_if_success (with_reducible show KswEnd _ _ _ _ _ _ _ _ _ _ _ _)); (fail_if_success (with_reducible show wpAny _ _ (eval (Expr.ListComp _ _ _ _) _) _ _ _)); (fail_if_success (with_reducible show wpAny _ _ (exec (Stmt.Assign _ (Expr.ListComp _ _ _ _) _) _) _ _ _)); (fail_if_success (with_reducible show Out _ _ _ _ _)); (fail_if_success (with_reducible show LCg.CompEnd _ _ _ _ _ _ _ _ _ _ _ _ _ _)); (fail_if_success (with_reducible show LCg.CompSrc _ _ _ _ _ _ _ _ _ _ _ _ _ _)); (fail_if_success (with_reducible show LCt.CompSrcT _ _ _ _ _ _ _ _ _ _ _ _ _ _ _)); (fail_if_success (with_reducible show Meet _ _ _)); (fail_if_success (with_reducible show wpAny _ _ (pyIter _) _ _ _)); (fail_if_success (with_reducible show LEnd _ _ _ _ _ _ _ _ _ _ _)); (fail_if_success (with_reducible show LPost _ _ _ _ _ _ _ _ _ _ _ _ _)); first | walk1 | (dsimp only; walk1)) | (k_end; dsimp only; k_unfold; (try dsimp only)) | fail "no step"))
        rw [min_eq]
        rename Fr _ _ _ _ => F6
        rename News _ _ _ _ => N6
        refine kda_set (knd := intKind PG w) (k := bg) F6 N6 (UpdF.head (List.forall_mem_cons.mpr ⟨by k_ne, List.forall_mem_cons.mpr ⟨by k_ne, fun p hp => ?_⟩⟩)) hdi2 (by simp [intKind, Value.isInt]) (by rw [hkv2.length, sizeLine_eq]; omega) fun h4 o4 F4 N4 hd4 => ?_
        · rcases List.mem_append.mp hp with hp | hp
          · exact hoff p hp Dd (.head _)
          · exact hoff2 p hp Dd (.head _)
        (try clear F6); (try clear N6)
        (repeat' (first | (k_unfold; (try dsimp only)) | ((with_reducible show wpAny _ _ (call (Value.ref _) _ _) _ _ _); (first | (refine useI (add_does ⟨by assumption, by assumption, by assumption, by assumption, rfl, rfl, rfl, rfl⟩ (Nat.le_of_ble_eq_true rfl) (Nat.le_of_ble_eq_true rfl) ) (by assumption) (by assumption) ?_; intro _ _ _ _ _; (try k_sweep)) | (refine useI (sub_does ⟨by assumption, by assumption, by assumption, by assumption, rfl, rfl, rfl, rfl⟩ (Nat.le_of_ble_eq_true rfl) (Nat.le_of_ble_eq_true rfl) ) (by assumption) (by assumption) ?_; intro _ _ _ _ _; (try k_sweep)) | (refine useI (and_does ⟨by assumption, by assumption, by assumption, by assumption, rfl, rfl, rfl, rfl⟩ (Nat.le_of_ble_eq_true rfl) (Nat.le_of_ble_eq_true rfl) ) (by assumption) (by assumption) ?_; intro _ _ _ _ _; (try k_sweep)) | (refine useI (or_does ⟨by assumption, by assumption, by assumption, by assumption, rfl, rfl, rfl, rfl⟩ (Nat.le_of_ble_eq_true rfl) (Nat.le_of_ble_eq_true rfl) ) (by assumption) (by assumption) ?_; intro _ _ _ _ _; (try k_sweep)) | (refine useI (xor_does ⟨by assumption, by assumption, by assumption, by assumption, rfl, rfl, rfl, rfl⟩ (Nat.le_of_ble_eq_true rfl) (Nat.le_of_ble_eq_true rfl) ) (by assumption) (by assumption) ?_; intro _ _ _ _ _; (try k_sweep)) | (refine useI (inv_does ⟨by assumption, by assumption, by assumption, by assumption, rfl, rfl, rfl, rfl⟩ (Nat.le_of_ble_eq_true rfl) (Nat.le_of_ble_eq_true rfl) ) (by assumption) (by assumption) ?_; intro _ _ _ _ _; (try k_sweep)) | (refine useI (neg_does ⟨by assumption, by assumption, by assumption, by assumption, rfl, rfl, rfl, rfl⟩ (Nat.le_of_ble_eq_true rfl) (Nat.le_of_ble_eq_true rfl) ) (by assumption) (by assumption) ?_; intro _ _ _ _ _; (try k_sweep)) | (refine useI (rsh_does ⟨by assumption, by assumption, by assumption, by assumption, rfl, rfl, rfl, rfl⟩ (Nat.le_of_ble_eq_true rfl) (Nat.le_of_ble_eq_true rfl) (by decide)) (by assumption) (by assumption) ?_; intro _ _ _ _ _; (try k_sweep)) | (refine useI (lsh_does ⟨by assumption, by assumption, by assumption, by assumption, rfl, rfl, rfl, rfl⟩ (Nat.le_of_ble_eq_true rfl) (Nat.le_of_ble_eq_true rfl) (by decide) (by decide) (by omega)) (by assumption) (by assumption) ?_; intro _ _ _ _ _; (try k_sweep)))) | ((fail_if_success (with_reducible show wpAny _ _ (exec (Stmt.While _ _ _ _) _) _ _ _)); (fail_if_success (with_reducible show wpAny _ _ (exec (Stmt.For _ _ _ _ _) _) _ _ _)); (fail_if_success (with_reducible show wpAny _ _ (call (Value.ref _) _ _) _ _ _)); (fail_if_success (with_reducible show KswEnd _ _ _ _ _ _ _ _ _ _ _ _)); (fail_if_success (with_reducible show wpAny _ _ (eval (Expr.ListComp _ _ _ _) _) _ _ _)); (fail_if_success (with_reducible show wpAny _ _ (exec (Stmt.Assign _ (Expr.ListComp _ _ _ _) _) _) _ _ _)); (fail_if_success (with_reducible show Out _ _ _ _ _)); (fail_if_success (with_reducible show LCg.CompEnd _ _ _ _ _ _ _ _ _ _ _ _ _ _)); (fail_if_success (with_reducible show LCg.CompSrc _ _ _ _ _ _ _ _ _ _ _ _ _ _)); (fail_if_success (with_reducible show LCt.CompSrcT _ _ _ _ _ _ _ _ _ _ _ _ _ _ _)); (fail_if_success (with_reducible show Meet _ _ _)); (fail_if_success (with_reducible show wpAny _ _ (pyIter _) _ _ _)); (fail_if_success (with_reducible show LEnd _ _ _ _ _ _ _ _ _ _ _)); (fail_if_success (with_reducible show LPost _ _ _ _ _ _ _ _ _ _ _ _ _)); first | walk1 | (dsimp only; walk1)) | (k_end; dsimp only; k_unfold; (try dsimp only)) | fail "no step"))
        dsimp only [LPost]
        refine ⟨(o4, _, _), _, _, _, rfl, F4, N4, List.forall_mem_nil _, ?_, hd4, hkv2.stored bg _ _, hst.symm, ?_⟩
        · intro z h1 _ h3
          have h3' := h3
          simp only [List.contains_cons, List.contains_nil, Bool.or_false, Bool.or_eq_false_iff, beq_eq_false_iff_ne, ne_eq] at h3'
          simp [h1, h3']
        · refine Nat.le_trans (put_length _ _ _) ?_
          omega
      · rename ¬ _ ≤ a => hq
        have hsz := szOf_eq p1 p3 hq hxr.1
        have hne : szOf a = 0 := by omega
        rw [if_pos hne] at hst
        dsimp only [LPost]
        refine ⟨(oi, kvi, ci), _, _, _, rfl, F7, N7, List.forall_mem_nil _, ?_, hdi2, hkv2, hst.symm, by dsimp only; omega⟩
        intro z h1 _ h3
        have h3' := h3
        simp only [List.contains_cons, List.contains_nil, Bool.or_false, Bool.or_eq_false_iff, beq_eq_false_iff_ne, ne_eq] at h3'
        simp [h1, h3']
    · rintro ⟨oi, kvi, ci⟩ ui hi9 tki ⟨hdi2, hkv2, hc2, hcl2⟩ F₂ N₂
      dsimp only [kstB] at hdi2 hkv2 hc2 hcl2 F₂ N₂
      (try clear R8); (try clear F8); (try clear N8)
      (repeat' (first | (k_unfold; (try dsimp only)) | ((with_reducible show wpAny _ _ (call (Value.ref _) _ _) _ _ _); (first | (refine useI (add_does ⟨by assumption, by assumption, by assumption, by assumption, rfl, rfl, rfl, rfl⟩ (Nat.le_of_ble_eq_true rfl) (Nat.le_of_ble_eq_true rfl) ) (by assumption) (by assumption) ?_; intro _ _ _ _ _; (try k_sweep)) | (refine useI (sub_does ⟨by assumption, by assumption, by assumption, by assumption, rfl, rfl, rfl, rfl⟩ (Nat.le_of_ble_eq_true rfl) (Nat.le_of_ble_eq_true rfl) ) (by assumption) (by assumption) ?_; intro _ _ _ _ _; (try k_sweep)) | (refine useI (and_does ⟨by assumption, by assumption, by assumption, by assumption, rfl, rfl, rfl, rfl⟩ (Nat.le_of_ble_eq_true rfl) (Nat.le_of_ble_eq_true rfl) ) (by assumption) (by assumption) ?_; intro _ _ _ _ _; (try k_sweep)) | (refine useI (or_does ⟨by assumption, by assumption, by assumption, by assumption, rfl, rfl, rfl, rfl⟩ (Nat.le_of_ble_eq_true rfl) (Nat.le_of_ble_eq_true rfl) ) (by assumption) (by assumption) ?_; intro _ _ _ _ _; (try k_sweep)) | (refine useI (xor_does ⟨by assumption, by assumption, by assumption, by assumption, rfl, rfl, rfl, rfl⟩ (Nat.le_of_ble_eq_true rfl) (Nat.le_of_ble_eq_true rfl) ) (by assumption) (by assumption) ?_; intro _ _ _ _ _; (try k_sweep)) | (refine useI (inv_does ⟨by assumption, by assumption, by assumption, by assumption, rfl, rfl, rfl, rfl⟩ (Nat.le_of_ble_eq_true rfl) (Nat.le_of_ble_eq_true rfl) ) (by assumption) (by assumption) ?_; intro _ _ _ _ _; (try k_sweep)) | (refine useI (neg_does ⟨by assumption, by assumption, by assumption, by assumption, rfl, rfl, rfl, rfl⟩ (Nat.le_of_ble_eq_true rfl) (Nat.le_of_ble_eq_true rfl) ) (by assumption) (by assumption) ?_; intro _ _ _ _ _; (try k_sweep)) | (refine useI (rsh_does ⟨by assumption, by assumption, by assumption, by assumption, rfl, rfl, rfl, rfl⟩ (Nat.le_of_ble_eq_true rfl) (Nat.le_of_ble_eq_true rfl) (by decide)) (by assumption) (by assumption) ?_; intro _ _ _ _ _; (try k_sweep)) | (refine useI (lsh_does ⟨by assumption, by assumption, by assumption, by assumption, rfl, rfl, rfl, rfl⟩ (Nat.le_of_ble_eq_true rfl) (Nat.le_of_ble_eq_true rfl) (by decide) (by decide) (by omega)) (by assumption) (by assumption) ?_; intro _ _ _ _ _; (try k_sweep)))) | ((fail_if_success (with_reducible show wpAny _ _ (exec (Stmt.While _ _ _ _) _) _ _ _)); (fail_if_success (with_reducible show wpAny _ _ (exec (Stmt.For _ _ _ _ _) _) _ _ _)); (fail_if_success (with_reducible show wpAny _ _ (call (Value.ref _) _ _) _ _ _)); (fail_if_success (with_reducible show KswEnd _ _ _ _ _ _ _ _ _ _ _ _)); (fail_if_success (with_reducible show wpAny _ _ (eval (Expr.ListComp _ _ _ _) _) _ _ _)); (fail_if_success (with_reducible show wpAny _ _ (exec (Stmt.Assign _ (Expr.ListComp _ _ _ _) _) _) _ _ _)); (fail_if_success (with_reducible show Out _ _ _ _ _)); (fail_if_success (with_reducible show LCg.CompEnd _ _ _ _ _ _ _ _ _ _ _ _ _ _)); (fail_if_success (with_reducible show LCg.CompSrc _ _ _ _ _ _ _ _ _ _ _ _ _ _)); (fail_if_success (with_reducible show LCt.CompSrcT _ _ _ _ _ _ _ _ _ _ _ _ _ _ _)); (fail_if_success (with_reducible show Meet _ _ _)); (fail_if_success (with_reducible show wpAny _ _ (pyIter _) _ _ _)); (fail_if_success (with_reducible show LEnd _ _ _ _ _ _ _ _ _ _ _)); (fail_if_success (with_reducible show LPost _ _ _ _ _ _ _ _ _ _ _ _ _)); first | walk1 | (dsimp only; walk1)) | (k_end; dsimp only; k_unfold; (try dsimp only)) | fail "no step"))
      dsimp only [LPost]
      refine ⟨(oi, kvi, ci), _, _, _, rfl, F₂, N₂, List.forall_mem_nil _, ?_, hdi2, hkv2, ?_, by dsimp only; omega⟩
      · intro z h1 _ h3
        have h3' := h3
        simp only [List.contains_cons, List.contains_nil, Bool.or_false, Bool.or_eq_false_iff, beq_eq_false_iff_ne, ne_eq] at h3'
        simp [h1, h3']
      · dsimp only
        rw [hc2, hc, pAll, pAll, List.range_succ, List.foldl_append]
        rfl
  · rintro ⟨o, kvs, c⟩ u h tk ⟨hdj, hkv, hc, hcl⟩ F₁ N₁
    dsimp only [kstB] at hdj hkv hc hcl F₁ N₁
    simp only [List.cons_append, List.nil_append] at N₁
    (try clear R8); (try clear F8); (try clear N8)
    (repeat' (first | (k_unfold; (try dsimp only)) | ((with_reducible show wpAny _ _ (call (Value.ref _) _ _) _ _ _); (first | (refine useI (add_does ⟨by assumption, by assumption, by assumption, by assumption, rfl, rfl, rfl, rfl⟩ (Nat.le_of_ble_eq_true rfl) (Nat.le_of_ble_eq_true rfl) ) (by assumption) (by assumption) ?_; intro _ _ _ _ _; (try k_sweep)) | (refine useI (sub_does ⟨by assumption, by assumption, by assumption, by assumption, rfl, rfl, rfl, rfl⟩ (Nat.le_of_ble_eq_true rfl) (Nat.le_of_ble_eq_true rfl) ) (by assumption) (by assumption) ?_; intro _ _ _ _ _; (try k_sweep)) | (refine useI (and_does ⟨by assumption, by assumption, by assumption, by assumption, rfl, rfl, rfl, rfl⟩ (Nat.le_of_ble_eq_true rfl) (Nat.le_of_ble_eq_true rfl) ) (by assumption) (by assumption) ?_; intro _ _ _ _ _; (try k_sweep)) | (refine useI (or_does ⟨by assumption, by assumption, by assumption, by assumption, rfl, rfl, rfl, rfl⟩ (Nat.le_of_ble_eq_true rfl) (Nat.le_of_ble_eq_true rfl) ) (by assumption) (by assumption) ?_; intro _ _ _ _ _; (try k_sweep)) | (refine useI (xor_does ⟨by assumption, by assumption, by assumption, by assumption, rfl, rfl, rfl, rfl⟩ (Nat.le_of_ble_eq_true rfl) (Nat.le_of_ble_eq_true rfl) ) (by assumption) (by assumption) ?_; intro _ _ _ _ _; (try k_sweep)) | (refine useI (inv_does ⟨by assumption, by assumption, by assumption, by assumption, rfl, rfl, rfl, rfl⟩ (Nat.le_of_ble_eq_true rfl) (Nat.le_of_ble_eq_true rfl) ) (by assumption) (by assumption) ?_; intro _ _ _ _ _; (try k_sweep)) | (refine useI (neg_does ⟨by assumption, by assumption, by assumption, by assumption, rfl, rfl, rfl, rfl⟩ (Nat.le_of_ble_eq_true rfl) (Nat.le_of_ble_eq_true rfl) ) (by assumption) (by assumption) ?_; intro _ _ _ _ _; (try k_sweep)) | (refine useI (rsh_does ⟨by assumption, by assumption, by assumption, by assumption, rfl, rfl, rfl, rfl⟩ (Nat.le_of_ble_eq_true rfl) (Nat.le_of_ble_eq_true rfl) (by decide)) (by assumption) (by assumption) ?_; intro _ _ _ _ _; (try k_sweep)) | (refine useI (lsh_does ⟨by assumption, by assumption, by assumption, by assumption, rfl, rfl, rfl, rfl⟩ (Nat.le_of_ble_eq_true rfl) (Nat.le_of_ble_eq_true rfl) (by decide) (by decide) (by omega)) (by assumption) (by assumption) ?_; intro _ _ _ _ _; (try k_sweep)))) | ((fail_if_success (with_reducible show wpAny _ _ (exec (Stmt.While _ _ _ _) _) _ _ _)); (fail_if_success (with_reducible show wpAny _ _ (exec (Stmt.For _ _ _ _ _) _) _ _ _)); (fail_if_success (with_reducible show wpAny _ _ (call (Value.ref _) _ _) _ _ _)); (fail_if_success (with_reducible show KswEnd _ _ _ _ _ _ _ _ _ _ _ _)); (fail_if_success (with_reducible show wpAny _ _ (eval (Expr.ListComp _ _ _ _) _) _ _ _)); (fail_if_success (with_reducible show wpAny _ _ (exec (Stmt.Assign _ (Expr.ListComp _ _ _ _) _) _) _ _ _)); (fail_if_success (with_reducible show Out _ _ _ _ _)); (fail_if_success (with_reducible show LCg.CompEnd _ _ _ _ _ _ _ _ _ _ _ _ _ _)); (fail_if_success (with_reducible show LCg.CompSrc _ _ _ _ _ _ _ _ _ _ _ _ _ _)); (fail_if_success (with_reducible show LCt.CompSrcT _ _ _ _ _ _ _ _ _ _ _ _ _ _ _)); (fail_if_success (with_reducible show Meet _ _ _)); (fail_if_success (with_reducible show wpAny _ _ (pyIter _) _ _ _)); (fail_if_success (with_reducible show LEnd _ _ _ _ _ _ _ _ _ _ _)); (fail_if_success (with_reducible show LPost _ _ _ _ _ _ _ _ _ _ _ _ _)); first | walk1 | (dsimp only; walk1)) | (k_end; dsimp only; k_unfold; (try dsimp only)) | fail "no step"))
    rename Fr _ _ _ _ => F8
    refine LCt.Assign_ListComp_T (cl := [(Str.ofString "rows", L' + 1)]) F8 rfl (by with_unfolding_all rfl) (by with_unfolding_all rfl) (by decide) rfl (by decide) rfl rfl rfl ?_
    (repeat' (first | (k_unfold; (try dsimp only)) | ((with_reducible show wpAny _ _ (call (Value.ref _) _ _) _ _ _); (first | (refine useI (add_does ⟨by assumption, by assumption, by assumption, by assumption, rfl, rfl, rfl, rfl⟩ (Nat.le_of_ble_eq_true rfl) (Nat.le_of_ble_eq_true rfl) ) (by assumption) (by assumption) ?_; intro _ _ _ _ _; (try k_sweep)) | (refine useI (sub_does ⟨by assumption, by assumption, by assumption, by assumption, rfl, rfl, rfl, rfl⟩ (Nat.le_of_ble_eq_true rfl) (Nat.le_of_ble_eq_true rfl) ) (by assumption) (by assumption) ?_; intro _ _ _ _ _; (try k_sweep)) | (refine useI (and_does ⟨by assumption, by assumption, by assumption, by assumption, rfl, rfl, rfl, rfl⟩ (Nat.le_of_ble_eq_true rfl) (Nat.le_of_ble_eq_true rfl) ) (by assumption) (by assumption) ?_; intro _ _ _ _ _; (try k_sweep)) | (refine useI (or_does ⟨by assumption, by assumption, by assumption, by assumption, rfl, rfl, rfl, rfl⟩ (Nat.le_of_ble_eq_true rfl) (Nat.le_of_ble_eq_true rfl) ) (by assumption) (by assumption) ?_; intro _ _ _ _ _; (try k_sweep)) | (refine useI (xor_does ⟨by assumption, by assumption, by assumption, by assumption, rfl, rfl, rfl, rfl⟩ (Nat.le_of_ble_eq_true rfl) (Nat.le_of_ble_eq_true rfl) ) (by assumption) (by assumption) ?_; intro _ _ _ _ _; (try k_sweep)) | (refine useI (inv_does ⟨by assumption, by assumption, by assumption, by assumption, rfl, rfl, rfl, rfl⟩ (Nat.le_of_ble_eq_true rfl) (Nat.le_of_ble_eq_true rfl) ) (by assumption) (by assumption) ?_; intro _ _ _ _ _; (try k_sweep)) | (refine useI (neg_does ⟨by assumption, by assumption, by assumption, by assumption, rfl, rfl, rfl, rfl⟩ (Nat.le_of_ble_eq_true rfl) (Nat.le_of_ble_eq_true rfl) ) (by assumption) (by assumption) ?_; intro _ _ _ _ _; (try k_sweep)) | (refine useI (rsh_does ⟨by assumption, by assumption, by assumption, by assumption, rfl, rfl, rfl, rfl⟩ (Nat.le_of_ble_eq_true rfl) (Nat.le_of_ble_eq_true rfl) (by decide)) (by assumption) (by assumption) ?_; intro _ _ _ _ _; (try k_sweep)) | (refine useI (lsh_does ⟨by assumption, by assumption, by assumption, by assumption, rfl, rfl, rfl, rfl⟩ (Nat.le_of_ble_eq_true rfl) (Nat.le_of_ble_eq_true rfl) (by decide) (by decide) (by omega)) (by assumption) (by assumption) ?_; intro _ _ _ _ _; (try k_sweep)))) | ((fail_if_success (with_reducible show wpAny _ _ (exec (Stmt.While _ _ _ _) _) _ _ _)); (fail_if_success (with_reducible show wpAny _ _ (exec (Stmt.For _ _ _ _ _) _) _ _ _)); (fail_if_success (with_reducible show wpAny _ _ (call (Value.ref _) _ _) _ _ _)); (fail_if_success (with_reducible show KswEnd _ _ _ _ _ _ _ _ _ _ _ _)); (fail_if_success (with_reducible show wpAny _ _ (eval (Expr.ListComp _ _ _ _) _) _ _ _)); (fail_if_success (with_reducible show wpAny _ _ (exec (Stmt.Assign _ (Expr.ListComp _ _ _ _) _) _) _ _ _)); (fail_if_success (with_reducible show Out _ _ _ _ _)); (fail_if_success (with_reducible show LCg.CompEnd _ _ _ _ _ _ _ _ _ _ _ _ _ _)); (fail_if_success (with_reducible show LCg.CompSrc _ _ _ _ _ _ _ _ _ _ _ _ _ _)); (fail_if_success (with_reducible show LCt.CompSrcT _ _ _ _ _ _ _ _ _ _ _ _ _ _ _)); (fail_if_success (with_reducible show Meet _ _ _)); (fail_if_success (with_reducible show wpAny _ _ (pyIter _) _ _ _)); (fail_if_success (with_reducible show LEnd _ _ _ _ _ _ _ _ _ _ _)); (fail_if_success (with_reducible show LPost _ _ _ _ _ _ _ _ _ _ _ _ _)); first | walk1 | (dsimp only; walk1)) | (k_end; dsimp only; k_unfold; (try dsimp only)) | fail "no step"))
    rename Fr _ _ _ _ => F7
    rename News _ _ _ _ => N7
    rename IsRange _ _ _ _ _ _ _ _ => R8
    refine LCt.CompSrcT.range rfl F7 N7 R8 (n := rs.length) (small1 (by omega) (by omega)) (rsize1 (by omega)) (by rw [sizeLine_eq]; omega) fun gg => comp_invT (fun i ys nw => (∃ as, IntsAre ys as ∧ as = againN rs i) ∧ nw = _) ?_ ?_ _ 0 [] _ (Nat.zero_add _) ⟨⟨[], .nil, rfl⟩, rfl⟩
    · rintro i ys nw v I oI C oC D m₂ h9 tk9 E' hin ⟨⟨as, hys, has⟩, rfl⟩ ⟨ti, rfl⟩ hoC hx F6 N6 o9 ne9
      (try clear F8); (try clear N8); (try clear F7); (try clear N7); (try clear R8)
      rw [Int.zero_add] at hx
      have hst : againN rs (i + 1) = againN rs i ++ if (rs.take i).any (fun x => x == rs.getD i 0) then [0] else [] := by
        unfold againN
        rw [List.range_succ, List.filterMap_append]
        congr 1
        simp only [List.filterMap_cons, List.filterMap_nil]
        split <;> rename_i hz <;> split at hz <;> simp_all
      (repeat' (first | (k_unfold; (try dsimp only)) | ((with_reducible show wpAny _ _ (call (Value.ref _) _ _) _ _ _); (first | (refine useI (add_does ⟨by assumption, by assumption, by assumption, by assumption, rfl, rfl, rfl, rfl⟩ (Nat.le_of_ble_eq_true rfl) (Nat.le_of_ble_eq_true rfl) ) (by assumption) (by assumption) ?_; intro _ _ _ _ _; (try k_sweep)) | (refine useI (sub_does ⟨by assumption, by assumption, by assumption, by assumption, rfl, rfl, rfl, rfl⟩ (Nat.le_of_ble_eq_true rfl) (Nat.le_of_ble_eq_true rfl) ) (by assumption) (by assumption) ?_; intro _ _ _ _ _; (try k_sweep)) | (refine useI (and_does ⟨by assumption, by assumption, by assumption, by assumption, rfl, rfl, rfl, rfl⟩ (Nat.le_of_ble_eq_true rfl) (Nat.le_of_ble_eq_true rfl) ) (by assumption) (by assumption) ?_; intro _ _ _ _ _; (try k_sweep)) | (refine useI (or_does ⟨by assumption, by assumption, by assumption, by assumption, rfl, rfl, rfl, rfl⟩ (Nat.le_of_ble_eq_true rfl) (Nat.le_of_ble_eq_true rfl) ) (by assumption) (by assumption) ?_; intro _ _ _ _ _; (try k_sweep)) | (refine useI (xor_does ⟨by assumption, by assumption, by assumption, by assumption, rfl, rfl, rfl, rfl⟩ (Nat.le_of_ble_eq_true rfl) (Nat.le_of_ble_eq_true rfl) ) (by assumption) (by assumption) ?_; intro _ _ _ _ _; (try k_sweep)) | (refine useI (inv_does ⟨by assumption, by assumption, by assumption, by assumption, rfl, rfl, rfl, rfl⟩ (Nat.le_of_ble_eq_true rfl) (Nat.le_of_ble_eq_true rfl) ) (by assumption) (by assumption) ?_; intro _ _ _ _ _; (try k_sweep)) | (refine useI (neg_does ⟨by assumption, by assumption, by assumption, by assumption, rfl, rfl, rfl, rfl⟩ (Nat.le_of_ble_eq_true rfl) (Nat.le_of_ble_eq_true rfl) ) (by assumption) (by assumption) ?_; intro _ _ _ _ _; (try k_sweep)) | (refine useI (rsh_does ⟨by assumption, by assumption, by assumption, by assumption, rfl, rfl, rfl, rfl⟩ (Nat.le_of_ble_eq_true rfl) (Nat.le_of_ble_eq_true rfl) (by decide)) (by assumption) (by assumption) ?_; intro _ _ _ _ _; (try k_sweep)) | (refine useI (lsh_does ⟨by assumption, by assumption, by assumption, by assumption, rfl, rfl, rfl, rfl⟩ (Nat.le_of_ble_eq_true rfl) (Nat.le_of_ble_eq_true rfl) (by decide) (by decide) (by omega)) (by assumption) (by assumption) ?_; intro _ _ _ _ _; (try k_sweep)))) | ((fail_if_success (with_reducible show wpAny _ _ (exec (Stmt.While _ _ _ _) _) _ _ _)); (fail_if_success (with_reducible show wpAny _ _ (exec (Stmt.For _ _ _ _ _) _) _ _ _)); (fail_if_success (with_reducible show wpAny _ _ (call (Value.ref _) _ _) _ _ _)); (fail_if_success (with_reducible show KswEnd _ _ _ _ _ _ _ _ _ _ _ _)); (fail_if_success (with_reducible show wpAny _ _ (eval (Expr.ListComp _ _ _ _) _) _ _ _)); (fail_if_success (with_reducible show wpAny _ _ (exec (Stmt.Assign _ (Expr.ListComp _ _ _ _) _) _) _ _ _)); (fail_if_success (with_reducible show Out _ _ _ _ _)); (fail_if_success (with_reducible show LCg.CompEnd _ _ _ _ _ _ _ _ _ _ _ _ _ _)); (fail_if_success (with_reducible show LCg.CompSrc _ _ _ _ _ _ _ _ _ _ _ _ _ _)); (fail_if_success (with_reducible show LCt.CompSrcT _ _ _ _ _ _ _ _ _ _ _ _ _ _ _)); (fail_if_success (with_reducible show Meet _ _ _)); (fail_if_success (with_reducible show wpAny _ _ (pyIter _) _ _ _)); (fail_if_success (with_reducible show LEnd _ _ _ _ _ _ _ _ _ _ _)); (fail_if_success (with_reducible show LPost _ _ _ _ _ _ _ _ _ _ _ _ _)); first | walk1 | (dsimp only; walk1)) | (k_end; dsimp only; k_unfold; (try dsimp only)) | fail "no step"))
      · rename (List.any _ _) = true => hq
        rename Fr _ _ _ _ => F5
        rename News _ _ _ _ => N5
        rw [Int.toNat_natCast] at hq
        rw [hq, if_pos rfl] at hst
        exact LCg.CompEnd.intro F5 N5 _ (by kcj_all) o9 trivial ⟨⟨_, ints_snoc hys 0 _, by rw [hst, has]⟩, rfl⟩
      · rename (List.any _ _) = false => hq
        rename Fr _ _ _ _ => F5
        rename News _ _ _ _ => N5
        rw [Int.toNat_natCast] at hq
        rw [hq, if_neg Bool.false_ne_true, List.append_nil] at hst
        exact LCg.CompEnd.intro F5 N5 _ (by kcj_all) o9 trivial ⟨⟨_, hys, by rw [hst, has]⟩, rfl⟩
    · rintro ys nw ⟨⟨as, hys, has⟩, rfl⟩ D h9 tk9 F6 N6 o9
      (try clear F8); (try clear N8); (try clear F7); (try clear N7); (try clear R8)
      have hal : as.length ≤ rs.length := by
        rw [has]; unfold againN
        exact Nat.le_trans (List.length_filterMap_le _ _) (by rw [List.length_range]; exact Nat.le_refl _)
      (repeat' (first | (k_unfold; (try dsimp only)) | ((with_reducible show wpAny _ _ (call (Value.ref _) _ _) _ _ _); (first | (refine useI (add_does ⟨by assumption, by assumption, by assumption, by assumption, rfl, rfl, rfl, rfl⟩ (Nat.le_of_ble_eq_true rfl) (Nat.le_of_ble_eq_true rfl) ) (by assumption) (by assumption) ?_; intro _ _ _ _ _; (try k_sweep)) | (refine useI (sub_does ⟨by assumption, by assumption, by assumption, by assumption, rfl, rfl, rfl, rfl⟩ (Nat.le_of_ble_eq_true rfl) (Nat.le_of_ble_eq_true rfl) ) (by assumption) (by assumption) ?_; intro _ _ _ _ _; (try k_sweep)) | (refine useI (and_does ⟨by assumption, by assumption, by assumption, by assumption, rfl, rfl, rfl, rfl⟩ (Nat.le_of_ble_eq_true rfl) (Nat.le_of_ble_eq_true rfl) ) (by assumption) (by assumption) ?_; intro _ _ _ _ _; (try k_sweep)) | (refine useI (or_does ⟨by assumption, by assumption, by assumption, by assumption, rfl, rfl, rfl, rfl⟩ (Nat.le_of_ble_eq_true rfl) (Nat.le_of_ble_eq_true rfl) ) (by assumption) (by assumption) ?_; intro _ _ _ _ _; (try k_sweep)) | (refine useI (xor_does ⟨by assumption, by assumption, by assumption, by assumption, rfl, rfl, rfl, rfl⟩ (Nat.le_of_ble_eq_true rfl) (Nat.le_of_ble_eq_true rfl) ) (by assumption) (by assumption) ?_; intro _ _ _ _ _; (try k_sweep)) | (refine useI (inv_does ⟨by assumption, by assumption, by assumption, by assumption, rfl, rfl, rfl, rfl⟩ (Nat.le_of_ble_eq_true rfl) (Nat.le_of_ble_eq_true rfl) ) (by assumption) (by assumption) ?_; intro _ _ _ _ _; (try k_sweep)) | (refine useI (neg_does ⟨by assumption, by assumption, by assumption, by assumption, rfl, rfl, rfl, rfl⟩ (Nat.le_of_ble_eq_true rfl) (Nat.le_of_ble_eq_true rfl) ) (by assumption) (by assumption) ?_; intro _ _ _ _ _; (try k_sweep)) | (refine useI (rsh_does ⟨by assumption, by assumption, by assumption, by assumption, rfl, rfl, rfl, rfl⟩ (Nat.le_of_ble_eq_true rfl) (Nat.le_of_ble_eq_true rfl) (by decide)) (by assumption) (by assumption) ?_; intro _ _ _ _ _; (try k_sweep)) | (refine useI (lsh_does ⟨by assumption, by assumption, by assumption, by assumption, rfl, rfl, rfl, rfl⟩ (Nat.le_of_ble_eq_true rfl) (Nat.le_of_ble_eq_true rfl) (by decide) (by decide) (by omega)) (by assumption) (by assumption) ?_; intro _ _ _ _ _; (try k_sweep)))) | ((fail_if_success (with_reducible show wpAny _ _ (exec (Stmt.While _ _ _ _) _) _ _ _)); (fail_if_success (with_reducible show wpAny _ _ (exec (Stmt.For _ _ _ _ _) _) _ _ _)); (fail_if_success (with_reducible show wpAny _ _ (call (Value.ref _) _ _) _ _ _)); (fail_if_success (with_reducible show KswEnd _ _ _ _ _ _ _ _ _ _ _ _)); (fail_if_success (with_reducible show wpAny _ _ (eval (Expr.ListComp _ _ _ _) _) _ _ _)); (fail_if_success (with_reducible show wpAny _ _ (exec (Stmt.Assign _ (Expr.ListComp _ _ _ _) _) _) _ _ _)); (fail_if_success (with_reducible show Out _ _ _ _ _)); (fail_if_success (with_reducible show LCg.CompEnd _ _ _ _ _ _ _ _ _ _ _ _ _ _)); (fail_if_success (with_reducible show LCg.CompSrc _ _ _ _ _ _ _ _ _ _ _ _ _ _)); (fail_if_success (with_reducible show LCt.CompSrcT _ _ _ _ _ _ _ _ _ _ _ _ _ _ _)); (fail_if_success (with_reducible show Meet _ _ _)); (fail_if_success (with_reducible show wpAny _ _ (pyIter _) _ _ _)); (fail_if_success (with_reducible show LEnd _ _ _ _ _ _ _ _ _ _ _)); (fail_if_success (with_reducible show LPost _ _ _ _ _ _ _ _ _ _ _ _ _)); first | walk1 | (dsimp only; walk1)) | (k_end; dsimp only; k_unfold; (try dsimp only)) | fail "no step"))
      rename Fr _ _ _ _ => F5
      rename News _ _ _ _ => N5
      refine ListComp_D (knd := intKind PG w) (cl := [(Str.ofString "least", L' + 1 + 1)]) F5 (by with_unfolding_all rfl) (by decide) rfl (by decide) rfl ?_
      (repeat' (first | (k_unfold; (try dsimp only)) | ((with_reducible show wpAny _ _ (call (Value.ref _) _ _) _ _ _); (first | (refine useI (add_does ⟨by assumption, by assumption, by assumption, by assumption, rfl, rfl, rfl, rfl⟩ (Nat.le_of_ble_eq_true rfl) (Nat.le_of_ble_eq_true rfl) ) (by assumption) (by assumption) ?_; intro _ _ _ _ _; (try k_sweep)) | (refine useI (sub_does ⟨by assumption, by assumption, by assumption, by assumption, rfl, rfl, rfl, rfl⟩ (Nat.le_of_ble_eq_true rfl) (Nat.le_of_ble_eq_true rfl) ) (by assumption) (by assumption) ?_; intro _ _ _ _ _; (try k_sweep)) | (refine useI (and_does ⟨by assumption, by assumption, by assumption, by assumption, rfl, rfl, rfl, rfl⟩ (Nat.le_of_ble_eq_true rfl) (Nat.le_of_ble_eq_true rfl) ) (by assumption) (by assumption) ?_; intro _ _ _ _ _; (try k_sweep)) | (refine useI (or_does ⟨by assumption, by assumption, by assumption, by assumption, rfl, rfl, rfl, rfl⟩ (Nat.le_of_ble_eq_true rfl) (Nat.le_of_ble_eq_true rfl) ) (by assumption) (by assumption) ?_; intro _ _ _ _ _; (try k_sweep)) | (refine useI (xor_does ⟨by assumption, by assumption, by assumption, by assumption, rfl, rfl, rfl, rfl⟩ (Nat.le_of_ble_eq_true rfl) (Nat.le_of_ble_eq_true rfl) ) (by assumption) (by assumption) ?_; intro _ _ _ _ _; (try k_sweep)) | (refine useI (inv_does ⟨by assumption, by assumption, by assumption, by assumption, rfl, rfl, rfl, rfl⟩ (Nat.le_of_ble_eq_true rfl) (Nat.le_of_ble_eq_true rfl) ) (by assumption) (by assumption) ?_; intro _ _ _ _ _; (try k_sweep)) | (refine useI (neg_does ⟨by assumption, by assumption, by assumption, by assumption, rfl, rfl, rfl, rfl⟩ (Nat.le_of_ble_eq_true rfl) (Nat.le_of_ble_eq_true rfl) ) (by assumption) (by assumption) ?_; intro _ _ _ _ _; (try k_sweep)) | (refine useI (rsh_does ⟨by assumption, by assumption, by assumption, by assumption, rfl, rfl, rfl, rfl⟩ (Nat.le_of_ble_eq_true rfl) (Nat.le_of_ble_eq_true rfl) (by decide)) (by assumption) (by assumption) ?_; intro _ _ _ _ _; (try k_sweep)) | (refine useI (lsh_does ⟨by assumption, by assumption, by assumption, by assumption, rfl, rfl, rfl, rfl⟩ (Nat.le_of_ble_eq_true rfl) (Nat.le_of_ble_eq_true rfl) (by decide) (by decide) (by omega)) (by assumption) (by assumption) ?_; intro _ _ _ _ _; (try k_sweep)))) | ((fail_if_success (with_reducible show wpAny _ _ (exec (Stmt.While _ _ _ _) _) _ _ _)); (fail_if_success (with_reducible show wpAny _ _ (exec (Stmt.For _ _ _ _ _) _) _ _ _)); (fail_if_success (with_reducible show wpAny _ _ (call (Value.ref _) _ _) _ _ _)); (fail_if_success (with_reducible show KswEnd _ _ _ _ _ _ _ _ _ _ _ _)); (fail_if_success (with_reducible show wpAny _ _ (eval (Expr.ListComp _ _ _ _) _) _ _ _)); (fail_if_success (with_reducible show wpAny _ _ (exec (Stmt.Assign _ (Expr.ListComp _ _ _ _) _) _) _ _ _)); (fail_if_success (with_reducible show Out _ _ _ _ _)); (fail_if_success (with_reducible show LCg.CompEnd _ _ _ _ _ _ _ _ _ _ _ _ _ _)); (fail_if_success (with_reducible show LCg.CompSrc _ _ _ _ _ _ _ _ _ _ _ _ _ _)); (fail_if_success (with_reducible show LCt.CompSrcT _ _ _ _ _ _ _ _ _ _ _ _ _ _ _)); (fail_if_success (with_reducible show Meet _ _ _)); (fail_if_success (with_reducible show wpAny _ _ (pyIter _) _ _ _)); (fail_if_success (with_reducible show LEnd _ _ _ _ _ _ _ _ _ _ _)); (fail_if_success (with_reducible show LPost _ _ _ _ _ _ _ _ _ _ _ _ _)); first | walk1 | (dsimp only; walk1)) | (k_end; dsimp only; k_unfold; (try dsimp only)) | fail "no step"))
      rename Fr _ _ _ _ => F4
      rename News _ _ _ _ => N4
      obtain ⟨ep, hK⟩ := KdkAt.of hdj
      have hkl := hkv.length
      refine ⟨Dd, o, _, kvs, ep, rfl, rfl, F4, N4, by k_mem, lo, hK, by rw [sizeLine_eq, hkl]; omega, fun s₂ hs => ?_⟩
      obtain ⟨gg, rfl⟩ := hs
      refine comp_inv (fun i zs nw => IntsAre zs ((c.take i).map (·.2)) ∧ nw = _) ?_ ?_ _ 0 [] _ (Nat.zero_add _) ⟨.nil, rfl⟩
      · rintro i zs nw v I oI C oC D2 m₂ h8 tk8 E' hin ⟨hzs, rfl⟩ ⟨k, x, hkx, hkk⟩ hoC hx F3 N3 o8 ne8
        obtain ⟨vv, tv, rfl, hcx⟩ := hkv.at hkx
        obtain ⟨tk9, rfl⟩ := Value.isInt_shape hkk
        (try clear F4); (try clear N4); (try clear F5); (try clear N5); (try clear F6); (try clear N6)
        (repeat' (first | (k_unfold; (try dsimp only)) | ((with_reducible show wpAny _ _ (call (Value.ref _) _ _) _ _ _); (first | (refine useI (add_does ⟨by assumption, by assumption, by assumption, by assumption, rfl, rfl, rfl, rfl⟩ (Nat.le_of_ble_eq_true rfl) (Nat.le_of_ble_eq_true rfl) ) (by assumption) (by assumption) ?_; intro _ _ _ _ _; (try k_sweep)) | (refine useI (sub_does ⟨by assumption, by assumption, by assumption, by assumption, rfl, rfl, rfl, rfl⟩ (Nat.le_of_ble_eq_true rfl) (Nat.le_of_ble_eq_true rfl) ) (by assumption) (by assumption) ?_; intro _ _ _ _ _; (try k_sweep)) | (refine useI (and_does ⟨by assumption, by assumption, by assumption, by assumption, rfl, rfl, rfl, rfl⟩ (Nat.le_of_ble_eq_true rfl) (Nat.le_of_ble_eq_true rfl) ) (by assumption) (by assumption) ?_; intro _ _ _ _ _; (try k_sweep)) | (refine useI (or_does ⟨by assumption, by assumption, by assumption, by assumption, rfl, rfl, rfl, rfl⟩ (Nat.le_of_ble_eq_true rfl) (Nat.le_of_ble_eq_true rfl) ) (by assumption) (by assumption) ?_; intro _ _ _ _ _; (try k_sweep)) | (refine useI (xor_does ⟨by assumption, by assumption, by assumption, by assumption, rfl, rfl, rfl, rfl⟩ (Nat.le_of_ble_eq_true rfl) (Nat.le_of_ble_eq_true rfl) ) (by assumption) (by assumption) ?_; intro _ _ _ _ _; (try k_sweep)) | (refine useI (inv_does ⟨by assumption, by assumption, by assumption, by assumption, rfl, rfl, rfl, rfl⟩ (Nat.le_of_ble_eq_true rfl) (Nat.le_of_ble_eq_true rfl) ) (by assumption) (by assumption) ?_; intro _ _ _ _ _; (try k_sweep)) | (refine useI (neg_does ⟨by assumption, by assumption, by assumption, by assumption, rfl, rfl, rfl, rfl⟩ (Nat.le_of_ble_eq_true rfl) (Nat.le_of_ble_eq_true rfl) ) (by assumption) (by assumption) ?_; intro _ _ _ _ _; (try k_sweep)) | (refine useI (rsh_does ⟨by assumption, by assumption, by assumption, by assumption, rfl, rfl, rfl, rfl⟩ (Nat.le_of_ble_eq_true rfl) (Nat.le_of_ble_eq_true rfl) (by decide)) (by assumption) (by assumption) ?_; intro _ _ _ _ _; (try k_sweep)) | (refine useI (lsh_does ⟨by assumption, by assumption, by assumption, by assumption, rfl, rfl, rfl, rfl⟩ (Nat.le_of_ble_eq_true rfl) (Nat.le_of_ble_eq_true rfl) (by decide) (by decide) (by omega)) (by assumption) (by assumption) ?_; intro _ _ _ _ _; (try k_sweep)))) | ((fail_if_success (with_reducible show wpAny _ _ (exec (Stmt.While _ _ _ _) _) _ _ _)); (fail_if_success (with_reducible show wpAny _ _ (exec (Stmt.For _ _ _ _ _) _) _ _ _)); (fail_if_success (with_reducible show wpAny _ _ (call (Value.ref _) _ _) _ _ _)); (fail_if_success (with_reducible show KswEnd _ _ _ _ _ _ _ _ _ _ _ _)); (fail_if_success (with_reducible show wpAny _ _ (eval (Expr.ListComp _ _ _ _) _) _ _ _)); (fail_if_success (with_reducible show wpAny _ _ (exec (Stmt.Assign _ (Expr.ListComp _ _ _ _) _) _) _ _ _)); (fail_if_success (with_reducible show Out _ _ _ _ _)); (fail_if_success (with_reducible show LCg.CompEnd _ _ _ _ _ _ _ _ _ _ _ _ _ _)); (fail_if_success (with_reducible show LCg.CompSrc _ _ _ _ _ _ _ _ _ _ _ _ _ _)); (fail_if_success (with_reducible show LCt.CompSrcT _ _ _ _ _ _ _ _ _ _ _ _ _ _ _)); (fail_if_success (with_reducible show Meet _ _ _)); (fail_if_success (with_reducible show wpAny _ _ (pyIter _) _ _ _)); (fail_if_success (with_reducible show LEnd _ _ _ _ _ _ _ _ _ _ _)); (fail_if_success (with_reducible show LPost _ _ _ _ _ _ _ _ _ _ _ _ _)); first | walk1 | (dsimp only; walk1)) | (k_end; dsimp only; k_unfold; (try dsimp only)) | fail "no step"))
        refine kda_item (knd := intKind PG w) (k := k) N3 (by k_mem) hdj hkk (value_at (KdkAt.nodup hK) hkx) ?_ (by with_unfolding_all rfl) (by intro _; with_unfolding_all rfl)
        refine LCg.CompEnd.intro F3 N3 _ (fun p hp => hp) o8 (by k_mem) ⟨?_, rfl⟩
        have e : c.take (i + 1) = c.take i ++ [(k, vv)] := by rw [List.take_add_one, hcx]; rfl
        rw [e, List.map_append]
        exact ints_snoc hzs _ _
      · rintro zs nw ⟨hzs, rfl⟩ D2 h8 tk8 F3 N3 o8
        rw [hkl, List.take_length] at hzs
        (try clear F4); (try clear N4); (try clear F5); (try clear N5); (try clear F6); (try clear N6)
        (repeat' (first | (k_unfold; (try dsimp only)) | ((with_reducible show wpAny _ _ (call (Value.ref _) _ _) _ _ _); (first | (refine useI (add_does ⟨by assumption, by assumption, by assumption, by assumption, rfl, rfl, rfl, rfl⟩ (Nat.le_of_ble_eq_true rfl) (Nat.le_of_ble_eq_true rfl) ) (by assumption) (by assumption) ?_; intro _ _ _ _ _; (try k_sweep)) | (refine useI (sub_does ⟨by assumption, by assumption, by assumption, by assumption, rfl, rfl, rfl, rfl⟩ (Nat.le_of_ble_eq_true rfl) (Nat.le_of_ble_eq_true rfl) ) (by assumption) (by assumption) ?_; intro _ _ _ _ _; (try k_sweep)) | (refine useI (and_does ⟨by assumption, by assumption, by assumption, by assumption, rfl, rfl, rfl, rfl⟩ (Nat.le_of_ble_eq_true rfl) (Nat.le_of_ble_eq_true rfl) ) (by assumption) (by assumption) ?_; intro _ _ _ _ _; (try k_sweep)) | (refine useI (or_does ⟨by assumption, by assumption, by assumption, by assumption, rfl, rfl, rfl, rfl⟩ (Nat.le_of_ble_eq_true rfl) (Nat.le_of_ble_eq_true rfl) ) (by assumption) (by assumption) ?_; intro _ _ _ _ _; (try k_sweep)) | (refine useI (xor_does ⟨by assumption, by assumption, by assumption, by assumption, rfl, rfl, rfl, rfl⟩ (Nat.le_of_ble_eq_true rfl) (Nat.le_of_ble_eq_true rfl) ) (by assumption) (by assumption) ?_; intro _ _ _ _ _; (try k_sweep)) | (refine useI (inv_does ⟨by assumption, by assumption, by assumption, by assumption, rfl, rfl, rfl, rfl⟩ (Nat.le_of_ble_eq_true rfl) (Nat.le_of_ble_eq_true rfl) ) (by assumption) (by assumption) ?_; intro _ _ _ _ _; (try k_sweep)) | (refine useI (neg_does ⟨by assumption, by assumption, by assumption, by assumption, rfl, rfl, rfl, rfl⟩ (Nat.le_of_ble_eq_true rfl) (Nat.le_of_ble_eq_true rfl) ) (by assumption) (by assumption) ?_; intro _ _ _ _ _; (try k_sweep)) | (refine useI (rsh_does ⟨by assumption, by assumption, by assumption, by assumption, rfl, rfl, rfl, rfl⟩ (Nat.le_of_ble_eq_true rfl) (Nat.le_of_ble_eq_true rfl) (by decide)) (by assumption) (by assumption) ?_; intro _ _ _ _ _; (try k_sweep)) | (refine useI (lsh_does ⟨by assumption, by assumption, by assumption, by assumption, rfl, rfl, rfl, rfl⟩ (Nat.le_of_ble_eq_true rfl) (Nat.le_of_ble_eq_true rfl) (by decide) (by decide) (by omega)) (by assumption) (by assumption) ?_; intro _ _ _ _ _; (try k_sweep)))) | ((fail_if_success (with_reducible show wpAny _ _ (exec (Stmt.While _ _ _ _) _) _ _ _)); (fail_if_success (with_reducible show wpAny _ _ (exec (Stmt.For _ _ _ _ _) _) _ _ _)); (fail_if_success (with_reducible show wpAny _ _ (call (Value.ref _) _ _) _ _ _)); (fail_if_success (with_reducible show KswEnd _ _ _ _ _ _ _ _ _ _ _ _)); (fail_if_success (with_reducible show wpAny _ _ (eval (Expr.ListComp _ _ _ _) _) _ _ _)); (fail_if_success (with_reducible show wpAny _ _ (exec (Stmt.Assign _ (Expr.ListComp _ _ _ _) _) _) _ _ _)); (fail_if_success (with_reducible show Out _ _ _ _ _)); (fail_if_success (with_reducible show LCg.CompEnd _ _ _ _ _ _ _ _ _ _ _ _ _ _)); (fail_if_success (with_reducible show LCg.CompSrc _ _ _ _ _ _ _ _ _ _ _ _ _ _)); (fail_if_success (with_reducible show LCt.CompSrcT _ _ _ _ _ _ _ _ _ _ _ _ _ _ _)); (fail_if_success (with_reducible show Meet _ _ _)); (fail_if_success (with_reducible show wpAny _ _ (pyIter _) _ _ _)); (fail_if_success (with_reducible show LEnd _ _ _ _ _ _ _ _ _ _ _)); (fail_if_success (with_reducible show LPost _ _ _ _ _ _ _ _ _ _ _ _ _)); first | walk1 | (dsimp only; walk1)) | (k_end; dsimp only; k_unfold; (try dsimp only)) | fail "no step"))
        rename Fr _ _ _ _ => F4
        rename News _ _ _ _ => N4
        rename IntsAre _ _ => hI4
        rename List.Perm _ _ => hp4
        rename List.Pairwise _ _ => ho4
        refine ⟨_, _, rfl, F4.keep, _, _, _, _, rfl, hnone _ (N4 _ (.head _)).2.2 (fun q => nomatch q), (N4 _ (.head _)).1, hI4, ?_, ho4⟩
        rw [has, hc] at hp4
        exact hp4

end

section
theorem dd_len (l : List (List Int)) : (dd l).length = nd l := by
  have gen : ∀ (l a : List (List Int)), (l.foldl (fun a x => if a.any (· == x) then a else a ++ [x]) a).length = a.length + nd (l.filter fun y => decide (y ∉ a)) := by
    intro l
    induction l with
    | nil => intro a; simp [nd]
    | cons x l ih =>
      intro a
      rw [List.foldl_cons]
      by_cases h : x ∈ a
      · have h1 : a.any (· == x) = true := List.any_eq_true.mpr ⟨x, h, beq_self_eq_true _⟩
        rw [h1, if_pos rfl, ih, List.filter_cons_of_neg (by simp [h])]
      · have h1 : a.any (· == x) = false := List.any_eq_false.mpr fun y hy q => h ((beq_iff_eq.mp q) ▸ hy)
        rw [h1, if_neg Bool.false_ne_true, ih, List.filter_cons_of_pos (by simp [h]), List.length_append]
        simp only [nd, List.length_cons, List.length_nil]
        have hr := nd_remove x (l.filter fun y => decide (y ∉ a))
        have hf : (l.filter fun y => decide (y ∉ a ++ [x])) = (l.filter fun y => decide (y ∉ a)).filter fun y => decide (y ≠ x) := by
          rw [List.filter_filter]
          congr 1
          funext y
          simp only [List.mem_append, List.mem_singleton, not_or, Bool.decide_and, ne_eq]
          rw [Bool.and_comm]
        rw [hf]
        by_cases c : x ∈ l.filter fun y => decide (y ∉ a)
        · rw [if_pos c] at hr ⊢; omega
        · rw [if_neg c] at hr ⊢; omega
  have := gen l []
  unfold dd
  rw [this]
  have e : (l.filter fun y => decide (y ∉ ([] : List (List Int)))) = l := List.filter_eq_self.mpr fun y _ => by simp
  rw [e]
  simp
theorem dv_dv (x : Int) {p : Int} (q : Int) (hp : 0 ≤ p) : x / p / q = x / (p * q) := (Int.ediv_ediv_of_nonneg hp)
theorem em_dv (x : Int) {p : Int} (q : Int) (hp : 0 < p) : x % (p * q) / p = x / p % q := by
  rw [Int.emod_def (x / p), dv_dv x q (Int.le_of_lt hp), Int.emod_def, Int.mul_assoc, Int.sub_eq_add_neg, ← Int.mul_neg, Int.add_mul_ediv_left _ _ (Int.ne_of_gt hp), Int.sub_eq_add_neg]
theorem em_em (x p q : Int) : x % (p * q) % p = x % p := Int.emod_emod_of_dvd x (Int.dvd_mul_right p q)
theorem em_sp (x : Int) {p : Int} (q : Int) (hp : 0 < p) : x / p % q * p + x % p = x % (p * q) := by
  rw [← em_dv x q hp, ← em_em x p q, Int.ediv_mul_add_emod]
theorem dv_same (x y : Int) {p : Int} (q : Int) (hp : 0 ≤ p) : (x / (p * q) = y / (p * q) ∧ x / p % q = y / p % q) ↔ x / p = y / p := by
  rw [← dv_dv x q hp, ← dv_dv y q hp]
  refine ⟨fun h => ?_, fun h => by rw [h]; exact ⟨rfl, rfl⟩⟩
  rw [← Int.mul_ediv_add_emod (x / p) q, h.1, h.2, Int.mul_ediv_add_emod]
theorem em_bd (x : Int) {q : Int} (hq : 0 < q) : 0 ≤ x % q ∧ x % q < q := ⟨Int.emod_nonneg x (Int.ne_of_gt hq), Int.emod_lt_of_pos x hq⟩
theorem dv_bd {x : Int} {p q : Int} (hp : 0 < p) (h0 : 0 ≤ x) (h1 : x < q * p) : 0 ≤ x / p ∧ x / p < q := ⟨Int.ediv_nonneg h0 (Int.le_of_lt hp), Int.ediv_lt_of_lt_mul hp h1⟩
noncomputable def oct (x : Int) : List Int := [x / 65536 % 256, x / 256 % 256, x % 256]
noncomputable def e64 (x y z : Int) : List Int := [t64 (x / 4), t64 ((x * 256 + y) / 16 % 64), t64 ((y * 256 + z) / 64 % 64), t64 (z % 64)]
noncomputable def e16 (x y z : Int) : List Int := [t16 (x / 16), t16 (x % 16), t16 (y / 16), t16 (y % 16), t16 (z / 16), t16 (z % 16)]
noncomputable def enc64 (x : Int) : List Int := e64 (x / 65536 % 256) (x / 256 % 256) (x % 256)
noncomputable def enc16 (x : Int) : List Int := e16 (x / 65536 % 256) (x / 256 % 256) (x % 256)
theorem em_top {x : Int} (h0 : 0 ≤ x) (h1 : x < 16777216) : x / 65536 % 256 = x / 65536 := Int.emod_eq_of_lt (dv_bd (q := 256) (by decide) h0 h1).1 (dv_bd (q := 256) (by decide) h0 h1).2
theorem enc64_eq {x : Int} (h0 : 0 ≤ x) (h1 : x < 16777216) : enc64 x = [t64 (x / 262144), t64 (x / 4096 % 64), t64 (x / 64 % 64), t64 (x % 64)] := by
  unfold enc64 e64
  have a1 : x / 65536 % 256 / 4 = x / 262144 := by rw [em_top h0 h1]; exact dv_dv x 4 (by decide)
  have b2 : x / 65536 % 256 * 256 + x / 256 % 256 = x / 256 % 65536 := by
    have := em_sp (x / 256) (p := 256) 256 (by decide)
    rwa [dv_dv x 256 (by decide)] at this
  have a2 : (x / 65536 % 256 * 256 + x / 256 % 256) / 16 % 64 = x / 4096 % 64 := by
    rw [b2, show (65536 : Int) = 16 * 4096 from rfl, em_dv _ (p := 16) _ (by decide), dv_dv _ (p := 256) _ (by decide), show (4096 : Int) = 64 * 64 from rfl, em_em]; rfl
  have a3 : (x / 256 % 256 * 256 + x % 256) / 64 % 64 = x / 64 % 64 := by
    rw [em_sp x (p := 256) 256 (by decide), show (256 * 256 : Int) = 64 * 1024 from rfl, em_dv _ (p := 64) _ (by decide), show (1024 : Int) = 64 * 16 from rfl, em_em]
  have a4 : x % 256 % 64 = x % 64 := em_em x 64 4
  rw [a1, a2, a3, a4]
theorem enc16_eq {x : Int} (h0 : 0 ≤ x) (h1 : x < 16777216) : enc16 x = [t16 (x / 1048576), t16 (x / 65536 % 16), t16 (x / 4096 % 16), t16 (x / 256 % 16), t16 (x / 16 % 16), t16 (x % 16)] := by
  unfold enc16 e16
  have d (y : Int) : y % 256 / 16 = y / 16 % 16 := em_dv y (p := 16) 16 (by decide)
  have e (y : Int) : y % 256 % 16 = y % 16 := em_em y 16 16
  have a1 : x / 65536 % 256 / 16 = x / 1048576 := by rw [em_top h0 h1]; exact dv_dv x 16 (by decide)
  have a3 : x / 256 % 256 / 16 = x / 4096 % 16 := by rw [d, dv_dv x 16 (by decide)]; rfl
  rw [a1, e, a3, e, d, e]
theorem t64_inj {a b : Int} (ha : 0 ≤ a ∧ a < 64) (hb : 0 ≤ b ∧ b < 64) : t64 a = t64 b ↔ a = b := by
  have key : ∀ i j : Fin 64, t64 (i.val : Int) = t64 (j.val : Int) → i = j := by decide +kernel
  obtain ⟨m, rfl⟩ := Int.eq_ofNat_of_zero_le ha.1
  obtain ⟨n, rfl⟩ := Int.eq_ofNat_of_zero_le hb.1
  refine ⟨fun h => ?_, fun h => by rw [h]⟩
  rw [Fin.mk.inj (key ⟨m, Int.ofNat_lt.mp ha.2⟩ ⟨n, Int.ofNat_lt.mp hb.2⟩ h)]
theorem t64_0 : t64 0 = 65 := by decide
theorem t16_inj {a b : Int} (ha : 0 ≤ a ∧ a < 16) (hb : 0 ≤ b ∧ b < 16) : t16 a = t16 b ↔ a = b := by
  have key : ∀ i j : Fin 16, t16 (i.val : Int) = t16 (j.val : Int) → i = j := by decide +kernel
  obtain ⟨m, rfl⟩ := Int.eq_ofNat_of_zero_le ha.1
  obtain ⟨n, rfl⟩ := Int.eq_ofNat_of_zero_le hb.1
  refine ⟨fun h => ?_, fun h => by rw [h]⟩
  rw [Fin.mk.inj (key ⟨m, Int.ofNat_lt.mp ha.2⟩ ⟨n, Int.ofNat_lt.mp hb.2⟩ h)]
theorem t16_0 : t16 0 = 48 := by decide
theorem snoc_iff {l m : List Int} {a b : Int} {P Q R : Prop} (h : l = m ↔ P) (h2 : a = b ↔ Q) (h3 : (P ∧ Q) ↔ R) : l ++ [a] = m ++ [b] ↔ R := by
  rw [← h3, ← h, ← h2]
  exact ⟨fun q => ⟨(List.append_inj' q rfl).1, (List.cons.inj (List.append_inj' q rfl).2).1⟩, fun q => by rw [q.1, q.2]⟩
/-- a writing whose first i + 1 signs tell x by 2 ^ d i -/
structure Wr (f : Int → List Int) (nu : UInt8) (sz : Nat) (d : Nat → Nat) : Prop where
  same : ∀ i, i < sz → ∀ x y : Int, (0 ≤ x ∧ x < 16777216) → (0 ≤ y ∧ y < 16777216) → ((f x).take (i + 1) = (f y).take (i + 1) ↔ x / 2 ^ d i = y / 2 ^ d i)
  zero : ∀ i, i < sz → (f 0).take (i + 1) = List.replicate (i + 1) (nu.toNat : Int)
  le : ∀ i, i < sz → d i ≤ 24
theorem wr64 : Wr enc64 65 4 (fun i => 18 - 6 * i) where
  same := by
    intro i hi x y hx hy
    rw [enc64_eq hx.1 hx.2, enc64_eq hy.1 hy.2]
    have b {p : Int} : t64 (x / p % 64) = t64 (y / p % 64) ↔ x / p % 64 = y / p % 64 := t64_inj (em_bd _ (by decide)) (em_bd _ (by decide))
    have d0 : [t64 (x / 262144)] = [t64 (y / 262144)] ↔ x / 262144 = y / 262144 := by
      rw [List.cons.injEq, and_iff_left rfl]
      exact t64_inj (dv_bd (by decide) hx.1 hx.2) (dv_bd (by decide) hy.1 hy.2)
    have d1 := snoc_iff d0 b (dv_same x y (p := 4096) 64 (by decide))
    have d2 := snoc_iff d1 b (dv_same x y (p := 64) 64 (by decide))
    match i, hi with
    | 0, _ => exact d0
    | 1, _ => exact d1
    | 2, _ => exact d2
    | 3, _ =>
      have d3 := snoc_iff d2 b (dv_same x y (p := 1) 64 (by decide))
      rw [Int.ediv_one, Int.ediv_one] at d3
      show _ ↔ x / 1 = y / 1
      rw [Int.ediv_one, Int.ediv_one]
      exact d3
    | n + 4, h => exact absurd h (Nat.not_lt.mpr (Nat.le_add_left 4 n))
  zero := by
    intro i hi
    rw [enc64_eq (by decide) (by decide)]
    match i, hi with
    | 0, _ => decide
    | 1, _ => decide
    | 2, _ => decide
    | 3, _ => decide
    | n + 4, h => exact absurd h (Nat.not_lt.mpr (Nat.le_add_left 4 n))
  le := fun i _ => Nat.le_trans (Nat.sub_le 18 _) (by decide)
theorem wr16 : Wr enc16 48 6 (fun i => 20 - 4 * i) where
  same := by
    intro i hi x y hx hy
    rw [enc16_eq hx.1 hx.2, enc16_eq hy.1 hy.2]
    have b {p : Int} : t16 (x / p % 16) = t16 (y / p % 16) ↔ x / p % 16 = y / p % 16 := t16_inj (em_bd _ (by decide)) (em_bd _ (by decide))
    have d0 : [t16 (x / 1048576)] = [t16 (y / 1048576)] ↔ x / 1048576 = y / 1048576 := by
      rw [List.cons.injEq, and_iff_left rfl]
      exact t16_inj (dv_bd (by decide) hx.1 hx.2) (dv_bd (by decide) hy.1 hy.2)
    have d1 := snoc_iff d0 b (dv_same x y (p := 65536) 16 (by decide))
    have d2 := snoc_iff d1 b (dv_same x y (p := 4096) 16 (by decide))
    have d3 := snoc_iff d2 b (dv_same x y (p := 256) 16 (by decide))
    have d4 := snoc_iff d3 b (dv_same x y (p := 16) 16 (by decide))
    match i, hi with
    | 0, _ => exact d0
    | 1, _ => exact d1
    | 2, _ => exact d2
    | 3, _ => exact d3
    | 4, _ => exact d4
    | 5, _ =>
      have d5 := snoc_iff d4 b (dv_same x y (p := 1) 16 (by decide))
      rw [Int.ediv_one, Int.ediv_one] at d5
      show _ ↔ x / 1 = y / 1
      rw [Int.ediv_one, Int.ediv_one]
      exact d5
    | n + 6, h => exact absurd h (Nat.not_lt.mpr (Nat.le_add_left 6 n))
  zero := by
    intro i hi
    rw [enc16_eq (by decide) (by decide)]
    match i, hi with
    | 0, _ => decide
    | 1, _ => decide
    | 2, _ => decide
    | 3, _ => decide
    | 4, _ => decide
    | 5, _ => decide
    | n + 6, h => exact absurd h (Nat.not_lt.mpr (Nat.le_add_left 6 n))
  le := fun i _ => Nat.le_trans (Nat.sub_le 20 _) (by decide)
noncomputable def cnt (f : Int → List Int) (nu : UInt8) (sz : Nat) (rs ts : List Int) : Prop :=
  ∀ i < sz, (dd ((rs.map f).map (·.take (i + 1)))).length + ((ts.map f).filter (fun m => m.take (i + 1) == List.replicate (i + 1) (nu.toNat : Int))).length = (rs.map f).length
theorem net_F {rs hp ts : List Int} (I : NetInv rs [] hp ts) : ts.Perm (F 24 [] rs) := by
  obtain ⟨S, _, _, _, _, hf⟩ := I.ex
  rw [List.map_nil, F_nil, List.append_nil] at hf
  exact hf
theorem blk24 {rs : List Int} (R : RowsOk rs) : blk 24 rs := fun x hx y hy => by
  have h1 := R.all x hx
  have h2 := R.all y hy
  have e1 : x / 2 ^ 24 = 0 := Int.ediv_eq_zero_of_lt h1.1 h1.2
  have e2 : y / 2 ^ 24 = 0 := Int.ediv_eq_zero_of_lt h2.1 h2.2
  rw [e1, e2]
theorem net_in {rs hp ts : List Int} (R : RowsOk rs) (I : NetInv rs [] hp ts) : ∀ t ∈ ts, 0 ≤ t ∧ t < 16777216 := fun t ht =>
  F_bd 24 (S := []) (O := rs) (blk24 R) (fun x hx => (R.all x hx).1) ((net_F I).mem_iff.mp ht)
theorem net_cnt {f : Int → List Int} {nu : UInt8} {sz : Nat} {d : Nat → Nat} (W : Wr f nu sz d) {rs hp ts : List Int} (R : RowsOk rs) (I : NetInv rs [] hp ts) : cnt f nu sz rs ts := by
  intro i hi
  have hle := W.le i hi
  obtain ⟨k, hk⟩ : ∃ k, d i + k = 24 := ⟨24 - d i, by omega⟩
  have hc := F_cnt (d i) k rs (by rw [hk]; exact blk24 R) fun x hx => (R.all x hx).1
  rw [hk] at hc
  have hT := net_in R I
  rw [dd_len, List.map_map, List.length_map]
  have e1 := nd_inj (fun x => (f x).take (i + 1)) (fun x : Int => x / 2 ^ d i) rs fun a ha b hb => W.same i hi a b (R.all a ha) (R.all b hb)
  have e2 : nd (rs.map ((fun x => x.take (i + 1)) ∘ f)) = nd (rs.map fun x => (f x).take (i + 1)) := rfl
  rw [e2, e1, List.filter_map, List.length_map]
  have e3 : (ts.filter ((fun m => m.take (i + 1) == List.replicate (i + 1) (nu.toNat : Int)) ∘ f)) = ts.filter fun t => decide (t < 2 ^ d i) := by
    apply List.filter_congr
    intro t ht
    have ht' := hT t ht
    have hs := W.same i hi t 0 ht' ⟨by decide, by decide⟩
    rw [W.zero i hi, Int.zero_ediv] at hs
    show ((f t).take (i + 1) == List.replicate (i + 1) (nu.toNat : Int)) = decide (t < 2 ^ d i)
    have hp := pow_pos2 (d i)
    by_cases c : t < 2 ^ d i
    · rw [decide_eq_true c]
      exact beq_iff_eq.mpr (hs.mpr (Int.ediv_eq_zero_of_lt ht'.1 c))
    · rw [decide_eq_false c]
      refine beq_eq_false_iff_ne.mpr fun q => c ?_
      have := hs.mp q
      have h9 := Int.lt_mul_ediv_self_add (x := t) hp
      rw [this, Int.mul_zero, Int.zero_add] at h9
      exact h9
  rw [e3, ((net_F I).filter _).length_eq]
  omega
noncomputable def sixty : Str := Str.ofString "ABCDEFGHIJKLMNOPQRSTUVWXYZabcdefghijklmnopqrstuvwxyz0123456789+/"
noncomputable def sixteen : Str := Str.ofString "0123456789ABCDEF"
theorem find64 {a : Int} (h : 0 ≤ a ∧ a < 64) : Txt.find sixty ⟨#[(t64 a).toNat]⟩ = a := by
  have key : ∀ i : Fin 64, Txt.find sixty ⟨#[(t64 (i.val : Int)).toNat]⟩ = (i.val : Int) := by decide +kernel
  obtain ⟨m, rfl⟩ := Int.eq_ofNat_of_zero_le h.1
  exact key ⟨m, by omega⟩
theorem find16 {a : Int} (h : 0 ≤ a ∧ a < 16) : Txt.find sixteen ⟨#[(t16 a).toNat]⟩ = a := by
  have key : ∀ i : Fin 16, Txt.find sixteen ⟨#[(t16 (i.val : Int)).toNat]⟩ = (i.val : Int) := by decide +kernel
  obtain ⟨m, rfl⟩ := Int.eq_ofNat_of_zero_le h.1
  exact key ⟨m, by omega⟩
theorem rd_step (x : Int) {p : Int} (q : Int) (hp : 0 ≤ p) : q * (x / (p * q)) + x / p % q = x / p := by
  rw [← dv_dv x q hp]; exact Int.mul_ediv_add_emod _ _
theorem read64 {x : Int} (h0 : 0 ≤ x) (h1 : x < 16777216) : (enc64 x).foldl (rdF sixty) 0 = x := by
  rw [enc64_eq h0 h1]
  have hl : (sixty.length : Int) = 64 := by decide +kernel
  have b (y : Int) : 0 ≤ y % 64 ∧ y % 64 < 64 := em_bd y (by decide)
  simp only [List.foldl_cons, List.foldl_nil, rdF, hl]
  rw [find64 (dv_bd (by decide) h0 h1), find64 (b _), find64 (b _), find64 (b _), Int.mul_zero, Int.zero_add]
  have s1 := rd_step x (p := 4096) 64 (by decide)
  have s2 := rd_step x (p := 64) 64 (by decide)
  have s3 := rd_step x (p := 1) 64 (by decide)
  simp only [Int.reduceMul, Int.ediv_one] at s1 s2 s3
  rw [s1, s2, s3]
theorem read16 {x : Int} (h0 : 0 ≤ x) (h1 : x < 16777216) : (enc16 x).foldl (rdF sixteen) 0 = x := by
  rw [enc16_eq h0 h1]
  have hl : (sixteen.length : Int) = 16 := by decide +kernel
  have b (y : Int) : 0 ≤ y % 16 ∧ y % 16 < 16 := em_bd y (by decide)
  simp only [List.foldl_cons, List.foldl_nil, rdF, hl]
  rw [find16 (dv_bd (by decide) h0 h1), find16 (b _), find16 (b _), find16 (b _), find16 (b _), find16 (b _), Int.mul_zero, Int.zero_add]
  have s1 := rd_step x (p := 65536) 16 (by decide)
  have s2 := rd_step x (p := 4096) 16 (by decide)
  have s3 := rd_step x (p := 256) 16 (by decide)
  have s4 := rd_step x (p := 16) 16 (by decide)
  have s5 := rd_step x (p := 1) 16 (by decide)
  simp only [Int.reduceMul, Int.ediv_one] at s1 s2 s3 s4 s5
  rw [s1, s2, s3, s4, s5]
noncomputable def rowsOf (ns : List Int) : List Int := [5, 7, 70] ++ (ns.take 4).map (fun x => Int.fmod x 16777216)
theorem rows_ok (ns : List Int) : RowsOk (rowsOf ns) where
  lo := by unfold rowsOf; simp
  hi := by unfold rowsOf; simp; omega
  all := by
    intro x hx
    unfold rowsOf at hx
    rcases List.mem_append.mp hx with hx | hx
    · simp only [List.mem_cons, List.not_mem_nil, or_false] at hx
      omega
    · obtain ⟨y, _, rfl⟩ := List.mem_map.mp hx
      have h1 := Int.fmod_nonneg_of_pos y (b := 16777216) (by decide)
      have h2 := Int.fmod_lt_of_pos y (b := 16777216) (by decide)
      exact ⟨h1, h2⟩

end

section
theorem szOf_le {a : Int} (h : 0 ≤ a) (k : Nat) : szOf a ≤ k ↔ a < 2 ^ k := by
  obtain ⟨n, rfl⟩ := Int.eq_ofNat_of_zero_le h
  rw [two_pow_cast]
  have hp : 0 < 2 ^ k := Nat.pos_of_ne_zero (by simp)
  unfold szOf
  by_cases c : n = 0
  · subst c
    rw [if_pos (by simp)]
    constructor
    · intro _; omega
    · intro _; exact Nat.zero_le _
  · rw [if_neg (by omega), Int.toNat_natCast]
    have := Nat.log2_lt (n := n) (k := k) c
    constructor
    · intro q; have := this.mp (by omega); omega
    · intro q; have := this.mpr (by omega); omega
noncomputable def In24 (x : Int) : Prop := 0 ≤ x ∧ x < 16777216
theorem xr_24 {x y : Int} (hx : In24 x) (hy : In24 y) : xr x y < 2 ^ 24 := by
  refine (xr_lt hx.1 hy.1 24).mpr ?_
  have e1 : x / 2 ^ 24 = 0 := Int.ediv_eq_zero_of_lt hx.1 hx.2
  have e2 : y / 2 ^ 24 = 0 := Int.ediv_eq_zero_of_lt hy.1 hy.2
  rw [e1, e2]
theorem sz_iff {x y : Int} (hx : In24 x) (hy : In24 y) (k : Nat) : szOf (xr x y) ≤ k ↔ x / 2 ^ k = y / 2 ^ k :=
  (szOf_le (xr_nonneg hx.1 hy.1) k).trans (xr_lt hx.1 hy.1 k)
theorem sz_24 {x y : Int} (hx : In24 x) (hy : In24 y) : szOf (xr x y) ≤ 24 := (szOf_le (xr_nonneg hx.1 hy.1) 24).mpr (xr_24 hx hy)
noncomputable def key (x y : Int) : Int := begOf x (szOf (xr x y))
theorem beg_is {k : Nat} (hk : k ≤ 24) (x : Int) : begOf x k = 2 ^ (24 - k) + x / 2 ^ k := by
  unfold begOf
  have e : (16777216 : Int) = 2 ^ (24 - k) * 2 ^ k := by
    rw [← Int.pow_add, Nat.sub_add_cancel hk]; rfl
  have hp := pow_pos2 k
  rw [e, Int.add_comm, Int.add_mul_ediv_right _ _ (by omega), Int.add_comm]
theorem beg_lv {k : Nat} (hk : k ≤ 24) {x : Int} (hx : In24 x) : 2 ^ (24 - k) ≤ begOf x k ∧ begOf x k < 2 ^ (24 - k) * 2 := by
  rw [beg_is hk]
  have hp := pow_pos2 k
  have h1 : 0 ≤ x / 2 ^ k := Int.ediv_nonneg hx.1 (by omega)
  have h2 : x / 2 ^ k < 2 ^ (24 - k) := by
    apply Int.ediv_lt_of_lt_mul hp
    rw [← Int.pow_add, Nat.sub_add_cancel hk]
    exact hx.2
  omega
theorem pow_mono {a b : Nat} (h : a < b) : (2 : Int) ^ a * 2 ≤ 2 ^ b := by
  rw [← Int.pow_succ, two_pow_cast, two_pow_cast]
  exact Int.ofNat_le.mpr (Nat.pow_le_pow_right (by decide) h)
theorem beg_inj {k k' : Nat} (hk : k ≤ 24) (hk' : k' ≤ 24) {x x' : Int} (hx : In24 x) (hx' : In24 x') (h : begOf x k = begOf x' k') : k = k' ∧ x / 2 ^ k = x' / 2 ^ k' := by
  have l1 := beg_lv hk hx
  have l2 := beg_lv hk' hx'
  have e : k = k' := by
    rcases Nat.lt_trichotomy k k' with c | c | c
    · have := pow_mono (a := 24 - k') (b := 24 - k) (by omega); omega
    · exact c
    · have := pow_mono (a := 24 - k) (b := 24 - k') (by omega); omega
  subst e
  rw [beg_is hk, beg_is hk] at h
  exact ⟨rfl, by omega⟩
/-- K is the beginning of a parting of A, v its xor -/
noncomputable def Rl (A : List Int) (K v : Int) : Prop := ∃ x ∈ A, ∃ y ∈ A, szOf (xr x y) ≠ 0 ∧ key x y = K ∧ xr x y = v
structure Sp (c : List (Int × Int)) (R : Int → Int → Prop) : Prop where
  nodup : (c.map (·.1)).Nodup
  sound : ∀ K v, (K, v) ∈ c → R K v ∧ ∀ v', R K v' → v ≤ v'
  full : ∀ K v, R K v → ∃ v', (K, v') ∈ c
theorem Sp.perm {c d : List (Int × Int)} {R : Int → Int → Prop} (hc : Sp c R) (hd : Sp d R) : c.Perm d := by
  have one : ∀ {c d : List (Int × Int)}, Sp c R → Sp d R → ∀ p, p ∈ c → p ∈ d := by
    rintro c d hc hd ⟨K, v⟩ hp
    obtain ⟨h1, h2⟩ := hc.sound K v hp
    obtain ⟨v', hv'⟩ := hd.full K v h1
    obtain ⟨h3, h4⟩ := hd.sound K v' hv'
    have a := h2 v' h3
    have b := h4 v h1
    have : v = v' := by omega
    rw [this]; exact hv'
  have nd' : ∀ {c : List (Int × Int)}, Sp c R → c.Nodup := fun h => by
    have := h.nodup
    rw [List.nodup_iff_pairwise_ne, List.pairwise_map] at this
    exact this.imp fun {a b} q e => q (by rw [e])
  exact (List.perm_ext_iff_of_nodup (nd' hc) (nd' hd)).mpr fun p => ⟨one hc hd p, one hd hc p⟩

noncomputable def node (e : Nat) (A : List Int) : List (Int × Int) := if lo e A = [] ∨ hi e A = [] then [] else [(begOf (A.headD 0) (e + 1), minX (lo e A) (hi e A))]
noncomputable def Nn : Nat → List Int → List (Int × Int)
  | 0, _ => []
  | e + 1, A => Nn e (lo e A) ++ (Nn e (hi e A) ++ node e A)
theorem nd_le : ∀ l : List Int, nd l ≤ l.length := by
  intro l
  induction l with
  | nil => exact Nat.le_refl _
  | cons a l ih => simp only [nd, List.length_cons]; split <;> omega
theorem F_N : ∀ (e : Nat) (A : List Int), blk e A → (F e [] A).Perm (List.replicate (A.length - nd A) 0 ++ (Nn e A).map (·.2)) := by
  intro e
  induction e with
  | zero =>
    intro A hB
    have hc := nd_const (fun x : Int => x) A fun a ha b hb => by have := hB a ha b hb; simpa using this
    simp only [List.map_id'] at hc
    unfold F Nn
    rw [if_pos rfl, hc, List.map_nil, List.append_nil]
    cases A with
    | nil => exact List.Perm.refl _
    | cons a A => rw [if_neg (List.cons_ne_nil _ _)]
  | succ e ih =>
    intro A hB
    have i1 := ih (lo e A) (blk_lo hB)
    have i2 := ih (hi e A) (blk_hi hB)
    have hs := nd_split (fun x : Int => x) (bt e) A fun a _ b _ q => by rw [q]
    simp only [List.map_id'] at hs
    have hl := len_split e A
    have h1 := nd_le (lo e A)
    have h2 := nd_le (hi e A)
    have hn : A.length - nd A = ((lo e A).length - nd (lo e A)) + ((hi e A).length - nd (hi e A)) := by
      rw [hs]
      unfold lo hi at *
      omega
    have hx : cross e [] A = (node e A).map (·.2) := by
      unfold cross node
      have l0 : lo e ([] : List Int) = [] := rfl
      have c0 : ((lo e ([] : List Int) ≠ [] ∧ hi e ([] : List Int) ≠ []) ∨ lo e ([] ++ A) = [] ∨ hi e ([] ++ A) = []) ↔ (lo e A = [] ∨ hi e A = []) := by
        rw [l0, List.nil_append]
        constructor
        · rintro (q | q)
          · exact absurd rfl q.1
          · exact q
        · intro q; exact .inr q
      by_cases c : lo e A = [] ∨ hi e A = []
      · rw [if_pos (c0.mpr c), if_pos c]; rfl
      · rw [if_neg fun q => c (c0.mp q), if_neg c]; rfl
    have hF : F (e + 1) [] A = F e [] (lo e A) ++ (F e [] (hi e A) ++ cross e [] A) := rfl
    have hN : Nn (e + 1) A = Nn e (lo e A) ++ (Nn e (hi e A) ++ node e A) := rfl
    rw [hF, hN, hx, hn, ← List.replicate_append_replicate, List.map_append, List.map_append]
    refine (i1.append (i2.append (List.Perm.refl _))).trans ?_
    rw [List.perm_iff_count]
    intro b
    simp only [List.count_append]
    omega
theorem Nn_sp : ∀ (e : Nat) (A : List Int), e ≤ 24 → blk e A → (∀ x ∈ A, In24 x) → Sp (Nn e A) (Rl A) := by
  intro e
  induction e with
  | zero =>
    intro A _ hB h0
    refine ⟨List.nodup_nil, fun K v h => (nomatch h), fun K v ⟨x, hx, y, hy, hs, _⟩ => ?_⟩
    exfalso
    exact hs (Nat.le_zero.mp ((sz_iff (h0 x hx) (h0 y hy) 0).mpr (hB x hx y hy)))
  | succ e ih =>
    intro A he hB h0
    have i1 := ih (lo e A) (by omega) (blk_lo hB) fun x hx => h0 x (mem_lo.mp hx).1
    have i2 := ih (hi e A) (by omega) (blk_hi hB) fun x hx => h0 x (mem_hi.mp hx).1
    -- the kinds of partings
    have near : ∀ x ∈ A, ∀ y ∈ A, bt e x = bt e y → szOf (xr x y) ≤ e := fun x hx y hy q => (sz_iff (h0 x hx) (h0 y hy) e).mpr (same_half (hB x hx y hy) q)
    have far : ∀ x ∈ A, ∀ y ∈ A, bt e x ≠ bt e y → szOf (xr x y) = e + 1 := fun x hx y hy q => by
      have a := (sz_iff (h0 x hx) (h0 y hy) (e + 1)).mpr (hB x hx y hy)
      have b : ¬ szOf (xr x y) ≤ e := fun z => other_half q ((sz_iff (h0 x hx) (h0 y hy) e).mp z)
      omega
    have lvl : ∀ x ∈ A, ∀ y ∈ A, bt e x = bt e y → ∀ x' ∈ A, ∀ y' ∈ A, bt e x' ≠ bt e y' → key x y ≠ key x' y' := fun x hx y hy q x' hx' y' hy' q' h => by
      have a := near x hx y hy q
      have b := far x' hx' y' hy' q'
      have := (beg_inj (sz_24 (h0 x hx) (h0 y hy)) (sz_24 (h0 x' hx') (h0 y' hy')) (h0 x hx) (h0 x' hx') h).1
      omega
    have side : ∀ x ∈ A, ∀ y ∈ A, bt e x = bt e y → ∀ x' ∈ A, ∀ y' ∈ A, bt e x' = bt e y' → key x y = key x' y' → bt e x = bt e x' := fun x hx y hy q x' hx' y' hy' q' h => by
      have a := near x hx y hy q
      obtain ⟨k1, k2⟩ := beg_inj (sz_24 (h0 x hx) (h0 y hy)) (sz_24 (h0 x' hx') (h0 y' hy')) (h0 x hx) (h0 x' hx') h
      rw [← k1] at k2
      have := nat_div_le a k2
      unfold bt; rw [this]
    have kb : ∀ x ∈ A, ∀ y ∈ A, bt e x ≠ bt e y → key x y = begOf (A.headD 0) (e + 1) := fun x hx y hy q => by
      unfold key
      rw [far x hx y hy q, beg_is he, beg_is he]
      cases A with
      | nil => cases hx
      | cons a A => rw [hB x hx a (.head _)]; rfl
    have rlo : ∀ {K v}, Rl (lo e A) K v → ∃ x ∈ A, ∃ y ∈ A, bt e x = false ∧ bt e y = false ∧ szOf (xr x y) ≠ 0 ∧ key x y = K ∧ xr x y = v := by
      rintro K v ⟨x, hx, y, hy, r⟩
      rw [mem_lo] at hx hy
      exact ⟨x, hx.1, y, hy.1, hx.2, hy.2, r⟩
    have rhi : ∀ {K v}, Rl (hi e A) K v → ∃ x ∈ A, ∃ y ∈ A, bt e x = true ∧ bt e y = true ∧ szOf (xr x y) ≠ 0 ∧ key x y = K ∧ xr x y = v := by
      rintro K v ⟨x, hx, y, hy, r⟩
      rw [mem_hi] at hx hy
      exact ⟨x, hx.1, y, hy.1, hx.2, hy.2, r⟩
    have lo_of : ∀ {K v v'}, Rl (lo e A) K v → Rl A K v' → Rl (lo e A) K v' := by
      rintro K v v' h ⟨x', hx', y', hy', hs', hk', hv'⟩
      obtain ⟨x, hx, y, hy, bx, by', _, hk, _⟩ := rlo h
      by_cases q : bt e x' = bt e y'
      · have := side x hx y hy (bx.trans by'.symm) x' hx' y' hy' q (hk.trans hk'.symm)
        rw [bx] at this
        exact ⟨x', mem_lo.mpr ⟨hx', this.symm⟩, y', mem_lo.mpr ⟨hy', q.symm.trans this.symm⟩, hs', hk', hv'⟩
      · exact absurd (hk.trans hk'.symm) (lvl x hx y hy (bx.trans by'.symm) x' hx' y' hy' q)
    have hi_of : ∀ {K v v'}, Rl (hi e A) K v → Rl A K v' → Rl (hi e A) K v' := by
      rintro K v v' h ⟨x', hx', y', hy', hs', hk', hv'⟩
      obtain ⟨x, hx, y, hy, bx, by', _, hk, _⟩ := rhi h
      by_cases q : bt e x' = bt e y'
      · have := side x hx y hy (bx.trans by'.symm) x' hx' y' hy' q (hk.trans hk'.symm)
        rw [bx] at this
        exact ⟨x', mem_hi.mpr ⟨hx', this.symm⟩, y', mem_hi.mpr ⟨hy', q.symm.trans this.symm⟩, hs', hk', hv'⟩
      · exact absurd (hk.trans hk'.symm) (lvl x hx y hy (bx.trans by'.symm) x' hx' y' hy' q)
    have nodeIn : ∀ {K v}, (K, v) ∈ node e A → (lo e A ≠ [] ∧ hi e A ≠ []) ∧ K = begOf (A.headD 0) (e + 1) ∧ v = minX (lo e A) (hi e A) := by
      intro K v h
      unfold node at h
      split at h
      · cases h
      · rename_i c
        have := List.mem_singleton.mp h
        exact ⟨⟨fun q => c (.inl q), fun q => c (.inr q)⟩, congrArg Prod.fst this, congrArg Prod.snd this⟩
    have nodeR : ∀ {K v}, (K, v) ∈ node e A → Rl A K v := by
      intro K v h
      obtain ⟨⟨n1, n2⟩, hk, hv⟩ := nodeIn h
      obtain ⟨⟨a, ha, b, hb, q⟩, _⟩ := minX_spec n1 n2
      rw [mem_lo] at ha
      rw [mem_hi] at hb
      have df : bt e a ≠ bt e b := by rw [ha.2, hb.2]; decide
      refine ⟨a, ha.1, b, hb.1, ?_, (kb a ha.1 b hb.1 df).trans hk.symm, q.symm.trans hv.symm⟩
      rw [far a ha.1 b hb.1 df]; omega
    have nodeLvl : ∀ {K v}, (K, v) ∈ node e A → ∀ x ∈ A, ∀ y ∈ A, bt e x = bt e y → key x y ≠ K := by
      intro K v h x hx y hy q z
      obtain ⟨⟨n1, n2⟩, hk, _⟩ := nodeIn h
      obtain ⟨a, ha⟩ := List.exists_mem_of_ne_nil _ n1
      obtain ⟨b, hb⟩ := List.exists_mem_of_ne_nil _ n2
      rw [mem_lo] at ha
      rw [mem_hi] at hb
      have df : bt e a ≠ bt e b := by rw [ha.2, hb.2]; decide
      exact lvl x hx y hy q a ha.1 b hb.1 df (z.trans (hk.trans (kb a ha.1 b hb.1 df).symm))
    refine ⟨?_, ?_, ?_⟩
    · show ((Nn e (lo e A) ++ (Nn e (hi e A) ++ node e A)).map (·.1)).Nodup
      rw [List.map_append, List.map_append, List.nodup_append, List.nodup_append]
      refine ⟨i1.nodup, ⟨i2.nodup, ?_, ?_⟩, ?_⟩
      · unfold node
        split
        · exact List.nodup_nil
        · simp
      · intro K1 h1 K2 h2 q
        obtain ⟨⟨_, v1⟩, m1, rfl⟩ := List.mem_map.mp h1
        obtain ⟨⟨_, v2⟩, m2, rfl⟩ := List.mem_map.mp h2
        obtain ⟨x, hx, y, hy, bx, by', _, hk, _⟩ := rhi (i2.sound _ _ m1).1
        exact nodeLvl m2 x hx y hy (bx.trans by'.symm) (hk.trans q)
      · intro K1 h1 K2 h2 q
        obtain ⟨⟨_, v1⟩, m1, rfl⟩ := List.mem_map.mp h1
        obtain ⟨x, hx, y, hy, bx, by', _, hk, _⟩ := rlo (i1.sound _ _ m1).1
        rcases List.mem_append.mp h2 with h2 | h2
        · obtain ⟨⟨_, v2⟩, m2, rfl⟩ := List.mem_map.mp h2
          obtain ⟨x', hx', y', hy', bx', by'', _, hk', _⟩ := rhi (i2.sound _ _ m2).1
          have := side x hx y hy (bx.trans by'.symm) x' hx' y' hy' (bx'.trans by''.symm) (hk.trans (q.trans hk'.symm))
          rw [bx, bx'] at this
          cases this
        · obtain ⟨⟨_, v2⟩, m2, rfl⟩ := List.mem_map.mp h2
          exact nodeLvl m2 x hx y hy (bx.trans by'.symm) (hk.trans q)
    · intro K v h
      rcases List.mem_append.mp h with h | h
      · obtain ⟨a1, a2⟩ := i1.sound K v h
        obtain ⟨x, hx, y, hy, _, _, r⟩ := rlo a1
        exact ⟨⟨x, hx, y, hy, r⟩, fun v' h' => a2 v' (lo_of a1 h')⟩
      · rcases List.mem_append.mp h with h | h
        · obtain ⟨a1, a2⟩ := i2.sound K v h
          obtain ⟨x, hx, y, hy, _, _, r⟩ := rhi a1
          exact ⟨⟨x, hx, y, hy, r⟩, fun v' h' => a2 v' (hi_of a1 h')⟩
        · refine ⟨nodeR h, fun v' h' => ?_⟩
          obtain ⟨⟨n1, n2⟩, hk, hv⟩ := nodeIn h
          obtain ⟨x, hx, y, hy, _, hk', hv'⟩ := h'
          have hm := (minX_spec n1 n2).2
          cases bx : bt e x <;> cases by' : bt e y
          · exact absurd hk' (nodeLvl h x hx y hy (bx.trans by'.symm))
          · have := hm x (mem_lo.mpr ⟨hx, bx⟩) y (mem_hi.mpr ⟨hy, by'⟩); omega
          · have := hm y (mem_lo.mpr ⟨hy, by'⟩) x (mem_hi.mpr ⟨hx, bx⟩)
            rw [xr_comm y x] at this; omega
          · exact absurd hk' (nodeLvl h x hx y hy (bx.trans by'.symm))
    · rintro K v ⟨x, hx, y, hy, hs, hk, hv⟩
      by_cases q : bt e x = bt e y
      · cases bx : bt e x
        · obtain ⟨v', h'⟩ := i1.full K v ⟨x, mem_lo.mpr ⟨hx, bx⟩, y, mem_lo.mpr ⟨hy, q.symm.trans bx⟩, hs, hk, hv⟩
          exact ⟨v', List.mem_append_left _ h'⟩
        · obtain ⟨v', h'⟩ := i2.full K v ⟨x, mem_hi.mpr ⟨hx, bx⟩, y, mem_hi.mpr ⟨hy, q.symm.trans bx⟩, hs, hk, hv⟩
          exact ⟨v', List.mem_append_right _ (List.mem_append_left _ h')⟩
      · refine ⟨minX (lo e A) (hi e A), List.mem_append_right _ (List.mem_append_right _ ?_)⟩
        unfold node
        rw [if_neg, ← hk, kb x hx y hy q]
        · exact .head _
        · cases bx : bt e x <;> cases by' : bt e y
          · exact absurd (bx.trans by'.symm) q
          · rintro (z | z)
            · exact List.ne_nil_of_mem (mem_lo.mpr ⟨hx, bx⟩) z
            · exact List.ne_nil_of_mem (mem_hi.mpr ⟨hy, by'⟩) z
          · rintro (z | z)
            · exact List.ne_nil_of_mem (mem_lo.mpr ⟨hy, by'⟩) z
            · exact List.ne_nil_of_mem (mem_hi.mpr ⟨hx, bx⟩) z
          · exact absurd (bx.trans by'.symm) q
-- the dict's side
theorem put_keys (c : List (Int × Int)) (k v : Int) : (put c k v).map (·.1) = if k ∈ c.map (·.1) then c.map (·.1) else c.map (·.1) ++ [k] := by
  unfold put
  have ha : (c.any fun p => decide (p.1 = k)) = true ↔ k ∈ c.map (·.1) := by
    rw [List.any_eq_true, List.mem_map]
    constructor
    · rintro ⟨p, hp, e⟩; exact ⟨p, hp, of_decide_eq_true e⟩
    · rintro ⟨p, hp, e⟩; exact ⟨p, hp, decide_eq_true e⟩
  by_cases h : k ∈ c.map (·.1)
  · rw [if_pos (ha.mpr h), if_pos h, List.map_map]
    apply List.map_congr_left
    intro p _
    simp only [Function.comp]
    split <;> rfl
  · rw [if_neg fun q => h (ha.mp q), if_neg h, List.map_append]; rfl
theorem put_mem (c : List (Int × Int)) (k v K V : Int) : (K, V) ∈ put c k v ↔ (K = k ∧ V = v) ∨ (K ≠ k ∧ (K, V) ∈ c) := by
  unfold put
  have ha : (c.any fun p => decide (p.1 = k)) = true ↔ ∃ p ∈ c, p.1 = k := by
    rw [List.any_eq_true]
    constructor
    · rintro ⟨p, hp, e⟩; exact ⟨p, hp, of_decide_eq_true e⟩
    · rintro ⟨p, hp, e⟩; exact ⟨p, hp, decide_eq_true e⟩
  by_cases h : ∃ p ∈ c, p.1 = k
  · rw [if_pos (ha.mpr h), List.mem_map]
    constructor
    · rintro ⟨p, hp, e⟩
      by_cases q : p.1 = k
      · rw [if_pos q] at e
        cases e
        exact .inl ⟨q, rfl⟩
      · rw [if_neg q] at e
        subst e
        exact .inr ⟨q, hp⟩
    · rintro (⟨rfl, rfl⟩ | ⟨h1, h2⟩)
      · obtain ⟨p, hp, q⟩ := h
        exact ⟨p, hp, by rw [if_pos q, q]⟩
      · exact ⟨(K, V), h2, by rw [if_neg h1]⟩
  · rw [if_neg fun q => h (ha.mp q), List.mem_append, List.mem_singleton]
    constructor
    · rintro (h1 | h1)
      · exact .inr ⟨fun q => h ⟨_, h1, q⟩, h1⟩
      · cases h1; exact .inl ⟨rfl, rfl⟩
    · rintro (⟨rfl, rfl⟩ | ⟨_, h2⟩)
      · exact .inr rfl
      · exact .inl h2
theorem look_spec {c : List (Int × Int)} (hn : (c.map (·.1)).Nodup) (k : Int) : (look c k = none ∧ ∀ v, (k, v) ∉ c) ∨ ∃ v, look c k = some v ∧ (k, v) ∈ c ∧ ∀ v', (k, v') ∈ c → v' = v := by
  induction c with
  | nil => exact .inl ⟨rfl, fun v h => by cases h⟩
  | cons p c ih =>
    rw [List.map_cons, List.nodup_cons] at hn
    unfold look
    by_cases e : p.1 = k
    · refine .inr ⟨p.2, by rw [List.find?_cons_of_pos (by simpa using e)]; rfl, by rw [← e]; exact .head _, fun v' h => ?_⟩
      rcases List.mem_cons.mp h with h | h
      · rw [← h]
      · exact absurd (List.mem_map.mpr ⟨(k, v'), h, rfl⟩) (e ▸ hn.1)
    · rw [List.find?_cons_of_neg (by simpa using e)]
      rcases ih hn.2 with ⟨h1, h2⟩ | ⟨v, h1, h2, h3⟩
      · refine .inl ⟨h1, fun v h => ?_⟩
        rcases List.mem_cons.mp h with h | h
        · exact e (by rw [← h])
        · exact h2 v h
      · refine .inr ⟨v, h1, .tail _ h2, fun v' h => ?_⟩
        rcases List.mem_cons.mp h with h | h
        · exact absurd (by rw [← h]) e
        · exact h3 v' h
noncomputable def st (c : List (Int × Int)) (p : Int × Int) : List (Int × Int) :=
  if szOf (xr p.1 p.2) = 0 then c else put c (key p.1 p.2) (min (xr p.1 p.2) ((look c (key p.1 p.2)).getD (xr p.1 p.2)))
noncomputable def Rp (P : List (Int × Int)) (K v : Int) : Prop := ∃ p ∈ P, szOf (xr p.1 p.2) ≠ 0 ∧ key p.1 p.2 = K ∧ xr p.1 p.2 = v
theorem Rp_app {P : List (Int × Int)} {p : Int × Int} {K v : Int} : Rp (P ++ [p]) K v ↔ Rp P K v ∨ (szOf (xr p.1 p.2) ≠ 0 ∧ key p.1 p.2 = K ∧ xr p.1 p.2 = v) := by
  unfold Rp
  constructor
  · rintro ⟨q, hq, r⟩
    rcases List.mem_append.mp hq with hq | hq
    · exact .inl ⟨q, hq, r⟩
    · rw [List.mem_singleton.mp hq] at r; exact .inr r
  · rintro (⟨q, hq, r⟩ | r)
    · exact ⟨q, List.mem_append_left _ hq, r⟩
    · exact ⟨p, List.mem_append_right _ (.head _), r⟩
theorem st_sp {c : List (Int × Int)} {P : List (Int × Int)} (p : Int × Int) (h : Sp c (Rp P)) : Sp (st c p) (Rp (P ++ [p])) := by
  unfold st
  by_cases hz : szOf (xr p.1 p.2) = 0
  · rw [if_pos hz]
    have e : ∀ K v, Rp (P ++ [p]) K v ↔ Rp P K v := fun K v => by
      rw [Rp_app]; exact ⟨fun q => q.elim id fun r => absurd hz r.1, .inl⟩
    exact ⟨h.nodup, fun K v hm => ⟨(e K v).mpr (h.sound K v hm).1, fun v' hv' => (h.sound K v hm).2 v' ((e K v').mp hv')⟩, fun K v hr => h.full K v ((e K v).mp hr)⟩
  · rw [if_neg hz]
    have hls := look_spec h.nodup (key p.1 p.2)
    generalize hm : min (xr p.1 p.2) ((look c (key p.1 p.2)).getD (xr p.1 p.2)) = m
    refine ⟨?_, ?_, ?_⟩
    · rw [put_keys]
      split
      · exact h.nodup
      · rename_i hk
        rw [List.nodup_append]
        refine ⟨h.nodup, by simp, fun a ha b hb q => ?_⟩
        rw [List.mem_singleton.mp hb] at q
        exact hk (q ▸ ha)
    · intro K v hmem
      rcases (put_mem _ _ _ _ _).mp hmem with ⟨rfl, hV⟩ | ⟨hK, hmem⟩
      · rw [hV]
        rcases hls with ⟨l1, l2⟩ | ⟨v0, l1, l2, _⟩
        · rw [l1] at hm
          have hm' : m = xr p.1 p.2 := by rw [← hm]; show min (xr p.1 p.2) (xr p.1 p.2) = _; omega
          refine ⟨Rp_app.mpr (.inr ⟨hz, rfl, hm'.symm⟩), fun v' hv' => ?_⟩
          rcases Rp_app.mp hv' with hv' | hv'
          · obtain ⟨v2, h2⟩ := h.full _ _ hv'
            exact absurd h2 (l2 v2)
          · omega
        · rw [l1] at hm
          have hm' : m = min (xr p.1 p.2) v0 := hm.symm
          obtain ⟨s1, s2⟩ := h.sound _ _ l2
          constructor
          · rcases Int.le_total (xr p.1 p.2) v0 with q | q
            · exact Rp_app.mpr (.inr ⟨hz, rfl, by omega⟩)
            · have : m = v0 := by omega
              rw [this]
              exact Rp_app.mpr (.inl s1)
          · intro v' hv'
            rcases Rp_app.mp hv' with hv' | hv'
            · have := s2 v' hv'; omega
            · have := hv'.2.2; omega
      · obtain ⟨s1, s2⟩ := h.sound _ _ hmem
        refine ⟨Rp_app.mpr (.inl s1), fun v' hv' => ?_⟩
        rcases Rp_app.mp hv' with hv' | hv'
        · exact s2 v' hv'
        · exact absurd hv'.2.1.symm hK
    · intro K v hr
      by_cases hK : K = key p.1 p.2
      · exact ⟨m, (put_mem _ _ _ _ _).mpr (.inl ⟨hK, rfl⟩)⟩
      · rcases Rp_app.mp hr with hr | hr
        · obtain ⟨v', h'⟩ := h.full K v hr
          exact ⟨v', (put_mem _ _ _ _ _).mpr (.inr ⟨hK, h'⟩)⟩
        · exact absurd hr.2.1.symm hK
theorem fold_sp : ∀ (Q P : List (Int × Int)) (c : List (Int × Int)), Sp c (Rp P) → Sp (Q.foldl st c) (Rp (P ++ Q)) := by
  intro Q
  induction Q with
  | nil => intro P c h; rw [List.append_nil]; exact h
  | cons p Q ih =>
    intro P c h
    have := ih (P ++ [p]) _ (st_sp p h)
    rw [List.append_assoc] at this
    exact this
noncomputable def prs (rs : List Int) (n : Nat) : List (Int × Int) := (List.range n).flatMap fun j => (List.range j).map fun i => (rs.getD i 0, rs.getD j 0)
theorem pAll_fold (rs : List Int) (n : Nat) : pAll rs n = (prs rs n).foldl st [] := by
  unfold pAll prs
  rw [List.foldl_flatMap]
  congr 1
  funext c j
  unfold pRow
  rw [List.foldl_map]
  rfl
theorem key_comm {x y : Int} (hx : In24 x) (hy : In24 y) : key x y = key y x := by
  unfold key
  have h := sz_24 hx hy
  have e : x / 2 ^ szOf (xr x y) = y / 2 ^ szOf (xr x y) := (sz_iff hx hy _).mp (Nat.le_refl _)
  rw [xr_comm y x, beg_is h, beg_is h, e]
theorem prs_sp {rs : List Int} (h0 : ∀ x ∈ rs, In24 x) : Sp (pAll rs rs.length) (Rl rs) := by
  have h := fold_sp (prs rs rs.length) [] [] ⟨List.nodup_nil, fun K v q => (nomatch q), fun K v ⟨p, hp, _⟩ => (nomatch hp)⟩
  rw [← pAll_fold, List.nil_append] at h
  have gm : ∀ i, i < rs.length → rs.getD i 0 ∈ rs := fun i hi => getD_mem hi
  have e : ∀ K v, Rp (prs rs rs.length) K v ↔ Rl rs K v := by
    intro K v
    constructor
    · rintro ⟨p, hp, r⟩
      obtain ⟨j, hj, hp⟩ := List.mem_flatMap.mp hp
      obtain ⟨i, hi, rfl⟩ := List.mem_map.mp hp
      have hj' := List.mem_range.mp hj
      have hi' := List.mem_range.mp hi
      exact ⟨_, gm i (by omega), _, gm j hj', r⟩
    · rintro ⟨x, hx, y, hy, hs, hk, hv⟩
      obtain ⟨i, hi, rfl⟩ := List.getElem_of_mem hx
      obtain ⟨j, hj, rfl⟩ := List.getElem_of_mem hy
      have gi : rs.getD i 0 = rs[i] := by rw [List.getD_eq_getElem?_getD, List.getElem?_eq_getElem hi]; rfl
      have gj : rs.getD j 0 = rs[j] := by rw [List.getD_eq_getElem?_getD, List.getElem?_eq_getElem hj]; rfl
      rcases Nat.lt_trichotomy i j with c | c | c
      · refine ⟨(rs.getD i 0, rs.getD j 0), List.mem_flatMap.mpr ⟨j, List.mem_range.mpr hj, List.mem_map.mpr ⟨i, List.mem_range.mpr c, rfl⟩⟩, ?_⟩
        dsimp only
        rw [gi, gj]; exact ⟨hs, hk, hv⟩
      · subst c
        rw [xr_self] at hs
        exact absurd rfl hs
      · refine ⟨(rs.getD j 0, rs.getD i 0), List.mem_flatMap.mpr ⟨i, List.mem_range.mpr hi, List.mem_map.mpr ⟨j, List.mem_range.mpr c, rfl⟩⟩, ?_⟩
        dsimp only
        rw [gi, gj, key_comm (h0 _ hy) (h0 _ hx), xr_comm]; exact ⟨hs, hk, hv⟩
  exact ⟨h.nodup, fun K v hm => ⟨(e K v).mp (h.sound K v hm).1, fun v' hv' => (h.sound K v hm).2 v' ((e K v').mpr hv')⟩, fun K v hr => h.full K v ((e K v).mpr hr)⟩
theorem nd_snoc (x : Int) : ∀ l : List Int, nd (l ++ [x]) = nd l + if x ∈ l then 0 else 1 := by
  intro l
  induction l with
  | nil => rfl
  | cons a l ih =>
    rw [List.cons_append]
    simp only [nd]
    rw [ih]
    by_cases e : a = x
    · subst e
      rw [if_pos (by simp), if_pos (List.mem_cons_self)]
      omega
    · have h1 : (a ∈ l ++ [x]) ↔ a ∈ l := by simp [e]
      have h2 : (x ∈ a :: l) ↔ x ∈ l := by simp [Ne.symm e]
      by_cases q : a ∈ l <;> by_cases q2 : x ∈ l <;> simp only [h1, h2, q, q2, if_true, if_false] <;> omega
theorem againN_len (rs : List Int) : ∀ n, n ≤ rs.length → (againN rs n).length + nd (rs.take n) = n := by
  intro n
  induction n with
  | zero => intro _; rfl
  | succ n ih =>
    intro h
    have hst : againN rs (n + 1) = againN rs n ++ if (rs.take n).any (fun x => x == rs.getD n 0) then [0] else [] := by
      unfold againN
      rw [List.range_succ, List.filterMap_append]
      congr 1
      simp only [List.filterMap_cons, List.filterMap_nil]
      split <;> rename_i hz <;> split at hz <;> simp_all
    have ih' := ih (by omega)
    rw [hst, take_getD (by omega), nd_snoc, List.length_append]
    have hm : ((rs.take n).any fun x => x == rs.getD n 0) = true ↔ rs.getD n 0 ∈ rs.take n := by
      rw [List.any_eq_true]
      constructor
      · rintro ⟨x, hx, e⟩; rw [← beq_iff_eq.mp e]; exact hx
      · intro q; exact ⟨_, q, beq_self_eq_true _⟩
    by_cases c : rs.getD n 0 ∈ rs.take n
    · rw [if_pos (hm.mpr c), if_pos c]; simp only [List.length_cons, List.length_nil]; omega
    · rw [if_neg fun q => c (hm.mp q), if_neg c]; simp only [List.length_nil]; omega
theorem again_eq (rs : List Int) : again rs = List.replicate (rs.length - nd rs) 0 := by
  have h := againN_len rs rs.length (Nat.le_refl _)
  rw [List.take_length] at h
  unfold again
  rw [List.eq_replicate_iff]
  refine ⟨by omega, fun b hb => ?_⟩
  unfold againN at hb
  obtain ⟨j, _, e⟩ := List.mem_filterMap.mp hb
  split at e
  · exact (Option.some.inj e).symm
  · cases e
theorem par_perm {rs : List Int} (R : RowsOk rs) : (again rs ++ (pAll rs rs.length).map (·.2)).Perm (F 24 [] rs) := by
  have h0 : ∀ x ∈ rs, In24 x := R.all
  have hB : blk 24 rs := fun x hx y hy => by
    have h1 := R.all x hx
    have h2 := R.all y hy
    have e1 : x / 2 ^ 24 = 0 := Int.ediv_eq_zero_of_lt h1.1 h1.2
    have e2 : y / 2 ^ 24 = 0 := Int.ediv_eq_zero_of_lt h2.1 h2.2
    rw [e1, e2]
  refine List.Perm.trans ?_ (F_N 24 rs hB).symm
  rw [again_eq]
  exact ((Sp.perm (prs_sp h0) (Nn_sp 24 rs (Nat.le_refl _) hB h0)).map _).append_left _

end

section
theorem net_c64 {rs hp ts : List Int} (R : RowsOk rs) (I : NetInv rs [] hp ts) : cnt enc64 65 4 rs ts := net_cnt wr64 R I
theorem net_c16 {rs hp ts : List Int} (R : RowsOk rs) (I : NetInv rs [] hp ts) : cnt enc16 48 6 rs ts := net_cnt wr16 R I
theorem net_perm {rs hp ts : List Int} (R : RowsOk rs) (I : NetInv rs [] hp ts) : ts.Perm (again rs ++ (pAll rs rs.length).map (·.2)) := (net_F I).trans (par_perm R).symm
theorem sorted_eq {a b : List Int} (h : a.Perm b) (ha : a.Pairwise (· ≤ ·)) (hb : b.Pairwise (· ≤ ·)) : a = b := lks_uniq h ha hb

theorem off1_mem {D : Addr} {l : List (Addr × Obj)} : LCg.Off1 D l → ∀ p ∈ l, @Ne Nat p.1 D := by
  induction l with
  | nil => intro _ p hp; cases hp
  | cons q r ih =>
    intro h p hp
    rcases List.mem_cons.mp hp with rfl | hp
    · exact h.1
    · exact ih h.2 p hp
/-- the callee hands back a new object -/
theorem useNew {w : World} {A : Around} {f : Addr} {args : List Value} {kw : List (Str × Value)} {s : Shared} {P : Addr → Obj → Prop} {Q E : Value → Shared → Prop} {h₀ : Heap} {L : Addr} {m : Str → Option Value} {news : List (Addr × Obj)} {Post : Value → Heap → Prop}
    (D : Does w A f args kw [] s Post) (hP : ∀ v h', Post v h' → ∃ a o, v = .ref a ∧ s.heap.get? a = none ∧ h'.get? a = some o ∧ P a o) (F : Fr h₀ L s.heap m) (N : News h₀ L s.heap news)
    (h : ∀ a o h' tk', Fr h₀ L h' m → News h₀ L h' ((a, o) :: news) → (∀ p ∈ news, p.1 ≠ a) → P a o → Q (.ref a) { s with heap := h', toks := tk' }) : wpAny (model PG w) A (call (.ref f) args kw) Q E s :=
  use0 D F N fun v h' tk' F' N' hp => by
    obtain ⟨a, o, rfl, hn, ho, hP'⟩ := hP v h' hp
    refine h a o h' tk' F' (fun p hp => ?_) (fun p hp e => by
      have h1 := (N p hp).1
      rw [e, hn] at h1; cases h1) hP'
    rcases List.mem_cons.mp hp with rfl | hp
    · refine ⟨ho, fun e => ?_, ?_⟩
      · obtain ⟨oL, _, _, hL, _⟩ := F.ns
        rw [show a = L from e] at hn
        rw [hn] at hL; cases hL
      · cases q : h₀.get? a with
        | none => rfl
        | some o' => rw [F.keep _ _ q] at hn; cases hn
    · exact N' p hp

end

section
set_option maxRecDepth 100000
set_option maxHeartbeats 4000000 in
theorem law0 : PySem.Challenge.rw_oy0042_01.Holds := hd (by
  w_strict k_go0
  (all_goals try k_fold)
  rename IntsAre _ _ => hi
  rename Heap.IsList _ _ _ => hsl
  rename Fr _ _ _ _ => F
  rename News _ _ _ _ => N
  rename Below _ _ _ _ => B
  rename Frag.In _ _ => X
  rename Top _ _ _ _ _ _ => T
  rename ReadsAllW _ _ _ _ _ _ => z1
  rename ReadsAll _ _ _ _ => z2
  rename Well _ _ _ _ => z3
  rename Reads _ _ _ _ => z4
  rename CellsAre _ _ _ => z5
  rename TopE _ _ _ _ => z6
  rename TopW _ _ _ => z7
  rename Tables _ _ _ _ => z8
  rename BMod _ _ _ _ _ => z9
  rename Glob _ _ _ _ _ _ _ _ => z10
  rename LooseAre _ _ _ => z11
  rename Flt.MathXP _ _ _ => z12
  rename Heap.CodeRec _ _ _ => z14
  rename_i _ d1 d2 _ _
  rename (d1.data = _) => k1
  rename (d2.data = _) => k2
  replace k1 : d1.data = Data.cell none := k1
  replace k2 : d2.data = Data.cell none := k2
  clear z1 z2 z3 z4 z5 z6 z7 z8 z9 z10 z11 z12 z14
  dsimp only at F N ⊢
  dsimp only [Top.heap] at B
  rename (¬ (_ < _)) => hlen
  rename_i w s₀ s₁ mg mb G Y fa o pm doc ho hg a1 a2 a3 a4 ns hs hlay0 hLy hr hl2 la1 la2 sl vs la3 hcond' hD h₁ tk₁
  clear hlay0 hLy hr hl2 hcond' ho G Y
  (repeat' (first | (k_unfold; (try dsimp only)) | ((with_reducible show wpAny _ _ (call (Value.ref _) _ _) _ _ _); (first | (refine useI (add_does ⟨by assumption, by assumption, by assumption, by assumption, rfl, rfl, rfl, rfl⟩ (Nat.le_of_ble_eq_true rfl) (Nat.le_of_ble_eq_true rfl) ) (by assumption) (by assumption) ?_; intro _ _ _ _ _; (try k_sweep)) | (refine useI (sub_does ⟨by assumption, by assumption, by assumption, by assumption, rfl, rfl, rfl, rfl⟩ (Nat.le_of_ble_eq_true rfl) (Nat.le_of_ble_eq_true rfl) ) (by assumption) (by assumption) ?_; intro _ _ _ _ _; (try k_sweep)) | (refine useI (and_does ⟨by assumption, by assumption, by assumption, by assumption, rfl, rfl, rfl, rfl⟩ (Nat.le_of_ble_eq_true rfl) (Nat.le_of_ble_eq_true rfl) ) (by assumption) (by assumption) ?_; intro _ _ _ _ _; (try k_sweep)) | (refine useI (or_does ⟨by assumption, by assumption, by assumption, by assumption, rfl, rfl, rfl, rfl⟩ (Nat.le_of_ble_eq_true rfl) (Nat.le_of_ble_eq_true rfl) ) (by assumption) (by assumption) ?_; intro _ _ _ _ _; (try k_sweep)) | (refine useI (xor_does ⟨by assumption, by assumption, by assumption, by assumption, rfl, rfl, rfl, rfl⟩ (Nat.le_of_ble_eq_true rfl) (Nat.le_of_ble_eq_true rfl) ) (by assumption) (by assumption) ?_; intro _ _ _ _ _; (try k_sweep)) | (refine useI (inv_does ⟨by assumption, by assumption, by assumption, by assumption, rfl, rfl, rfl, rfl⟩ (Nat.le_of_ble_eq_true rfl) (Nat.le_of_ble_eq_true rfl) ) (by assumption) (by assumption) ?_; intro _ _ _ _ _; (try k_sweep)) | (refine useI (neg_does ⟨by assumption, by assumption, by assumption, by assumption, rfl, rfl, rfl, rfl⟩ (Nat.le_of_ble_eq_true rfl) (Nat.le_of_ble_eq_true rfl) ) (by assumption) (by assumption) ?_; intro _ _ _ _ _; (try k_sweep)) | (refine useI (rsh_does ⟨by assumption, by assumption, by assumption, by assumption, rfl, rfl, rfl, rfl⟩ (Nat.le_of_ble_eq_true rfl) (Nat.le_of_ble_eq_true rfl) (by decide)) (by assumption) (by assumption) ?_; intro _ _ _ _ _; (try k_sweep)) | (refine useI (lsh_does ⟨by assumption, by assumption, by assumption, by assumption, rfl, rfl, rfl, rfl⟩ (Nat.le_of_ble_eq_true rfl) (Nat.le_of_ble_eq_true rfl) (by decide) (by decide) (by omega)) (by assumption) (by assumption) ?_; intro _ _ _ _ _; (try k_sweep)))) | ((fail_if_success (with_reducible show wpAny _ _ (exec (Stmt.While _ _ _ _) _) _ _ _)); (fail_if_success (with_reducible show wpAny _ _ (exec (Stmt.For _ _ _ _ _) _) _ _ _)); (fail_if_success (with_reducible show wpAny _ _ (call (Value.ref _) _ _) _ _ _)); (fail_if_success (with_reducible show KswEnd _ _ _ _ _ _ _ _ _ _ _ _)); (fail_if_success (with_reducible show wpAny _ _ (eval (Expr.ListComp _ _ _ _) _) _ _ _)); (fail_if_success (with_reducible show wpAny _ _ (exec (Stmt.Assign _ (Expr.ListComp _ _ _ _) _) _) _ _ _)); (fail_if_success (with_reducible show Out _ _ _ _ _)); (fail_if_success (with_reducible show LCg.CompEnd _ _ _ _ _ _ _ _ _ _ _ _ _ _)); (fail_if_success (with_reducible show LCg.CompSrc _ _ _ _ _ _ _ _ _ _ _ _ _ _)); (fail_if_success (with_reducible show LCt.CompSrcT _ _ _ _ _ _ _ _ _ _ _ _ _ _ _)); (fail_if_success (with_reducible show Meet _ _ _)); (fail_if_success (with_reducible show wpAny _ _ (pyIter _) _ _ _)); (fail_if_success (with_reducible show LEnd _ _ _ _ _ _ _ _ _ _ _)); (fail_if_success (with_reducible show LPost _ _ _ _ _ _ _ _ _ _ _ _ _)); first | walk1 | (dsimp only; walk1)) | (k_end; dsimp only; k_unfold; (try dsimp only)) | fail "no step"))
  rename Fr _ _ _ _ => F8
  refine LCg.ListComp_U (cl := []) F8 (closureFor_none (by decide)) (by decide) rfl (by decide) rfl ?_
  (repeat' (first | (k_unfold; (try dsimp only)) | ((with_reducible show wpAny _ _ (call (Value.ref _) _ _) _ _ _); (first | (refine useI (add_does ⟨by assumption, by assumption, by assumption, by assumption, rfl, rfl, rfl, rfl⟩ (Nat.le_of_ble_eq_true rfl) (Nat.le_of_ble_eq_true rfl) ) (by assumption) (by assumption) ?_; intro _ _ _ _ _; (try k_sweep)) | (refine useI (sub_does ⟨by assumption, by assumption, by assumption, by assumption, rfl, rfl, rfl, rfl⟩ (Nat.le_of_ble_eq_true rfl) (Nat.le_of_ble_eq_true rfl) ) (by assumption) (by assumption) ?_; intro _ _ _ _ _; (try k_sweep)) | (refine useI (and_does ⟨by assumption, by assumption, by assumption, by assumption, rfl, rfl, rfl, rfl⟩ (Nat.le_of_ble_eq_true rfl) (Nat.le_of_ble_eq_true rfl) ) (by assumption) (by assumption) ?_; intro _ _ _ _ _; (try k_sweep)) | (refine useI (or_does ⟨by assumption, by assumption, by assumption, by assumption, rfl, rfl, rfl, rfl⟩ (Nat.le_of_ble_eq_true rfl) (Nat.le_of_ble_eq_true rfl) ) (by assumption) (by assumption) ?_; intro _ _ _ _ _; (try k_sweep)) | (refine useI (xor_does ⟨by assumption, by assumption, by assumption, by assumption, rfl, rfl, rfl, rfl⟩ (Nat.le_of_ble_eq_true rfl) (Nat.le_of_ble_eq_true rfl) ) (by assumption) (by assumption) ?_; intro _ _ _ _ _; (try k_sweep)) | (refine useI (inv_does ⟨by assumption, by assumption, by assumption, by assumption, rfl, rfl, rfl, rfl⟩ (Nat.le_of_ble_eq_true rfl) (Nat.le_of_ble_eq_true rfl) ) (by assumption) (by assumption) ?_; intro _ _ _ _ _; (try k_sweep)) | (refine useI (neg_does ⟨by assumption, by assumption, by assumption, by assumption, rfl, rfl, rfl, rfl⟩ (Nat.le_of_ble_eq_true rfl) (Nat.le_of_ble_eq_true rfl) ) (by assumption) (by assumption) ?_; intro _ _ _ _ _; (try k_sweep)) | (refine useI (rsh_does ⟨by assumption, by assumption, by assumption, by assumption, rfl, rfl, rfl, rfl⟩ (Nat.le_of_ble_eq_true rfl) (Nat.le_of_ble_eq_true rfl) (by decide)) (by assumption) (by assumption) ?_; intro _ _ _ _ _; (try k_sweep)) | (refine useI (lsh_does ⟨by assumption, by assumption, by assumption, by assumption, rfl, rfl, rfl, rfl⟩ (Nat.le_of_ble_eq_true rfl) (Nat.le_of_ble_eq_true rfl) (by decide) (by decide) (by omega)) (by assumption) (by assumption) ?_; intro _ _ _ _ _; (try k_sweep)))) | ((fail_if_success (with_reducible show wpAny _ _ (exec (Stmt.While _ _ _ _) _) _ _ _)); (fail_if_success (with_reducible show wpAny _ _ (exec (Stmt.For _ _ _ _ _) _) _ _ _)); (fail_if_success (with_reducible show wpAny _ _ (call (Value.ref _) _ _) _ _ _)); (fail_if_success (with_reducible show KswEnd _ _ _ _ _ _ _ _ _ _ _ _)); (fail_if_success (with_reducible show wpAny _ _ (eval (Expr.ListComp _ _ _ _) _) _ _ _)); (fail_if_success (with_reducible show wpAny _ _ (exec (Stmt.Assign _ (Expr.ListComp _ _ _ _) _) _) _ _ _)); (fail_if_success (with_reducible show Out _ _ _ _ _)); (fail_if_success (with_reducible show LCg.CompEnd _ _ _ _ _ _ _ _ _ _ _ _ _ _)); (fail_if_success (with_reducible show LCg.CompSrc _ _ _ _ _ _ _ _ _ _ _ _ _ _)); (fail_if_success (with_reducible show LCt.CompSrcT _ _ _ _ _ _ _ _ _ _ _ _ _ _ _)); (fail_if_success (with_reducible show Meet _ _ _)); (fail_if_success (with_reducible show wpAny _ _ (pyIter _) _ _ _)); (fail_if_success (with_reducible show LEnd _ _ _ _ _ _ _ _ _ _ _)); (fail_if_success (with_reducible show LPost _ _ _ _ _ _ _ _ _ _ _ _ _)); first | walk1 | (dsimp only; walk1)) | (k_end; dsimp only; k_unfold; (try dsimp only)) | fail "no step"))
  rename Fr _ _ _ _ => F7
  rename News _ _ _ _ => N7
  rename IntsAre _ _ => hI7
  have hl7 := hI7.length
  have htl : (ns.take 4).length ≤ 4 := by rw [List.length_take]; omega
  refine LCg.CompSrc.ledger rfl F7 N7 (.head _) (by rw [List.size_toArray, sizeLine_eq]; omega) fun gg => comp_inv (fun i ys nw => IntsAre ys (((ns.take 4).take i).map (fun x => Int.fmod x 16777216)) ∧ nw = _) ?_ ?_ _ 0 [] _ (Nat.zero_add _) ⟨.nil, rfl⟩
  · rintro i ys nw v I oI C oC D m₂ h9 tk9 E' hin ⟨hys, rfl⟩ hv hoC hx F6 N6 o6 ne6
    obtain ⟨tv, rfl, hmem⟩ := ints_at hI7 hv
    have hix := take_getD (ns := ns.take 4) (i := i) (by rw [List.size_toArray, hl7] at hin; exact hin)
    (try clear F8); (try clear N8); (try clear F7); (try clear N7); (try clear F)
    (repeat' (first | (k_unfold; (try dsimp only)) | ((with_reducible show wpAny _ _ (call (Value.ref _) _ _) _ _ _); (first | (refine useI (add_does ⟨by assumption, by assumption, by assumption, by assumption, rfl, rfl, rfl, rfl⟩ (Nat.le_of_ble_eq_true rfl) (Nat.le_of_ble_eq_true rfl) ) (by assumption) (by assumption) ?_; intro _ _ _ _ _; (try k_sweep)) | (refine useI (sub_does ⟨by assumption, by assumption, by assumption, by assumption, rfl, rfl, rfl, rfl⟩ (Nat.le_of_ble_eq_true rfl) (Nat.le_of_ble_eq_true rfl) ) (by assumption) (by assumption) ?_; intro _ _ _ _ _; (try k_sweep)) | (refine useI (and_does ⟨by assumption, by assumption, by assumption, by assumption, rfl, rfl, rfl, rfl⟩ (Nat.le_of_ble_eq_true rfl) (Nat.le_of_ble_eq_true rfl) ) (by assumption) (by assumption) ?_; intro _ _ _ _ _; (try k_sweep)) | (refine useI (or_does ⟨by assumption, by assumption, by assumption, by assumption, rfl, rfl, rfl, rfl⟩ (Nat.le_of_ble_eq_true rfl) (Nat.le_of_ble_eq_true rfl) ) (by assumption) (by assumption) ?_; intro _ _ _ _ _; (try k_sweep)) | (refine useI (xor_does ⟨by assumption, by assumption, by assumption, by assumption, rfl, rfl, rfl, rfl⟩ (Nat.le_of_ble_eq_true rfl) (Nat.le_of_ble_eq_true rfl) ) (by assumption) (by assumption) ?_; intro _ _ _ _ _; (try k_sweep)) | (refine useI (inv_does ⟨by assumption, by assumption, by assumption, by assumption, rfl, rfl, rfl, rfl⟩ (Nat.le_of_ble_eq_true rfl) (Nat.le_of_ble_eq_true rfl) ) (by assumption) (by assumption) ?_; intro _ _ _ _ _; (try k_sweep)) | (refine useI (neg_does ⟨by assumption, by assumption, by assumption, by assumption, rfl, rfl, rfl, rfl⟩ (Nat.le_of_ble_eq_true rfl) (Nat.le_of_ble_eq_true rfl) ) (by assumption) (by assumption) ?_; intro _ _ _ _ _; (try k_sweep)) | (refine useI (rsh_does ⟨by assumption, by assumption, by assumption, by assumption, rfl, rfl, rfl, rfl⟩ (Nat.le_of_ble_eq_true rfl) (Nat.le_of_ble_eq_true rfl) (by decide)) (by assumption) (by assumption) ?_; intro _ _ _ _ _; (try k_sweep)) | (refine useI (lsh_does ⟨by assumption, by assumption, by assumption, by assumption, rfl, rfl, rfl, rfl⟩ (Nat.le_of_ble_eq_true rfl) (Nat.le_of_ble_eq_true rfl) (by decide) (by decide) (by omega)) (by assumption) (by assumption) ?_; intro _ _ _ _ _; (try k_sweep)))) | ((fail_if_success (with_reducible show wpAny _ _ (exec (Stmt.While _ _ _ _) _) _ _ _)); (fail_if_success (with_reducible show wpAny _ _ (exec (Stmt.For _ _ _ _ _) _) _ _ _)); (fail_if_success (with_reducible show wpAny _ _ (call (Value.ref _) _ _) _ _ _)); (fail_if_success (with_reducible show KswEnd _ _ _ _ _ _ _ _ _ _ _ _)); (fail_if_success (with_reducible show wpAny _ _ (eval (Expr.ListComp _ _ _ _) _) _ _ _)); (fail_if_success (with_reducible show wpAny _ _ (exec (Stmt.Assign _ (Expr.ListComp _ _ _ _) _) _) _ _ _)); (fail_if_success (with_reducible show Out _ _ _ _ _)); (fail_if_success (with_reducible show LCg.CompEnd _ _ _ _ _ _ _ _ _ _ _ _ _ _)); (fail_if_success (with_reducible show LCg.CompSrc _ _ _ _ _ _ _ _ _ _ _ _ _ _)); (fail_if_success (with_reducible show LCt.CompSrcT _ _ _ _ _ _ _ _ _ _ _ _ _ _ _)); (fail_if_success (with_reducible show Meet _ _ _)); (fail_if_success (with_reducible show wpAny _ _ (pyIter _) _ _ _)); (fail_if_success (with_reducible show LEnd _ _ _ _ _ _ _ _ _ _ _)); (fail_if_success (with_reducible show LPost _ _ _ _ _ _ _ _ _ _ _ _ _)); first | walk1 | (dsimp only; walk1)) | (k_end; dsimp only; k_unfold; (try dsimp only)) | fail "no step"))
    rename Fr _ _ _ _ => F5
    rename News _ _ _ _ => N5
    refine LCg.CompEnd.intro F5 N5 _ (fun p hp => hp) o6 (.inr ⟨_, .head _, rfl, _, rfl⟩) ⟨?_, rfl⟩
    rw [hix, List.map_append]
    exact ints_snoc hys _ _
  rintro ys nw ⟨hys, rfl⟩ D h9 tk9 F6 N6 o6
  (try clear F8); (try clear N8); (try clear F7); (try clear N7); (try clear F); (try clear N)
  rw [List.size_toArray, hl7, List.take_length] at hys
  (repeat' (first | (k_unfold; (try dsimp only)) | ((with_reducible show wpAny _ _ (call (Value.ref _) _ _) _ _ _); (first | (refine useI (add_does ⟨by assumption, by assumption, by assumption, by assumption, rfl, rfl, rfl, rfl⟩ (Nat.le_of_ble_eq_true rfl) (Nat.le_of_ble_eq_true rfl) ) (by assumption) (by assumption) ?_; intro _ _ _ _ _; (try k_sweep)) | (refine useI (sub_does ⟨by assumption, by assumption, by assumption, by assumption, rfl, rfl, rfl, rfl⟩ (Nat.le_of_ble_eq_true rfl) (Nat.le_of_ble_eq_true rfl) ) (by assumption) (by assumption) ?_; intro _ _ _ _ _; (try k_sweep)) | (refine useI (and_does ⟨by assumption, by assumption, by assumption, by assumption, rfl, rfl, rfl, rfl⟩ (Nat.le_of_ble_eq_true rfl) (Nat.le_of_ble_eq_true rfl) ) (by assumption) (by assumption) ?_; intro _ _ _ _ _; (try k_sweep)) | (refine useI (or_does ⟨by assumption, by assumption, by assumption, by assumption, rfl, rfl, rfl, rfl⟩ (Nat.le_of_ble_eq_true rfl) (Nat.le_of_ble_eq_true rfl) ) (by assumption) (by assumption) ?_; intro _ _ _ _ _; (try k_sweep)) | (refine useI (xor_does ⟨by assumption, by assumption, by assumption, by assumption, rfl, rfl, rfl, rfl⟩ (Nat.le_of_ble_eq_true rfl) (Nat.le_of_ble_eq_true rfl) ) (by assumption) (by assumption) ?_; intro _ _ _ _ _; (try k_sweep)) | (refine useI (inv_does ⟨by assumption, by assumption, by assumption, by assumption, rfl, rfl, rfl, rfl⟩ (Nat.le_of_ble_eq_true rfl) (Nat.le_of_ble_eq_true rfl) ) (by assumption) (by assumption) ?_; intro _ _ _ _ _; (try k_sweep)) | (refine useI (neg_does ⟨by assumption, by assumption, by assumption, by assumption, rfl, rfl, rfl, rfl⟩ (Nat.le_of_ble_eq_true rfl) (Nat.le_of_ble_eq_true rfl) ) (by assumption) (by assumption) ?_; intro _ _ _ _ _; (try k_sweep)) | (refine useI (rsh_does ⟨by assumption, by assumption, by assumption, by assumption, rfl, rfl, rfl, rfl⟩ (Nat.le_of_ble_eq_true rfl) (Nat.le_of_ble_eq_true rfl) (by decide)) (by assumption) (by assumption) ?_; intro _ _ _ _ _; (try k_sweep)) | (refine useI (lsh_does ⟨by assumption, by assumption, by assumption, by assumption, rfl, rfl, rfl, rfl⟩ (Nat.le_of_ble_eq_true rfl) (Nat.le_of_ble_eq_true rfl) (by decide) (by decide) (by omega)) (by assumption) (by assumption) ?_; intro _ _ _ _ _; (try k_sweep)))) | ((fail_if_success (with_reducible show wpAny _ _ (exec (Stmt.While _ _ _ _) _) _ _ _)); (fail_if_success (with_reducible show wpAny _ _ (exec (Stmt.For _ _ _ _ _) _) _ _ _)); (fail_if_success (with_reducible show wpAny _ _ (call (Value.ref _) _ _) _ _ _)); (fail_if_success (with_reducible show KswEnd _ _ _ _ _ _ _ _ _ _ _ _)); (fail_if_success (with_reducible show wpAny _ _ (eval (Expr.ListComp _ _ _ _) _) _ _ _)); (fail_if_success (with_reducible show wpAny _ _ (exec (Stmt.Assign _ (Expr.ListComp _ _ _ _) _) _) _ _ _)); (fail_if_success (with_reducible show Out _ _ _ _ _)); (fail_if_success (with_reducible show LCg.CompEnd _ _ _ _ _ _ _ _ _ _ _ _ _ _)); (fail_if_success (with_reducible show LCg.CompSrc _ _ _ _ _ _ _ _ _ _ _ _ _ _)); (fail_if_success (with_reducible show LCt.CompSrcT _ _ _ _ _ _ _ _ _ _ _ _ _ _ _)); (fail_if_success (with_reducible show Meet _ _ _)); (fail_if_success (with_reducible show wpAny _ _ (pyIter _) _ _ _)); (fail_if_success (with_reducible show LEnd _ _ _ _ _ _ _ _ _ _ _)); (fail_if_success (with_reducible show LPost _ _ _ _ _ _ _ _ _ _ _ _ _)); first | walk1 | (dsimp only; walk1)) | (k_end; dsimp only; k_unfold; (try dsimp only)) | fail "no step"))
  rename Fr _ _ _ _ => F8
  rename News _ _ _ _ => N8
  rename IntsAre _ _ => hI8o
  rename_i Dr rv _ hDr _
  have R : RowsOk (rowsOf ns) := rows_ok ns
  have hI8 : IntsAre rv (rowsOf ns) := hI8o
  clear hI8o
  replace N8 : News s₁.heap s₁.heap.objs.size _ [(Dr, listOf rv.toArray 0), (s₁.heap.objs.size + 1 + 1, d1), (s₁.heap.objs.size + 1, d2)] := cb_drop N8 (by kcj_all)
  refine useNew (P := fun a o => ∃ vs' n' ts hp, o = listOf (List.toArray vs') n' ∧ IntsAre vs' ts ∧ NetInv (rowsOf ns) [] hp ts) (net_does ⟨B, F8, X, T, rfl, rfl, rfl, rfl⟩ (Nat.le_of_ble_eq_true rfl) (Nat.le_of_ble_eq_true rfl) ⟨_, (N8 _ (.head _)).1, rfl, _, rfl⟩ hI8 R) ?_ F8 N8 ?_
  · rintro v h' ⟨a, vs', n', ts, hp, rfl, h1, h2, h3, h4⟩
    exact ⟨a, _, rfl, h1, h2, vs', n', ts, hp, rfl, h3, h4⟩
  rintro Dn _ h6 tk6 F6 N6 oN ⟨nv, nn, ts, hp, rfl, hI6, I6⟩
  have qn1 : @Ne Nat (s₁.heap.objs.size + 1 + 1) Dn := oN (s₁.heap.objs.size + 1 + 1, d1) (by k_mem)
  have qn2 : @Ne Nat (s₁.heap.objs.size + 1) Dn := oN (s₁.heap.objs.size + 1, d2) (by k_mem)
  have qr1 : @Ne Nat (s₁.heap.objs.size + 1 + 1) Dr := Nat.ne_of_lt hDr.2.2.2.1
  have qr2 : @Ne Nat (s₁.heap.objs.size + 1) Dr := Nat.ne_of_lt hDr.2.2.2.2
  clear hDr oN
  (try clear F8); (try clear N8)
  have R1 := R.lo
  have R2 := R.hi
  have M4 := net_tlen R I6
  have hIn := net_in R I6
  have hPerm := net_perm R I6
  have hc64 := net_c64 R I6
  have hc16 := net_c16 R I6
  have hRa := R.all
  generalize hrs : rowsOf ns = rs at *
  clear hys hrs I6
  have hrl := hI8.length
  have hnl := hI6.length
  (repeat' (first | (k_unfold; (try dsimp only)) | ((with_reducible show wpAny _ _ (call (Value.ref _) _ _) _ _ _); (first | (refine useI (add_does ⟨by assumption, by assumption, by assumption, by assumption, rfl, rfl, rfl, rfl⟩ (Nat.le_of_ble_eq_true rfl) (Nat.le_of_ble_eq_true rfl) ) (by assumption) (by assumption) ?_; intro _ _ _ _ _; (try k_sweep)) | (refine useI (sub_does ⟨by assumption, by assumption, by assumption, by assumption, rfl, rfl, rfl, rfl⟩ (Nat.le_of_ble_eq_true rfl) (Nat.le_of_ble_eq_true rfl) ) (by assumption) (by assumption) ?_; intro _ _ _ _ _; (try k_sweep)) | (refine useI (and_does ⟨by assumption, by assumption, by assumption, by assumption, rfl, rfl, rfl, rfl⟩ (Nat.le_of_ble_eq_true rfl) (Nat.le_of_ble_eq_true rfl) ) (by assumption) (by assumption) ?_; intro _ _ _ _ _; (try k_sweep)) | (refine useI (or_does ⟨by assumption, by assumption, by assumption, by assumption, rfl, rfl, rfl, rfl⟩ (Nat.le_of_ble_eq_true rfl) (Nat.le_of_ble_eq_true rfl) ) (by assumption) (by assumption) ?_; intro _ _ _ _ _; (try k_sweep)) | (refine useI (xor_does ⟨by assumption, by assumption, by assumption, by assumption, rfl, rfl, rfl, rfl⟩ (Nat.le_of_ble_eq_true rfl) (Nat.le_of_ble_eq_true rfl) ) (by assumption) (by assumption) ?_; intro _ _ _ _ _; (try k_sweep)) | (refine useI (inv_does ⟨by assumption, by assumption, by assumption, by assumption, rfl, rfl, rfl, rfl⟩ (Nat.le_of_ble_eq_true rfl) (Nat.le_of_ble_eq_true rfl) ) (by assumption) (by assumption) ?_; intro _ _ _ _ _; (try k_sweep)) | (refine useI (neg_does ⟨by assumption, by assumption, by assumption, by assumption, rfl, rfl, rfl, rfl⟩ (Nat.le_of_ble_eq_true rfl) (Nat.le_of_ble_eq_true rfl) ) (by assumption) (by assumption) ?_; intro _ _ _ _ _; (try k_sweep)) | (refine useI (rsh_does ⟨by assumption, by assumption, by assumption, by assumption, rfl, rfl, rfl, rfl⟩ (Nat.le_of_ble_eq_true rfl) (Nat.le_of_ble_eq_true rfl) (by decide)) (by assumption) (by assumption) ?_; intro _ _ _ _ _; (try k_sweep)) | (refine useI (lsh_does ⟨by assumption, by assumption, by assumption, by assumption, rfl, rfl, rfl, rfl⟩ (Nat.le_of_ble_eq_true rfl) (Nat.le_of_ble_eq_true rfl) (by decide) (by decide) (by omega)) (by assumption) (by assumption) ?_; intro _ _ _ _ _; (try k_sweep)))) | ((fail_if_success (with_reducible show wpAny _ _ (exec (Stmt.While _ _ _ _) _) _ _ _)); (fail_if_success (with_reducible show wpAny _ _ (exec (Stmt.For _ _ _ _ _) _) _ _ _)); (fail_if_success (with_reducible show wpAny _ _ (call (Value.ref _) _ _) _ _ _)); (fail_if_success (with_reducible show KswEnd _ _ _ _ _ _ _ _ _ _ _ _)); (fail_if_success (with_reducible show wpAny _ _ (eval (Expr.ListComp _ _ _ _) _) _ _ _)); (fail_if_success (with_reducible show wpAny _ _ (exec (Stmt.Assign _ (Expr.ListComp _ _ _ _) _) _) _ _ _)); (fail_if_success (with_reducible show Out _ _ _ _ _)); (fail_if_success (with_reducible show LCg.CompEnd _ _ _ _ _ _ _ _ _ _ _ _ _ _)); (fail_if_success (with_reducible show LCg.CompSrc _ _ _ _ _ _ _ _ _ _ _ _ _ _)); (fail_if_success (with_reducible show LCt.CompSrcT _ _ _ _ _ _ _ _ _ _ _ _ _ _ _)); (fail_if_success (with_reducible show Meet _ _ _)); (fail_if_success (with_reducible show wpAny _ _ (pyIter _) _ _ _)); (fail_if_success (with_reducible show LEnd _ _ _ _ _ _ _ _ _ _ _)); (fail_if_success (with_reducible show LPost _ _ _ _ _ _ _ _ _ _ _ _ _)); first | walk1 | (dsimp only; walk1)) | (k_end; dsimp only; k_unfold; (try dsimp only)) | fail "no step"))
  rename Fr _ _ _ _ => F8
  refine LCg.Assign_ListComp_U (cl := []) F8 rfl (by with_unfolding_all rfl) (closureFor_none (by decide)) (by decide) rfl (by decide) rfl rfl rfl ?_
  (repeat' (first | (k_unfold; (try dsimp only)) | ((with_reducible show wpAny _ _ (call (Value.ref _) _ _) _ _ _); (first | (refine useI (add_does ⟨by assumption, by assumption, by assumption, by assumption, rfl, rfl, rfl, rfl⟩ (Nat.le_of_ble_eq_true rfl) (Nat.le_of_ble_eq_true rfl) ) (by assumption) (by assumption) ?_; intro _ _ _ _ _; (try k_sweep)) | (refine useI (sub_does ⟨by assumption, by assumption, by assumption, by assumption, rfl, rfl, rfl, rfl⟩ (Nat.le_of_ble_eq_true rfl) (Nat.le_of_ble_eq_true rfl) ) (by assumption) (by assumption) ?_; intro _ _ _ _ _; (try k_sweep)) | (refine useI (and_does ⟨by assumption, by assumption, by assumption, by assumption, rfl, rfl, rfl, rfl⟩ (Nat.le_of_ble_eq_true rfl) (Nat.le_of_ble_eq_true rfl) ) (by assumption) (by assumption) ?_; intro _ _ _ _ _; (try k_sweep)) | (refine useI (or_does ⟨by assumption, by assumption, by assumption, by assumption, rfl, rfl, rfl, rfl⟩ (Nat.le_of_ble_eq_true rfl) (Nat.le_of_ble_eq_true rfl) ) (by assumption) (by assumption) ?_; intro _ _ _ _ _; (try k_sweep)) | (refine useI (xor_does ⟨by assumption, by assumption, by assumption, by assumption, rfl, rfl, rfl, rfl⟩ (Nat.le_of_ble_eq_true rfl) (Nat.le_of_ble_eq_true rfl) ) (by assumption) (by assumption) ?_; intro _ _ _ _ _; (try k_sweep)) | (refine useI (inv_does ⟨by assumption, by assumption, by assumption, by assumption, rfl, rfl, rfl, rfl⟩ (Nat.le_of_ble_eq_true rfl) (Nat.le_of_ble_eq_true rfl) ) (by assumption) (by assumption) ?_; intro _ _ _ _ _; (try k_sweep)) | (refine useI (neg_does ⟨by assumption, by assumption, by assumption, by assumption, rfl, rfl, rfl, rfl⟩ (Nat.le_of_ble_eq_true rfl) (Nat.le_of_ble_eq_true rfl) ) (by assumption) (by assumption) ?_; intro _ _ _ _ _; (try k_sweep)) | (refine useI (rsh_does ⟨by assumption, by assumption, by assumption, by assumption, rfl, rfl, rfl, rfl⟩ (Nat.le_of_ble_eq_true rfl) (Nat.le_of_ble_eq_true rfl) (by decide)) (by assumption) (by assumption) ?_; intro _ _ _ _ _; (try k_sweep)) | (refine useI (lsh_does ⟨by assumption, by assumption, by assumption, by assumption, rfl, rfl, rfl, rfl⟩ (Nat.le_of_ble_eq_true rfl) (Nat.le_of_ble_eq_true rfl) (by decide) (by decide) (by omega)) (by assumption) (by assumption) ?_; intro _ _ _ _ _; (try k_sweep)))) | ((fail_if_success (with_reducible show wpAny _ _ (exec (Stmt.While _ _ _ _) _) _ _ _)); (fail_if_success (with_reducible show wpAny _ _ (exec (Stmt.For _ _ _ _ _) _) _ _ _)); (fail_if_success (with_reducible show wpAny _ _ (call (Value.ref _) _ _) _ _ _)); (fail_if_success (with_reducible show KswEnd _ _ _ _ _ _ _ _ _ _ _ _)); (fail_if_success (with_reducible show wpAny _ _ (eval (Expr.ListComp _ _ _ _) _) _ _ _)); (fail_if_success (with_reducible show wpAny _ _ (exec (Stmt.Assign _ (Expr.ListComp _ _ _ _) _) _) _ _ _)); (fail_if_success (with_reducible show Out _ _ _ _ _)); (fail_if_success (with_reducible show LCg.CompEnd _ _ _ _ _ _ _ _ _ _ _ _ _ _)); (fail_if_success (with_reducible show LCg.CompSrc _ _ _ _ _ _ _ _ _ _ _ _ _ _)); (fail_if_success (with_reducible show LCt.CompSrcT _ _ _ _ _ _ _ _ _ _ _ _ _ _ _)); (fail_if_success (with_reducible show Meet _ _ _)); (fail_if_success (with_reducible show wpAny _ _ (pyIter _) _ _ _)); (fail_if_success (with_reducible show LEnd _ _ _ _ _ _ _ _ _ _ _)); (fail_if_success (with_reducible show LPost _ _ _ _ _ _ _ _ _ _ _ _ _)); first | walk1 | (dsimp only; walk1)) | (k_end; dsimp only; k_unfold; (try dsimp only)) | fail "no step"))
  rename Fr _ _ _ _ => F7
  rename News _ _ _ _ => N7
  rename IntsAre _ (_ ++ _) => hI7
  have hl9 := hI7.length
  rw [List.length_append] at hl9
  refine LCg.CompSrc.ledger rfl F7 N7 (.head _) (by rw [List.size_toArray, sizeLine_eq]; omega) fun gg => comp_inv (fun i ys nw => BytesAre ys (((rs ++ ts).take i).map oct) ∧ nw = _) ?_ ?_ _ 0 [] _ (Nat.zero_add _) ⟨.nil, rfl⟩
  · rintro i ys nw v I oI C oC D m₂ h9 tk9 E' hin ⟨hys, rfl⟩ hv hoC hx F6 N6 o6 ne6
    obtain ⟨tv, rfl, hmem⟩ := ints_at hI7 hv
    have hxb : 0 ≤ (rs ++ ts).getD i 0 ∧ (rs ++ ts).getD i 0 < 16777216 := (List.mem_append.mp hmem).elim (hRa _) (hIn _)
    have hix := take_getD (ns := rs ++ ts) (i := i) (by rw [List.size_toArray, hl9] at hin; rw [List.length_append]; exact hin)
    generalize (rs ++ ts).getD i 0 = x at hxb hix hx
    (try clear F8); (try clear N8); (try clear F7); (try clear N7); (try clear F)
    (repeat' (first | (k_unfold; (try dsimp only)) | ((with_reducible show wpAny _ _ (call (Value.ref _) _ _) _ _ _); (first | (refine useI (add_does ⟨by assumption, by assumption, by assumption, by assumption, rfl, rfl, rfl, rfl⟩ (Nat.le_of_ble_eq_true rfl) (Nat.le_of_ble_eq_true rfl) ) (by assumption) (by assumption) ?_; intro _ _ _ _ _; (try k_sweep)) | (refine useI (sub_does ⟨by assumption, by assumption, by assumption, by assumption, rfl, rfl, rfl, rfl⟩ (Nat.le_of_ble_eq_true rfl) (Nat.le_of_ble_eq_true rfl) ) (by assumption) (by assumption) ?_; intro _ _ _ _ _; (try k_sweep)) | (refine useI (and_does ⟨by assumption, by assumption, by assumption, by assumption, rfl, rfl, rfl, rfl⟩ (Nat.le_of_ble_eq_true rfl) (Nat.le_of_ble_eq_true rfl) ) (by assumption) (by assumption) ?_; intro _ _ _ _ _; (try k_sweep)) | (refine useI (or_does ⟨by assumption, by assumption, by assumption, by assumption, rfl, rfl, rfl, rfl⟩ (Nat.le_of_ble_eq_true rfl) (Nat.le_of_ble_eq_true rfl) ) (by assumption) (by assumption) ?_; intro _ _ _ _ _; (try k_sweep)) | (refine useI (xor_does ⟨by assumption, by assumption, by assumption, by assumption, rfl, rfl, rfl, rfl⟩ (Nat.le_of_ble_eq_true rfl) (Nat.le_of_ble_eq_true rfl) ) (by assumption) (by assumption) ?_; intro _ _ _ _ _; (try k_sweep)) | (refine useI (inv_does ⟨by assumption, by assumption, by assumption, by assumption, rfl, rfl, rfl, rfl⟩ (Nat.le_of_ble_eq_true rfl) (Nat.le_of_ble_eq_true rfl) ) (by assumption) (by assumption) ?_; intro _ _ _ _ _; (try k_sweep)) | (refine useI (neg_does ⟨by assumption, by assumption, by assumption, by assumption, rfl, rfl, rfl, rfl⟩ (Nat.le_of_ble_eq_true rfl) (Nat.le_of_ble_eq_true rfl) ) (by assumption) (by assumption) ?_; intro _ _ _ _ _; (try k_sweep)) | (refine useI (rsh_does ⟨by assumption, by assumption, by assumption, by assumption, rfl, rfl, rfl, rfl⟩ (Nat.le_of_ble_eq_true rfl) (Nat.le_of_ble_eq_true rfl) (by decide)) (by assumption) (by assumption) ?_; intro _ _ _ _ _; (try k_sweep)) | (refine useI (lsh_does ⟨by assumption, by assumption, by assumption, by assumption, rfl, rfl, rfl, rfl⟩ (Nat.le_of_ble_eq_true rfl) (Nat.le_of_ble_eq_true rfl) (by decide) (by decide) (by omega)) (by assumption) (by assumption) ?_; intro _ _ _ _ _; (try k_sweep)))) | ((fail_if_success (with_reducible show wpAny _ _ (exec (Stmt.While _ _ _ _) _) _ _ _)); (fail_if_success (with_reducible show wpAny _ _ (exec (Stmt.For _ _ _ _ _) _) _ _ _)); (fail_if_success (with_reducible show wpAny _ _ (call (Value.ref _) _ _) _ _ _)); (fail_if_success (with_reducible show KswEnd _ _ _ _ _ _ _ _ _ _ _ _)); (fail_if_success (with_reducible show wpAny _ _ (eval (Expr.ListComp _ _ _ _) _) _ _ _)); (fail_if_success (with_reducible show wpAny _ _ (exec (Stmt.Assign _ (Expr.ListComp _ _ _ _) _) _) _ _ _)); (fail_if_success (with_reducible show Out _ _ _ _ _)); (fail_if_success (with_reducible show LCg.CompEnd _ _ _ _ _ _ _ _ _ _ _ _ _ _)); (fail_if_success (with_reducible show LCg.CompSrc _ _ _ _ _ _ _ _ _ _ _ _ _ _)); (fail_if_success (with_reducible show LCt.CompSrcT _ _ _ _ _ _ _ _ _ _ _ _ _ _ _)); (fail_if_success (with_reducible show Meet _ _ _)); (fail_if_success (with_reducible show wpAny _ _ (pyIter _) _ _ _)); (fail_if_success (with_reducible show LEnd _ _ _ _ _ _ _ _ _ _ _)); (fail_if_success (with_reducible show LPost _ _ _ _ _ _ _ _ _ _ _ _ _)); first | walk1 | (dsimp only; walk1)) | (k_end; dsimp only; k_unfold; (try dsimp only)) | fail "no step"))
    rename Fr _ _ _ _ => F5
    rename News _ _ _ _ => N5
    refine use0 (three_does ⟨B, F5, X, T, rfl, rfl, rfl, rfl⟩ (Nat.le_of_ble_eq_true rfl) (Nat.le_of_ble_eq_true rfl) hxb.1 hxb.2) F5 N5 ?_
    rintro _ h4 tk4 F4 N4 ⟨b, t, rfl, hb⟩
    (repeat' (first | (k_unfold; (try dsimp only)) | ((with_reducible show wpAny _ _ (call (Value.ref _) _ _) _ _ _); (first | (refine useI (add_does ⟨by assumption, by assumption, by assumption, by assumption, rfl, rfl, rfl, rfl⟩ (Nat.le_of_ble_eq_true rfl) (Nat.le_of_ble_eq_true rfl) ) (by assumption) (by assumption) ?_; intro _ _ _ _ _; (try k_sweep)) | (refine useI (sub_does ⟨by assumption, by assumption, by assumption, by assumption, rfl, rfl, rfl, rfl⟩ (Nat.le_of_ble_eq_true rfl) (Nat.le_of_ble_eq_true rfl) ) (by assumption) (by assumption) ?_; intro _ _ _ _ _; (try k_sweep)) | (refine useI (and_does ⟨by assumption, by assumption, by assumption, by assumption, rfl, rfl, rfl, rfl⟩ (Nat.le_of_ble_eq_true rfl) (Nat.le_of_ble_eq_true rfl) ) (by assumption) (by assumption) ?_; intro _ _ _ _ _; (try k_sweep)) | (refine useI (or_does ⟨by assumption, by assumption, by assumption, by assumption, rfl, rfl, rfl, rfl⟩ (Nat.le_of_ble_eq_true rfl) (Nat.le_of_ble_eq_true rfl) ) (by assumption) (by assumption) ?_; intro _ _ _ _ _; (try k_sweep)) | (refine useI (xor_does ⟨by assumption, by assumption, by assumption, by assumption, rfl, rfl, rfl, rfl⟩ (Nat.le_of_ble_eq_true rfl) (Nat.le_of_ble_eq_true rfl) ) (by assumption) (by assumption) ?_; intro _ _ _ _ _; (try k_sweep)) | (refine useI (inv_does ⟨by assumption, by assumption, by assumption, by assumption, rfl, rfl, rfl, rfl⟩ (Nat.le_of_ble_eq_true rfl) (Nat.le_of_ble_eq_true rfl) ) (by assumption) (by assumption) ?_; intro _ _ _ _ _; (try k_sweep)) | (refine useI (neg_does ⟨by assumption, by assumption, by assumption, by assumption, rfl, rfl, rfl, rfl⟩ (Nat.le_of_ble_eq_true rfl) (Nat.le_of_ble_eq_true rfl) ) (by assumption) (by assumption) ?_; intro _ _ _ _ _; (try k_sweep)) | (refine useI (rsh_does ⟨by assumption, by assumption, by assumption, by assumption, rfl, rfl, rfl, rfl⟩ (Nat.le_of_ble_eq_true rfl) (Nat.le_of_ble_eq_true rfl) (by decide)) (by assumption) (by assumption) ?_; intro _ _ _ _ _; (try k_sweep)) | (refine useI (lsh_does ⟨by assumption, by assumption, by assumption, by assumption, rfl, rfl, rfl, rfl⟩ (Nat.le_of_ble_eq_true rfl) (Nat.le_of_ble_eq_true rfl) (by decide) (by decide) (by omega)) (by assumption) (by assumption) ?_; intro _ _ _ _ _; (try k_sweep)))) | ((fail_if_success (with_reducible show wpAny _ _ (exec (Stmt.While _ _ _ _) _) _ _ _)); (fail_if_success (with_reducible show wpAny _ _ (exec (Stmt.For _ _ _ _ _) _) _ _ _)); (fail_if_success (with_reducible show wpAny _ _ (call (Value.ref _) _ _) _ _ _)); (fail_if_success (with_reducible show KswEnd _ _ _ _ _ _ _ _ _ _ _ _)); (fail_if_success (with_reducible show wpAny _ _ (eval (Expr.ListComp _ _ _ _) _) _ _ _)); (fail_if_success (with_reducible show wpAny _ _ (exec (Stmt.Assign _ (Expr.ListComp _ _ _ _) _) _) _ _ _)); (fail_if_success (with_reducible show Out _ _ _ _ _)); (fail_if_success (with_reducible show LCg.CompEnd _ _ _ _ _ _ _ _ _ _ _ _ _ _)); (fail_if_success (with_reducible show LCg.CompSrc _ _ _ _ _ _ _ _ _ _ _ _ _ _)); (fail_if_success (with_reducible show LCt.CompSrcT _ _ _ _ _ _ _ _ _ _ _ _ _ _ _)); (fail_if_success (with_reducible show Meet _ _ _)); (fail_if_success (with_reducible show wpAny _ _ (pyIter _) _ _ _)); (fail_if_success (with_reducible show LEnd _ _ _ _ _ _ _ _ _ _ _)); (fail_if_success (with_reducible show LPost _ _ _ _ _ _ _ _ _ _ _ _ _)); first | walk1 | (dsimp only; walk1)) | (k_end; dsimp only; k_unfold; (try dsimp only)) | fail "no step"))
    refine LCg.CompEnd.intro F4 N4 _ (fun p hp => hp) o6 (.inr ⟨_, .head _, rfl, _, rfl⟩) ⟨?_, rfl⟩
    rw [hix, List.map_append]
    exact hys.snoc hb
  rintro ys nw ⟨hys, rfl⟩ Do h9 tk9 F6 N6 o6
  have qDo1 : @Ne Nat (s₁.heap.objs.size + 1 + 1) Do := off1_mem o6 (s₁.heap.objs.size + 1 + 1, d1) (by k_mem)
  have qDo2 : @Ne Nat (s₁.heap.objs.size + 1) Do := off1_mem o6 (s₁.heap.objs.size + 1, d2) (by k_mem)
  clear o6
  (try clear F8); (try clear N8); (try clear F7); (try clear N7); (try clear F); (try clear N)
  have hyl : ys.length = rs.length + ts.length := by rw [hys.length, List.length_map, List.length_take, List.size_toArray, hl9, List.length_append]; omega
  rw [List.size_toArray, hl9, ← List.length_append, List.take_length] at hys
  clear hI7 hl9
  replace N6 : News s₁.heap s₁.heap.objs.size h9 [(Do, LCg.lst ys), (Dn, listOf nv.toArray nn), (Dr, listOf rv.toArray 0), (s₁.heap.objs.size + 1 + 1, d1), (s₁.heap.objs.size + 1, d2)] := cb_drop N6 (by kcj_all)
  (repeat' (first | (k_unfold; (try dsimp only)) | ((with_reducible show wpAny _ _ (call (Value.ref _) _ _) _ _ _); (first | (refine useI (add_does ⟨by assumption, by assumption, by assumption, by assumption, rfl, rfl, rfl, rfl⟩ (Nat.le_of_ble_eq_true rfl) (Nat.le_of_ble_eq_true rfl) ) (by assumption) (by assumption) ?_; intro _ _ _ _ _; (try k_sweep)) | (refine useI (sub_does ⟨by assumption, by assumption, by assumption, by assumption, rfl, rfl, rfl, rfl⟩ (Nat.le_of_ble_eq_true rfl) (Nat.le_of_ble_eq_true rfl) ) (by assumption) (by assumption) ?_; intro _ _ _ _ _; (try k_sweep)) | (refine useI (and_does ⟨by assumption, by assumption, by assumption, by assumption, rfl, rfl, rfl, rfl⟩ (Nat.le_of_ble_eq_true rfl) (Nat.le_of_ble_eq_true rfl) ) (by assumption) (by assumption) ?_; intro _ _ _ _ _; (try k_sweep)) | (refine useI (or_does ⟨by assumption, by assumption, by assumption, by assumption, rfl, rfl, rfl, rfl⟩ (Nat.le_of_ble_eq_true rfl) (Nat.le_of_ble_eq_true rfl) ) (by assumption) (by assumption) ?_; intro _ _ _ _ _; (try k_sweep)) | (refine useI (xor_does ⟨by assumption, by assumption, by assumption, by assumption, rfl, rfl, rfl, rfl⟩ (Nat.le_of_ble_eq_true rfl) (Nat.le_of_ble_eq_true rfl) ) (by assumption) (by assumption) ?_; intro _ _ _ _ _; (try k_sweep)) | (refine useI (inv_does ⟨by assumption, by assumption, by assumption, by assumption, rfl, rfl, rfl, rfl⟩ (Nat.le_of_ble_eq_true rfl) (Nat.le_of_ble_eq_true rfl) ) (by assumption) (by assumption) ?_; intro _ _ _ _ _; (try k_sweep)) | (refine useI (neg_does ⟨by assumption, by assumption, by assumption, by assumption, rfl, rfl, rfl, rfl⟩ (Nat.le_of_ble_eq_true rfl) (Nat.le_of_ble_eq_true rfl) ) (by assumption) (by assumption) ?_; intro _ _ _ _ _; (try k_sweep)) | (refine useI (rsh_does ⟨by assumption, by assumption, by assumption, by assumption, rfl, rfl, rfl, rfl⟩ (Nat.le_of_ble_eq_true rfl) (Nat.le_of_ble_eq_true rfl) (by decide)) (by assumption) (by assumption) ?_; intro _ _ _ _ _; (try k_sweep)) | (refine useI (lsh_does ⟨by assumption, by assumption, by assumption, by assumption, rfl, rfl, rfl, rfl⟩ (Nat.le_of_ble_eq_true rfl) (Nat.le_of_ble_eq_true rfl) (by decide) (by decide) (by omega)) (by assumption) (by assumption) ?_; intro _ _ _ _ _; (try k_sweep)))) | ((fail_if_success (with_reducible show wpAny _ _ (exec (Stmt.While _ _ _ _) _) _ _ _)); (fail_if_success (with_reducible show wpAny _ _ (exec (Stmt.For _ _ _ _ _) _) _ _ _)); (fail_if_success (with_reducible show wpAny _ _ (call (Value.ref _) _ _) _ _ _)); (fail_if_success (with_reducible show KswEnd _ _ _ _ _ _ _ _ _ _ _ _)); (fail_if_success (with_reducible show wpAny _ _ (eval (Expr.ListComp _ _ _ _) _) _ _ _)); (fail_if_success (with_reducible show wpAny _ _ (exec (Stmt.Assign _ (Expr.ListComp _ _ _ _) _) _) _ _ _)); (fail_if_success (with_reducible show Out _ _ _ _ _)); (fail_if_success (with_reducible show LCg.CompEnd _ _ _ _ _ _ _ _ _ _ _ _ _ _)); (fail_if_success (with_reducible show LCg.CompSrc _ _ _ _ _ _ _ _ _ _ _ _ _ _)); (fail_if_success (with_reducible show LCt.CompSrcT _ _ _ _ _ _ _ _ _ _ _ _ _ _ _)); (fail_if_success (with_reducible show Meet _ _ _)); (fail_if_success (with_reducible show wpAny _ _ (pyIter _) _ _ _)); (fail_if_success (with_reducible show LEnd _ _ _ _ _ _ _ _ _ _ _)); (fail_if_success (with_reducible show LPost _ _ _ _ _ _ _ _ _ _ _ _ _)); first | walk1 | (dsimp only; walk1)) | (k_end; dsimp only; k_unfold; (try dsimp only)) | fail "no step"))
  rename Fr _ _ _ _ => F8
  refine LCg.Assign_ListComp_U (cl := []) F8 rfl (by with_unfolding_all rfl) (closureFor_none (by decide)) (by decide) rfl (by decide) rfl rfl rfl ?_
  (repeat' (first | (k_unfold; (try dsimp only)) | ((with_reducible show wpAny _ _ (call (Value.ref _) _ _) _ _ _); (first | (refine useI (add_does ⟨by assumption, by assumption, by assumption, by assumption, rfl, rfl, rfl, rfl⟩ (Nat.le_of_ble_eq_true rfl) (Nat.le_of_ble_eq_true rfl) ) (by assumption) (by assumption) ?_; intro _ _ _ _ _; (try k_sweep)) | (refine useI (sub_does ⟨by assumption, by assumption, by assumption, by assumption, rfl, rfl, rfl, rfl⟩ (Nat.le_of_ble_eq_true rfl) (Nat.le_of_ble_eq_true rfl) ) (by assumption) (by assumption) ?_; intro _ _ _ _ _; (try k_sweep)) | (refine useI (and_does ⟨by assumption, by assumption, by assumption, by assumption, rfl, rfl, rfl, rfl⟩ (Nat.le_of_ble_eq_true rfl) (Nat.le_of_ble_eq_true rfl) ) (by assumption) (by assumption) ?_; intro _ _ _ _ _; (try k_sweep)) | (refine useI (or_does ⟨by assumption, by assumption, by assumption, by assumption, rfl, rfl, rfl, rfl⟩ (Nat.le_of_ble_eq_true rfl) (Nat.le_of_ble_eq_true rfl) ) (by assumption) (by assumption) ?_; intro _ _ _ _ _; (try k_sweep)) | (refine useI (xor_does ⟨by assumption, by assumption, by assumption, by assumption, rfl, rfl, rfl, rfl⟩ (Nat.le_of_ble_eq_true rfl) (Nat.le_of_ble_eq_true rfl) ) (by assumption) (by assumption) ?_; intro _ _ _ _ _; (try k_sweep)) | (refine useI (inv_does ⟨by assumption, by assumption, by assumption, by assumption, rfl, rfl, rfl, rfl⟩ (Nat.le_of_ble_eq_true rfl) (Nat.le_of_ble_eq_true rfl) ) (by assumption) (by assumption) ?_; intro _ _ _ _ _; (try k_sweep)) | (refine useI (neg_does ⟨by assumption, by assumption, by assumption, by assumption, rfl, rfl, rfl, rfl⟩ (Nat.le_of_ble_eq_true rfl) (Nat.le_of_ble_eq_true rfl) ) (by assumption) (by assumption) ?_; intro _ _ _ _ _; (try k_sweep)) | (refine useI (rsh_does ⟨by assumption, by assumption, by assumption, by assumption, rfl, rfl, rfl, rfl⟩ (Nat.le_of_ble_eq_true rfl) (Nat.le_of_ble_eq_true rfl) (by decide)) (by assumption) (by assumption) ?_; intro _ _ _ _ _; (try k_sweep)) | (refine useI (lsh_does ⟨by assumption, by assumption, by assumption, by assumption, rfl, rfl, rfl, rfl⟩ (Nat.le_of_ble_eq_true rfl) (Nat.le_of_ble_eq_true rfl) (by decide) (by decide) (by omega)) (by assumption) (by assumption) ?_; intro _ _ _ _ _; (try k_sweep)))) | ((fail_if_success (with_reducible show wpAny _ _ (exec (Stmt.While _ _ _ _) _) _ _ _)); (fail_if_success (with_reducible show wpAny _ _ (exec (Stmt.For _ _ _ _ _) _) _ _ _)); (fail_if_success (with_reducible show wpAny _ _ (call (Value.ref _) _ _) _ _ _)); (fail_if_success (with_reducible show KswEnd _ _ _ _ _ _ _ _ _ _ _ _)); (fail_if_success (with_reducible show wpAny _ _ (eval (Expr.ListComp _ _ _ _) _) _ _ _)); (fail_if_success (with_reducible show wpAny _ _ (exec (Stmt.Assign _ (Expr.ListComp _ _ _ _) _) _) _ _ _)); (fail_if_success (with_reducible show Out _ _ _ _ _)); (fail_if_success (with_reducible show LCg.CompEnd _ _ _ _ _ _ _ _ _ _ _ _ _ _)); (fail_if_success (with_reducible show LCg.CompSrc _ _ _ _ _ _ _ _ _ _ _ _ _ _)); (fail_if_success (with_reducible show LCt.CompSrcT _ _ _ _ _ _ _ _ _ _ _ _ _ _ _)); (fail_if_success (with_reducible show Meet _ _ _)); (fail_if_success (with_reducible show wpAny _ _ (pyIter _) _ _ _)); (fail_if_success (with_reducible show LEnd _ _ _ _ _ _ _ _ _ _ _)); (fail_if_success (with_reducible show LPost _ _ _ _ _ _ _ _ _ _ _ _ _)); first | walk1 | (dsimp only; walk1)) | (k_end; dsimp only; k_unfold; (try dsimp only)) | fail "no step"))
  rename Fr _ _ _ _ => F7
  rename News _ _ _ _ => N7
  refine LCg.CompSrc.ledger (its := ys.toArray) rfl F7 N7 (by k_mem) (by rw [List.size_toArray, sizeLine_eq]; omega) fun gg => comp_inv (fun i zs nw => BytesAre zs (((rs ++ ts).take i).map enc64) ∧ nw = _) ?_ ?_ _ 0 [] _ (Nat.zero_add _) ⟨.nil, rfl⟩
  · rintro i zs nw v I oI C oC D m₂ h9 tk9 E' hin ⟨hzs, rfl⟩ hv hoC hx F6 N6 o6 ne6
    obtain ⟨b9, t9, ks, rfl, hb9, hks⟩ := hys.at (List.getElem?_toArray ▸ hv)
    rw [List.getElem?_map] at hks
    obtain ⟨x, hxx, rfl⟩ := Option.map_eq_some_iff.mp hks
    have hix : (rs ++ ts).take (i + 1) = (rs ++ ts).take i ++ [x] := by rw [List.take_add_one, hxx]; rfl
    (try clear F8); (try clear N8); (try clear F7); (try clear N7); (try clear F)
    (repeat' (first | (k_unfold; (try dsimp only)) | ((with_reducible show wpAny _ _ (call (Value.ref _) _ _) _ _ _); (first | (refine useI (add_does ⟨by assumption, by assumption, by assumption, by assumption, rfl, rfl, rfl, rfl⟩ (Nat.le_of_ble_eq_true rfl) (Nat.le_of_ble_eq_true rfl) ) (by assumption) (by assumption) ?_; intro _ _ _ _ _; (try k_sweep)) | (refine useI (sub_does ⟨by assumption, by assumption, by assumption, by assumption, rfl, rfl, rfl, rfl⟩ (Nat.le_of_ble_eq_true rfl) (Nat.le_of_ble_eq_true rfl) ) (by assumption) (by assumption) ?_; intro _ _ _ _ _; (try k_sweep)) | (refine useI (and_does ⟨by assumption, by assumption, by assumption, by assumption, rfl, rfl, rfl, rfl⟩ (Nat.le_of_ble_eq_true rfl) (Nat.le_of_ble_eq_true rfl) ) (by assumption) (by assumption) ?_; intro _ _ _ _ _; (try k_sweep)) | (refine useI (or_does ⟨by assumption, by assumption, by assumption, by assumption, rfl, rfl, rfl, rfl⟩ (Nat.le_of_ble_eq_true rfl) (Nat.le_of_ble_eq_true rfl) ) (by assumption) (by assumption) ?_; intro _ _ _ _ _; (try k_sweep)) | (refine useI (xor_does ⟨by assumption, by assumption, by assumption, by assumption, rfl, rfl, rfl, rfl⟩ (Nat.le_of_ble_eq_true rfl) (Nat.le_of_ble_eq_true rfl) ) (by assumption) (by assumption) ?_; intro _ _ _ _ _; (try k_sweep)) | (refine useI (inv_does ⟨by assumption, by assumption, by assumption, by assumption, rfl, rfl, rfl, rfl⟩ (Nat.le_of_ble_eq_true rfl) (Nat.le_of_ble_eq_true rfl) ) (by assumption) (by assumption) ?_; intro _ _ _ _ _; (try k_sweep)) | (refine useI (neg_does ⟨by assumption, by assumption, by assumption, by assumption, rfl, rfl, rfl, rfl⟩ (Nat.le_of_ble_eq_true rfl) (Nat.le_of_ble_eq_true rfl) ) (by assumption) (by assumption) ?_; intro _ _ _ _ _; (try k_sweep)) | (refine useI (rsh_does ⟨by assumption, by assumption, by assumption, by assumption, rfl, rfl, rfl, rfl⟩ (Nat.le_of_ble_eq_true rfl) (Nat.le_of_ble_eq_true rfl) (by decide)) (by assumption) (by assumption) ?_; intro _ _ _ _ _; (try k_sweep)) | (refine useI (lsh_does ⟨by assumption, by assumption, by assumption, by assumption, rfl, rfl, rfl, rfl⟩ (Nat.le_of_ble_eq_true rfl) (Nat.le_of_ble_eq_true rfl) (by decide) (by decide) (by omega)) (by assumption) (by assumption) ?_; intro _ _ _ _ _; (try k_sweep)))) | ((fail_if_success (with_reducible show wpAny _ _ (exec (Stmt.While _ _ _ _) _) _ _ _)); (fail_if_success (with_reducible show wpAny _ _ (exec (Stmt.For _ _ _ _ _) _) _ _ _)); (fail_if_success (with_reducible show wpAny _ _ (call (Value.ref _) _ _) _ _ _)); (fail_if_success (with_reducible show KswEnd _ _ _ _ _ _ _ _ _ _ _ _)); (fail_if_success (with_reducible show wpAny _ _ (eval (Expr.ListComp _ _ _ _) _) _ _ _)); (fail_if_success (with_reducible show wpAny _ _ (exec (Stmt.Assign _ (Expr.ListComp _ _ _ _) _) _) _ _ _)); (fail_if_success (with_reducible show Out _ _ _ _ _)); (fail_if_success (with_reducible show LCg.CompEnd _ _ _ _ _ _ _ _ _ _ _ _ _ _)); (fail_if_success (with_reducible show LCg.CompSrc _ _ _ _ _ _ _ _ _ _ _ _ _ _)); (fail_if_success (with_reducible show LCt.CompSrcT _ _ _ _ _ _ _ _ _ _ _ _ _ _ _)); (fail_if_success (with_reducible show Meet _ _ _)); (fail_if_success (with_reducible show wpAny _ _ (pyIter _) _ _ _)); (fail_if_success (with_reducible show LEnd _ _ _ _ _ _ _ _ _ _ _)); (fail_if_success (with_reducible show LPost _ _ _ _ _ _ _ _ _ _ _ _ _)); first | walk1 | (dsimp only; walk1)) | (k_end; dsimp only; k_unfold; (try dsimp only)) | fail "no step"))
    rename Fr _ _ _ _ => F5
    rename News _ _ _ _ => N5
    refine use0 (b64encode_does ⟨B, F5, X, T, rfl, rfl, rfl, rfl⟩ (Nat.le_of_ble_eq_true rfl) (Nat.le_of_ble_eq_true rfl) hb9) F5 N5 ?_
    rintro _ h4 tk4 F4 N4 ⟨b, t, rfl, hb⟩
    (repeat' (first | (k_unfold; (try dsimp only)) | ((with_reducible show wpAny _ _ (call (Value.ref _) _ _) _ _ _); (first | (refine useI (add_does ⟨by assumption, by assumption, by assumption, by assumption, rfl, rfl, rfl, rfl⟩ (Nat.le_of_ble_eq_true rfl) (Nat.le_of_ble_eq_true rfl) ) (by assumption) (by assumption) ?_; intro _ _ _ _ _; (try k_sweep)) | (refine useI (sub_does ⟨by assumption, by assumption, by assumption, by assumption, rfl, rfl, rfl, rfl⟩ (Nat.le_of_ble_eq_true rfl) (Nat.le_of_ble_eq_true rfl) ) (by assumption) (by assumption) ?_; intro _ _ _ _ _; (try k_sweep)) | (refine useI (and_does ⟨by assumption, by assumption, by assumption, by assumption, rfl, rfl, rfl, rfl⟩ (Nat.le_of_ble_eq_true rfl) (Nat.le_of_ble_eq_true rfl) ) (by assumption) (by assumption) ?_; intro _ _ _ _ _; (try k_sweep)) | (refine useI (or_does ⟨by assumption, by assumption, by assumption, by assumption, rfl, rfl, rfl, rfl⟩ (Nat.le_of_ble_eq_true rfl) (Nat.le_of_ble_eq_true rfl) ) (by assumption) (by assumption) ?_; intro _ _ _ _ _; (try k_sweep)) | (refine useI (xor_does ⟨by assumption, by assumption, by assumption, by assumption, rfl, rfl, rfl, rfl⟩ (Nat.le_of_ble_eq_true rfl) (Nat.le_of_ble_eq_true rfl) ) (by assumption) (by assumption) ?_; intro _ _ _ _ _; (try k_sweep)) | (refine useI (inv_does ⟨by assumption, by assumption, by assumption, by assumption, rfl, rfl, rfl, rfl⟩ (Nat.le_of_ble_eq_true rfl) (Nat.le_of_ble_eq_true rfl) ) (by assumption) (by assumption) ?_; intro _ _ _ _ _; (try k_sweep)) | (refine useI (neg_does ⟨by assumption, by assumption, by assumption, by assumption, rfl, rfl, rfl, rfl⟩ (Nat.le_of_ble_eq_true rfl) (Nat.le_of_ble_eq_true rfl) ) (by assumption) (by assumption) ?_; intro _ _ _ _ _; (try k_sweep)) | (refine useI (rsh_does ⟨by assumption, by assumption, by assumption, by assumption, rfl, rfl, rfl, rfl⟩ (Nat.le_of_ble_eq_true rfl) (Nat.le_of_ble_eq_true rfl) (by decide)) (by assumption) (by assumption) ?_; intro _ _ _ _ _; (try k_sweep)) | (refine useI (lsh_does ⟨by assumption, by assumption, by assumption, by assumption, rfl, rfl, rfl, rfl⟩ (Nat.le_of_ble_eq_true rfl) (Nat.le_of_ble_eq_true rfl) (by decide) (by decide) (by omega)) (by assumption) (by assumption) ?_; intro _ _ _ _ _; (try k_sweep)))) | ((fail_if_success (with_reducible show wpAny _ _ (exec (Stmt.While _ _ _ _) _) _ _ _)); (fail_if_success (with_reducible show wpAny _ _ (exec (Stmt.For _ _ _ _ _) _) _ _ _)); (fail_if_success (with_reducible show wpAny _ _ (call (Value.ref _) _ _) _ _ _)); (fail_if_success (with_reducible show KswEnd _ _ _ _ _ _ _ _ _ _ _ _)); (fail_if_success (with_reducible show wpAny _ _ (eval (Expr.ListComp _ _ _ _) _) _ _ _)); (fail_if_success (with_reducible show wpAny _ _ (exec (Stmt.Assign _ (Expr.ListComp _ _ _ _) _) _) _ _ _)); (fail_if_success (with_reducible show Out _ _ _ _ _)); (fail_if_success (with_reducible show LCg.CompEnd _ _ _ _ _ _ _ _ _ _ _ _ _ _)); (fail_if_success (with_reducible show LCg.CompSrc _ _ _ _ _ _ _ _ _ _ _ _ _ _)); (fail_if_success (with_reducible show LCt.CompSrcT _ _ _ _ _ _ _ _ _ _ _ _ _ _ _)); (fail_if_success (with_reducible show Meet _ _ _)); (fail_if_success (with_reducible show wpAny _ _ (pyIter _) _ _ _)); (fail_if_success (with_reducible show LEnd _ _ _ _ _ _ _ _ _ _ _)); (fail_if_success (with_reducible show LPost _ _ _ _ _ _ _ _ _ _ _ _ _)); first | walk1 | (dsimp only; walk1)) | (k_end; dsimp only; k_unfold; (try dsimp only)) | fail "no step"))
    refine LCg.CompEnd.intro F4 N4 _ (fun p hp => hp) o6 (.inr ⟨_, by k_mem, rfl, _, rfl⟩) ⟨?_, rfl⟩
    rw [hix, List.map_append]
    exact hzs.snoc hb
  rintro fv nw ⟨fvh, rfl⟩ D4 h9 tk9 F6 N6 o6
  have qD41 : @Ne Nat (s₁.heap.objs.size + 1 + 1) D4 := off1_mem o6 (s₁.heap.objs.size + 1 + 1, d1) (by k_mem)
  have qD42 : @Ne Nat (s₁.heap.objs.size + 1) D4 := off1_mem o6 (s₁.heap.objs.size + 1, d2) (by k_mem)
  clear o6
  (try clear F8); (try clear N8); (try clear F7); (try clear N7); (try clear F); (try clear N)
  have fvl : fv.length = rs.length + ts.length := by rw [fvh.length, List.length_map, List.length_take, List.size_toArray, hyl, List.length_append]; omega
  rw [List.size_toArray, hyl, ← List.length_append, List.take_length] at fvh
  replace N6 : News s₁.heap s₁.heap.objs.size h9 [(D4, LCg.lst fv), (Do, LCg.lst ys), (Dn, listOf nv.toArray nn), (Dr, listOf rv.toArray 0), (s₁.heap.objs.size + 1 + 1, d1), (s₁.heap.objs.size + 1, d2)] := cb_drop N6 (by kcj_all)
  (repeat' (first | (k_unfold; (try dsimp only)) | ((with_reducible show wpAny _ _ (call (Value.ref _) _ _) _ _ _); (first | (refine useI (add_does ⟨by assumption, by assumption, by assumption, by assumption, rfl, rfl, rfl, rfl⟩ (Nat.le_of_ble_eq_true rfl) (Nat.le_of_ble_eq_true rfl) ) (by assumption) (by assumption) ?_; intro _ _ _ _ _; (try k_sweep)) | (refine useI (sub_does ⟨by assumption, by assumption, by assumption, by assumption, rfl, rfl, rfl, rfl⟩ (Nat.le_of_ble_eq_true rfl) (Nat.le_of_ble_eq_true rfl) ) (by assumption) (by assumption) ?_; intro _ _ _ _ _; (try k_sweep)) | (refine useI (and_does ⟨by assumption, by assumption, by assumption, by assumption, rfl, rfl, rfl, rfl⟩ (Nat.le_of_ble_eq_true rfl) (Nat.le_of_ble_eq_true rfl) ) (by assumption) (by assumption) ?_; intro _ _ _ _ _; (try k_sweep)) | (refine useI (or_does ⟨by assumption, by assumption, by assumption, by assumption, rfl, rfl, rfl, rfl⟩ (Nat.le_of_ble_eq_true rfl) (Nat.le_of_ble_eq_true rfl) ) (by assumption) (by assumption) ?_; intro _ _ _ _ _; (try k_sweep)) | (refine useI (xor_does ⟨by assumption, by assumption, by assumption, by assumption, rfl, rfl, rfl, rfl⟩ (Nat.le_of_ble_eq_true rfl) (Nat.le_of_ble_eq_true rfl) ) (by assumption) (by assumption) ?_; intro _ _ _ _ _; (try k_sweep)) | (refine useI (inv_does ⟨by assumption, by assumption, by assumption, by assumption, rfl, rfl, rfl, rfl⟩ (Nat.le_of_ble_eq_true rfl) (Nat.le_of_ble_eq_true rfl) ) (by assumption) (by assumption) ?_; intro _ _ _ _ _; (try k_sweep)) | (refine useI (neg_does ⟨by assumption, by assumption, by assumption, by assumption, rfl, rfl, rfl, rfl⟩ (Nat.le_of_ble_eq_true rfl) (Nat.le_of_ble_eq_true rfl) ) (by assumption) (by assumption) ?_; intro _ _ _ _ _; (try k_sweep)) | (refine useI (rsh_does ⟨by assumption, by assumption, by assumption, by assumption, rfl, rfl, rfl, rfl⟩ (Nat.le_of_ble_eq_true rfl) (Nat.le_of_ble_eq_true rfl) (by decide)) (by assumption) (by assumption) ?_; intro _ _ _ _ _; (try k_sweep)) | (refine useI (lsh_does ⟨by assumption, by assumption, by assumption, by assumption, rfl, rfl, rfl, rfl⟩ (Nat.le_of_ble_eq_true rfl) (Nat.le_of_ble_eq_true rfl) (by decide) (by decide) (by omega)) (by assumption) (by assumption) ?_; intro _ _ _ _ _; (try k_sweep)))) | ((fail_if_success (with_reducible show wpAny _ _ (exec (Stmt.While _ _ _ _) _) _ _ _)); (fail_if_success (with_reducible show wpAny _ _ (exec (Stmt.For _ _ _ _ _) _) _ _ _)); (fail_if_success (with_reducible show wpAny _ _ (call (Value.ref _) _ _) _ _ _)); (fail_if_success (with_reducible show KswEnd _ _ _ _ _ _ _ _ _ _ _ _)); (fail_if_success (with_reducible show wpAny _ _ (eval (Expr.ListComp _ _ _ _) _) _ _ _)); (fail_if_success (with_reducible show wpAny _ _ (exec (Stmt.Assign _ (Expr.ListComp _ _ _ _) _) _) _ _ _)); (fail_if_success (with_reducible show Out _ _ _ _ _)); (fail_if_success (with_reducible show LCg.CompEnd _ _ _ _ _ _ _ _ _ _ _ _ _ _)); (fail_if_success (with_reducible show LCg.CompSrc _ _ _ _ _ _ _ _ _ _ _ _ _ _)); (fail_if_success (with_reducible show LCt.CompSrcT _ _ _ _ _ _ _ _ _ _ _ _ _ _ _)); (fail_if_success (with_reducible show Meet _ _ _)); (fail_if_success (with_reducible show wpAny _ _ (pyIter _) _ _ _)); (fail_if_success (with_reducible show LEnd _ _ _ _ _ _ _ _ _ _ _)); (fail_if_success (with_reducible show LPost _ _ _ _ _ _ _ _ _ _ _ _ _)); first | walk1 | (dsimp only; walk1)) | (k_end; dsimp only; k_unfold; (try dsimp only)) | fail "no step"))
  rename Fr _ _ _ _ => F8
  refine LCg.Assign_ListComp_U (cl := []) F8 rfl (by with_unfolding_all rfl) (closureFor_none (by decide)) (by decide) rfl (by decide) rfl rfl rfl ?_
  (repeat' (first | (k_unfold; (try dsimp only)) | ((with_reducible show wpAny _ _ (call (Value.ref _) _ _) _ _ _); (first | (refine useI (add_does ⟨by assumption, by assumption, by assumption, by assumption, rfl, rfl, rfl, rfl⟩ (Nat.le_of_ble_eq_true rfl) (Nat.le_of_ble_eq_true rfl) ) (by assumption) (by assumption) ?_; intro _ _ _ _ _; (try k_sweep)) | (refine useI (sub_does ⟨by assumption, by assumption, by assumption, by assumption, rfl, rfl, rfl, rfl⟩ (Nat.le_of_ble_eq_true rfl) (Nat.le_of_ble_eq_true rfl) ) (by assumption) (by assumption) ?_; intro _ _ _ _ _; (try k_sweep)) | (refine useI (and_does ⟨by assumption, by assumption, by assumption, by assumption, rfl, rfl, rfl, rfl⟩ (Nat.le_of_ble_eq_true rfl) (Nat.le_of_ble_eq_true rfl) ) (by assumption) (by assumption) ?_; intro _ _ _ _ _; (try k_sweep)) | (refine useI (or_does ⟨by assumption, by assumption, by assumption, by assumption, rfl, rfl, rfl, rfl⟩ (Nat.le_of_ble_eq_true rfl) (Nat.le_of_ble_eq_true rfl) ) (by assumption) (by assumption) ?_; intro _ _ _ _ _; (try k_sweep)) | (refine useI (xor_does ⟨by assumption, by assumption, by assumption, by assumption, rfl, rfl, rfl, rfl⟩ (Nat.le_of_ble_eq_true rfl) (Nat.le_of_ble_eq_true rfl) ) (by assumption) (by assumption) ?_; intro _ _ _ _ _; (try k_sweep)) | (refine useI (inv_does ⟨by assumption, by assumption, by assumption, by assumption, rfl, rfl, rfl, rfl⟩ (Nat.le_of_ble_eq_true rfl) (Nat.le_of_ble_eq_true rfl) ) (by assumption) (by assumption) ?_; intro _ _ _ _ _; (try k_sweep)) | (refine useI (neg_does ⟨by assumption, by assumption, by assumption, by assumption, rfl, rfl, rfl, rfl⟩ (Nat.le_of_ble_eq_true rfl) (Nat.le_of_ble_eq_true rfl) ) (by assumption) (by assumption) ?_; intro _ _ _ _ _; (try k_sweep)) | (refine useI (rsh_does ⟨by assumption, by assumption, by assumption, by assumption, rfl, rfl, rfl, rfl⟩ (Nat.le_of_ble_eq_true rfl) (Nat.le_of_ble_eq_true rfl) (by decide)) (by assumption) (by assumption) ?_; intro _ _ _ _ _; (try k_sweep)) | (refine useI (lsh_does ⟨by assumption, by assumption, by assumption, by assumption, rfl, rfl, rfl, rfl⟩ (Nat.le_of_ble_eq_true rfl) (Nat.le_of_ble_eq_true rfl) (by decide) (by decide) (by omega)) (by assumption) (by assumption) ?_; intro _ _ _ _ _; (try k_sweep)))) | ((fail_if_success (with_reducible show wpAny _ _ (exec (Stmt.While _ _ _ _) _) _ _ _)); (fail_if_success (with_reducible show wpAny _ _ (exec (Stmt.For _ _ _ _ _) _) _ _ _)); (fail_if_success (with_reducible show wpAny _ _ (call (Value.ref _) _ _) _ _ _)); (fail_if_success (with_reducible show KswEnd _ _ _ _ _ _ _ _ _ _ _ _)); (fail_if_success (with_reducible show wpAny _ _ (eval (Expr.ListComp _ _ _ _) _) _ _ _)); (fail_if_success (with_reducible show wpAny _ _ (exec (Stmt.Assign _ (Expr.ListComp _ _ _ _) _) _) _ _ _)); (fail_if_success (with_reducible show Out _ _ _ _ _)); (fail_if_success (with_reducible show LCg.CompEnd _ _ _ _ _ _ _ _ _ _ _ _ _ _)); (fail_if_success (with_reducible show LCg.CompSrc _ _ _ _ _ _ _ _ _ _ _ _ _ _)); (fail_if_success (with_reducible show LCt.CompSrcT _ _ _ _ _ _ _ _ _ _ _ _ _ _ _)); (fail_if_success (with_reducible show Meet _ _ _)); (fail_if_success (with_reducible show wpAny _ _ (pyIter _) _ _ _)); (fail_if_success (with_reducible show LEnd _ _ _ _ _ _ _ _ _ _ _)); (fail_if_success (with_reducible show LPost _ _ _ _ _ _ _ _ _ _ _ _ _)); first | walk1 | (dsimp only; walk1)) | (k_end; dsimp only; k_unfold; (try dsimp only)) | fail "no step"))
  rename Fr _ _ _ _ => F7
  rename News _ _ _ _ => N7
  refine LCg.CompSrc.ledger (its := ys.toArray) rfl F7 N7 (by k_mem) (by rw [List.size_toArray, sizeLine_eq]; omega) fun gg => comp_inv (fun i zs nw => BytesAre zs (((rs ++ ts).take i).map enc16) ∧ nw = _) ?_ ?_ _ 0 [] _ (Nat.zero_add _) ⟨.nil, rfl⟩
  · rintro i zs nw v I oI C oC D m₂ h9 tk9 E' hin ⟨hzs, rfl⟩ hv hoC hx F6 N6 o6 ne6
    obtain ⟨b9, t9, ks, rfl, hb9, hks⟩ := hys.at (List.getElem?_toArray ▸ hv)
    rw [List.getElem?_map] at hks
    obtain ⟨x, hxx, rfl⟩ := Option.map_eq_some_iff.mp hks
    have hix : (rs ++ ts).take (i + 1) = (rs ++ ts).take i ++ [x] := by rw [List.take_add_one, hxx]; rfl
    (try clear F8); (try clear N8); (try clear F7); (try clear N7); (try clear F)
    (repeat' (first | (k_unfold; (try dsimp only)) | ((with_reducible show wpAny _ _ (call (Value.ref _) _ _) _ _ _); (first | (refine useI (add_does ⟨by assumption, by assumption, by assumption, by assumption, rfl, rfl, rfl, rfl⟩ (Nat.le_of_ble_eq_true rfl) (Nat.le_of_ble_eq_true rfl) ) (by assumption) (by assumption) ?_; intro _ _ _ _ _; (try k_sweep)) | (refine useI (sub_does ⟨by assumption, by assumption, by assumption, by assumption, rfl, rfl, rfl, rfl⟩ (Nat.le_of_ble_eq_true rfl) (Nat.le_of_ble_eq_true rfl) ) (by assumption) (by assumption) ?_; intro _ _ _ _ _; (try k_sweep)) | (refine useI (and_does ⟨by assumption, by assumption, by assumption, by assumption, rfl, rfl, rfl, rfl⟩ (Nat.le_of_ble_eq_true rfl) (Nat.le_of_ble_eq_true rfl) ) (by assumption) (by assumption) ?_; intro _ _ _ _ _; (try k_sweep)) | (refine useI (or_does ⟨by assumption, by assumption, by assumption, by assumption, rfl, rfl, rfl, rfl⟩ (Nat.le_of_ble_eq_true rfl) (Nat.le_of_ble_eq_true rfl) ) (by assumption) (by assumption) ?_; intro _ _ _ _ _; (try k_sweep)) | (refine useI (xor_does ⟨by assumption, by assumption, by assumption, by assumption, rfl, rfl, rfl, rfl⟩ (Nat.le_of_ble_eq_true rfl) (Nat.le_of_ble_eq_true rfl) ) (by assumption) (by assumption) ?_; intro _ _ _ _ _; (try k_sweep)) | (refine useI (inv_does ⟨by assumption, by assumption, by assumption, by assumption, rfl, rfl, rfl, rfl⟩ (Nat.le_of_ble_eq_true rfl) (Nat.le_of_ble_eq_true rfl) ) (by assumption) (by assumption) ?_; intro _ _ _ _ _; (try k_sweep)) | (refine useI (neg_does ⟨by assumption, by assumption, by assumption, by assumption, rfl, rfl, rfl, rfl⟩ (Nat.le_of_ble_eq_true rfl) (Nat.le_of_ble_eq_true rfl) ) (by assumption) (by assumption) ?_; intro _ _ _ _ _; (try k_sweep)) | (refine useI (rsh_does ⟨by assumption, by assumption, by assumption, by assumption, rfl, rfl, rfl, rfl⟩ (Nat.le_of_ble_eq_true rfl) (Nat.le_of_ble_eq_true rfl) (by decide)) (by assumption) (by assumption) ?_; intro _ _ _ _ _; (try k_sweep)) | (refine useI (lsh_does ⟨by assumption, by assumption, by assumption, by assumption, rfl, rfl, rfl, rfl⟩ (Nat.le_of_ble_eq_true rfl) (Nat.le_of_ble_eq_true rfl) (by decide) (by decide) (by omega)) (by assumption) (by assumption) ?_; intro _ _ _ _ _; (try k_sweep)))) | ((fail_if_success (with_reducible show wpAny _ _ (exec (Stmt.While _ _ _ _) _) _ _ _)); (fail_if_success (with_reducible show wpAny _ _ (exec (Stmt.For _ _ _ _ _) _) _ _ _)); (fail_if_success (with_reducible show wpAny _ _ (call (Value.ref _) _ _) _ _ _)); (fail_if_success (with_reducible show KswEnd _ _ _ _ _ _ _ _ _ _ _ _)); (fail_if_success (with_reducible show wpAny _ _ (eval (Expr.ListComp _ _ _ _) _) _ _ _)); (fail_if_success (with_reducible show wpAny _ _ (exec (Stmt.Assign _ (Expr.ListComp _ _ _ _) _) _) _ _ _)); (fail_if_success (with_reducible show Out _ _ _ _ _)); (fail_if_success (with_reducible show LCg.CompEnd _ _ _ _ _ _ _ _ _ _ _ _ _ _)); (fail_if_success (with_reducible show LCg.CompSrc _ _ _ _ _ _ _ _ _ _ _ _ _ _)); (fail_if_success (with_reducible show LCt.CompSrcT _ _ _ _ _ _ _ _ _ _ _ _ _ _ _)); (fail_if_success (with_reducible show Meet _ _ _)); (fail_if_success (with_reducible show wpAny _ _ (pyIter _) _ _ _)); (fail_if_success (with_reducible show LEnd _ _ _ _ _ _ _ _ _ _ _)); (fail_if_success (with_reducible show LPost _ _ _ _ _ _ _ _ _ _ _ _ _)); first | walk1 | (dsimp only; walk1)) | (k_end; dsimp only; k_unfold; (try dsimp only)) | fail "no step"))
    rename Fr _ _ _ _ => F5
    rename News _ _ _ _ => N5
    refine use0 (b16encode_does ⟨B, F5, X, T, rfl, rfl, rfl, rfl⟩ (Nat.le_of_ble_eq_true rfl) (Nat.le_of_ble_eq_true rfl) hb9) F5 N5 ?_
    rintro _ h4 tk4 F4 N4 ⟨b, t, rfl, hb⟩
    (repeat' (first | (k_unfold; (try dsimp only)) | ((with_reducible show wpAny _ _ (call (Value.ref _) _ _) _ _ _); (first | (refine useI (add_does ⟨by assumption, by assumption, by assumption, by assumption, rfl, rfl, rfl, rfl⟩ (Nat.le_of_ble_eq_true rfl) (Nat.le_of_ble_eq_true rfl) ) (by assumption) (by assumption) ?_; intro _ _ _ _ _; (try k_sweep)) | (refine useI (sub_does ⟨by assumption, by assumption, by assumption, by assumption, rfl, rfl, rfl, rfl⟩ (Nat.le_of_ble_eq_true rfl) (Nat.le_of_ble_eq_true rfl) ) (by assumption) (by assumption) ?_; intro _ _ _ _ _; (try k_sweep)) | (refine useI (and_does ⟨by assumption, by assumption, by assumption, by assumption, rfl, rfl, rfl, rfl⟩ (Nat.le_of_ble_eq_true rfl) (Nat.le_of_ble_eq_true rfl) ) (by assumption) (by assumption) ?_; intro _ _ _ _ _; (try k_sweep)) | (refine useI (or_does ⟨by assumption, by assumption, by assumption, by assumption, rfl, rfl, rfl, rfl⟩ (Nat.le_of_ble_eq_true rfl) (Nat.le_of_ble_eq_true rfl) ) (by assumption) (by assumption) ?_; intro _ _ _ _ _; (try k_sweep)) | (refine useI (xor_does ⟨by assumption, by assumption, by assumption, by assumption, rfl, rfl, rfl, rfl⟩ (Nat.le_of_ble_eq_true rfl) (Nat.le_of_ble_eq_true rfl) ) (by assumption) (by assumption) ?_; intro _ _ _ _ _; (try k_sweep)) | (refine useI (inv_does ⟨by assumption, by assumption, by assumption, by assumption, rfl, rfl, rfl, rfl⟩ (Nat.le_of_ble_eq_true rfl) (Nat.le_of_ble_eq_true rfl) ) (by assumption) (by assumption) ?_; intro _ _ _ _ _; (try k_sweep)) | (refine useI (neg_does ⟨by assumption, by assumption, by assumption, by assumption, rfl, rfl, rfl, rfl⟩ (Nat.le_of_ble_eq_true rfl) (Nat.le_of_ble_eq_true rfl) ) (by assumption) (by assumption) ?_; intro _ _ _ _ _; (try k_sweep)) | (refine useI (rsh_does ⟨by assumption, by assumption, by assumption, by assumption, rfl, rfl, rfl, rfl⟩ (Nat.le_of_ble_eq_true rfl) (Nat.le_of_ble_eq_true rfl) (by decide)) (by assumption) (by assumption) ?_; intro _ _ _ _ _; (try k_sweep)) | (refine useI (lsh_does ⟨by assumption, by assumption, by assumption, by assumption, rfl, rfl, rfl, rfl⟩ (Nat.le_of_ble_eq_true rfl) (Nat.le_of_ble_eq_true rfl) (by decide) (by decide) (by omega)) (by assumption) (by assumption) ?_; intro _ _ _ _ _; (try k_sweep)))) | ((fail_if_success (with_reducible show wpAny _ _ (exec (Stmt.While _ _ _ _) _) _ _ _)); (fail_if_success (with_reducible show wpAny _ _ (exec (Stmt.For _ _ _ _ _) _) _ _ _)); (fail_if_success (with_reducible show wpAny _ _ (call (Value.ref _) _ _) _ _ _)); (fail_if_success (with_reducible show KswEnd _ _ _ _ _ _ _ _ _ _ _ _)); (fail_if_success (with_reducible show wpAny _ _ (eval (Expr.ListComp _ _ _ _) _) _ _ _)); (fail_if_success (with_reducible show wpAny _ _ (exec (Stmt.Assign _ (Expr.ListComp _ _ _ _) _) _) _ _ _)); (fail_if_success (with_reducible show Out _ _ _ _ _)); (fail_if_success (with_reducible show LCg.CompEnd _ _ _ _ _ _ _ _ _ _ _ _ _ _)); (fail_if_success (with_reducible show LCg.CompSrc _ _ _ _ _ _ _ _ _ _ _ _ _ _)); (fail_if_success (with_reducible show LCt.CompSrcT _ _ _ _ _ _ _ _ _ _ _ _ _ _ _)); (fail_if_success (with_reducible show Meet _ _ _)); (fail_if_success (with_reducible show wpAny _ _ (pyIter _) _ _ _)); (fail_if_success (with_reducible show LEnd _ _ _ _ _ _ _ _ _ _ _)); (fail_if_success (with_reducible show LPost _ _ _ _ _ _ _ _ _ _ _ _ _)); first | walk1 | (dsimp only; walk1)) | (k_end; dsimp only; k_unfold; (try dsimp only)) | fail "no step"))
    refine LCg.CompEnd.intro F4 N4 _ (fun p hp => hp) o6 (.inr ⟨_, by k_mem, rfl, _, rfl⟩) ⟨?_, rfl⟩
    rw [hix, List.map_append]
    exact hzs.snoc hb
  rintro xv nw ⟨xvh, rfl⟩ D6 h9 tk9 F6 N6 o6
  have qD61 : @Ne Nat (s₁.heap.objs.size + 1 + 1) D6 := off1_mem o6 (s₁.heap.objs.size + 1 + 1, d1) (by k_mem)
  have qD62 : @Ne Nat (s₁.heap.objs.size + 1) D6 := off1_mem o6 (s₁.heap.objs.size + 1, d2) (by k_mem)
  clear o6
  (try clear F8); (try clear N8); (try clear F7); (try clear N7); (try clear F); (try clear N)
  have xvl : xv.length = rs.length + ts.length := by rw [xvh.length, List.length_map, List.length_take, List.size_toArray, hyl, List.length_append]; omega
  rw [List.size_toArray, hyl, ← List.length_append, List.take_length] at xvh
  replace N6 : News s₁.heap s₁.heap.objs.size h9 [(D6, LCg.lst xv), (D4, LCg.lst fv), (Do, LCg.lst ys), (Dn, listOf nv.toArray nn), (Dr, listOf rv.toArray 0), (s₁.heap.objs.size + 1 + 1, d1), (s₁.heap.objs.size + 1, d2)] := cb_drop N6 (by kcj_all)
  (repeat' (first | (k_unfold; (try dsimp only)) | ((with_reducible show wpAny _ _ (call (Value.ref _) _ _) _ _ _); (first | (refine useI (add_does ⟨by assumption, by assumption, by assumption, by assumption, rfl, rfl, rfl, rfl⟩ (Nat.le_of_ble_eq_true rfl) (Nat.le_of_ble_eq_true rfl) ) (by assumption) (by assumption) ?_; intro _ _ _ _ _; (try k_sweep)) | (refine useI (sub_does ⟨by assumption, by assumption, by assumption, by assumption, rfl, rfl, rfl, rfl⟩ (Nat.le_of_ble_eq_true rfl) (Nat.le_of_ble_eq_true rfl) ) (by assumption) (by assumption) ?_; intro _ _ _ _ _; (try k_sweep)) | (refine useI (and_does ⟨by assumption, by assumption, by assumption, by assumption, rfl, rfl, rfl, rfl⟩ (Nat.le_of_ble_eq_true rfl) (Nat.le_of_ble_eq_true rfl) ) (by assumption) (by assumption) ?_; intro _ _ _ _ _; (try k_sweep)) | (refine useI (or_does ⟨by assumption, by assumption, by assumption, by assumption, rfl, rfl, rfl, rfl⟩ (Nat.le_of_ble_eq_true rfl) (Nat.le_of_ble_eq_true rfl) ) (by assumption) (by assumption) ?_; intro _ _ _ _ _; (try k_sweep)) | (refine useI (xor_does ⟨by assumption, by assumption, by assumption, by assumption, rfl, rfl, rfl, rfl⟩ (Nat.le_of_ble_eq_true rfl) (Nat.le_of_ble_eq_true rfl) ) (by assumption) (by assumption) ?_; intro _ _ _ _ _; (try k_sweep)) | (refine useI (inv_does ⟨by assumption, by assumption, by assumption, by assumption, rfl, rfl, rfl, rfl⟩ (Nat.le_of_ble_eq_true rfl) (Nat.le_of_ble_eq_true rfl) ) (by assumption) (by assumption) ?_; intro _ _ _ _ _; (try k_sweep)) | (refine useI (neg_does ⟨by assumption, by assumption, by assumption, by assumption, rfl, rfl, rfl, rfl⟩ (Nat.le_of_ble_eq_true rfl) (Nat.le_of_ble_eq_true rfl) ) (by assumption) (by assumption) ?_; intro _ _ _ _ _; (try k_sweep)) | (refine useI (rsh_does ⟨by assumption, by assumption, by assumption, by assumption, rfl, rfl, rfl, rfl⟩ (Nat.le_of_ble_eq_true rfl) (Nat.le_of_ble_eq_true rfl) (by decide)) (by assumption) (by assumption) ?_; intro _ _ _ _ _; (try k_sweep)) | (refine useI (lsh_does ⟨by assumption, by assumption, by assumption, by assumption, rfl, rfl, rfl, rfl⟩ (Nat.le_of_ble_eq_true rfl) (Nat.le_of_ble_eq_true rfl) (by decide) (by decide) (by omega)) (by assumption) (by assumption) ?_; intro _ _ _ _ _; (try k_sweep)))) | ((fail_if_success (with_reducible show wpAny _ _ (exec (Stmt.While _ _ _ _) _) _ _ _)); (fail_if_success (with_reducible show wpAny _ _ (exec (Stmt.For _ _ _ _ _) _) _ _ _)); (fail_if_success (with_reducible show wpAny _ _ (call (Value.ref _) _ _) _ _ _)); (fail_if_success (with_reducible show KswEnd _ _ _ _ _ _ _ _ _ _ _ _)); (fail_if_success (with_reducible show wpAny _ _ (eval (Expr.ListComp _ _ _ _) _) _ _ _)); (fail_if_success (with_reducible show wpAny _ _ (exec (Stmt.Assign _ (Expr.ListComp _ _ _ _) _) _) _ _ _)); (fail_if_success (with_reducible show Out _ _ _ _ _)); (fail_if_success (with_reducible show LCg.CompEnd _ _ _ _ _ _ _ _ _ _ _ _ _ _)); (fail_if_success (with_reducible show LCg.CompSrc _ _ _ _ _ _ _ _ _ _ _ _ _ _)); (fail_if_success (with_reducible show LCt.CompSrcT _ _ _ _ _ _ _ _ _ _ _ _ _ _ _)); (fail_if_success (with_reducible show Meet _ _ _)); (fail_if_success (with_reducible show wpAny _ _ (pyIter _) _ _ _)); (fail_if_success (with_reducible show LEnd _ _ _ _ _ _ _ _ _ _ _)); (fail_if_success (with_reducible show LPost _ _ _ _ _ _ _ _ _ _ _ _ _)); first | walk1 | (dsimp only; walk1)) | (k_end; dsimp only; k_unfold; (try dsimp only)) | fail "no step"))
  rename Fr _ _ _ _ => F9
  rename News _ _ _ _ => N9
  dsimp only at N9
  rw [slicePick_upto _ _ (by rw [List.size_toArray, fvl]; omega), slicePick_from _ _ (by rw [List.size_toArray, fvl]; omega)] at N9
  simp only [List.toList_toArray] at N9
  have hT9 := fvh.take rs.length
  have hM9 := fvh.drop rs.length
  rw [List.map_append, List.take_left' (List.length_map _)] at hT9
  rw [List.map_append, List.drop_left' (List.length_map _)] at hM9
  refine use0 (together_does ⟨B, F9, X, T, rfl, rfl, rfl, rfl⟩ (Nat.le_of_ble_eq_true rfl) (Nat.le_of_ble_eq_true rfl) (sz := 4) ⟨_, (N9 _ (.tail _ (.head _))).1, rfl, _, rfl⟩ ⟨_, (N9 _ (.head _)).1, rfl, _, rfl⟩ hT9 hM9 (by decide) (by rw [List.length_map]; omega) (by rw [List.length_map]; omega) ?hall hc64) F9 N9 ?_
  case hall =>
    intro ks hks
    rcases List.mem_append.mp hks with hks | hks <;> (obtain ⟨x, _, rfl⟩ := List.mem_map.mp hks; rfl)
  rintro _ h8 tk8 F8 N8 rfl
  (try clear F9); (try clear N9); clear hT9 hM9
  replace N8 : News s₁.heap s₁.heap.objs.size h8 [(D6, LCg.lst xv), (D4, LCg.lst fv), (Do, LCg.lst ys), (Dn, listOf nv.toArray nn), (Dr, listOf rv.toArray 0), (s₁.heap.objs.size + 1 + 1, d1), (s₁.heap.objs.size + 1, d2)] := cb_drop N8 (by kcj_all)
  (repeat' (first | (k_unfold; (try dsimp only)) | ((with_reducible show wpAny _ _ (call (Value.ref _) _ _) _ _ _); (first | (refine useI (add_does ⟨by assumption, by assumption, by assumption, by assumption, rfl, rfl, rfl, rfl⟩ (Nat.le_of_ble_eq_true rfl) (Nat.le_of_ble_eq_true rfl) ) (by assumption) (by assumption) ?_; intro _ _ _ _ _; (try k_sweep)) | (refine useI (sub_does ⟨by assumption, by assumption, by assumption, by assumption, rfl, rfl, rfl, rfl⟩ (Nat.le_of_ble_eq_true rfl) (Nat.le_of_ble_eq_true rfl) ) (by assumption) (by assumption) ?_; intro _ _ _ _ _; (try k_sweep)) | (refine useI (and_does ⟨by assumption, by assumption, by assumption, by assumption, rfl, rfl, rfl, rfl⟩ (Nat.le_of_ble_eq_true rfl) (Nat.le_of_ble_eq_true rfl) ) (by assumption) (by assumption) ?_; intro _ _ _ _ _; (try k_sweep)) | (refine useI (or_does ⟨by assumption, by assumption, by assumption, by assumption, rfl, rfl, rfl, rfl⟩ (Nat.le_of_ble_eq_true rfl) (Nat.le_of_ble_eq_true rfl) ) (by assumption) (by assumption) ?_; intro _ _ _ _ _; (try k_sweep)) | (refine useI (xor_does ⟨by assumption, by assumption, by assumption, by assumption, rfl, rfl, rfl, rfl⟩ (Nat.le_of_ble_eq_true rfl) (Nat.le_of_ble_eq_true rfl) ) (by assumption) (by assumption) ?_; intro _ _ _ _ _; (try k_sweep)) | (refine useI (inv_does ⟨by assumption, by assumption, by assumption, by assumption, rfl, rfl, rfl, rfl⟩ (Nat.le_of_ble_eq_true rfl) (Nat.le_of_ble_eq_true rfl) ) (by assumption) (by assumption) ?_; intro _ _ _ _ _; (try k_sweep)) | (refine useI (neg_does ⟨by assumption, by assumption, by assumption, by assumption, rfl, rfl, rfl, rfl⟩ (Nat.le_of_ble_eq_true rfl) (Nat.le_of_ble_eq_true rfl) ) (by assumption) (by assumption) ?_; intro _ _ _ _ _; (try k_sweep)) | (refine useI (rsh_does ⟨by assumption, by assumption, by assumption, by assumption, rfl, rfl, rfl, rfl⟩ (Nat.le_of_ble_eq_true rfl) (Nat.le_of_ble_eq_true rfl) (by decide)) (by assumption) (by assumption) ?_; intro _ _ _ _ _; (try k_sweep)) | (refine useI (lsh_does ⟨by assumption, by assumption, by assumption, by assumption, rfl, rfl, rfl, rfl⟩ (Nat.le_of_ble_eq_true rfl) (Nat.le_of_ble_eq_true rfl) (by decide) (by decide) (by omega)) (by assumption) (by assumption) ?_; intro _ _ _ _ _; (try k_sweep)))) | ((fail_if_success (with_reducible show wpAny _ _ (exec (Stmt.While _ _ _ _) _) _ _ _)); (fail_if_success (with_reducible show wpAny _ _ (exec (Stmt.For _ _ _ _ _) _) _ _ _)); (fail_if_success (with_reducible show wpAny _ _ (call (Value.ref _) _ _) _ _ _)); (fail_if_success (with_reducible show KswEnd _ _ _ _ _ _ _ _ _ _ _ _)); (fail_if_success (with_reducible show wpAny _ _ (eval (Expr.ListComp _ _ _ _) _) _ _ _)); (fail_if_success (with_reducible show wpAny _ _ (exec (Stmt.Assign _ (Expr.ListComp _ _ _ _) _) _) _ _ _)); (fail_if_success (with_reducible show Out _ _ _ _ _)); (fail_if_success (with_reducible show LCg.CompEnd _ _ _ _ _ _ _ _ _ _ _ _ _ _)); (fail_if_success (with_reducible show LCg.CompSrc _ _ _ _ _ _ _ _ _ _ _ _ _ _)); (fail_if_success (with_reducible show LCt.CompSrcT _ _ _ _ _ _ _ _ _ _ _ _ _ _ _)); (fail_if_success (with_reducible show Meet _ _ _)); (fail_if_success (with_reducible show wpAny _ _ (pyIter _) _ _ _)); (fail_if_success (with_reducible show LEnd _ _ _ _ _ _ _ _ _ _ _)); (fail_if_success (with_reducible show LPost _ _ _ _ _ _ _ _ _ _ _ _ _)); first | walk1 | (dsimp only; walk1)) | (k_end; dsimp only; k_unfold; (try dsimp only)) | fail "no step"))
  rename Fr _ _ _ _ => F9
  rename News _ _ _ _ => N9
  dsimp only at N9
  rw [slicePick_upto _ _ (by rw [List.size_toArray, xvl]; omega), slicePick_from _ _ (by rw [List.size_toArray, xvl]; omega)] at N9
  simp only [List.toList_toArray] at N9
  have hT9 := xvh.take rs.length
  have hM9 := xvh.drop rs.length
  rw [List.map_append, List.take_left' (List.length_map _)] at hT9
  rw [List.map_append, List.drop_left' (List.length_map _)] at hM9
  refine use0 (together_does ⟨B, F9, X, T, rfl, rfl, rfl, rfl⟩ (Nat.le_of_ble_eq_true rfl) (Nat.le_of_ble_eq_true rfl) (sz := 6) ⟨_, (N9 _ (.tail _ (.head _))).1, rfl, _, rfl⟩ ⟨_, (N9 _ (.head _)).1, rfl, _, rfl⟩ hT9 hM9 (by decide) (by rw [List.length_map]; omega) (by rw [List.length_map]; omega) ?hall hc16) F9 N9 ?_
  case hall =>
    intro ks hks
    rcases List.mem_append.mp hks with hks | hks <;> (obtain ⟨x, _, rfl⟩ := List.mem_map.mp hks; rfl)
  rintro _ h8 tk8 F8 N8 rfl
  (try clear F9); (try clear N9); clear hT9 hM9
  replace N8 : News s₁.heap s₁.heap.objs.size h8 [(D6, LCg.lst xv), (D4, LCg.lst fv), (Do, LCg.lst ys), (Dn, listOf nv.toArray nn), (Dr, listOf rv.toArray 0), (s₁.heap.objs.size + 1 + 1, d1), (s₁.heap.objs.size + 1, d2)] := cb_drop N8 (by kcj_all)
  (repeat' (first | (k_unfold; (try dsimp only)) | ((with_reducible show wpAny _ _ (call (Value.ref _) _ _) _ _ _); (first | (refine useI (add_does ⟨by assumption, by assumption, by assumption, by assumption, rfl, rfl, rfl, rfl⟩ (Nat.le_of_ble_eq_true rfl) (Nat.le_of_ble_eq_true rfl) ) (by assumption) (by assumption) ?_; intro _ _ _ _ _; (try k_sweep)) | (refine useI (sub_does ⟨by assumption, by assumption, by assumption, by assumption, rfl, rfl, rfl, rfl⟩ (Nat.le_of_ble_eq_true rfl) (Nat.le_of_ble_eq_true rfl) ) (by assumption) (by assumption) ?_; intro _ _ _ _ _; (try k_sweep)) | (refine useI (and_does ⟨by assumption, by assumption, by assumption, by assumption, rfl, rfl, rfl, rfl⟩ (Nat.le_of_ble_eq_true rfl) (Nat.le_of_ble_eq_true rfl) ) (by assumption) (by assumption) ?_; intro _ _ _ _ _; (try k_sweep)) | (refine useI (or_does ⟨by assumption, by assumption, by assumption, by assumption, rfl, rfl, rfl, rfl⟩ (Nat.le_of_ble_eq_true rfl) (Nat.le_of_ble_eq_true rfl) ) (by assumption) (by assumption) ?_; intro _ _ _ _ _; (try k_sweep)) | (refine useI (xor_does ⟨by assumption, by assumption, by assumption, by assumption, rfl, rfl, rfl, rfl⟩ (Nat.le_of_ble_eq_true rfl) (Nat.le_of_ble_eq_true rfl) ) (by assumption) (by assumption) ?_; intro _ _ _ _ _; (try k_sweep)) | (refine useI (inv_does ⟨by assumption, by assumption, by assumption, by assumption, rfl, rfl, rfl, rfl⟩ (Nat.le_of_ble_eq_true rfl) (Nat.le_of_ble_eq_true rfl) ) (by assumption) (by assumption) ?_; intro _ _ _ _ _; (try k_sweep)) | (refine useI (neg_does ⟨by assumption, by assumption, by assumption, by assumption, rfl, rfl, rfl, rfl⟩ (Nat.le_of_ble_eq_true rfl) (Nat.le_of_ble_eq_true rfl) ) (by assumption) (by assumption) ?_; intro _ _ _ _ _; (try k_sweep)) | (refine useI (rsh_does ⟨by assumption, by assumption, by assumption, by assumption, rfl, rfl, rfl, rfl⟩ (Nat.le_of_ble_eq_true rfl) (Nat.le_of_ble_eq_true rfl) (by decide)) (by assumption) (by assumption) ?_; intro _ _ _ _ _; (try k_sweep)) | (refine useI (lsh_does ⟨by assumption, by assumption, by assumption, by assumption, rfl, rfl, rfl, rfl⟩ (Nat.le_of_ble_eq_true rfl) (Nat.le_of_ble_eq_true rfl) (by decide) (by decide) (by omega)) (by assumption) (by assumption) ?_; intro _ _ _ _ _; (try k_sweep)))) | ((fail_if_success (with_reducible show wpAny _ _ (exec (Stmt.While _ _ _ _) _) _ _ _)); (fail_if_success (with_reducible show wpAny _ _ (exec (Stmt.For _ _ _ _ _) _) _ _ _)); (fail_if_success (with_reducible show wpAny _ _ (call (Value.ref _) _ _) _ _ _)); (fail_if_success (with_reducible show KswEnd _ _ _ _ _ _ _ _ _ _ _ _)); (fail_if_success (with_reducible show wpAny _ _ (eval (Expr.ListComp _ _ _ _) _) _ _ _)); (fail_if_success (with_reducible show wpAny _ _ (exec (Stmt.Assign _ (Expr.ListComp _ _ _ _) _) _) _ _ _)); (fail_if_success (with_reducible show Out _ _ _ _ _)); (fail_if_success (with_reducible show LCg.CompEnd _ _ _ _ _ _ _ _ _ _ _ _ _ _)); (fail_if_success (with_reducible show LCg.CompSrc _ _ _ _ _ _ _ _ _ _ _ _ _ _)); (fail_if_success (with_reducible show LCt.CompSrcT _ _ _ _ _ _ _ _ _ _ _ _ _ _ _)); (fail_if_success (with_reducible show Meet _ _ _)); (fail_if_success (with_reducible show wpAny _ _ (pyIter _) _ _ _)); (fail_if_success (with_reducible show LEnd _ _ _ _ _ _ _ _ _ _ _)); (fail_if_success (with_reducible show LPost _ _ _ _ _ _ _ _ _ _ _ _ _)); first | walk1 | (dsimp only; walk1)) | (k_end; dsimp only; k_unfold; (try dsimp only)) | fail "no step"))
  rename_i oS hoS _ oT F8 N8 hoT
  refine LCg.ListComp_U (cl := [(Str.ofString "sixty", s₁.heap.objs.size + 1)]) F8 (by with_unfolding_all rfl) (by decide) rfl (by decide) rfl ?_
  (repeat' (first | (k_unfold; (try dsimp only)) | ((with_reducible show wpAny _ _ (call (Value.ref _) _ _) _ _ _); (first | (refine useI (add_does ⟨by assumption, by assumption, by assumption, by assumption, rfl, rfl, rfl, rfl⟩ (Nat.le_of_ble_eq_true rfl) (Nat.le_of_ble_eq_true rfl) ) (by assumption) (by assumption) ?_; intro _ _ _ _ _; (try k_sweep)) | (refine useI (sub_does ⟨by assumption, by assumption, by assumption, by assumption, rfl, rfl, rfl, rfl⟩ (Nat.le_of_ble_eq_true rfl) (Nat.le_of_ble_eq_true rfl) ) (by assumption) (by assumption) ?_; intro _ _ _ _ _; (try k_sweep)) | (refine useI (and_does ⟨by assumption, by assumption, by assumption, by assumption, rfl, rfl, rfl, rfl⟩ (Nat.le_of_ble_eq_true rfl) (Nat.le_of_ble_eq_true rfl) ) (by assumption) (by assumption) ?_; intro _ _ _ _ _; (try k_sweep)) | (refine useI (or_does ⟨by assumption, by assumption, by assumption, by assumption, rfl, rfl, rfl, rfl⟩ (Nat.le_of_ble_eq_true rfl) (Nat.le_of_ble_eq_true rfl) ) (by assumption) (by assumption) ?_; intro _ _ _ _ _; (try k_sweep)) | (refine useI (xor_does ⟨by assumption, by assumption, by assumption, by assumption, rfl, rfl, rfl, rfl⟩ (Nat.le_of_ble_eq_true rfl) (Nat.le_of_ble_eq_true rfl) ) (by assumption) (by assumption) ?_; intro _ _ _ _ _; (try k_sweep)) | (refine useI (inv_does ⟨by assumption, by assumption, by assumption, by assumption, rfl, rfl, rfl, rfl⟩ (Nat.le_of_ble_eq_true rfl) (Nat.le_of_ble_eq_true rfl) ) (by assumption) (by assumption) ?_; intro _ _ _ _ _; (try k_sweep)) | (refine useI (neg_does ⟨by assumption, by assumption, by assumption, by assumption, rfl, rfl, rfl, rfl⟩ (Nat.le_of_ble_eq_true rfl) (Nat.le_of_ble_eq_true rfl) ) (by assumption) (by assumption) ?_; intro _ _ _ _ _; (try k_sweep)) | (refine useI (rsh_does ⟨by assumption, by assumption, by assumption, by assumption, rfl, rfl, rfl, rfl⟩ (Nat.le_of_ble_eq_true rfl) (Nat.le_of_ble_eq_true rfl) (by decide)) (by assumption) (by assumption) ?_; intro _ _ _ _ _; (try k_sweep)) | (refine useI (lsh_does ⟨by assumption, by assumption, by assumption, by assumption, rfl, rfl, rfl, rfl⟩ (Nat.le_of_ble_eq_true rfl) (Nat.le_of_ble_eq_true rfl) (by decide) (by decide) (by omega)) (by assumption) (by assumption) ?_; intro _ _ _ _ _; (try k_sweep)))) | ((fail_if_success (with_reducible show wpAny _ _ (exec (Stmt.While _ _ _ _) _) _ _ _)); (fail_if_success (with_reducible show wpAny _ _ (exec (Stmt.For _ _ _ _ _) _) _ _ _)); (fail_if_success (with_reducible show wpAny _ _ (call (Value.ref _) _ _) _ _ _)); (fail_if_success (with_reducible show KswEnd _ _ _ _ _ _ _ _ _ _ _ _)); (fail_if_success (with_reducible show wpAny _ _ (eval (Expr.ListComp _ _ _ _) _) _ _ _)); (fail_if_success (with_reducible show wpAny _ _ (exec (Stmt.Assign _ (Expr.ListComp _ _ _ _) _) _) _ _ _)); (fail_if_success (with_reducible show Out _ _ _ _ _)); (fail_if_success (with_reducible show LCg.CompEnd _ _ _ _ _ _ _ _ _ _ _ _ _ _)); (fail_if_success (with_reducible show LCg.CompSrc _ _ _ _ _ _ _ _ _ _ _ _ _ _)); (fail_if_success (with_reducible show LCt.CompSrcT _ _ _ _ _ _ _ _ _ _ _ _ _ _ _)); (fail_if_success (with_reducible show Meet _ _ _)); (fail_if_success (with_reducible show wpAny _ _ (pyIter _) _ _ _)); (fail_if_success (with_reducible show LEnd _ _ _ _ _ _ _ _ _ _ _)); (fail_if_success (with_reducible show LPost _ _ _ _ _ _ _ _ _ _ _ _ _)); first | walk1 | (dsimp only; walk1)) | (k_end; dsimp only; k_unfold; (try dsimp only)) | fail "no step"))
  rename Fr _ _ _ _ => F7
  rename News _ _ _ _ => N7
  refine LCg.CompSrc.ledger (its := fv.toArray) rfl F7 N7 (by k_mem) (by rw [List.size_toArray, sizeLine_eq]; omega) fun gg => comp_inv (fun i zs nw => IntsAre zs ((rs ++ ts).take i) ∧ nw = _) ?_ ?_ _ 0 [] _ (Nat.zero_add _) ⟨.nil, rfl⟩
  · rintro i zs nw v I oI C oC D m₂ h9 tk9 E' hin ⟨hzs, rfl⟩ hv hoC hx F6 N6 o6 ne6
    obtain ⟨b9, t9, ks, rfl, hb9, hks⟩ := fvh.at (List.getElem?_toArray ▸ hv)
    rw [List.getElem?_map] at hks
    obtain ⟨x, hxx, rfl⟩ := Option.map_eq_some_iff.mp hks
    have hix : (rs ++ ts).take (i + 1) = (rs ++ ts).take i ++ [x] := by rw [List.take_add_one, hxx]; rfl
    have hxb : 0 ≤ x ∧ x < 16777216 := (List.mem_append.mp (List.mem_of_getElem? hxx)).elim (hRa _) (hIn _)
    (try clear F8); (try clear N8); (try clear F7); (try clear N7); (try clear F)
    (repeat' (first | (k_unfold; (try dsimp only)) | ((with_reducible show wpAny _ _ (call (Value.ref _) _ _) _ _ _); (first | (refine useI (add_does ⟨by assumption, by assumption, by assumption, by assumption, rfl, rfl, rfl, rfl⟩ (Nat.le_of_ble_eq_true rfl) (Nat.le_of_ble_eq_true rfl) ) (by assumption) (by assumption) ?_; intro _ _ _ _ _; (try k_sweep)) | (refine useI (sub_does ⟨by assumption, by assumption, by assumption, by assumption, rfl, rfl, rfl, rfl⟩ (Nat.le_of_ble_eq_true rfl) (Nat.le_of_ble_eq_true rfl) ) (by assumption) (by assumption) ?_; intro _ _ _ _ _; (try k_sweep)) | (refine useI (and_does ⟨by assumption, by assumption, by assumption, by assumption, rfl, rfl, rfl, rfl⟩ (Nat.le_of_ble_eq_true rfl) (Nat.le_of_ble_eq_true rfl) ) (by assumption) (by assumption) ?_; intro _ _ _ _ _; (try k_sweep)) | (refine useI (or_does ⟨by assumption, by assumption, by assumption, by assumption, rfl, rfl, rfl, rfl⟩ (Nat.le_of_ble_eq_true rfl) (Nat.le_of_ble_eq_true rfl) ) (by assumption) (by assumption) ?_; intro _ _ _ _ _; (try k_sweep)) | (refine useI (xor_does ⟨by assumption, by assumption, by assumption, by assumption, rfl, rfl, rfl, rfl⟩ (Nat.le_of_ble_eq_true rfl) (Nat.le_of_ble_eq_true rfl) ) (by assumption) (by assumption) ?_; intro _ _ _ _ _; (try k_sweep)) | (refine useI (inv_does ⟨by assumption, by assumption, by assumption, by assumption, rfl, rfl, rfl, rfl⟩ (Nat.le_of_ble_eq_true rfl) (Nat.le_of_ble_eq_true rfl) ) (by assumption) (by assumption) ?_; intro _ _ _ _ _; (try k_sweep)) | (refine useI (neg_does ⟨by assumption, by assumption, by assumption, by assumption, rfl, rfl, rfl, rfl⟩ (Nat.le_of_ble_eq_true rfl) (Nat.le_of_ble_eq_true rfl) ) (by assumption) (by assumption) ?_; intro _ _ _ _ _; (try k_sweep)) | (refine useI (rsh_does ⟨by assumption, by assumption, by assumption, by assumption, rfl, rfl, rfl, rfl⟩ (Nat.le_of_ble_eq_true rfl) (Nat.le_of_ble_eq_true rfl) (by decide)) (by assumption) (by assumption) ?_; intro _ _ _ _ _; (try k_sweep)) | (refine useI (lsh_does ⟨by assumption, by assumption, by assumption, by assumption, rfl, rfl, rfl, rfl⟩ (Nat.le_of_ble_eq_true rfl) (Nat.le_of_ble_eq_true rfl) (by decide) (by decide) (by omega)) (by assumption) (by assumption) ?_; intro _ _ _ _ _; (try k_sweep)))) | ((fail_if_success (with_reducible show wpAny _ _ (exec (Stmt.While _ _ _ _) _) _ _ _)); (fail_if_success (with_reducible show wpAny _ _ (exec (Stmt.For _ _ _ _ _) _) _ _ _)); (fail_if_success (with_reducible show wpAny _ _ (call (Value.ref _) _ _) _ _ _)); (fail_if_success (with_reducible show KswEnd _ _ _ _ _ _ _ _ _ _ _ _)); (fail_if_success (with_reducible show wpAny _ _ (eval (Expr.ListComp _ _ _ _) _) _ _ _)); (fail_if_success (with_reducible show wpAny _ _ (exec (Stmt.Assign _ (Expr.ListComp _ _ _ _) _) _) _ _ _)); (fail_if_success (with_reducible show Out _ _ _ _ _)); (fail_if_success (with_reducible show LCg.CompEnd _ _ _ _ _ _ _ _ _ _ _ _ _ _)); (fail_if_success (with_reducible show LCg.CompSrc _ _ _ _ _ _ _ _ _ _ _ _ _ _)); (fail_if_success (with_reducible show LCt.CompSrcT _ _ _ _ _ _ _ _ _ _ _ _ _ _ _)); (fail_if_success (with_reducible show Meet _ _ _)); (fail_if_success (with_reducible show wpAny _ _ (pyIter _) _ _ _)); (fail_if_success (with_reducible show LEnd _ _ _ _ _ _ _ _ _ _ _)); (fail_if_success (with_reducible show LPost _ _ _ _ _ _ _ _ _ _ _ _ _)); first | walk1 | (dsimp only; walk1)) | (k_end; dsimp only; k_unfold; (try dsimp only)) | fail "no step"))
    rename Fr _ _ _ _ => F5
    rename News _ _ _ _ => N5
    refine use0 (read_does ⟨B, F5, X, T, rfl, rfl, rfl, rfl⟩ (Nat.le_of_ble_eq_true rfl) (Nat.le_of_ble_eq_true rfl) (al := sixty) hb9 (by decide)) F5 N5 ?_
    rintro _ h4 tk4 F4 N4 ⟨t, rfl⟩
    rw [read64 hxb.1 hxb.2]
    (repeat' (first | (k_unfold; (try dsimp only)) | ((with_reducible show wpAny _ _ (call (Value.ref _) _ _) _ _ _); (first | (refine useI (add_does ⟨by assumption, by assumption, by assumption, by assumption, rfl, rfl, rfl, rfl⟩ (Nat.le_of_ble_eq_true rfl) (Nat.le_of_ble_eq_true rfl) ) (by assumption) (by assumption) ?_; intro _ _ _ _ _; (try k_sweep)) | (refine useI (sub_does ⟨by assumption, by assumption, by assumption, by assumption, rfl, rfl, rfl, rfl⟩ (Nat.le_of_ble_eq_true rfl) (Nat.le_of_ble_eq_true rfl) ) (by assumption) (by assumption) ?_; intro _ _ _ _ _; (try k_sweep)) | (refine useI (and_does ⟨by assumption, by assumption, by assumption, by assumption, rfl, rfl, rfl, rfl⟩ (Nat.le_of_ble_eq_true rfl) (Nat.le_of_ble_eq_true rfl) ) (by assumption) (by assumption) ?_; intro _ _ _ _ _; (try k_sweep)) | (refine useI (or_does ⟨by assumption, by assumption, by assumption, by assumption, rfl, rfl, rfl, rfl⟩ (Nat.le_of_ble_eq_true rfl) (Nat.le_of_ble_eq_true rfl) ) (by assumption) (by assumption) ?_; intro _ _ _ _ _; (try k_sweep)) | (refine useI (xor_does ⟨by assumption, by assumption, by assumption, by assumption, rfl, rfl, rfl, rfl⟩ (Nat.le_of_ble_eq_true rfl) (Nat.le_of_ble_eq_true rfl) ) (by assumption) (by assumption) ?_; intro _ _ _ _ _; (try k_sweep)) | (refine useI (inv_does ⟨by assumption, by assumption, by assumption, by assumption, rfl, rfl, rfl, rfl⟩ (Nat.le_of_ble_eq_true rfl) (Nat.le_of_ble_eq_true rfl) ) (by assumption) (by assumption) ?_; intro _ _ _ _ _; (try k_sweep)) | (refine useI (neg_does ⟨by assumption, by assumption, by assumption, by assumption, rfl, rfl, rfl, rfl⟩ (Nat.le_of_ble_eq_true rfl) (Nat.le_of_ble_eq_true rfl) ) (by assumption) (by assumption) ?_; intro _ _ _ _ _; (try k_sweep)) | (refine useI (rsh_does ⟨by assumption, by assumption, by assumption, by assumption, rfl, rfl, rfl, rfl⟩ (Nat.le_of_ble_eq_true rfl) (Nat.le_of_ble_eq_true rfl) (by decide)) (by assumption) (by assumption) ?_; intro _ _ _ _ _; (try k_sweep)) | (refine useI (lsh_does ⟨by assumption, by assumption, by assumption, by assumption, rfl, rfl, rfl, rfl⟩ (Nat.le_of_ble_eq_true rfl) (Nat.le_of_ble_eq_true rfl) (by decide) (by decide) (by omega)) (by assumption) (by assumption) ?_; intro _ _ _ _ _; (try k_sweep)))) | ((fail_if_success (with_reducible show wpAny _ _ (exec (Stmt.While _ _ _ _) _) _ _ _)); (fail_if_success (with_reducible show wpAny _ _ (exec (Stmt.For _ _ _ _ _) _) _ _ _)); (fail_if_success (with_reducible show wpAny _ _ (call (Value.ref _) _ _) _ _ _)); (fail_if_success (with_reducible show KswEnd _ _ _ _ _ _ _ _ _ _ _ _)); (fail_if_success (with_reducible show wpAny _ _ (eval (Expr.ListComp _ _ _ _) _) _ _ _)); (fail_if_success (with_reducible show wpAny _ _ (exec (Stmt.Assign _ (Expr.ListComp _ _ _ _) _) _) _ _ _)); (fail_if_success (with_reducible show Out _ _ _ _ _)); (fail_if_success (with_reducible show LCg.CompEnd _ _ _ _ _ _ _ _ _ _ _ _ _ _)); (fail_if_success (with_reducible show LCg.CompSrc _ _ _ _ _ _ _ _ _ _ _ _ _ _)); (fail_if_success (with_reducible show LCt.CompSrcT _ _ _ _ _ _ _ _ _ _ _ _ _ _ _)); (fail_if_success (with_reducible show Meet _ _ _)); (fail_if_success (with_reducible show wpAny _ _ (pyIter _) _ _ _)); (fail_if_success (with_reducible show LEnd _ _ _ _ _ _ _ _ _ _ _)); (fail_if_success (with_reducible show LPost _ _ _ _ _ _ _ _ _ _ _ _ _)); first | walk1 | (dsimp only; walk1)) | (k_end; dsimp only; k_unfold; (try dsimp only)) | fail "no step"))
    refine LCg.CompEnd.intro F4 N4 _ (fun p hp => hp) o6 (.inr ⟨_, by k_mem, rfl, _, rfl⟩) ⟨?_, rfl⟩
    rw [hix]
    exact ints_snoc hzs _ _
  rintro zs nw ⟨hzs, rfl⟩ Dz h9 tk9 F6 N6 o6
  (try clear F8); (try clear N8); (try clear F7); (try clear N7); (try clear F); (try clear N)
  rw [List.size_toArray, fvl, ← List.length_append, List.take_length] at hzs
  (repeat' (first | (k_unfold; (try dsimp only)) | ((with_reducible show wpAny _ _ (call (Value.ref _) _ _) _ _ _); (first | (refine useI (add_does ⟨by assumption, by assumption, by assumption, by assumption, rfl, rfl, rfl, rfl⟩ (Nat.le_of_ble_eq_true rfl) (Nat.le_of_ble_eq_true rfl) ) (by assumption) (by assumption) ?_; intro _ _ _ _ _; (try k_sweep)) | (refine useI (sub_does ⟨by assumption, by assumption, by assumption, by assumption, rfl, rfl, rfl, rfl⟩ (Nat.le_of_ble_eq_true rfl) (Nat.le_of_ble_eq_true rfl) ) (by assumption) (by assumption) ?_; intro _ _ _ _ _; (try k_sweep)) | (refine useI (and_does ⟨by assumption, by assumption, by assumption, by assumption, rfl, rfl, rfl, rfl⟩ (Nat.le_of_ble_eq_true rfl) (Nat.le_of_ble_eq_true rfl) ) (by assumption) (by assumption) ?_; intro _ _ _ _ _; (try k_sweep)) | (refine useI (or_does ⟨by assumption, by assumption, by assumption, by assumption, rfl, rfl, rfl, rfl⟩ (Nat.le_of_ble_eq_true rfl) (Nat.le_of_ble_eq_true rfl) ) (by assumption) (by assumption) ?_; intro _ _ _ _ _; (try k_sweep)) | (refine useI (xor_does ⟨by assumption, by assumption, by assumption, by assumption, rfl, rfl, rfl, rfl⟩ (Nat.le_of_ble_eq_true rfl) (Nat.le_of_ble_eq_true rfl) ) (by assumption) (by assumption) ?_; intro _ _ _ _ _; (try k_sweep)) | (refine useI (inv_does ⟨by assumption, by assumption, by assumption, by assumption, rfl, rfl, rfl, rfl⟩ (Nat.le_of_ble_eq_true rfl) (Nat.le_of_ble_eq_true rfl) ) (by assumption) (by assumption) ?_; intro _ _ _ _ _; (try k_sweep)) | (refine useI (neg_does ⟨by assumption, by assumption, by assumption, by assumption, rfl, rfl, rfl, rfl⟩ (Nat.le_of_ble_eq_true rfl) (Nat.le_of_ble_eq_true rfl) ) (by assumption) (by assumption) ?_; intro _ _ _ _ _; (try k_sweep)) | (refine useI (rsh_does ⟨by assumption, by assumption, by assumption, by assumption, rfl, rfl, rfl, rfl⟩ (Nat.le_of_ble_eq_true rfl) (Nat.le_of_ble_eq_true rfl) (by decide)) (by assumption) (by assumption) ?_; intro _ _ _ _ _; (try k_sweep)) | (refine useI (lsh_does ⟨by assumption, by assumption, by assumption, by assumption, rfl, rfl, rfl, rfl⟩ (Nat.le_of_ble_eq_true rfl) (Nat.le_of_ble_eq_true rfl) (by decide) (by decide) (by omega)) (by assumption) (by assumption) ?_; intro _ _ _ _ _; (try k_sweep)))) | ((fail_if_success (with_reducible show wpAny _ _ (exec (Stmt.While _ _ _ _) _) _ _ _)); (fail_if_success (with_reducible show wpAny _ _ (exec (Stmt.For _ _ _ _ _) _) _ _ _)); (fail_if_success (with_reducible show wpAny _ _ (call (Value.ref _) _ _) _ _ _)); (fail_if_success (with_reducible show KswEnd _ _ _ _ _ _ _ _ _ _ _ _)); (fail_if_success (with_reducible show wpAny _ _ (eval (Expr.ListComp _ _ _ _) _) _ _ _)); (fail_if_success (with_reducible show wpAny _ _ (exec (Stmt.Assign _ (Expr.ListComp _ _ _ _) _) _) _ _ _)); (fail_if_success (with_reducible show Out _ _ _ _ _)); (fail_if_success (with_reducible show LCg.CompEnd _ _ _ _ _ _ _ _ _ _ _ _ _ _)); (fail_if_success (with_reducible show LCg.CompSrc _ _ _ _ _ _ _ _ _ _ _ _ _ _)); (fail_if_success (with_reducible show LCt.CompSrcT _ _ _ _ _ _ _ _ _ _ _ _ _ _ _)); (fail_if_success (with_reducible show Meet _ _ _)); (fail_if_success (with_reducible show wpAny _ _ (pyIter _) _ _ _)); (fail_if_success (with_reducible show LEnd _ _ _ _ _ _ _ _ _ _ _)); (fail_if_success (with_reducible show LPost _ _ _ _ _ _ _ _ _ _ _ _ _)); first | walk1 | (dsimp only; walk1)) | (k_end; dsimp only; k_unfold; (try dsimp only)) | fail "no step"))
  rename Fr _ _ _ _ => F8
  rename News _ _ _ _ => N8
  replace N8 : News s₁.heap s₁.heap.objs.size _ [(D6, LCg.lst xv), (D4, LCg.lst fv), (Do, LCg.lst ys), (Dn, listOf nv.toArray nn), (Dr, listOf rv.toArray 0), (s₁.heap.objs.size + 1 + 1, oT), (s₁.heap.objs.size + 1, oS)] := cb_drop N8 (by kcj_all)
  clear hzs
  refine LCg.ListComp_U (cl := [(Str.ofString "sixteen", s₁.heap.objs.size + 1 + 1)]) F8 (by with_unfolding_all rfl) (by decide) rfl (by decide) rfl ?_
  (repeat' (first | (k_unfold; (try dsimp only)) | ((with_reducible show wpAny _ _ (call (Value.ref _) _ _) _ _ _); (first | (refine useI (add_does ⟨by assumption, by assumption, by assumption, by assumption, rfl, rfl, rfl, rfl⟩ (Nat.le_of_ble_eq_true rfl) (Nat.le_of_ble_eq_true rfl) ) (by assumption) (by assumption) ?_; intro _ _ _ _ _; (try k_sweep)) | (refine useI (sub_does ⟨by assumption, by assumption, by assumption, by assumption, rfl, rfl, rfl, rfl⟩ (Nat.le_of_ble_eq_true rfl) (Nat.le_of_ble_eq_true rfl) ) (by assumption) (by assumption) ?_; intro _ _ _ _ _; (try k_sweep)) | (refine useI (and_does ⟨by assumption, by assumption, by assumption, by assumption, rfl, rfl, rfl, rfl⟩ (Nat.le_of_ble_eq_true rfl) (Nat.le_of_ble_eq_true rfl) ) (by assumption) (by assumption) ?_; intro _ _ _ _ _; (try k_sweep)) | (refine useI (or_does ⟨by assumption, by assumption, by assumption, by assumption, rfl, rfl, rfl, rfl⟩ (Nat.le_of_ble_eq_true rfl) (Nat.le_of_ble_eq_true rfl) ) (by assumption) (by assumption) ?_; intro _ _ _ _ _; (try k_sweep)) | (refine useI (xor_does ⟨by assumption, by assumption, by assumption, by assumption, rfl, rfl, rfl, rfl⟩ (Nat.le_of_ble_eq_true rfl) (Nat.le_of_ble_eq_true rfl) ) (by assumption) (by assumption) ?_; intro _ _ _ _ _; (try k_sweep)) | (refine useI (inv_does ⟨by assumption, by assumption, by assumption, by assumption, rfl, rfl, rfl, rfl⟩ (Nat.le_of_ble_eq_true rfl) (Nat.le_of_ble_eq_true rfl) ) (by assumption) (by assumption) ?_; intro _ _ _ _ _; (try k_sweep)) | (refine useI (neg_does ⟨by assumption, by assumption, by assumption, by assumption, rfl, rfl, rfl, rfl⟩ (Nat.le_of_ble_eq_true rfl) (Nat.le_of_ble_eq_true rfl) ) (by assumption) (by assumption) ?_; intro _ _ _ _ _; (try k_sweep)) | (refine useI (rsh_does ⟨by assumption, by assumption, by assumption, by assumption, rfl, rfl, rfl, rfl⟩ (Nat.le_of_ble_eq_true rfl) (Nat.le_of_ble_eq_true rfl) (by decide)) (by assumption) (by assumption) ?_; intro _ _ _ _ _; (try k_sweep)) | (refine useI (lsh_does ⟨by assumption, by assumption, by assumption, by assumption, rfl, rfl, rfl, rfl⟩ (Nat.le_of_ble_eq_true rfl) (Nat.le_of_ble_eq_true rfl) (by decide) (by decide) (by omega)) (by assumption) (by assumption) ?_; intro _ _ _ _ _; (try k_sweep)))) | ((fail_if_success (with_reducible show wpAny _ _ (exec (Stmt.While _ _ _ _) _) _ _ _)); (fail_if_success (with_reducible show wpAny _ _ (exec (Stmt.For _ _ _ _ _) _) _ _ _)); (fail_if_success (with_reducible show wpAny _ _ (call (Value.ref _) _ _) _ _ _)); (fail_if_success (with_reducible show KswEnd _ _ _ _ _ _ _ _ _ _ _ _)); (fail_if_success (with_reducible show wpAny _ _ (eval (Expr.ListComp _ _ _ _) _) _ _ _)); (fail_if_success (with_reducible show wpAny _ _ (exec (Stmt.Assign _ (Expr.ListComp _ _ _ _) _) _) _ _ _)); (fail_if_success (with_reducible show Out _ _ _ _ _)); (fail_if_success (with_reducible show LCg.CompEnd _ _ _ _ _ _ _ _ _ _ _ _ _ _)); (fail_if_success (with_reducible show LCg.CompSrc _ _ _ _ _ _ _ _ _ _ _ _ _ _)); (fail_if_success (with_reducible show LCt.CompSrcT _ _ _ _ _ _ _ _ _ _ _ _ _ _ _)); (fail_if_success (with_reducible show Meet _ _ _)); (fail_if_success (with_reducible show wpAny _ _ (pyIter _) _ _ _)); (fail_if_success (with_reducible show LEnd _ _ _ _ _ _ _ _ _ _ _)); (fail_if_success (with_reducible show LPost _ _ _ _ _ _ _ _ _ _ _ _ _)); first | walk1 | (dsimp only; walk1)) | (k_end; dsimp only; k_unfold; (try dsimp only)) | fail "no step"))
  rename Fr _ _ _ _ => F7
  rename News _ _ _ _ => N7
  refine LCg.CompSrc.ledger (its := xv.toArray) rfl F7 N7 (by k_mem) (by rw [List.size_toArray, sizeLine_eq]; omega) fun gg => comp_inv (fun i zs nw => IntsAre zs ((rs ++ ts).take i) ∧ nw = _) ?_ ?_ _ 0 [] _ (Nat.zero_add _) ⟨.nil, rfl⟩
  · rintro i zs nw v I oI C oC D m₂ h9 tk9 E' hin ⟨hzs, rfl⟩ hv hoC hx F6 N6 o6 ne6
    obtain ⟨b9, t9, ks, rfl, hb9, hks⟩ := xvh.at (List.getElem?_toArray ▸ hv)
    rw [List.getElem?_map] at hks
    obtain ⟨x, hxx, rfl⟩ := Option.map_eq_some_iff.mp hks
    have hix : (rs ++ ts).take (i + 1) = (rs ++ ts).take i ++ [x] := by rw [List.take_add_one, hxx]; rfl
    have hxb : 0 ≤ x ∧ x < 16777216 := (List.mem_append.mp (List.mem_of_getElem? hxx)).elim (hRa _) (hIn _)
    (try clear F8); (try clear N8); (try clear F7); (try clear N7); (try clear F)
    (repeat' (first | (k_unfold; (try dsimp only)) | ((with_reducible show wpAny _ _ (call (Value.ref _) _ _) _ _ _); (first | (refine useI (add_does ⟨by assumption, by assumption, by assumption, by assumption, rfl, rfl, rfl, rfl⟩ (Nat.le_of_ble_eq_true rfl) (Nat.le_of_ble_eq_true rfl) ) (by assumption) (by assumption) ?_; intro _ _ _ _ _; (try k_sweep)) | (refine useI (sub_does ⟨by assumption, by assumption, by assumption, by assumption, rfl, rfl, rfl, rfl⟩ (Nat.le_of_ble_eq_true rfl) (Nat.le_of_ble_eq_true rfl) ) (by assumption) (by assumption) ?_; intro _ _ _ _ _; (try k_sweep)) | (refine useI (and_does ⟨by assumption, by assumption, by assumption, by assumption, rfl, rfl, rfl, rfl⟩ (Nat.le_of_ble_eq_true rfl) (Nat.le_of_ble_eq_true rfl) ) (by assumption) (by assumption) ?_; intro _ _ _ _ _; (try k_sweep)) | (refine useI (or_does ⟨by assumption, by assumption, by assumption, by assumption, rfl, rfl, rfl, rfl⟩ (Nat.le_of_ble_eq_true rfl) (Nat.le_of_ble_eq_true rfl) ) (by assumption) (by assumption) ?_; intro _ _ _ _ _; (try k_sweep)) | (refine useI (xor_does ⟨by assumption, by assumption, by assumption, by assumption, rfl, rfl, rfl, rfl⟩ (Nat.le_of_ble_eq_true rfl) (Nat.le_of_ble_eq_true rfl) ) (by assumption) (by assumption) ?_; intro _ _ _ _ _; (try k_sweep)) | (refine useI (inv_does ⟨by assumption, by assumption, by assumption, by assumption, rfl, rfl, rfl, rfl⟩ (Nat.le_of_ble_eq_true rfl) (Nat.le_of_ble_eq_true rfl) ) (by assumption) (by assumption) ?_; intro _ _ _ _ _; (try k_sweep)) | (refine useI (neg_does ⟨by assumption, by assumption, by assumption, by assumption, rfl, rfl, rfl, rfl⟩ (Nat.le_of_ble_eq_true rfl) (Nat.le_of_ble_eq_true rfl) ) (by assumption) (by assumption) ?_; intro _ _ _ _ _; (try k_sweep)) | (refine useI (rsh_does ⟨by assumption, by assumption, by assumption, by assumption, rfl, rfl, rfl, rfl⟩ (Nat.le_of_ble_eq_true rfl) (Nat.le_of_ble_eq_true rfl) (by decide)) (by assumption) (by assumption) ?_; intro _ _ _ _ _; (try k_sweep)) | (refine useI (lsh_does ⟨by assumption, by assumption, by assumption, by assumption, rfl, rfl, rfl, rfl⟩ (Nat.le_of_ble_eq_true rfl) (Nat.le_of_ble_eq_true rfl) (by decide) (by decide) (by omega)) (by assumption) (by assumption) ?_; intro _ _ _ _ _; (try k_sweep)))) | ((fail_if_success (with_reducible show wpAny _ _ (exec (Stmt.While _ _ _ _) _) _ _ _)); (fail_if_success (with_reducible show wpAny _ _ (exec (Stmt.For _ _ _ _ _) _) _ _ _)); (fail_if_success (with_reducible show wpAny _ _ (call (Value.ref _) _ _) _ _ _)); (fail_if_success (with_reducible show KswEnd _ _ _ _ _ _ _ _ _ _ _ _)); (fail_if_success (with_reducible show wpAny _ _ (eval (Expr.ListComp _ _ _ _) _) _ _ _)); (fail_if_success (with_reducible show wpAny _ _ (exec (Stmt.Assign _ (Expr.ListComp _ _ _ _) _) _) _ _ _)); (fail_if_success (with_reducible show Out _ _ _ _ _)); (fail_if_success (with_reducible show LCg.CompEnd _ _ _ _ _ _ _ _ _ _ _ _ _ _)); (fail_if_success (with_reducible show LCg.CompSrc _ _ _ _ _ _ _ _ _ _ _ _ _ _)); (fail_if_success (with_reducible show LCt.CompSrcT _ _ _ _ _ _ _ _ _ _ _ _ _ _ _)); (fail_if_success (with_reducible show Meet _ _ _)); (fail_if_success (with_reducible show wpAny _ _ (pyIter _) _ _ _)); (fail_if_success (with_reducible show LEnd _ _ _ _ _ _ _ _ _ _ _)); (fail_if_success (with_reducible show LPost _ _ _ _ _ _ _ _ _ _ _ _ _)); first | walk1 | (dsimp only; walk1)) | (k_end; dsimp only; k_unfold; (try dsimp only)) | fail "no step"))
    rename Fr _ _ _ _ => F5
    rename News _ _ _ _ => N5
    refine use0 (read_does ⟨B, F5, X, T, rfl, rfl, rfl, rfl⟩ (Nat.le_of_ble_eq_true rfl) (Nat.le_of_ble_eq_true rfl) (al := sixteen) hb9 (by decide)) F5 N5 ?_
    rintro _ h4 tk4 F4 N4 ⟨t, rfl⟩
    rw [read16 hxb.1 hxb.2]
    (repeat' (first | (k_unfold; (try dsimp only)) | ((with_reducible show wpAny _ _ (call (Value.ref _) _ _) _ _ _); (first | (refine useI (add_does ⟨by assumption, by assumption, by assumption, by assumption, rfl, rfl, rfl, rfl⟩ (Nat.le_of_ble_eq_true rfl) (Nat.le_of_ble_eq_true rfl) ) (by assumption) (by assumption) ?_; intro _ _ _ _ _; (try k_sweep)) | (refine useI (sub_does ⟨by assumption, by assumption, by assumption, by assumption, rfl, rfl, rfl, rfl⟩ (Nat.le_of_ble_eq_true rfl) (Nat.le_of_ble_eq_true rfl) ) (by assumption) (by assumption) ?_; intro _ _ _ _ _; (try k_sweep)) | (refine useI (and_does ⟨by assumption, by assumption, by assumption, by assumption, rfl, rfl, rfl, rfl⟩ (Nat.le_of_ble_eq_true rfl) (Nat.le_of_ble_eq_true rfl) ) (by assumption) (by assumption) ?_; intro _ _ _ _ _; (try k_sweep)) | (refine useI (or_does ⟨by assumption, by assumption, by assumption, by assumption, rfl, rfl, rfl, rfl⟩ (Nat.le_of_ble_eq_true rfl) (Nat.le_of_ble_eq_true rfl) ) (by assumption) (by assumption) ?_; intro _ _ _ _ _; (try k_sweep)) | (refine useI (xor_does ⟨by assumption, by assumption, by assumption, by assumption, rfl, rfl, rfl, rfl⟩ (Nat.le_of_ble_eq_true rfl) (Nat.le_of_ble_eq_true rfl) ) (by assumption) (by assumption) ?_; intro _ _ _ _ _; (try k_sweep)) | (refine useI (inv_does ⟨by assumption, by assumption, by assumption, by assumption, rfl, rfl, rfl, rfl⟩ (Nat.le_of_ble_eq_true rfl) (Nat.le_of_ble_eq_true rfl) ) (by assumption) (by assumption) ?_; intro _ _ _ _ _; (try k_sweep)) | (refine useI (neg_does ⟨by assumption, by assumption, by assumption, by assumption, rfl, rfl, rfl, rfl⟩ (Nat.le_of_ble_eq_true rfl) (Nat.le_of_ble_eq_true rfl) ) (by assumption) (by assumption) ?_; intro _ _ _ _ _; (try k_sweep)) | (refine useI (rsh_does ⟨by assumption, by assumption, by assumption, by assumption, rfl, rfl, rfl, rfl⟩ (Nat.le_of_ble_eq_true rfl) (Nat.le_of_ble_eq_true rfl) (by decide)) (by assumption) (by assumption) ?_; intro _ _ _ _ _; (try k_sweep)) | (refine useI (lsh_does ⟨by assumption, by assumption, by assumption, by assumption, rfl, rfl, rfl, rfl⟩ (Nat.le_of_ble_eq_true rfl) (Nat.le_of_ble_eq_true rfl) (by decide) (by decide) (by omega)) (by assumption) (by assumption) ?_; intro _ _ _ _ _; (try k_sweep)))) | ((fail_if_success (with_reducible show wpAny _ _ (exec (Stmt.While _ _ _ _) _) _ _ _)); (fail_if_success (with_reducible show wpAny _ _ (exec (Stmt.For _ _ _ _ _) _) _ _ _)); (fail_if_success (with_reducible show wpAny _ _ (call (Value.ref _) _ _) _ _ _)); (fail_if_success (with_reducible show KswEnd _ _ _ _ _ _ _ _ _ _ _ _)); (fail_if_success (with_reducible show wpAny _ _ (eval (Expr.ListComp _ _ _ _) _) _ _ _)); (fail_if_success (with_reducible show wpAny _ _ (exec (Stmt.Assign _ (Expr.ListComp _ _ _ _) _) _) _ _ _)); (fail_if_success (with_reducible show Out _ _ _ _ _)); (fail_if_success (with_reducible show LCg.CompEnd _ _ _ _ _ _ _ _ _ _ _ _ _ _)); (fail_if_success (with_reducible show LCg.CompSrc _ _ _ _ _ _ _ _ _ _ _ _ _ _)); (fail_if_success (with_reducible show LCt.CompSrcT _ _ _ _ _ _ _ _ _ _ _ _ _ _ _)); (fail_if_success (with_reducible show Meet _ _ _)); (fail_if_success (with_reducible show wpAny _ _ (pyIter _) _ _ _)); (fail_if_success (with_reducible show LEnd _ _ _ _ _ _ _ _ _ _ _)); (fail_if_success (with_reducible show LPost _ _ _ _ _ _ _ _ _ _ _ _ _)); first | walk1 | (dsimp only; walk1)) | (k_end; dsimp only; k_unfold; (try dsimp only)) | fail "no step"))
    refine LCg.CompEnd.intro F4 N4 _ (fun p hp => hp) o6 (.inr ⟨_, by k_mem, rfl, _, rfl⟩) ⟨?_, rfl⟩
    rw [hix]
    exact ints_snoc hzs _ _
  rintro zs nw ⟨hzs, rfl⟩ Dz h9 tk9 F6 N6 o6
  (try clear F8); (try clear N8); (try clear F7); (try clear N7); (try clear F); (try clear N)
  rw [List.size_toArray, xvl, ← List.length_append, List.take_length] at hzs
  (repeat' (first | (k_unfold; (try dsimp only)) | ((with_reducible show wpAny _ _ (call (Value.ref _) _ _) _ _ _); (first | (refine useI (add_does ⟨by assumption, by assumption, by assumption, by assumption, rfl, rfl, rfl, rfl⟩ (Nat.le_of_ble_eq_true rfl) (Nat.le_of_ble_eq_true rfl) ) (by assumption) (by assumption) ?_; intro _ _ _ _ _; (try k_sweep)) | (refine useI (sub_does ⟨by assumption, by assumption, by assumption, by assumption, rfl, rfl, rfl, rfl⟩ (Nat.le_of_ble_eq_true rfl) (Nat.le_of_ble_eq_true rfl) ) (by assumption) (by assumption) ?_; intro _ _ _ _ _; (try k_sweep)) | (refine useI (and_does ⟨by assumption, by assumption, by assumption, by assumption, rfl, rfl, rfl, rfl⟩ (Nat.le_of_ble_eq_true rfl) (Nat.le_of_ble_eq_true rfl) ) (by assumption) (by assumption) ?_; intro _ _ _ _ _; (try k_sweep)) | (refine useI (or_does ⟨by assumption, by assumption, by assumption, by assumption, rfl, rfl, rfl, rfl⟩ (Nat.le_of_ble_eq_true rfl) (Nat.le_of_ble_eq_true rfl) ) (by assumption) (by assumption) ?_; intro _ _ _ _ _; (try k_sweep)) | (refine useI (xor_does ⟨by assumption, by assumption, by assumption, by assumption, rfl, rfl, rfl, rfl⟩ (Nat.le_of_ble_eq_true rfl) (Nat.le_of_ble_eq_true rfl) ) (by assumption) (by assumption) ?_; intro _ _ _ _ _; (try k_sweep)) | (refine useI (inv_does ⟨by assumption, by assumption, by assumption, by assumption, rfl, rfl, rfl, rfl⟩ (Nat.le_of_ble_eq_true rfl) (Nat.le_of_ble_eq_true rfl) ) (by assumption) (by assumption) ?_; intro _ _ _ _ _; (try k_sweep)) | (refine useI (neg_does ⟨by assumption, by assumption, by assumption, by assumption, rfl, rfl, rfl, rfl⟩ (Nat.le_of_ble_eq_true rfl) (Nat.le_of_ble_eq_true rfl) ) (by assumption) (by assumption) ?_; intro _ _ _ _ _; (try k_sweep)) | (refine useI (rsh_does ⟨by assumption, by assumption, by assumption, by assumption, rfl, rfl, rfl, rfl⟩ (Nat.le_of_ble_eq_true rfl) (Nat.le_of_ble_eq_true rfl) (by decide)) (by assumption) (by assumption) ?_; intro _ _ _ _ _; (try k_sweep)) | (refine useI (lsh_does ⟨by assumption, by assumption, by assumption, by assumption, rfl, rfl, rfl, rfl⟩ (Nat.le_of_ble_eq_true rfl) (Nat.le_of_ble_eq_true rfl) (by decide) (by decide) (by omega)) (by assumption) (by assumption) ?_; intro _ _ _ _ _; (try k_sweep)))) | ((fail_if_success (with_reducible show wpAny _ _ (exec (Stmt.While _ _ _ _) _) _ _ _)); (fail_if_success (with_reducible show wpAny _ _ (exec (Stmt.For _ _ _ _ _) _) _ _ _)); (fail_if_success (with_reducible show wpAny _ _ (call (Value.ref _) _ _) _ _ _)); (fail_if_success (with_reducible show KswEnd _ _ _ _ _ _ _ _ _ _ _ _)); (fail_if_success (with_reducible show wpAny _ _ (eval (Expr.ListComp _ _ _ _) _) _ _ _)); (fail_if_success (with_reducible show wpAny _ _ (exec (Stmt.Assign _ (Expr.ListComp _ _ _ _) _) _) _ _ _)); (fail_if_success (with_reducible show Out _ _ _ _ _)); (fail_if_success (with_reducible show LCg.CompEnd _ _ _ _ _ _ _ _ _ _ _ _ _ _)); (fail_if_success (with_reducible show LCg.CompSrc _ _ _ _ _ _ _ _ _ _ _ _ _ _)); (fail_if_success (with_reducible show LCt.CompSrcT _ _ _ _ _ _ _ _ _ _ _ _ _ _ _)); (fail_if_success (with_reducible show Meet _ _ _)); (fail_if_success (with_reducible show wpAny _ _ (pyIter _) _ _ _)); (fail_if_success (with_reducible show LEnd _ _ _ _ _ _ _ _ _ _ _)); (fail_if_success (with_reducible show LPost _ _ _ _ _ _ _ _ _ _ _ _ _)); first | walk1 | (dsimp only; walk1)) | (k_end; dsimp only; k_unfold; (try dsimp only)) | fail "no step"))
  rename Fr _ _ _ _ => F8
  rename News _ _ _ _ => N8
  rename List.Perm _ ts => hp9
  rename List.Pairwise _ _ => ho9
  refine useNew (P := fun a o => ∃ vs' n' q, o = listOf (List.toArray vs') n' ∧ IntsAre vs' q ∧ q.Perm (again rs ++ (pAll rs rs.length).map (·.2)) ∧ q.Pairwise (· ≤ ·)) (parted_does ⟨B, F8, X, T, rfl, rfl, rfl, rfl⟩ (Nat.le_of_ble_eq_true rfl) (Nat.le_of_ble_eq_true rfl) ⟨_, (N8 (Dr, listOf rv.toArray 0) (by k_mem)).1, rfl, _, rfl⟩ hI8 R) ?_ F8 N8 ?_
  · rintro v h' ⟨a, vs', n', q, rfl, h1, h2, h3, h4, h5⟩
    exact ⟨a, _, rfl, h1, h2, vs', n', q, rfl, h3, h4, h5⟩
  rintro Dp _ h6 tk6 F6 N6 oN ⟨pv, pn, q, rfl, hIq, hqp, hqo⟩
  (try clear F8); (try clear N8)
  have he := sorted_eq (hp9.trans (hPerm.trans hqp.symm)) ho9 hqo
  rw [← he] at hIq
  have hql := hp9.length_eq
  (repeat' (first | (k_unfold; (try dsimp only)) | ((with_reducible show wpAny _ _ (call (Value.ref _) _ _) _ _ _); (first | (refine useI (add_does ⟨by assumption, by assumption, by assumption, by assumption, rfl, rfl, rfl, rfl⟩ (Nat.le_of_ble_eq_true rfl) (Nat.le_of_ble_eq_true rfl) ) (by assumption) (by assumption) ?_; intro _ _ _ _ _; (try k_sweep)) | (refine useI (sub_does ⟨by assumption, by assumption, by assumption, by assumption, rfl, rfl, rfl, rfl⟩ (Nat.le_of_ble_eq_true rfl) (Nat.le_of_ble_eq_true rfl) ) (by assumption) (by assumption) ?_; intro _ _ _ _ _; (try k_sweep)) | (refine useI (and_does ⟨by assumption, by assumption, by assumption, by assumption, rfl, rfl, rfl, rfl⟩ (Nat.le_of_ble_eq_true rfl) (Nat.le_of_ble_eq_true rfl) ) (by assumption) (by assumption) ?_; intro _ _ _ _ _; (try k_sweep)) | (refine useI (or_does ⟨by assumption, by assumption, by assumption, by assumption, rfl, rfl, rfl, rfl⟩ (Nat.le_of_ble_eq_true rfl) (Nat.le_of_ble_eq_true rfl) ) (by assumption) (by assumption) ?_; intro _ _ _ _ _; (try k_sweep)) | (refine useI (xor_does ⟨by assumption, by assumption, by assumption, by assumption, rfl, rfl, rfl, rfl⟩ (Nat.le_of_ble_eq_true rfl) (Nat.le_of_ble_eq_true rfl) ) (by assumption) (by assumption) ?_; intro _ _ _ _ _; (try k_sweep)) | (refine useI (inv_does ⟨by assumption, by assumption, by assumption, by assumption, rfl, rfl, rfl, rfl⟩ (Nat.le_of_ble_eq_true rfl) (Nat.le_of_ble_eq_true rfl) ) (by assumption) (by assumption) ?_; intro _ _ _ _ _; (try k_sweep)) | (refine useI (neg_does ⟨by assumption, by assumption, by assumption, by assumption, rfl, rfl, rfl, rfl⟩ (Nat.le_of_ble_eq_true rfl) (Nat.le_of_ble_eq_true rfl) ) (by assumption) (by assumption) ?_; intro _ _ _ _ _; (try k_sweep)) | (refine useI (rsh_does ⟨by assumption, by assumption, by assumption, by assumption, rfl, rfl, rfl, rfl⟩ (Nat.le_of_ble_eq_true rfl) (Nat.le_of_ble_eq_true rfl) (by decide)) (by assumption) (by assumption) ?_; intro _ _ _ _ _; (try k_sweep)) | (refine useI (lsh_does ⟨by assumption, by assumption, by assumption, by assumption, rfl, rfl, rfl, rfl⟩ (Nat.le_of_ble_eq_true rfl) (Nat.le_of_ble_eq_true rfl) (by decide) (by decide) (by omega)) (by assumption) (by assumption) ?_; intro _ _ _ _ _; (try k_sweep)))) | ((fail_if_success (with_reducible show wpAny _ _ (exec (Stmt.While _ _ _ _) _) _ _ _)); (fail_if_success (with_reducible show wpAny _ _ (exec (Stmt.For _ _ _ _ _) _) _ _ _)); (fail_if_success (with_reducible show wpAny _ _ (call (Value.ref _) _ _) _ _ _)); (fail_if_success (with_reducible show KswEnd _ _ _ _ _ _ _ _ _ _ _ _)); (fail_if_success (with_reducible show wpAny _ _ (eval (Expr.ListComp _ _ _ _) _) _ _ _)); (fail_if_success (with_reducible show wpAny _ _ (exec (Stmt.Assign _ (Expr.ListComp _ _ _ _) _) _) _ _ _)); (fail_if_success (with_reducible show Out _ _ _ _ _)); (fail_if_success (with_reducible show LCg.CompEnd _ _ _ _ _ _ _ _ _ _ _ _ _ _)); (fail_if_success (with_reducible show LCg.CompSrc _ _ _ _ _ _ _ _ _ _ _ _ _ _)); (fail_if_success (with_reducible show LCt.CompSrcT _ _ _ _ _ _ _ _ _ _ _ _ _ _ _)); (fail_if_success (with_reducible show Meet _ _ _)); (fail_if_success (with_reducible show wpAny _ _ (pyIter _) _ _ _)); (fail_if_success (with_reducible show LEnd _ _ _ _ _ _ _ _ _ _ _)); (fail_if_success (with_reducible show LPost _ _ _ _ _ _ _ _ _ _ _ _ _)); first | walk1 | (dsimp only; walk1)) | (k_end; dsimp only; k_unfold; (try dsimp only)) | fail "no step"))
  rename Fr _ _ _ _ => F9
  exact goodW_bool F9 hg (raisesW_false allW_false_nil) (by with_unfolding_all rfl))

end
end Mine

theorem PySem.Challenge.cw_oy0042_01_holds : PySem.Challenge.rw_oy0042_01.Holds :=
  Mine.law0
