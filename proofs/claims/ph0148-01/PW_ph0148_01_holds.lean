import PyProof.Rows.All
import Wide.All
import OpenK.AllK
import Wide.FinOn
import PySem.Challenge.RW_ph0148_01
open PySem PySem.W PyProof.Rows
set_option Elab.async false
set_option maxRecDepth 100000
namespace Mine
local macro_rules | `(tactic| k_head) => `(tactic| (have iA : HAppend (List PySem.Stmt) (List PySem.Stmt) (List PySem.Stmt) := inferInstance; km_head))
set_option maxHeartbeats 0 in
open_top hd for PySem.Challenge.rw_ph0148_01
end Mine
namespace Mine
set_option maxHeartbeats 0 in
example : True ∧ True := by
  w_top off
  walk1 <;> trivial
end Mine
section
set_option maxHeartbeats 0
open PySem PySem.W PySem.Calls PyProof.Rows
set_option Elab.async false
set_option maxRecDepth 100000
namespace Mine
noncomputable def Kept (as : List Addr) (h h' : Heap) : Prop := ∀ b o, h.get? b = some o → b ∉ as → h'.get? b = some o
noncomputable def TabSt (P ln col : Nat) (qual : Str) (o : Obj) (c : Addr) (oc : Obj) : Prop :=
  (o = tabObj #[] ∧ c = P ∧ oc = tabObj #[]) ∨ (o = tabObj #[rawInt ln, rawInt col, .ref c] ∧ c ≠ P ∧ ∃ vs t, oc.data = .fields vs ∧ vs[1]? = some (.str qual t))
noncomputable def TbsOk (tb : List (Addr × Obj)) : Prop :=
  ∃ o1 c1 oc1 o2 c2 oc2 o3 c3 oc3, tb = [(24, o1), (c1, oc1), (52, o2), (c2, oc2), (59, o3), (c3, oc3)] ∧
    TabSt 24 46 4 (Str.ofString "_str_to_int_inner.<locals>.inner") o1 c1 oc1 ∧ TabSt 52 86 4 (Str.ofString "_int2digits.<locals>.inner") o2 c2 oc2 ∧ TabSt 59 101 4 (Str.ofString "_digits2int.<locals>.inner") o3 c3 oc3
noncomputable def IsTab (o : Obj) : Prop := ∃ vs, o.data = .fields vs ∧ (o.cls = .none ∨ ∃ x t, vs[1]? = some (.str x t))
theorem TabSt.dat {P ln col : Nat} {qual : Str} {o : Obj} {c : Addr} {oc : Obj} (h : TabSt P ln col qual o c oc) : IsTab o ∧ IsTab oc := by
  rcases h with ⟨rfl, _, rfl⟩ | ⟨rfl, _, vs, t, e, e2⟩
  · exact ⟨⟨_, rfl, .inl rfl⟩, _, rfl, .inl rfl⟩
  · exact ⟨⟨_, rfl, .inl rfl⟩, vs, e, .inr ⟨_, _, e2⟩⟩
theorem TbsOk.dat {tb : List (Addr × Obj)} (h : TbsOk tb) : ∀ q ∈ tb, IsTab q.2 := by
  obtain ⟨o1, c1, oc1, o2, c2, oc2, o3, c3, oc3, rfl, h1, h2, h3⟩ := h
  intro q hq
  simp only [List.mem_cons, List.not_mem_nil, or_false] at hq
  rcases hq with rfl | rfl | rfl | rfl | rfl | rfl
  · exact h1.dat.1
  · exact h1.dat.2
  · exact h2.dat.1
  · exact h2.dat.2
  · exact h3.dat.1
  · exact h3.dat.2
noncomputable def NoTab (o : Obj) : Prop := ∀ vs, o.data = .fields vs → o.cls ≠ .none ∧ ∀ x t, vs[1]? ≠ some (.str x t)
theorem noTab_of {o : Obj} {d : Data} (e : o.data = d) (h : ∀ vs, d ≠ .fields vs) : NoTab o := fun vs hv => absurd (e.symm.trans hv) (h vs)
theorem apt {h₀ h : Heap} {L a : Addr} {o : Obj} {news tb : List (Addr × Obj)} (N : News h₀ L h news) (hm : (a, o) ∈ news) (hsub : ∀ q ∈ tb, q ∈ news) (hok : TbsOk tb) (hd : NoTab o) : ∀ q ∈ tb, q.1 ≠ a := fun q hq e => by
  obtain ⟨vs, hv, hc⟩ := hok.dat q hq
  have h1 := (N q (hsub q hq)).1
  have h2 := (N _ hm).1
  rw [e] at h1
  have e2 : q.2 = o := Option.some.inj (h1.symm.trans h2)
  obtain ⟨n1, n2⟩ := hd vs (e2 ▸ hv)
  rcases hc with hc | ⟨x, t, hx⟩
  · exact n1 (e2 ▸ hc)
  · exact n2 x t hx
noncomputable def EndC (g : Heap) (L : Addr) (s : Shared) (Post : Value → List (Addr × Obj) → Prop) (v : Value) (s' : Shared) : Prop :=
  ∃ h' tk' m' new tb', s' = { s with heap := h', toks := tk' } ∧ Fr g L h' m' ∧ News g L h' (new ++ tb') ∧ TbsOk tb' ∧ Post v new
noncomputable def Apart (as : List Addr) (h : Heap) (l : List (Addr × Obj)) : Prop := ∀ p ∈ l, ∀ o, h.get? p.1 = some o → p.1 ∈ as
section
variable {w : World} {A₀ A : Around} {s : Shared} {base h₀ : Heap} {outer : List Env} {L : Addr} {m : Str → Option Value} {env : Env} {tb : List (Addr × Obj)}
  {R : Result → Shared → Prop} {name qual : Str} {params : Arguments} {body : List Stmt} {scope : Scope} {cl : List (Str × Addr)} {dV kV doc pm cdv ct : Value} {an : Option Addr} {fo : Obj} {f : Addr} {args : Args} {binds : List (Str × Value)}
theorem kept_hide (h : Heap) (l : List (Addr × Obj)) : Kept (l.map (·.1)) h (hideAll h (l.map (·.1))) := fun _ _ e n => hideAll_get _ e n
theorem leave_of {Post : Value → List (Addr × Obj) → Prop} {Q : Value → Shared → Prop} (B : Below A₀ base outer h₀) (F : Fr h₀ L s.heap m) (N : News h₀ L s.heap tb) (hA : A.frames = some (env :: outer)) (hf : env.frame = some L) (hke : env.scope.kind = .function)
    (hret : ∀ v h' tk' new tb', Fr h₀ L h' m → News h₀ L h' (new ++ tb') → TbsOk tb' → Kept (tb.map (·.1)) s.heap h' → Apart (tb.map (·.1)) s.heap (new ++ tb') → Post v new → Q v { s with heap := h', toks := tk' }) (L' : Addr)
    (v : Value) (s' : Shared) (e : EndC (hideAll s.heap (tb.map (·.1))) L' s Post v s') : Q v s' := by
  obtain ⟨h', tk', m', nw, tb', rfl, F', N', hok, hp⟩ := e
  obtain ⟨FG, _, st, lv⟩ := groundX (R := fun r s' => ∃ v, r = .ok (.ret v) ∧ (Fr h₀ L s'.heap m ∧ News h₀ L s'.heap (nw ++ tb'))) B F N hA hf hke
  obtain ⟨_, _, a, b⟩ := lv v { s with heap := h', toks := tk' } ⟨_, _, _, F', N', fun x y => ⟨v, rfl, x, y⟩⟩
  refine hret v h' tk' nw tb' a b hok (fun b o e n => F'.keep _ _ (kept_hide s.heap tb b o e n)) (fun p hm o e => Classical.byContradiction fun n => ?_) hp
  have h1 := kept_hide s.heap tb _ _ e n
  rw [(N' p hm).2.2] at h1
  cases h1
theorem ent_plain {Post : Value → List (Addr × Obj) → Prop} {Q : Value → Shared → Prop} {E : Value → Shared → Prop} (B : Below A₀ base outer h₀) (F : Fr h₀ L s.heap m) (N : News h₀ L s.heap tb) (hlim : h₀.NoLimit) (hA : A.frames = some (env :: outer)) (hf : env.frame = some L) (hke : env.scope.kind = .function)
    (ho : s.heap.get? f = some fo) (hd : fo.data = .func (fnX name qual params body scope cl dV kV doc pm an cdv ct)) (hcd : s.heap.CodeRec cdv qual) (hroom : A.depth < recursionLimit)
    (hbind : BindsTo s (fnX name qual params body scope cl dV kV doc pm an cdv ct) args binds) (hloc : ∀ y ∈ binds, scope.names.lookup y.1 = some .local)
    (hret : ∀ v h' tk' new tb', Fr h₀ L h' m → News h₀ L h' (new ++ tb') → TbsOk tb' → Kept (tb.map (·.1)) s.heap h' → Apart (tb.map (·.1)) s.heap (new ++ tb') → Post v new → Q v { s with heap := h', toks := tk' })
    (h : ∀ g L' h₁, Fr g L' h₁ (fun y => binds.reverse.lookup y) → News g L' h₁ tb → Below A base (env :: outer) g → h₀.StaysIn g → Kept (tb.map (·.1)) s.heap g → L' = s.heap.objs.size → (∀ p ∈ tb, p.1 < L') →
      wpAny (model PySem.Challenge.rw_ph0148_01.row.prog w) (A.deeper (envX qual scope L' f cdv cl)) (execs body (envX qual scope L' f cdv cl))
        (fun fl s' => EndC g L' s Post (match fl with | .ret v => v | _ => .none) s') (fun _ _ => False)
        { s with heap := h₁, toks := s.toks + binds.length })
    (hcell : ∀ x ∈ scope.names, x.2 ≠ .cell) (hco : scope.isCoroutine = false := by rfl) (hgen : scope.isGenerator = false := by rfl) (hk : scope.kind = .function := by rfl) :
    codeAny (model PySem.Challenge.rw_ph0148_01.row.prog w) A (.call (.ref f) args) (fun r s' => match r with | .ok (.ret v) => Q v s' | .ok _ => False | .error e => E e s') s := by
  obtain ⟨FG, BG, st, _⟩ := groundX (R := fun _ _ => True) B F N hA hf hke
  refine codeAny_call_def (fd := fnX name qual params body scope cl dV kV doc pm an cdv ct) (body := body) (binds := binds) hroom ho hd (hlim.keeps F.keep) hcd rfl hbind hcell hloc (fun h₁ hns hk₁ => ?_) hco hgen hk
  exact wpAny_mono (h _ s.heap.objs.size h₁ ⟨hns, fun b o e => hk₁ b o (of_hideAll _ e), Nat.le_of_eq (hideAll_size _ _)⟩
    (fun p hp => ⟨hk₁ _ _ (N p hp).1, Nat.ne_of_lt (Heap.lt_size (N p hp).1), hideAll_none _ (List.mem_map_of_mem hp)⟩) BG st (kept_hide _ _) rfl (fun p hp => Heap.lt_size (N p hp).1))
    (fun fl s' hl => leave_of (Q := Q) B F N hA hf hke hret _ _ _ hl) fun _ _ y => y.elim
theorem ent_cells {Post : Value → List (Addr × Obj) → Prop} {Q : Value → Shared → Prop} {E : Value → Shared → Prop} (B : Below A₀ base outer h₀) (F : Fr h₀ L s.heap m) (N : News h₀ L s.heap tb) (hlim : h₀.NoLimit) (hA : A.frames = some (env :: outer)) (hf : env.frame = some L) (hke : env.scope.kind = .function)
    (ho : s.heap.get? f = some fo) (hd : fo.data = .func (fnX name qual params body scope [] dV kV doc pm an cdv ct)) (hcd : s.heap.CodeRec cdv qual) (hroom : A.depth < recursionLimit)
    (hbind : BindsTo s (fnX name qual params body scope [] dV kV doc pm an cdv ct) args binds)
    (hkind : (binds.all fun y => scope.names.lookup y.1 == some .local || scope.names.lookup y.1 == some .cell) = true)
    (hnd : ((cellsFrom 0 scope.names []).map (·.1)).Nodup)
    (hret : ∀ v h' tk' new tb', Fr h₀ L h' m → News h₀ L h' (new ++ tb') → TbsOk tb' → Kept (tb.map (·.1)) s.heap h' → Apart (tb.map (·.1)) s.heap (new ++ tb') → Post v new → Q v { s with heap := h', toks := tk' })
    (h : ∀ g L' h₁ tk cells, Fr g L' h₁ (bindL (envOfC qual scope L' f cdv).kindOf binds fun _ => none) → News g L' h₁ (cells ++ tb) →
      CellsAre (bindC (envOfC qual scope L' f cdv).kindOf binds fun _ => none) (cellsFrom (L' + 1) scope.names []) cells → Below A base (env :: outer) g → h₀.StaysIn g → Kept (tb.map (·.1)) s.heap g → L' = s.heap.objs.size → (∀ p ∈ tb, p.1 < L') →
      wpAny (model PySem.Challenge.rw_ph0148_01.row.prog w) (A.deeper (envOfC qual scope L' f cdv)) (execs body (envOfC qual scope L' f cdv))
        (fun fl s' => EndC g L' s Post (match fl with | .ret v => v | _ => .none) s') (fun _ _ => False)
        { s with heap := h₁, toks := tk })
    (hco : scope.isCoroutine = false := by rfl) (hgen : scope.isGenerator = false := by rfl) (hk : scope.kind = .function := by rfl) :
    codeAny (model PySem.Challenge.rw_ph0148_01.row.prog w) A (.call (.ref f) args) (fun r s' => match r with | .ok (.ret v) => Q v s' | .ok _ => False | .error e => E e s') s := by
  obtain ⟨FG, BG, st, _⟩ := groundX (R := fun _ _ => True) B F N hA hf hke
  refine codeAny_call_function hroom ho hd hco hgen rfl hcd (hbind _ _ _ _ ?_)
  refine wpAny_newFunctionEnv_cells hk (kindsX hkind _) fun env' he s' x => ?_
  subst he
  refine ⟨(hlim.keeps F.keep).keeps x.toInCall.keep, codeAny_func ?_⟩
  obtain ⟨h₁, tk, rfl, _⟩ := x.done
  have hk₁ := x.toInCall.keep
  obtain ⟨cells, NC, Y⟩ := Cl.news (h₀ := s.heap) (Nat.le_refl _) fun n c hm => ⟨x.cell n c (lookup_of_mem_nodup (cellsFrom_names scope.names 0 (s.heap.objs.size + 1) [] [] rfl ▸ hnd) hm), x.above n c hm⟩
  refine wpAny_mono (h _ s.heap.objs.size h₁ tk cells ⟨x.toInCall.ns, fun b o e => hk₁ b o (of_hideAll _ e), Nat.le_of_eq (hideAll_size _ _)⟩ (fun p hp => ?_) Y BG st (kept_hide _ _) rfl (fun p hp => Heap.lt_size (N p hp).1)) (fun fl s' hl => leave_of (Q := Q) B F N hA hf hke hret _ _ _ hl) fun _ _ y => y.elim
  rcases List.mem_append.mp hp with hp | hp
  · refine ⟨(NC p hp).1, (NC p hp).2.1, ?_⟩
    cases q : (hideAll s.heap (tb.map (·.1))).get? p.1 with
    | none => rfl
    | some o => have := of_hideAll _ q; rw [(NC p hp).2.2] at this; cases this
  · exact ⟨hk₁ _ _ (N p hp).1, Nat.ne_of_lt (Heap.lt_size (N p hp).1), hideAll_none _ (List.mem_map_of_mem hp)⟩
end
/-- what a contract may ask of the heap: it stands where only tables turn. -/
noncomputable def Stab (Pre : Heap → Prop) : Prop := ∀ (h g : Heap) (as : List Addr), (∀ b ∈ as, ∀ o, h.get? b = some o → IsTab o) → Kept as h g → Pre h → Pre g
theorem stab_true : Stab (fun _ => True) := fun _ _ _ _ _ _ => trivial
theorem stab_and {P R : Heap → Prop} (hp : Stab P) (hr : Stab R) : Stab (fun h => P h ∧ R h) := fun h g as ht k x => ⟨hp h g as ht k x.1, hr h g as ht k x.2⟩
theorem not_tab_seq {o : Obj} {vs : Array Value} {n : Nat} (e : o.data = .seq vs n) : ¬ IsTab o := fun ⟨_, h, _⟩ => by rw [e] at h; cases h
theorem stab_tup {a : Addr} {vs : Array Value} : Stab (fun h => IsTup h a vs) := fun h g as ht k x => by
  obtain ⟨o, ho, hc, n, hd⟩ := x
  exact ⟨o, k a o ho (fun hm => not_tab_seq hd (ht a hm o ho)), hc, n, hd⟩
theorem stab_list {a : Addr} {vs : Array Value} : Stab (fun h => h.IsList a vs) := fun h g as ht k x => by
  obtain ⟨o, ho, hc, n, hd⟩ := x
  exact ⟨o, k a o ho (fun hm => not_tab_seq hd (ht a hm o ho)), hc, n, hd⟩
theorem tabs_are {h₀ h : Heap} {L : Addr} {tb : List (Addr × Obj)} (N : News h₀ L h tb) (ok : TbsOk tb) : ∀ b ∈ tb.map (·.1), ∀ o, h.get? b = some o → IsTab o := fun b hb o e => by
  obtain ⟨q, hq, rfl⟩ := List.mem_map.mp hb
  have := (N q hq).1
  rw [e] at this
  cases this
  exact ok.dat q hq
/-- a contract: what a call of the def at `f` with `vs` does; the tables stand behind what is made. -/
noncomputable def Con (w : World) (f : Addr) (vs : List Value) (dn un' : Nat) (Pre : Heap → Prop) (Post : Value → List (Addr × Obj) → Prop) : Prop :=
  ∀ (p : Program) (loose : List Str) (mean : ExcName → Option Value) (mg mb : Str → Option Value) (dp un : Nat) (gd : Option (List Code)) (cn : Str) (cs : Scope) (a : Addr) (ccd : Value) (cl : List (Str × Addr)) (outer : List Env) (A₀ : Around) (base h₀ : Heap) (L : Addr) (m : Str → Option Value) (s : Shared) (tb : List (Addr × Obj)) (Q E : Value → Shared → Prop),
    Below A₀ base outer h₀ → Fr h₀ L s.heap m → (hd.heap_39 w.params).In h₀ → Top p loose mean mg mb h₀ → News h₀ L s.heap tb → TbsOk tb → Pre s.heap → cs.kind = .function →
    dp + dn < recursionLimit → un + un' < cLine →
    (∀ v h' tk' new tb', Fr h₀ L h' m → News h₀ L h' (new ++ tb') → TbsOk tb' → Kept (tb.map (·.1)) s.heap h' → Apart (tb.map (·.1)) s.heap (new ++ tb') → Post v new → Q v { s with heap := h', toks := tk' }) →
    wpAny (model PySem.Challenge.rw_ph0148_01.row.prog w) (ktrTop dp un gd cn cs L a ccd cl outer) (call (.ref f) vs) Q E s
section
variable {w : World} {name qual : Str} {params : Arguments} {body : List Stmt} {scope : Scope} {dV kV doc pm cdv ct oc : Value} {an od : Option Addr} {osl : Array (Option Value)} {f : Addr} {vs : List Value} {binds : List (Str × Value)} {dn un' : Nat} {Pre : Heap → Prop} {Post : Value → List (Addr × Obj) → Prop}
theorem con_plain (hst : Stab Pre) (ho : (hd.heap_39 w.params).lookup f = some ⟨oc, od, .func (fnOf name qual params body scope dV kV doc pm an cdv ct), osl⟩) (hcd : codeIn (hd.heap_39 w.params) cdv qual = true)
    (hbind : ∀ s : Shared, (hd.heap_39 w.params).In s.heap → BindsTo s (fnOf name qual params body scope dV kV doc pm an cdv ct) ⟨vs, []⟩ binds) (hloc : ∀ y ∈ binds, scope.names.lookup y.1 = some .local)
    (hcell : ∀ x ∈ scope.names, x.2 ≠ .cell) (hco : scope.isCoroutine = false) (hgen : scope.isGenerator = false) (hk : scope.kind = .function)
    (h : ∀ (p : Program) (loose : List Str) (mean : ExcName → Option Value) (mg mb : Str → Option Value) (dp un : Nat) (gd : Option (List Code)) (cn : Str) (cs : Scope) (L a : Addr) (ccd : Value) (cl : List (Str × Addr)) (outer : List Env) (base : Heap) (s : Shared) (tb : List (Addr × Obj)) (g : Heap) (L' : Addr) (h₁ : Heap),
      dp + dn < recursionLimit → un + un' < cLine → TbsOk tb → Pre g → Fr g L' h₁ (fun y => binds.reverse.lookup y) → News g L' h₁ tb → Below (ktrTop dp un gd cn cs L a ccd cl outer) base (envX cn cs L a ccd cl :: outer) g → (hd.heap_39 w.params).In g → Top p loose mean mg mb g → (∀ p ∈ tb, p.1 < L') →
      wpAny (model PySem.Challenge.rw_ph0148_01.row.prog w) ((ktrTop dp un gd cn cs L a ccd cl outer).deeper (envOf qual scope L' f cdv)) (execs body (envOf qual scope L' f cdv))
        (fun fl s' => EndC g L' s Post (match fl with | .ret v => v | _ => .none) s') (fun _ _ => False)
        { s with heap := h₁, toks := s.toks + binds.length }) (hdn : 0 < dn := by decide) : Con w f vs dn un' Pre Post := by
  intro p loose mean mg mb dp un gd cn cs a ccd cl outer A₀ base h₀ L m s tb Q E B F X T N ok hp hcs hd hu hret
  have XS := X.keeps F.keep
  refine wpAny_call (ent_plain (cl := []) (Q := Q) B F N T.nolimit rfl rfl hcs (XS _ _ ho) rfl (codeRec_of XS hcd) (by show dp < _; omega) (hbind s XS) hloc hret (fun g L' h₁ F' N' B' st kp e lt => ?_) hcell hco hgen hk)
  exact h p loose mean mg mb dp un gd cn cs L a ccd cl outer base s tb g L' h₁ hd hu ok (hst _ _ _ (tabs_are N ok) kp hp) F' N' B' (X.keeps st) (T.keeps st) lt
theorem con_cells (hst : Stab Pre) (ho : (hd.heap_39 w.params).lookup f = some ⟨oc, od, .func (fnOf name qual params body scope dV kV doc pm an cdv ct), osl⟩) (hcd : codeIn (hd.heap_39 w.params) cdv qual = true)
    (hbind : ∀ s : Shared, (hd.heap_39 w.params).In s.heap → BindsTo s (fnOf name qual params body scope dV kV doc pm an cdv ct) ⟨vs, []⟩ binds)
    (hkind : (binds.all fun y => scope.names.lookup y.1 == some .local || scope.names.lookup y.1 == some .cell) = true)
    (hnd : ((cellsFrom 0 scope.names []).map (·.1)).Nodup) (hco : scope.isCoroutine = false) (hgen : scope.isGenerator = false) (hk : scope.kind = .function)
    (h : ∀ (p : Program) (loose : List Str) (mean : ExcName → Option Value) (mg mb : Str → Option Value) (dp un : Nat) (gd : Option (List Code)) (cn : Str) (cs : Scope) (L a : Addr) (ccd : Value) (cl : List (Str × Addr)) (outer : List Env) (base : Heap) (s : Shared) (tb : List (Addr × Obj)) (g : Heap) (L' : Addr) (h₁ : Heap) (tk : Nat) (cells : List (Addr × Obj)),
      dp + dn < recursionLimit → un + un' < cLine → TbsOk tb → Pre g → Fr g L' h₁ (bindL (envOfC qual scope L' f cdv).kindOf binds fun _ => none) → News g L' h₁ (cells ++ tb) → CellsAre (bindC (envOfC qual scope L' f cdv).kindOf binds fun _ => none) (cellsFrom (L' + 1) scope.names []) cells →
      Below (ktrTop dp un gd cn cs L a ccd cl outer) base (envX cn cs L a ccd cl :: outer) g → (hd.heap_39 w.params).In g → Top p loose mean mg mb g → (∀ p ∈ tb, p.1 < L') →
      wpAny (model PySem.Challenge.rw_ph0148_01.row.prog w) ((ktrTop dp un gd cn cs L a ccd cl outer).deeper (envOfC qual scope L' f cdv)) (execs body (envOfC qual scope L' f cdv))
        (fun fl s' => EndC g L' s Post (match fl with | .ret v => v | _ => .none) s') (fun _ _ => False)
        { s with heap := h₁, toks := tk }) (hdn : 0 < dn := by decide) : Con w f vs dn un' Pre Post := by
  intro p loose mean mg mb dp un gd cn cs a ccd cl outer A₀ base h₀ L m s tb Q E B F X T N ok hp hcs hd hu hret
  have XS := X.keeps F.keep
  refine wpAny_call (ent_cells (Q := Q) B F N T.nolimit rfl rfl hcs (XS _ _ ho) rfl (codeRec_of XS hcd) (by show dp < _; omega) (hbind s XS) hkind hnd hret (fun g L' h₁ tk cells F' N' Y' B' st kp e lt => ?_) hco hgen hk)
  exact h p loose mean mg mb dp un gd cn cs L a ccd cl outer base s tb g L' h₁ tk cells hd hu ok (hst _ _ _ (tabs_are N ok) kp hp) F' N' Y' B' (X.keeps st) (T.keeps st) lt
end
/-- the use of a contract where the ledger is `own` ahead of the tables. -/
theorem con_use {w : World} {f : Addr} {vs : List Value} {dn un' : Nat} {Pre : Heap → Prop} {Post : Value → List (Addr × Obj) → Prop} (C : Con w f vs dn un' Pre Post)
    {p : Program} {loose : List Str} {mean : ExcName → Option Value} {mg mb : Str → Option Value} {dp un : Nat} {gd : Option (List Code)} {cn : Str} {cs : Scope} {a : Addr} {ccd : Value} {cl : List (Str × Addr)} {outer : List Env} {A₀ : Around} {base h₀ : Heap} {L : Addr} {m : Str → Option Value} {s : Shared} {own tb : List (Addr × Obj)} {Q E : Value → Shared → Prop}
    (B : Below A₀ base outer h₀) (F : Fr h₀ L s.heap m) (X : (hd.heap_39 w.params).In h₀) (T : Top p loose mean mg mb h₀) (N : News h₀ L s.heap (own ++ tb)) (ok : TbsOk tb) (hpre : Pre s.heap) (hown : ∀ p ∈ own, NoTab p.2) (hcs : cs.kind = .function)
    (hd : dp + dn < recursionLimit) (hu : un + un' < cLine)
    (h : ∀ v h' tk' new tb', Fr h₀ L h' m → News h₀ L h' (new ++ (own ++ tb')) → TbsOk tb' → (∀ p ∈ new, ∀ q ∈ own, q.1 ≠ p.1) → Post v new → Q v { s with heap := h', toks := tk' }) :
    wpAny (model PySem.Challenge.rw_ph0148_01.row.prog w) (ktrTop dp un gd cn cs L a ccd cl outer) (call (.ref f) vs) Q E s := by
  refine C p loose mean mg mb dp un gd cn cs a ccd cl outer A₀ base h₀ L m s tb Q E B F X T (fun p hp => N p (List.mem_append_right _ hp)) ok hpre hcs hd hu fun v h' tk' new tb' F' N' ok' kp ap hp => ?_
  have nt : ∀ p ∈ own, p.1 ∉ tb.map (·.1) := fun p hp hm => by
    obtain ⟨q, hq, e⟩ := List.mem_map.mp hm
    exact apt N (List.mem_append_left _ hp) (fun q hq => List.mem_append_right _ hq) ok (hown p hp) q hq e
  refine h v h' tk' new tb' F' (fun p hp => ?_) ok' (fun p hp q hq e => ?_) hp
  · rcases List.mem_append.mp hp with hp | hp
    · exact N' p (List.mem_append_left _ hp)
    · rcases List.mem_append.mp hp with hp | hp
      · exact ⟨kp _ _ (N p (List.mem_append_left _ hp)).1 (nt p hp), (N p (List.mem_append_left _ hp)).2⟩
      · exact N' p (List.mem_append_right _ hp)
  · exact nt q hq (e ▸ ap p (List.mem_append_left _ hp) q.2 (e ▸ (N q (List.mem_append_left _ hq)).1))
end Mine
end
section
set_option maxHeartbeats 0
open PySem PySem.W PySem.Calls PyProof.Rows
namespace Mine
abbrev tupo (vs : List Value) : Obj := { cls := .type "tuple", data := .seq vs.toArray }
/-- days since Sunday, March 5, 2000 -/
noncomputable def passF (y d : Int) : Int := 365 * y + y / 4 - y / 100 + y / 400 - 730485 + d - 5
noncomputable def wkF (y d : Int) : Int := (passF y d + 6) % 7
noncomputable def mIx (d : Int) : Int := (5 * d - 3) / 153
noncomputable def mLeft (d : Int) : Int := d - (153 * mIx d + 2) / 5
noncomputable def wY (y d : Int) : Int := if mIx d < 10 then y else y + 1
noncomputable def wM (d : Int) : Int := if mIx d < 10 then mIx d + 3 else mIx d - 9
noncomputable def two (n : Int) : List Nat := [48 + (n / 10).toNat, 48 + (n % 10).toNat]
noncomputable def four (n : Int) : List Nat := [48 + (n / 1000).toNat, 48 + (n / 100 % 10).toNat, 48 + (n / 10 % 10).toNat, 48 + (n % 10).toNat]
noncomputable def dayT (k : Int) : List Nat := [[77, 111, 110], [84, 117, 101], [87, 101, 100], [84, 104, 117], [70, 114, 105], [83, 97, 116]].getD k.toNat [83, 117, 110]
noncomputable def monT (k : Int) : List Nat := [[68, 101, 99], [74, 97, 110], [70, 101, 98], [77, 97, 114], [65, 112, 114], [77, 97, 121], [74, 117, 110], [74, 117, 108], [65, 117, 103], [83, 101, 112], [79, 99, 116], [78, 111, 118]].getD k.toNat [68, 101, 99]
theorem getD_all {α : Type} {P : α → Prop} {d : α} (hd : P d) : ∀ {l : List α}, (∀ x ∈ l, P x) → ∀ n : Nat, P (l.getD n d)
  | [], _, _ => hd
  | a :: _, h, 0 => h a (.head _)
  | _ :: _, h, n + 1 => getD_all hd (fun x hx => h x (.tail _ hx)) n
theorem three_of {l : List Nat} (h : l.length = 3) : ∃ a b c, l = [a, b, c] := by
  cases l with
  | nil => cases h
  | cons a l => cases l with
    | nil => cases h
    | cons b l => cases l with
      | nil => cases h
      | cons c l => cases l with
        | nil => exact ⟨a, b, c, rfl⟩
        | cons _ _ => cases h
noncomputable def lineL (wk y mo d h mi s : Int) (zone : Str) : List Nat :=
  dayT wk ++ ([44, 32] ++ (two d ++ ([32] ++ (monT mo ++ ([32] ++ (four y ++ ([32] ++ (two h ++ ([58] ++ (two mi ++ ([58] ++ (two s ++ ([32] ++ zone.cps.toList)))))))))))))
noncomputable def lineS (y d ck : Int) (zone : Str) : Str := ⟨(lineL (wkF y d) (wY y d) (wM d) (mLeft d) (ck / 3600) (ck / 60 % 60) (ck % 60) zone).toArray⟩
noncomputable def cenF : Nat → Int
  | 0 => 0
  | n + 1 => cenF n + (if ((n + 1 : Nat) : Int) % 4 ≠ 0 then -1 else 0) + (if ((n + 1 : Nat) : Int) % 25 ∈ [2, 5, 8, 11, 14, 18, 21, 24] then 1 else 0)
noncomputable def labF (y : Int) : Int := (8 + 11 * (y % 19) + cenF (y / 100).toNat) % 30
noncomputable def lab2 (y : Int) : Int := if labF y = 24 ∨ (labF y = 25 ∧ y % 19 > 10) then labF y + 1 else labF y
noncomputable def moonF (y : Int) : Int := 21 + (23 - lab2 y) % 30
structure Ten where
  month : Int
  day : Int
noncomputable def tenF (y : Int) : Ten :=
  let golden := y.fmod 19
  let century := y.fdiv 100
  let rest := y.fmod 100
  let fours := century.fdiv 4
  let over := century.fmod 4
  let later := (century - (century + 8).fdiv 25 + 1).fdiv 3
  let full := (century - fours - later - 11 * golden + 15).fmod 30
  let leaps := rest.fdiv 4
  let left := rest.fmod 4
  let wait := (2 * over + 2 * leaps - full - left + 4).fmod 7
  let week := (golden + 11 * full + 22 * wait).fdiv 451
  ⟨(full + wait - 7 * week + 114).fdiv 31, (full + wait - 7 * week + 114).fmod 31 + 1⟩
/-- a text of figures and what it tells -/
noncomputable def Fig (x : Str) (n : Int) : Prop := ∃ ds : List Nat, x.cps.toList = ds.map (48 + ·) ∧ (∀ d ∈ ds, d ≤ 9) ∧ ds ≠ [] ∧ ds.length ≤ 4 ∧ (ds.foldl (fun a d => 10 * a + d) 0 : Nat) = n
inductive Split : List (Addr × Obj) → List (Addr × Obj) → List (Addr × Obj) → Prop where
  | nil {tb} : TbsOk tb → Split tb [] tb
  | cons {x r own tb} : Split r own tb → Split (x :: r) (x :: own) tb
theorem Split.eq {a b c : List (Addr × Obj)} (h : Split a b c) : a = b ++ c ∧ TbsOk c := by
  induction h with
  | nil h => exact ⟨rfl, h⟩
  | cons _ ih => exact ⟨by rw [ih.1]; rfl, ih.2⟩
/-- the ends a contract's new objects stand apart from the own ones, as a list of facts. -/
noncomputable def ApL (new : List (Addr × Obj)) : List (Addr × Obj) → Prop
  | [] => True
  | q :: r => (∀ p ∈ new, @Ne Nat q.1 p.1) ∧ ApL new r
theorem ApL.of {new : List (Addr × Obj)} : ∀ {own : List (Addr × Obj)}, (∀ p ∈ new, ∀ q ∈ own, q.1 ≠ p.1) → ApL new own
  | [], _ => trivial
  | _ :: _, h => ⟨fun p hp => h p hp _ (.head _), ApL.of fun p hp q hq => h p hp q (.tail _ hq)⟩
noncomputable def OffT (tb : List (Addr × Obj)) (own : List (Addr × Obj)) : Prop := ∀ p ∈ own, ∀ q ∈ tb, q.1 ≠ p.1
theorem con_go {w : World} {f : Addr} {vs : List Value} {dn un' : Nat} {Pre : Heap → Prop} {Post : Value → List (Addr × Obj) → Prop} (C : Con w f vs dn un' Pre Post)
    {p : Program} {loose : List Str} {mean : ExcName → Option Value} {mg mb : Str → Option Value} {dp un : Nat} {gd : Option (List Code)} {cn : Str} {cs : Scope} {a : Addr} {ccd : Value} {cl : List (Str × Addr)} {outer : List Env} {A₀ : Around} {base h₀ : Heap} {L : Addr} {m : Str → Option Value} {s : Shared} {news own tb : List (Addr × Obj)} {Q E : Value → Shared → Prop}
    (B : Below A₀ base outer h₀) (F : Fr h₀ L s.heap m) (X : (hd.heap_39 w.params).In h₀) (T : Top p loose mean mg mb h₀) (N : News h₀ L s.heap news) (S : Split news own tb) (hpre : Pre s.heap) (hown : ∀ p ∈ own, NoTab p.2 ∨ ∀ q ∈ tb, q.1 ≠ p.1) (hcs : cs.kind = .function)
    (hd : dp + dn < recursionLimit) (hu : un + un' < cLine)
    (h : ∀ v h' tk' new tb', Fr h₀ L h' m → News h₀ L h' (new ++ (own ++ tb')) → TbsOk tb' → ApL new own → OffT tb' own → Post v new → Q v { s with heap := h', toks := tk' }) :
    wpAny (model PySem.Challenge.rw_ph0148_01.row.prog w) (ktrTop dp un gd cn cs L a ccd cl outer) (call (.ref f) vs) Q E s := by
  obtain ⟨rfl, ok⟩ := S.eq
  refine C p loose mean mg mb dp un gd cn cs a ccd cl outer A₀ base h₀ L m s tb Q E B F X T (fun p hp => N p (List.mem_append_right _ hp)) ok hpre hcs hd hu fun v h' tk' new tb' F' N' ok' kp ap hp => ?_
  have nt : ∀ p ∈ own, p.1 ∉ tb.map (·.1) := fun p hp hm => by
    obtain ⟨q, hq, e⟩ := List.mem_map.mp hm
    rcases hown p hp with hn | ho
    · exact apt N (List.mem_append_left _ hp) (fun q hq => List.mem_append_right _ hq) ok hn q hq e
    · exact ho q hq e
  have off : ∀ l : List (Addr × Obj), Apart (tb.map (·.1)) s.heap l → ∀ p ∈ l, ∀ q ∈ own, q.1 ≠ p.1 := fun l al p hp q hq e => nt q hq (e ▸ al p hp q.2 (e ▸ (N q (List.mem_append_left _ hq)).1))
  refine h v h' tk' new tb' F' (fun p hp => ?_) ok' (ApL.of (off new fun p hp => ap p (List.mem_append_left _ hp))) (fun p hp q hq e => off tb' (fun p hp => ap p (List.mem_append_right _ hp)) q hq p hp e.symm) hp
  rcases List.mem_append.mp hp with hp | hp
  · exact N' p (List.mem_append_left _ hp)
  · rcases List.mem_append.mp hp with hp | hp
    · exact ⟨kp _ _ (N p (List.mem_append_left _ hp)).1 (nt p hp), (N p (List.mem_append_left _ hp)).2⟩
    · exact N' p (List.mem_append_right _ hp)
/-- one turn of a comprehension after the other, the tables behind. -/
theorem turns {prog : Program} {w : World} {A : Around} {h₀ : Heap} {L : Addr} {m : Str → Option Value} {env : Env} {elt : Expr} {x : Str} {scope : Scope} {cl : List (Str × Addr)} {s : Shared} {S : List (Addr × Obj) → Prop} {P : Nat → Value → Prop} {Fin : List Value → List (Addr × Obj) → Prop}
    {own : List (Addr × Obj)} (f : Nat → Value → Prop) (n : Nat) (hS : ∀ tb, S (own ++ tb))
    (turn : ∀ i v I oI C oC D m₂ h tk ys tb (Q E' : Value → Shared → Prop), i < n → P i v → LCg.NsObj oC m₂ → m₂ x = some v → TbsOk tb → Fr h₀ L h m → News h₀ L h ((I, oI) :: (C, oC) :: (D, LCg.lst ys) :: (own ++ tb)) → OffT tb [(I, oI), (C, oC), (D, LCg.lst ys)] →
      (∀ y h' tk' tb', Fr h₀ L h' m → News h₀ L h' ((I, oI) :: (C, oC) :: (D, LCg.lst ys) :: (own ++ tb')) → TbsOk tb' → OffT tb' [(I, oI), (C, oC), (D, LCg.lst ys)] → f i y → Q y { s with heap := h', toks := tk' }) →
      wpAny (model prog w) A (eval elt (compEnvC scope cl C env)) Q E' { s with heap := h, toks := tk })
    (fin : ∀ ys tb, TbsOk tb → ys.length = n → (∀ i y, ys[i]? = some y → f i y) → Fin ys (own ++ tb)) :
    ∀ k i ys tb, i + k = n → ys.length = i → (∀ j y, ys[j]? = some y → f j y) → TbsOk tb → LCg.CompRest prog w A h₀ L m env elt x scope cl s S P Fin k i ys (own ++ tb)
  | 0, i, ys, tb, hn, hl, hf, ok => LCg.CompRest.zero (fin ys tb ok (by omega) hf)
  | k + 1, i, ys, tb, hn, hl, hf, ok => LCg.CompRest.succ fun v I oI C oC D m₂ h tk E' hP hC hx F N off ne => by
      have om := off.mem
      refine turn i v I oI C oC D m₂ h tk ys tb _ E' (by omega) hP hC hx ok F N (fun p hp q hq => ?_) fun y h' tk' tb' F' N' ok' of' hy => ?_
      · simp only [List.mem_cons, List.not_mem_nil, or_false] at hp
        have z := om q (List.mem_append_right _ hq)
        rcases hp with rfl | rfl | rfl
        · exact z.1
        · exact z.2.1
        · exact z.2.2
      · refine LCg.CompEnd.intro F' N' (own ++ tb') (fun p hp => hp) (LCg.Off3.of fun p hp => ?_) (hS _) (turns f n hS turn fin k (i + 1) (ys ++ [y]) tb' (by omega) (by simp [hl]) (fun j z hz => ?_) ok')
        · rcases List.mem_append.mp hp with hp | hp
          · exact om p (List.mem_append_left _ hp)
          · exact ⟨of' _ (.head _) p hp, of' _ (.tail _ (.head _)) p hp, of' _ (.tail _ (.tail _ (.head _))) p hp⟩
        · rw [List.getElem?_append] at hz
          split at hz
          · exact hf j z hz
          · have : j = i := by
              rcases Nat.lt_or_ge (j - ys.length) 1 with h1 | h1
              · omega
              · rw [List.getElem?_eq_none (by simpa using h1)] at hz; cases hz
            subst this
            rw [hl, Nat.sub_self] at hz
            cases hz
            exact hy
theorem comp_src {prog : Program} {w : World} {A : Around} {h₀ : Heap} {L : Addr} {m : Str → Option Value} {env : Env} {elt : Expr} {x : Str} {scope : Scope} {cl : List (Str × Addr)} {Fin : Shared → List Value → List (Addr × Obj) → Prop} {ax : Addr} {its : Array Value} {k : Nat} {news own tb : List (Addr × Obj)} {s₁ : Shared}
    (f : Nat → Value → Prop) (hh : A.handled = none) (F : Fr h₀ L s₁.heap m) (N : News h₀ L s₁.heap news) (S : Split news own tb) (hm : (ax, ({ cls := .type "list", data := .seq its k } : Obj)) ∈ own) (hsz : its.size ≤ sizeLine)
    (turn : ∀ i v I oI C oC D m₂ h tk ys tb (Q E' : Value → Shared → Prop), i < its.size → its[i]? = some v → LCg.NsObj oC m₂ → m₂ x = some v → TbsOk tb → Fr h₀ L h m → News h₀ L h ((I, oI) :: (C, oC) :: (D, LCg.lst ys) :: (own ++ tb)) → OffT tb [(I, oI), (C, oC), (D, LCg.lst ys)] →
      (∀ y h' tk' tb', Fr h₀ L h' m → News h₀ L h' ((I, oI) :: (C, oC) :: (D, LCg.lst ys) :: (own ++ tb')) → TbsOk tb' → OffT tb' [(I, oI), (C, oC), (D, LCg.lst ys)] → f i y → Q y { s₁ with heap := h', toks := tk' }) →
      wpAny (model prog w) A (eval elt (compEnvC scope cl C env)) Q E' { s₁ with heap := h, toks := tk })
    (fin : ∀ (g : Heap) ys tb, TbsOk tb → ys.length = its.size → (∀ i y, ys[i]? = some y → f i y) → Fin { s₁ with heap := g } ys (own ++ tb)) :
    LCg.CompSrc prog w A h₀ L m env elt x scope cl Fin (.ref ax) s₁ := by
  obtain ⟨rfl, ok⟩ := S.eq
  refine LCg.CompSrc.ledger hh F N (List.mem_append_left _ hm) hsz fun g => ?_
  exact turns (s := { s₁ with heap := g }) f its.size (fun tb => .inr ⟨_, List.mem_append_left _ hm, rfl, _, rfl⟩) turn (fin g) its.size 0 [] tb (by omega) rfl (fun j y h => by simp at h) ok
/-- the apartness of an own object from the tables -/
theorem apt_tail {h₀ h : Heap} {L a : Addr} {o : Obj} {news tb : List (Addr × Obj)} (N : News h₀ L h news) (hm : (a, o) ∈ news) (hsub : ∀ q ∈ tb, q ∈ news) (hok : TbsOk tb) (hd : NoTab o) : ∀ q ∈ tb, q.1 ≠ a := apt N hm hsub hok hd
theorem sub_self {α : Type} (l : List α) : ∀ q ∈ l, q ∈ l := fun _ h => h
theorem sub_tail {α : Type} {x : α} {l r : List α} (h : ∀ q ∈ l, q ∈ r) : ∀ q ∈ l, q ∈ x :: r := fun q hq => .tail _ (h q hq)
end Mine
namespace Mine
theorem OffT.get {tb l : List (Addr × Obj)} {p : Addr × Obj} (h : OffT tb l) (hm : p ∈ l) : ∀ q ∈ tb, q.1 ≠ p.1 := h p hm
theorem OffT.at {tb l : List (Addr × Obj)} {a : Addr} {o : Obj} (h : OffT tb l) (hm : (a, o) ∈ l) : ∀ q ∈ tb, q.1 ≠ a := h _ hm
end Mine
namespace Mine
theorem days8 {ys : List Value} {a : Int} (h : IntsAre ys (List.map (fun k' => k') (rangeKs a (a + 8 - a).toNat))) : ys.length = 8 ∧ ∀ (i : Nat) (v : Value), ys[i]? = some v → ∃ t, v = .int (a + i) t := by
  have e : (a + 8 - a).toNat = 8 := by omega
  rw [e, List.map_id'] at h
  have hl : ys.length = 8 := by rw [h.length, rangeKs_length]
  refine ⟨hl, fun i v hv => ?_⟩
  obtain ⟨t, ht⟩ := h.int_at i v hv
  refine ⟨t, ?_⟩
  rw [ht]
  have hi : i < 8 := by
    rcases Nat.lt_or_ge i 8 with h1 | h1
    · exact h1
    · rw [List.getElem?_eq_none (by omega)] at hv; cases hv
  congr 1
  simp [rangeKs, hi]
end Mine
namespace Mine
theorem OffT.cut {tb r : List (Addr × Obj)} {a b c : Addr × Obj} (h : OffT tb (a :: b :: c :: r)) : OffT tb [a, b, c] := fun p hp => h p (by
  simp only [List.mem_cons, List.not_mem_nil, or_false] at hp ⊢
  rcases hp with h | h | h
  · exact .inl h
  · exact .inr (.inl h)
  · exact .inr (.inr (.inl h)))
end Mine
namespace Mine
theorem up {P : Int → Prop} (N : Nat) (h : ∀ k : Nat, k < N → P (k : Int)) {n : Int} (h0 : 0 ≤ n) (h1 : n < (N : Int)) : P n := by
  obtain ⟨k, rfl⟩ := Int.eq_ofNat_of_zero_le h0
  exact h k (Int.ofNat_lt.mp h1)
theorem lt_le {n N : Int} (h : n ≤ N) : n < N + 1 := Int.lt_add_one_of_le h
theorem two_nat (k : Nat) : two (k : Int) = [48 + k / 10, 48 + k % 10] := rfl
theorem four_nat (k : Nat) : four (k : Int) = [48 + k / 1000, 48 + k / 100 % 10, 48 + k / 10 % 10, 48 + k % 10] := rfl
theorem dm10 (a : Nat) : 10 * (a / 10) + a % 10 = a := Nat.div_add_mod a 10
theorem passF_le {y d : Int} (h : (1 ≤ y ∧ y ≤ 9998) ∧ (1 ≤ d ∧ d ≤ 365)) : -800000 ≤ passF y d ∧ passF y d ≤ 3000000 := by
  unfold passF; omega
theorem moonF_le (y : Int) (_h : 1 ≤ y ∧ y ≤ 9998) : 21 ≤ moonF y ∧ moonF y ≤ 49 := by
  have h1 : 0 ≤ labF y ∧ labF y < 30 := ⟨Int.emod_nonneg _ (by decide), Int.emod_lt_of_pos _ (by decide)⟩
  have h3 : lab2 y = labF y ∧ labF y ≠ 24 ∨ lab2 y = labF y + 1 ∧ (labF y = 24 ∨ labF y = 25) := by
    unfold lab2
    split
    · rename_i q; exact .inr ⟨rfl, q.imp id And.left⟩
    · rename_i q; exact .inl ⟨rfl, fun e => q (.inl e)⟩
  have key : ∀ k : Nat, k < 30 → ((k : Int) ≠ 24 → 21 ≤ 21 + (23 - (k : Int)) % 30 ∧ 21 + (23 - (k : Int)) % 30 ≤ 49) ∧ ((k : Int) = 24 ∨ (k : Int) = 25 → 21 ≤ 21 + (23 - ((k : Int) + 1)) % 30 ∧ 21 + (23 - ((k : Int) + 1)) % 30 ≤ 49) := by decide
  have k2 := up (P := fun k => (k ≠ 24 → 21 ≤ 21 + (23 - k) % 30 ∧ 21 + (23 - k) % 30 ≤ 49) ∧ (k = 24 ∨ k = 25 → 21 ≤ 21 + (23 - (k + 1)) % 30 ∧ 21 + (23 - (k + 1)) % 30 ≤ 49)) 30 key h1.1 h1.2
  unfold moonF
  rcases h3 with ⟨e, q⟩ | ⟨e, q⟩
  · rw [e]; exact k2.1 q
  · rw [e]; exact k2.2 q
end Mine
namespace Mine
theorem dayT_small (k : Int) : ∀ c ∈ dayT k, c < 128 := by
  exact getD_all (P := fun l : List Nat => ∀ c ∈ l, c < 128) (by decide) (by decide) _
theorem monT_small (k : Int) : ∀ c ∈ monT k, c < 128 := by
  exact getD_all (P := fun l : List Nat => ∀ c ∈ l, c < 128) (by decide) (by decide) _
theorem two_small {n : Int} (h : 0 ≤ n ∧ n ≤ 99) : ∀ c ∈ two n, c < 128 := by
  refine up (P := fun n => ∀ c ∈ two n, c < 128) 100 (fun k hk => ?_) h.1 (lt_le h.2)
  rw [two_nat]
  exact List.forall_mem_cons.mpr ⟨Nat.add_lt_add_left (m := 80) (Nat.div_lt_of_lt_mul (Nat.lt_trans hk (by decide))) 48, List.forall_mem_cons.mpr ⟨Nat.add_lt_add_left (m := 80) (Nat.lt_trans (Nat.mod_lt _ (by decide)) (by decide)) 48, List.forall_mem_nil _⟩⟩
theorem four_small {n : Int} (h : 0 ≤ n ∧ n ≤ 9999) : ∀ c ∈ four n, c < 128 := by
  refine up (P := fun n => ∀ c ∈ four n, c < 128) 10000 (fun k hk => ?_) h.1 (lt_le h.2)
  rw [four_nat]
  have m : ∀ a, 48 + a % 10 < 48 + 80 := fun a => Nat.add_lt_add_left (Nat.lt_trans (Nat.mod_lt a (by decide)) (by decide)) 48
  exact List.forall_mem_cons.mpr ⟨Nat.add_lt_add_left (m := 80) (Nat.div_lt_of_lt_mul (Nat.lt_trans hk (by decide))) 48, List.forall_mem_cons.mpr ⟨m _, List.forall_mem_cons.mpr ⟨m _, List.forall_mem_cons.mpr ⟨m _, List.forall_mem_nil _⟩⟩⟩⟩
theorem mLeft_le {d : Int} (h : 1 ≤ d ∧ d ≤ 365) : 1 ≤ mLeft d ∧ mLeft d ≤ 31 ∧ 0 ≤ mIx d ∧ mIx d ≤ 11 := by
  exact up (P := fun d => 1 ≤ d → 1 ≤ mLeft d ∧ mLeft d ≤ 31 ∧ 0 ≤ mIx d ∧ mIx d ≤ 11) 366 (by decide +kernel) (Int.le_trans (by decide) h.1) (lt_le h.2) h.1
theorem wM_le {d : Int} (h : 1 ≤ d ∧ d ≤ 365) : 1 ≤ wM d ∧ wM d ≤ 12 := by
  exact up (P := fun d => 1 ≤ d → 1 ≤ wM d ∧ wM d ≤ 12) 366 (by decide +kernel) (Int.le_trans (by decide) h.1) (lt_le h.2) h.1
theorem wY_le {y d : Int} (h : 1 ≤ y ∧ y ≤ 9998) : 1 ≤ wY y d ∧ wY y d ≤ 9999 := by
  unfold wY; split <;> omega
theorem lineS_ok {y d ck : Int} {z : Str} (h : (1 ≤ y ∧ y ≤ 9998) ∧ (1 ≤ d ∧ d ≤ 365) ∧ (0 ≤ ck ∧ ck < 86400)) (hz : PyData.strOk z = true) : PyData.strOk (lineS y d ck z) = true := by
  have h1 := mLeft_le h.2.1
  have h2 := wY_le (d := d) h.1
  have hz' : ∀ c ∈ z.cps.toList, c < 0x110000 := by
    intro c hc
    have := (Array.all_eq_true'.mp hz) c (by simpa using hc)
    simpa using this
  have sm : ∀ {l : List Nat}, (∀ c ∈ l, c < 128) → ∀ c ∈ l, c < 0x110000 := fun h c hc => Nat.lt_trans (h c hc) (by decide)
  have key : ∀ c ∈ lineL (wkF y d) (wY y d) (wM d) (mLeft d) (ck / 3600) (ck / 60 % 60) (ck % 60) z, c < 0x110000 := by
    unfold lineL
    simp only [List.mem_append]
    rintro c (h | h | h | h | h | h | h | h | h | h | h | h | h | h)
    · exact sm (dayT_small _) c h
    · revert c; decide
    · exact sm (two_small (by omega)) c h
    · revert c; decide
    · exact sm (monT_small _) c h
    · revert c; decide
    · exact sm (four_small (by omega)) c h
    · revert c; decide
    · exact sm (two_small (by omega)) c h
    · revert c; decide
    · exact sm (two_small (by omega)) c h
    · revert c; decide
    · exact sm (two_small (by omega)) c h
    · rcases h with h | h
      · revert c; decide
      · exact hz' c h
  refine Array.all_eq_true'.mpr fun c hc => ?_
  have := key c (by simpa [lineS] using hc)
  simpa using this
theorem shaped8 {g : Nat → Str} (h : ∀ i < 8, PyData.strOk (g i) = true) : SeqAt.shaped (.list [.str (g 0), .str (g 1), .str (g 2), .str (g 3), .str (g 4), .str (g 5), .str (g 6), .str (g 7)]) = true := by
  simp [SeqAt.shaped, PyData.canLay0, PyData.canLayAll0, PyData.depth, PyData.depthAll, h]
end Mine
namespace Mine
theorem range_filter_succ (p : Nat → Bool) (a : Int) (i : Nat) : ((List.range (i + 1)).filter p).map (fun (j : Nat) => a + (j : Int)) = ((List.range i).filter p).map (fun (j : Nat) => a + (j : Int)) ++ (if p i then [a + (i : Int)] else []) := by
  rw [List.range_succ, List.filter_append, List.map_append]
  cases h : p i <;> simp [h]
theorem turnsT {prog : Program} {w : World} {A : Around} {h₀ : Heap} {L : Addr} {m : Str → Option Value} {env : Env} {ct elt : Expr} {x : Str} {scope : Scope} {cl : List (Str × Addr)} {s : Shared} {S : List (Addr × Obj) → Prop} {Fin : List Value → List (Addr × Obj) → Prop}
    {own : List (Addr × Obj)} (p : Nat → Bool) (a : Int) (n : Nat) (hS : S own)
    (test : ∀ i v I oI C oC D m₂ h tk ys (Q : Bool → Shared → Prop) (E' : Value → Shared → Prop), i < n → (∃ t, v = .int (a + (i : Int)) t) → LCg.NsObj oC m₂ → m₂ x = some v → Fr h₀ L h m → News h₀ L h ((I, oI) :: (C, oC) :: (D, LCg.lst ys) :: own) →
      (∀ h' tk', Fr h₀ L h' m → News h₀ L h' ((I, oI) :: (C, oC) :: (D, LCg.lst ys) :: own) → Q (p i) { s with heap := h', toks := tk' }) →
      wpAny (model prog w) A (isTrue ct (compEnvC scope cl C env) (eval ct (compEnvC scope cl C env))) Q E' { s with heap := h, toks := tk })
    (el : ∀ v I oI C oC D m₂ h tk ys (Q E' : Value → Shared → Prop), LCg.NsObj oC m₂ → m₂ x = some v → Fr h₀ L h m → News h₀ L h ((I, oI) :: (C, oC) :: (D, LCg.lst ys) :: own) → Q v { s with heap := h, toks := tk } →
      wpAny (model prog w) A (eval elt (compEnvC scope cl C env)) Q E' { s with heap := h, toks := tk })
    (fin : ∀ ys, IntsAre ys (((List.range n).filter p).map fun (j : Nat) => a + (j : Int)) → Fin ys own) :
    ∀ k i ys, i + k = n → IntsAre ys (((List.range i).filter p).map fun (j : Nat) => a + (j : Int)) →
      LCt.CompRestT prog w A h₀ L m env ct elt x scope cl s S (fun i v => ∃ t, v = .int (a + (i : Int)) t) Fin k i ys own
  | 0, i, ys, hn, hi => LCt.CompRestT.zero (fin ys (by have : i = n := by omega
                                                       rw [← this]; exact hi))
  | k + 1, i, ys, hn, hi => LCt.CompRestT.succ fun v I oI C oC D m₂ h tk E' hP hC hx F N off ne => by
      refine test i v I oI C oC D m₂ h tk ys _ E' (by omega) hP hC hx F N fun h' tk' F' N' => ?_
      have hr := range_filter_succ p a i
      cases hp : p i with
      | true =>
        simp only [if_true]
        obtain ⟨t, rfl⟩ := hP
        refine el _ I oI C oC D m₂ h' tk' ys _ E' hC hx F' N' ?_
        refine LCg.CompEnd.intro F' N' own (fun _ h => h) off hS (turnsT p a n hS test el fin k (i + 1) _ (by omega) ?_)
        rw [hr, hp]
        exact IntsAre.append hi (.cons _ _ .nil)
      | false =>
        simp only [Bool.false_eq_true, if_false]
        refine LCg.CompEnd.intro F' N' own (fun _ h => h) off hS (turnsT p a n hS test el fin k (i + 1) _ (by omega) ?_)
        rw [hr, hp]
        simpa using hi
theorem comp_srcT {prog : Program} {w : World} {A : Around} {h₀ : Heap} {L : Addr} {m : Str → Option Value} {env : Env} {ct elt : Expr} {x : Str} {scope : Scope} {cl : List (Str × Addr)} {Fin : Shared → List Value → List (Addr × Obj) → Prop} {r : Addr} {a b : Int} {t u v : Tok} {n : Nat} {own : List (Addr × Obj)} {s₁ : Shared}
    (p : Nat → Bool) (hh : A.handled = none) (F : Fr h₀ L s₁.heap m) (N : News h₀ L s₁.heap own) (hr : IsRange s₁.heap r a b 1 t u v) (hsm : Builtin.Range.small a b 1 = true) (hn : Builtin.Range.rangeSize a b 1 = ((n : Nat) : Int)) (hsz : n ≤ sizeLine)
    (test : ∀ i v I oI C oC D m₂ h tk ys (Q : Bool → Shared → Prop) (E' : Value → Shared → Prop), i < n → (∃ t, v = .int (a + (i : Int)) t) → LCg.NsObj oC m₂ → m₂ x = some v → Fr h₀ L h m → News h₀ L h ((I, oI) :: (C, oC) :: (D, LCg.lst ys) :: own) →
      (∀ h' tk', Fr h₀ L h' m → News h₀ L h' ((I, oI) :: (C, oC) :: (D, LCg.lst ys) :: own) → Q (p i) { s₁ with heap := h', toks := tk' }) →
      wpAny (model prog w) A (isTrue ct (compEnvC scope cl C env) (eval ct (compEnvC scope cl C env))) Q E' { s₁ with heap := h, toks := tk })
    (el : ∀ v I oI C oC D m₂ h tk ys (Q E' : Value → Shared → Prop), LCg.NsObj oC m₂ → m₂ x = some v → Fr h₀ L h m → News h₀ L h ((I, oI) :: (C, oC) :: (D, LCg.lst ys) :: own) → Q v { s₁ with heap := h, toks := tk } →
      wpAny (model prog w) A (eval elt (compEnvC scope cl C env)) Q E' { s₁ with heap := h, toks := tk })
    (fin : ∀ (g : Heap) ys, IntsAre ys (((List.range n).filter p).map fun (j : Nat) => a + (j : Int)) → Fin { s₁ with heap := g } ys own) :
    LCt.CompSrcT prog w A h₀ L m env ct elt x scope cl Fin (.ref r) s₁ :=
  LCt.CompSrcT.range hh F N hr hsm hn hsz fun g => turnsT (s := { s₁ with heap := g }) p a n trivial test el (fin g) n 0 [] (by omega) .nil
end Mine
namespace Mine
theorem txt_slice {x : Str} {a b : Nat} (hab : a ≤ b) (hb : b ≤ x.length) : Txt.slice x (some (a : Int)) (some (b : Int)) = ⟨((x.cps.toList.drop a).take (b - a)).toArray⟩ := by
  unfold Txt.slice
  rw [StrLaws.sliced_plain x hab hb, StrLaws.strSliceIndices_plain hab hb]
  split
  · rename_i h
    simp only [beq_self_eq_true, List.length_map, List.length_range, Bool.true_and, beq_iff_eq] at h
    have hz : x.length = x.cps.toList.length := by simp [Str.length]
    have ha : a = 0 := by omega
    subst ha
    rw [List.drop_zero, List.take_of_length_le (by omega)]
  · rfl
theorem txt_slice0 {x : Str} {b : Nat} (hb : b ≤ x.length) : Txt.slice x none (some (b : Int)) = ⟨(x.cps.toList.take b).toArray⟩ := by
  have := txt_slice (x := x) (a := 0) (Nat.zero_le b) hb
  rw [List.drop_zero, Nat.sub_zero] at this
  rw [← this]
  rfl
theorem dayT3 (k : Int) : ∃ a b c, dayT k = [a, b, c] := three_of (getD_all (P := fun l : List Nat => l.length = 3) (by decide) (by decide) _)
theorem monT3 (k : Int) : ∃ a b c, monT k = [a, b, c] := three_of (getD_all (P := fun l : List Nat => l.length = 3) (by decide) (by decide) _)
theorem lineS_len (y d ck : Int) (z : Str) : (lineS y d ck z).length = 26 + z.length := by
  obtain ⟨a, b, c, h⟩ := dayT3 (wkF y d)
  obtain ⟨a', b', c', h'⟩ := monT3 (wM d)
  simp [lineS, Str.length, lineL, h, h', two, four]
  omega
theorem line_day (y d ck : Int) (z : Str) : Txt.slice (lineS y d ck z) none (some 3) = ⟨(dayT (wkF y d)).toArray⟩ := by
  have h3 : (3 : Int) = ((3 : Nat) : Int) := rfl
  rw [h3, txt_slice0 (by rw [lineS_len]; omega)]
  obtain ⟨a, b, c, h⟩ := dayT3 (wkF y d)
  simp [lineS, lineL, h]
theorem line_two (y d ck : Int) (z : Str) : Txt.slice (lineS y d ck z) (some 5) (some 7) = ⟨(two (mLeft d)).toArray⟩ := by
  show Txt.slice _ (some ((5 : Nat) : Int)) (some ((7 : Nat) : Int)) = _
  rw [txt_slice (by decide) (by rw [lineS_len]; omega)]
  obtain ⟨a, b, c, h⟩ := dayT3 (wkF y d)
  simp [lineS, lineL, h, two]
theorem line_mon (y d ck : Int) (z : Str) : Txt.slice (lineS y d ck z) (some 8) (some 11) = ⟨(monT (wM d)).toArray⟩ := by
  show Txt.slice _ (some ((8 : Nat) : Int)) (some ((11 : Nat) : Int)) = _
  rw [txt_slice (by decide) (by rw [lineS_len]; omega)]
  obtain ⟨a, b, c, h⟩ := dayT3 (wkF y d)
  obtain ⟨a', b', c', h'⟩ := monT3 (wM d)
  simp [lineS, lineL, h, h', two]
theorem line_year (y d ck : Int) (z : Str) : Txt.slice (lineS y d ck z) (some 12) (some 16) = ⟨(four (wY y d)).toArray⟩ := by
  show Txt.slice _ (some ((12 : Nat) : Int)) (some ((16 : Nat) : Int)) = _
  rw [txt_slice (by decide) (by rw [lineS_len]; omega)]
  obtain ⟨a, b, c, h⟩ := dayT3 (wkF y d)
  obtain ⟨a', b', c', h'⟩ := monT3 (wM d)
  simp [lineS, lineL, h, h', two, four]
theorem line_hour (y d ck : Int) (z : Str) : Txt.slice (lineS y d ck z) (some 17) (some 19) = ⟨(two (ck / 3600)).toArray⟩ := by
  show Txt.slice _ (some ((17 : Nat) : Int)) (some ((19 : Nat) : Int)) = _
  rw [txt_slice (by decide) (by rw [lineS_len]; omega)]
  obtain ⟨a, b, c, h⟩ := dayT3 (wkF y d)
  obtain ⟨a', b', c', h'⟩ := monT3 (wM d)
  simp [lineS, lineL, h, h', two, four]
theorem line_min (y d ck : Int) (z : Str) : Txt.slice (lineS y d ck z) (some 20) (some 22) = ⟨(two (ck / 60 % 60)).toArray⟩ := by
  show Txt.slice _ (some ((20 : Nat) : Int)) (some ((22 : Nat) : Int)) = _
  rw [txt_slice (by decide) (by rw [lineS_len]; omega)]
  obtain ⟨a, b, c, h⟩ := dayT3 (wkF y d)
  obtain ⟨a', b', c', h'⟩ := monT3 (wM d)
  simp [lineS, lineL, h, h', two, four]
theorem line_sec (y d ck : Int) (z : Str) : Txt.slice (lineS y d ck z) (some 23) (some 25) = ⟨(two (ck % 60)).toArray⟩ := by
  show Txt.slice _ (some ((23 : Nat) : Int)) (some ((25 : Nat) : Int)) = _
  rw [txt_slice (by decide) (by rw [lineS_len]; omega)]
  obtain ⟨a, b, c, h⟩ := dayT3 (wkF y d)
  obtain ⟨a', b', c', h'⟩ := monT3 (wM d)
  simp [lineS, lineL, h, h', two, four]
theorem fig_two {n : Int} (h : 0 ≤ n ∧ n ≤ 99) : Fig ⟨(two n).toArray⟩ n :=
  up (P := fun n => Fig ⟨(two n).toArray⟩ n) 100 (fun k hk => ⟨[k / 10, k % 10], rfl, List.forall_mem_cons.mpr ⟨Nat.le_of_lt_succ (Nat.div_lt_of_lt_mul hk), List.forall_mem_cons.mpr ⟨Nat.le_of_lt_succ (Nat.mod_lt _ (by decide)), List.forall_mem_nil _⟩⟩, List.cons_ne_nil _ _, (by decide : 2 ≤ 4), congrArg Nat.cast (by
    show (10 * (10 * 0 + k / 10) + k % 10 : Nat) = k
    rw [Nat.mul_zero, Nat.zero_add, dm10])⟩) h.1 (lt_le h.2)
theorem fig_four {n : Int} (h : 0 ≤ n ∧ n ≤ 9999) : Fig ⟨(four n).toArray⟩ n :=
  up (P := fun n => Fig ⟨(four n).toArray⟩ n) 10000 (fun k hk => ⟨[k / 1000, k / 100 % 10, k / 10 % 10, k % 10], rfl, List.forall_mem_cons.mpr ⟨Nat.le_of_lt_succ (Nat.div_lt_of_lt_mul hk), List.forall_mem_cons.mpr ⟨Nat.le_of_lt_succ (Nat.mod_lt _ (by decide)), List.forall_mem_cons.mpr ⟨Nat.le_of_lt_succ (Nat.mod_lt _ (by decide)), List.forall_mem_cons.mpr ⟨Nat.le_of_lt_succ (Nat.mod_lt _ (by decide)), List.forall_mem_nil _⟩⟩⟩⟩, List.cons_ne_nil _ _, (by decide : 4 ≤ 4), congrArg Nat.cast (by
    show (10 * (10 * (10 * (10 * 0 + k / 1000) + k / 100 % 10) + k / 10 % 10) + k % 10 : Nat) = k
    rw [Nat.mul_zero, Nat.zero_add, show k / 1000 = k / 100 / 10 from (Nat.div_div_eq_div_mul k 100 10).symm, dm10, show k / 100 = k / 10 / 10 from (Nat.div_div_eq_div_mul k 10 10).symm, dm10, dm10])⟩) h.1 (lt_le h.2)
theorem day_sun {k : Int} (h : 0 ≤ k ∧ k < 7) : ((⟨(dayT k).toArray⟩ : Str) == Str.ofString "Sun") = decide (k = 6) := by
  exact up (P := fun k => ((⟨(dayT k).toArray⟩ : Str) == Str.ofString "Sun") = decide (k = 6)) 7 (by decide +kernel) h.1 h.2
end Mine
namespace Mine
theorem sun_filter {g : Nat → Str} {y m c wt : Int} {z : Str} (hg : ∀ i : Nat, g i = lineS y (m + (i : Int)) c z) (hw : -(passF y m + 1).fmod (-7) = wt) :
    ((List.range 7).filter fun i => Txt.slice (g (i + 1)) none (some 3) == Str.ofString "Sun").map (fun (j : Nat) => (1 : Int) + (j : Int)) = [1 + wt] ∧ (0 ≤ wt ∧ wt ≤ 6) ∧ (passF y m + 1 + wt) % 7 = 0 := by
  have hm := Int.mul_fdiv_add_fmod (passF y m + 1) (-7)
  obtain ⟨_, _, _, hq⟩ := fdiv_fmod_facts (passF y m + 1) (-7)
  have hq := hq (by decide)
  have hb : 0 ≤ wt ∧ wt ≤ 6 := by omega
  have hp : ∀ i : Nat, i < 7 → (Txt.slice (g (i + 1)) none (some 3) == Str.ofString "Sun") = decide (wt = (i : Int)) := fun i hi => by
    rw [hg, line_day, day_sun (by unfold wkF; omega)]
    have e : passF y (m + ((i + 1 : Nat) : Int)) = passF y m + 1 + i := by unfold passF; omega
    rw [wkF, e, decide_eq_decide]
    omega
  refine ⟨?_, hb, by omega⟩
  rw [show (List.range 7).filter (fun i => Txt.slice (g (i + 1)) none (some 3) == Str.ofString "Sun") = (List.range 7).filter (fun i : Nat => decide (wt = (i : Int))) from List.filter_congr fun i hi => hp i (by simpa using hi)]
  exact up (P := fun wt => ((List.range 7).filter (fun i : Nat => decide (wt = (i : Int)))).map (fun (j : Nat) => (1 : Int) + (j : Int)) = [1 + wt]) 7 (by decide +kernel) hb.1 (lt_le hb.2)
theorem ints_one {ys : List Value} {n : Int} (h : IntsAre ys [n]) : ∃ t, ys = [.int n t] := by
  obtain ⟨t, vs, rfl, h2⟩ := h.cons_inv
  exact ⟨t, congrArg _ h2.nil_inv⟩
end Mine
namespace Mine
theorem item_g8 {prog : Program} {w : World} {A : Around} {E : Value → Shared → Prop} {s : Shared} {value slice : PySem.Expr} {l : Addr} {g : Nat → Str} {t0 t1 t2 t3 t4 t5 t6 t7 : Tok} {k : Int} {u : Tok} {Q : Value → Shared → Prop}
    (hl : s.heap.IsList l [.str (g 0) t0, .str (g 1) t1, .str (g 2) t2, .str (g 3) t3, .str (g 4) t4, .str (g 5) t5, .str (g 6) t6, .str (g 7) t7].toArray) (h0 : 0 ≤ k ∧ k ≤ 7) (h : ∀ t, Q (.str (g k.toNat) t) s)
    (hs : subscripted slice false (.ref l) (.int k u) = operate [.ref l, .int k u] (getItem (.ref l) (.int k u)) := by with_unfolding_all rfl) :
    wpAny (model prog w) A (subscriptTail value slice (.ref l) (.int k u)) Q E s := by
  have : k = 0 ∨ k = 1 ∨ k = 2 ∨ k = 3 ∨ k = 4 ∨ k = 5 ∨ k = 6 ∨ k = 7 := up (P := fun k => k = 0 ∨ k = 1 ∨ k = 2 ∨ k = 3 ∨ k = 4 ∨ k = 5 ∨ k = 6 ∨ k = 7) 8 (by decide) h0.1 (lt_le h0.2)
  rcases this with rfl | rfl | rfl | rfl | rfl | rfl | rfl | rfl
  · exact item_litK hl (by decide) (by decide) rfl (h _) hs
  · exact item_litK hl (by decide) (by decide) rfl (h _) hs
  · exact item_litK hl (by decide) (by decide) rfl (h _) hs
  · exact item_litK hl (by decide) (by decide) rfl (h _) hs
  · exact item_litK hl (by decide) (by decide) rfl (h _) hs
  · exact item_litK hl (by decide) (by decide) rfl (h _) hs
  · exact item_litK hl (by decide) (by decide) rfl (h _) hs
  · exact item_litK hl (by decide) (by decide) rfl (h _) hs
theorem news_tl {h₀ h : Heap} {L : Addr} {x : Addr × Obj} {r : List (Addr × Obj)} (N : News h₀ L h (x :: r)) : News h₀ L h r := fun p hp => N p (.tail _ hp)
theorem news_d2 {h₀ h : Heap} {L : Addr} {a x : Addr × Obj} {r : List (Addr × Obj)} (N : News h₀ L h (a :: x :: r)) : News h₀ L h (a :: r) := fun p hp => N p (by
  rcases List.mem_cons.mp hp with h | h
  · exact List.mem_cons.mpr (.inl h)
  · exact .tail _ (.tail _ h))
theorem news_d3 {h₀ h : Heap} {L : Addr} {a b x : Addr × Obj} {r : List (Addr × Obj)} (N : News h₀ L h (a :: b :: x :: r)) : News h₀ L h (a :: b :: r) := fun p hp => N p (by
  simp only [List.mem_cons] at hp ⊢
  rcases hp with h | h | h
  · exact .inl h
  · exact .inr (.inl h)
  · exact .inr (.inr (.inr h)))
end Mine
namespace Mine
theorem idx_mon {prog : Program} {w : World} {A : Around} {E : Value → Shared → Prop} {s : Shared} {x : Str} {t u : Tok} {k : Int} {Q : Value → Shared → Prop} (hA : A.handled = none) (hx : x = ⟨(monT k).toArray⟩) (hk : k = 3 ∨ k = 4) (h : Q (.int (3 * k - 9) s.toks) { s with toks := s.toks + 1 }) :
    wpAny (model prog w) A (call (.builtin "str.index") [.str (Str.ofString "MarApr") t, .str x u]) Q E s := by
  subst hx
  have e : Txt.find (Str.ofString "MarApr") ⟨(monT k).toArray⟩ = 3 * k - 9 := by rcases hk with rfl | rfl <;> decide +kernel
  refine index_or hA (fun e' => ?_) fun _ _ => ?_
  · rw [e] at e'; omega
  · rw [e]; exact h
theorem spring {y dd : Int} (h : 22 ≤ dd ∧ dd ≤ 56) : (wM dd = 3 ∨ wM dd = 4) ∧ wY y dd = y ∧ (1 ≤ mLeft dd ∧ mLeft dd ≤ 31) ∧ 3 + (3 * wM dd - 9).fdiv 3 = wM dd := by
  have h1 : mIx dd = 0 ∨ mIx dd = 1 := by unfold mIx; omega
  have h2 : wM dd = mIx dd + 3 := by unfold wM; split <;> omega
  have h3 := mLeft_le (d := dd) (by omega)
  refine ⟨by omega, by unfold wY; split <;> omega, ⟨h3.1, h3.2.1⟩, ?_⟩
  obtain ⟨h4, _⟩ := fdiv_fmod_facts (3 * wM dd - 9) 3
  have h5 := (fdiv_fmod_facts (3 * wM dd - 9) 3).2.2.1 (by decide)
  omega
theorem found_facts {g : Nat → Str} {y m c wt dd : Int} {z : Str} (hg : ∀ i : Nat, g i = lineS y (m + (i : Int)) c z) (hw : 0 ≤ wt ∧ wt ≤ 6) (hm : 21 ≤ m ∧ m ≤ 49) (hy : 1 ≤ y ∧ y ≤ 9998) (hdd : m + 1 + wt = dd) :
    (22 ≤ dd ∧ dd ≤ 56) ∧ Txt.slice (g (1 + wt).toNat) (some 8) (some 11) = ⟨(monT (wM dd)).toArray⟩ ∧ Fig (Txt.slice (g (1 + wt).toNat) (some 5) (some 7)) (mLeft dd) ∧ Fig (Txt.slice (g (1 + wt).toNat) (some 12) (some 16)) y := by
  have e : m + ((1 + wt).toNat : Int) = dd := by omega
  have hb : 22 ≤ dd ∧ dd ≤ 56 := by omega
  obtain ⟨h1, h2, h3, h4⟩ := spring (y := y) hb
  refine ⟨hb, ?_, ?_, ?_⟩
  · rw [hg, e, line_mon]
  · rw [hg, e, line_two]; exact fig_two (by omega)
  · rw [hg, e, line_year, h2]; exact fig_four (by omega)
end Mine
namespace Mine
theorem fr_feast {h₀ h : Heap} {L : Addr} {a x : Int} {t : Tok} {m : Str → Option Value} (F : Fr h₀ L h (fun y => if y = Str.ofString "feast" then some (.int (a + x.fmod 310) t) else m y)) :
    ∃ ft : Int, (a ≤ ft ∧ ft ≤ a + 309) ∧ Fr h₀ L h (fun y => if y = Str.ofString "feast" then some (.int ft t) else m y) :=
  ⟨_, by have := (fdiv_fmod_facts x 310).2.2.1 (by decide); omega, F⟩
theorem feast_date {y ft : Int} (h : 1 ≤ ft ∧ ft ≤ 365) : y + ((5 * ft - 3).fdiv 153).fdiv 10 = wY y ft ∧ (((5 * ft - 3).fdiv 153) + 2).fmod 12 + 1 = wM ft ∧ ((5 * ft - 3).fmod 153).fdiv 5 + 1 = mLeft ft := by
  have h1 := mLeft_le h
  rw [Int.fdiv_eq_ediv_of_nonneg _ (by decide : (0 : Int) ≤ 153), Int.fdiv_eq_ediv_of_nonneg _ (by decide : (0 : Int) ≤ 10), Int.fmod_eq_emod_of_nonneg _ (by decide : (0 : Int) ≤ 12), Int.fmod_eq_emod_of_nonneg _ (by decide : (0 : Int) ≤ 153), Int.fdiv_eq_ediv_of_nonneg _ (by decide : (0 : Int) ≤ 5)]
  unfold wY wM mLeft at *
  have e : mIx ft = (5 * ft - 3) / 153 := rfl
  refine ⟨?_, ?_, ?_⟩
  · split <;> omega
  · split <;> omega
  · omega
end Mine
namespace Mine
theorem ne_same {prog : Program} {w : World} {A : Around} {E : Value → Shared → Prop} {s : Shared} {x : Str} {t u : Tok} {Q : Value → Shared → Prop} (h : Q (.bool false) s) : wpAny (model prog w) A (compareOp .NotEq (.str x t) (.str x u)) Q E s :=
  ne_str (by rw [bne_self_eq_false]; exact h)
end Mine
namespace Mine
noncomputable def tnth (c : Int) : Nat → Int
  | 0 => c / 3600
  | 1 => c / 60 % 60
  | _ => c % 60
theorem tbs_grown {h₀ h : Heap} {L : Addr} {news tb : List (Addr × Obj)} (N : News h₀ L h news) (S : Split news own tb) : GrownAll [(63, 59), (56, 52), (28, 24)] h := by
  obtain ⟨rfl, o1, c1, oc1, o2, c2, oc2, o3, c3, oc3, rfl, h1, h2, h3⟩ := S.eq
  have g : ∀ {P ln col : Nat} {q : Str} {o : Obj} {c : Addr} {oc : Obj}, TabSt P ln col q o c oc → h.get? P = some o → GrownAt P h := fun t e => by
    rcases t with ⟨rfl, _, _⟩ | ⟨rfl, _, _⟩ <;> exact ⟨_, e⟩
  have n : ∀ p ∈ [(24, o1), (c1, oc1), (52, o2), (c2, oc2), (59, o3), (c3, oc3)], h.get? p.1 = some p.2 := fun p hp => (N p (List.mem_append_right _ hp)).1
  exact ⟨g h3 (n (59, o3) (by simp)), g h2 (n (52, o2) (by simp)), g h1 (n (24, o1) (by simp)), trivial⟩
end Mine
namespace Mine
theorem tnth_sum {c : Int} (h : 0 ≤ c ∧ c < 86400) : ∃ a b d, tnth c 0 = a ∧ tnth c 1 = b ∧ tnth c 2 = d ∧ 3600 * a + 60 * b + d = c ∧ (0 ≤ a ∧ a < 100) ∧ (0 ≤ b ∧ b < 100) ∧ (0 ≤ d ∧ d < 100) :=
  ⟨_, _, _, rfl, rfl, rfl, by simp only [tnth]; omega, by simp only [tnth]; omega, by simp only [tnth]; omega, by simp only [tnth]; omega⟩
end Mine
namespace Mine
theorem three_get {a b c v : Value} {i : Nat} (h : (#[a, b, c] : Array Value)[i]? = some v) : (i = 0 ∧ v = a) ∨ (i = 1 ∧ v = b) ∨ (i = 2 ∧ v = c) := by
  match i with
  | 0 => exact .inl ⟨rfl, (Option.some.inj h).symm⟩
  | 1 => exact .inr (.inl ⟨rfl, (Option.some.inj h).symm⟩)
  | 2 => exact .inr (.inr ⟨rfl, (Option.some.inj h).symm⟩)
  | n + 3 => simp at h
end Mine
namespace Mine
theorem end0 {g h : Heap} {L : Addr} {m : Str → Option Value} {s : Shared} {tk : Nat} {news own tb : List (Addr × Obj)} {Post : Value → List (Addr × Obj) → Prop} {v : Value} (F : Fr g L h m) (N : News g L h news) (S : Split news own tb) (hp : Post v []) : EndC g L s Post v { s with heap := h, toks := tk } := by
  obtain ⟨rfl, ok⟩ := S.eq
  exact ⟨h, tk, m, [], tb, rfl, F, fun p hp => N p (List.mem_append_right _ hp), ok, hp⟩
theorem end1 {g h : Heap} {L : Addr} {m : Str → Option Value} {s : Shared} {tk : Nat} {news own tb : List (Addr × Obj)} {Post : Value → List (Addr × Obj) → Prop} {v : Value} {q : Addr × Obj} (F : Fr g L h m) (N : News g L h news) (S : Split news own tb) (hm : q ∈ news) (hp : Post v [q]) : EndC g L s Post v { s with heap := h, toks := tk } := by
  obtain ⟨rfl, ok⟩ := S.eq
  refine ⟨h, tk, m, [q], tb, rfl, F, fun p hp => ?_, ok, hp⟩
  rcases List.mem_append.mp hp with hp | hp
  · rw [List.mem_singleton.mp hp]; exact N q hm
  · exact N p (List.mem_append_right _ hp)
end Mine
namespace Mine
theorem mon_key {m : Int} (h1 : 0 ≤ m) (h2 : m ≤ 11) : m ≤ 10 ∧ (153 * (m + 1) + 2) / 5 = (153 * m + 2) / 5 + ([31, 30, 31, 30, 31, 31, 30, 31, 30, 31, 31, 28] : List Int).getD m.toNat 0 ∨ m = 11 ∧ ([31, 30, 31, 30, 31, 31, 30, 31, 30, 31, 31, 28] : List Int).getD m.toNat 0 = 28 ∧ (153 * m + 2) / 5 = 337 :=
  up (P := fun m => m ≤ 10 ∧ (153 * (m + 1) + 2) / 5 = (153 * m + 2) / 5 + ([31, 30, 31, 30, 31, 31, 30, 31, 30, 31, 31, 28] : List Int).getD m.toNat 0 ∨ m = 11 ∧ ([31, 30, 31, 30, 31, 31, 30, 31, 30, 31, 31, 28] : List Int).getD m.toNat 0 = 28 ∧ (153 * m + 2) / 5 = 337) 12 (by decide) h1 (lt_le h2)
theorem walk_step {d l m : Int} (hd : 1 ≤ d ∧ d ≤ 365) (h : 0 ≤ m ∧ m ≤ 11 ∧ l = d - (153 * m + 2) / 5 ∧ 1 ≤ l) (hg : [31, 30, 31, 30, 31, 31, 30, 31, 30, 31, 31, 28].getD m.toNat 0 < l) :
    0 ≤ m + 1 ∧ m + 1 ≤ 11 ∧ l - [31, 30, 31, 30, 31, 31, 30, 31, 30, 31, 31, 28].getD m.toNat 0 = d - (153 * (m + 1) + 2) / 5 ∧ 1 ≤ l - [31, 30, 31, 30, 31, 31, 30, 31, 30, 31, 31, 28].getD m.toNat 0 := by
  have k := mon_key h.1 h.2.1
  generalize [31, 30, 31, 30, 31, 31, 30, 31, 30, 31, 31, 28].getD m.toNat 0 = z at *
  generalize (153 * m + 2) / 5 = a at *
  generalize (153 * (m + 1) + 2) / 5 = b at *
  obtain ⟨h1, h2, h3, h4⟩ := h
  rcases k with ⟨k1, k2⟩ | ⟨k1, k2, k3⟩
  · exact ⟨by omega, by omega, by omega, by omega⟩
  · exfalso; omega
theorem walk_end {d l m : Int} (hd : 1 ≤ d ∧ d ≤ 365) (h : 0 ≤ m ∧ m ≤ 11 ∧ l = d - (153 * m + 2) / 5 ∧ 1 ≤ l) (hg : ¬ [31, 30, 31, 30, 31, 31, 30, 31, 30, 31, 31, 28].getD m.toNat 0 < l) : mIx d = m ∧ mLeft d = l := by
  have e : mIx d = m := by
    have k := mon_key h.1 h.2.1
    unfold mIx
    obtain ⟨h1, h2, h3, h4⟩ := h
    have h5 : d ≤ (153 * (m + 1) + 2) / 5 := by
      rcases k with ⟨k1, k2⟩ | ⟨k1, k2, k3⟩
      · rw [k2]; clear k2; omega
      · subst k1; clear k2 k3; omega
    clear k hg
    subst h3
    omega
  exact ⟨e, by unfold mLeft; rw [e]; exact h.2.2.1.symm⟩
end Mine
namespace Mine
theorem walk_lo {y d l m : Int} (hd : 1 ≤ d ∧ d ≤ 365) (h1 : 0 ≤ m) (h2 : m ≤ 11) (h3 : l = d - (153 * m + 2) / 5) (h4 : 1 ≤ l) (hg : ¬ [31, 30, 31, 30, 31, 31, 30, 31, 30, 31, 31, 28].getD m.toNat 0 < l) (hm : m < 10) : wY y d = y ∧ wM d = m + 3 ∧ mLeft d = l := by
  obtain ⟨e1, e2⟩ := walk_end hd ⟨h1, h2, h3, h4⟩ hg
  exact ⟨by unfold wY; rw [e1, if_pos hm], by unfold wM; rw [e1, if_pos hm], e2⟩
theorem walk_hi {y d l m : Int} (hd : 1 ≤ d ∧ d ≤ 365) (h1 : 0 ≤ m) (h2 : m ≤ 11) (h3 : l = d - (153 * m + 2) / 5) (h4 : 1 ≤ l) (hg : ¬ [31, 30, 31, 30, 31, 31, 30, 31, 30, 31, 31, 28].getD m.toNat 0 < l) (hm : ¬ m < 10) : wY y d = y + 1 ∧ wM d = m - 9 ∧ mLeft d = l := by
  obtain ⟨e1, e2⟩ := walk_end hd ⟨h1, h2, h3, h4⟩ hg
  exact ⟨by unfold wY; rw [e1, if_neg (by omega)], by unfold wM; rw [e1, if_neg (by omega)], e2⟩
end Mine
namespace Mine
theorem con_weak {w : World} {f : Addr} {vs : List Value} {dn un dn' un' : Nat} {Pre : Heap → Prop} {Post : Value → List (Addr × Obj) → Prop} (C : Con w f vs dn un Pre Post) (h1 : dn ≤ dn') (h2 : un ≤ un') : Con w f vs dn' un' Pre Post :=
  fun p loose mean mg mb dp u gd cn cs a ccd cl outer A₀ base h₀ L m s tb Q E B F X T N ok hp hcs hd hu h => C p loose mean mg mb dp u gd cn cs a ccd cl outer A₀ base h₀ L m s tb Q E B F X T N ok hp hcs (by omega) (by omega) h
end Mine
namespace Mine
theorem bitNot_eq (a : Int) : Builtin.bitNot a = -a - 1 := by unfold Builtin.bitNot; omega
theorem div_neg {a b : Int} (_ha : a < 0) (hb : 0 < b) : Builtin.bitNot ((Builtin.bitNot a).fdiv b) = a.fdiv b ∧ b + Builtin.bitNot ((Builtin.bitNot a).fmod b) = a.fmod b := by
  simp only [bitNot_eq]
  have h := fdiv_fmod_facts (-a - 1) b
  have h1 := h.2.1
  have h2 := h.2.2.1 hb
  have u : a / b = -(-a - 1).fdiv b - 1 ∧ a % b = b + (-(-a - 1).fmod b - 1) := by
    rw [Int.ediv_emod_unique hb]
    refine ⟨?_, by omega, by omega⟩
    have : b * (-(-a - 1).fdiv b - 1) = -(b * (-a - 1).fdiv b) - b := by rw [Int.mul_sub, Int.mul_neg, Int.mul_one]
    omega
  rw [Int.fdiv_eq_ediv_of_nonneg a (Int.le_of_lt hb), Int.fmod_eq_emod_of_nonneg a (Int.le_of_lt hb)]
  exact ⟨u.1.symm, u.2.symm⟩
theorem div_flip (a b : Int) : (-a).fdiv (-b) = a.fdiv b ∧ -((-a).fmod (-b)) = a.fmod b := by
  refine ⟨Int.neg_fdiv_neg _ _, ?_⟩
  rw [Int.neg_fmod_neg, Int.neg_neg]
theorem div_facts_of (a b : Int) : 0 < b → 0 ≤ a.fmod b ∧ a.fmod b < b ∧ b * a.fdiv b + a.fmod b = a := fun h => ⟨((fdiv_fmod_facts a b).2.2.1 h).1, ((fdiv_fmod_facts a b).2.2.1 h).2, (fdiv_fmod_facts a b).2.1⟩
theorem con_imp {w : World} {f : Addr} {vs : List Value} {dn un : Nat} {Pre : Heap → Prop} {Post Post' : Value → List (Addr × Obj) → Prop} (C : Con w f vs dn un Pre Post) (h : ∀ v n, Post v n → Post' v n) : Con w f vs dn un Pre Post' :=
  fun p loose mean mg mb dp u gd cn cs a ccd cl outer A₀ base h₀ L m s tb Q E B F X T N ok hp hcs hd hu k => C p loose mean mg mb dp u gd cn cs a ccd cl outer A₀ base h₀ L m s tb Q E B F X T N ok hp hcs hd hu fun v h' tk' new tb' F' N' ok' kp ap hp => k v h' tk' new tb' F' N' ok' kp ap (h v new hp)
end Mine
end
section
set_option maxHeartbeats 0
open PySem PySem.W PySem.Calls PyProof.Rows
namespace Mine
theorem cenF_eq : ∀ n : Nat, n < 100 → cenF n = ((n : Int) / 4) + (((n : Int) - ((n : Int) + 8) / 25 + 1) / 3) - n := by decide +kernel
theorem modb {a b k : Int} (hk : 0 < k) (h : a = b % k) : 0 ≤ a ∧ a < k := by rw [h]; exact ⟨Int.emod_nonneg _ (Int.ne_of_gt hk), Int.emod_lt_of_pos _ hk⟩
theorem sun_sum {c r q p full P : Int} (hP : P = 36524 * c + 365 * r + p + q - 730468) : P + full + (2 * (c - 4 * q) + 2 * p - full - (r - 4 * p) + 4) = 7 * (5218 * c + 52 * r + p - q - 104352) := by omega
theorem pass_split {y c r p q y4 y400 : Int} (e1 : y = 100 * c + r) (e2 : y4 = 25 * c + p) (e3 : y400 = q) : 365 * y + y4 - c + y400 - 730485 + 22 - 5 = 36524 * c + 365 * r + p + q - 730468 := by omega
theorem div4 (y : Int) : y / 4 = 25 * (y / 100) + y % 100 / 4 := by omega
theorem div400 (y : Int) : y / 400 = y / 100 / 4 := by omega
theorem wait_sun {y full wait : Int} (hwait : wait = (2 * (y / 100 % 4) + 2 * (y % 100 / 4) - full - y % 100 % 4 + 4) % 7) : (passF y 22 + full + wait) % 7 = 0 := by
  have hp : passF y 22 = 36524 * (y / 100) + 365 * (y % 100) + y % 100 / 4 + y / 100 / 4 - 730468 := pass_split (Int.mul_ediv_add_emod y 100).symm (div4 y) (div400 y)
  have e := sun_sum (full := full) hp
  rw [hwait, Int.add_emod_emod, Int.emod_def (y / 100) 4, Int.emod_def (y % 100) 4, e]
  exact Int.mul_emod_right _ _
theorem wt_eq {S full M wait wt : Int} (h1 : (S + full + wait) % 7 = 0) (h2 : (S + M + wt) % 7 = 0) (ht : 0 ≤ wt ∧ wt ≤ 6) : wt = (full - M + wait) % 7 := by omega
theorem plain_key : ∀ full : Nat, full < 30 → ∀ wait : Nat, wait < 7 → ∀ g : Nat, g < 19 → (fun (full wait g : Int) => (fun M week : Int => full + wait - 7 * week = M + (full - M + wait) % 7 ∧ 0 ≤ M + (full - M + wait) % 7 ∧ M + (full - M + wait) % 7 ≤ 34) (if full = 29 ∨ (full = 28 ∧ 10 < g) then full - 1 else full) ((g + 11 * full + 22 * wait) / 451)) full wait g := by decide +kernel
theorem easter_plain {g full M wait week dd wt S : Int} (hg : 0 ≤ g ∧ g < 19) (hf : 0 ≤ full ∧ full < 30) (hw : 0 ≤ wait ∧ wait < 7) (ht : 0 ≤ wt ∧ wt ≤ 6)
    (hM : M = if full = 29 ∨ (full = 28 ∧ 10 < g) then full - 1 else full) (hd : 22 + M + wt = dd) (h1 : (S + full + wait) % 7 = 0) (h2 : (S + M + wt) % 7 = 0) (hk : week = (g + 11 * full + 22 * wait) / 451) :
    full + wait - 7 * week = dd - 22 ∧ 22 ≤ dd ∧ dd ≤ 56 := by
  have k := up (P := fun full => ∀ wait : Nat, wait < 7 → ∀ g : Nat, g < 19 → (fun (full wait g : Int) => (fun M week : Int => full + wait - 7 * week = M + (full - M + wait) % 7 ∧ 0 ≤ M + (full - M + wait) % 7 ∧ M + (full - M + wait) % 7 ≤ 34) (if full = 29 ∨ (full = 28 ∧ 10 < g) then full - 1 else full) ((g + 11 * full + 22 * wait) / 451)) full wait g) 30 plain_key hf.1 hf.2
  have k := up (P := fun wait => ∀ g : Nat, g < 19 → (fun (full wait g : Int) => (fun M week : Int => full + wait - 7 * week = M + (full - M + wait) % 7 ∧ 0 ≤ M + (full - M + wait) % 7 ∧ M + (full - M + wait) % 7 ≤ 34) (if full = 29 ∨ (full = 28 ∧ 10 < g) then full - 1 else full) ((g + 11 * full + 22 * wait) / 451)) full wait g) 7 k hw.1 hw.2
  have k := up (P := fun g => (fun (full wait g : Int) => (fun M week : Int => full + wait - 7 * week = M + (full - M + wait) % 7 ∧ 0 ≤ M + (full - M + wait) % 7 ∧ M + (full - M + wait) % 7 ≤ 34) (if full = 29 ∨ (full = 28 ∧ 10 < g) then full - 1 else full) ((g + 11 * full + 22 * wait) / 451)) full wait g) 19 k hg.1 hg.2
  dsimp only at k
  rw [← hM, ← hk, ← wt_eq h1 h2 ht] at k
  clear hM hk h1 h2 ht hf hw hg
  omega
theorem moon_key : ∀ k : Nat, k < 30 → ∀ g : Nat, g < 19 → (fun (k g : Int) => (21 + (23 - if k = 24 ∨ (k = 25 ∧ g > 10) then k + 1 else k) % 30) = 21 + if (23 - k) % 30 = 29 ∨ ((23 - k) % 30 = 28 ∧ 10 < g) then (23 - k) % 30 - 1 else (23 - k) % 30) k g := by decide +kernel
theorem lab_full {c g z full lab : Int} (hz : z = c / 4 + ((c - (c + 8) / 25 + 1) / 3) - c) (hl : lab = (8 + 11 * g + z) % 30) (hf : full = (c - c / 4 - (c - (c + 8) / 25 + 1) / 3 - 11 * g + 15) % 30) : full = (23 - lab) % 30 := by
  rw [hf, hl, Int.sub_emod, Int.emod_emod, ← Int.sub_emod]
  congr 1
  omega
theorem pass_lin (y M wt : Int) : passF y (21 + M) + 1 + wt = passF y 22 + M + wt := by
  unfold passF
  generalize 365 * y + y / 4 - y / 100 + y / 400 - 730485 = z
  omega
theorem date_key : ∀ k : Nat, k < 57 → (22 : Int) ≤ (k : Int) → ((k : Int) - 22 + 114) / 31 = wM k ∧ ((k : Int) - 22 + 114) % 31 + 1 = mLeft k := by decide +kernel
theorem mwt (M wt : Int) : 22 + M + wt = 21 + M + 1 + wt := by omega
theorem easter {y wt dd : Int} (hy : 1 ≤ y ∧ y ≤ 9998) (hw : 0 ≤ wt ∧ wt ≤ 6) (hdd : moonF y + 1 + wt = dd) (h7 : (passF y (moonF y) + 1 + wt) % 7 = 0) : (tenF y).month = wM dd ∧ (tenF y).day = mLeft dd := by
  obtain ⟨c, hc⟩ : ∃ c, c = y / 100 := ⟨_, rfl⟩
  have hcb : 0 ≤ c ∧ c < 100 := by rw [hc]; exact ⟨Int.ediv_nonneg (Int.le_trans (by decide) hy.1) (by decide), Int.ediv_lt_of_lt_mul (by decide) (Int.lt_of_le_of_lt hy.2 (by decide))⟩
  have hcen := up (P := fun n => cenF n.toNat = (n / 4) + ((n - (n + 8) / 25 + 1) / 3) - n) 100 cenF_eq hcb.1 hcb.2
  obtain ⟨g, hg⟩ : ∃ g, g = y % 19 := ⟨_, rfl⟩
  obtain ⟨full, hfull⟩ : ∃ full, full = (c - c / 4 - (c - (c + 8) / 25 + 1) / 3 - 11 * g + 15) % 30 := ⟨_, rfl⟩
  obtain ⟨wait, hwait⟩ : ∃ wait, wait = (2 * (c % 4) + 2 * (y % 100 / 4) - full - y % 100 % 4 + 4) % 7 := ⟨_, rfl⟩
  obtain ⟨week, hweek⟩ : ∃ week, week = (g + 11 * full + 22 * wait) / 451 := ⟨_, rfl⟩
  have hgb := modb (by decide) hg
  have e0 : full = (23 - labF y) % 30 := lab_full hcen (by unfold labF; rw [← hc, ← hg]) hfull
  have e1 : moonF y = 21 + if full = 29 ∨ (full = 28 ∧ 10 < g) then full - 1 else full := by
    have hl := modb (k := 30) (by decide) (rfl : labF y = (8 + 11 * (y % 19) + cenF (y / 100).toNat) % 30)
    have k := up (P := fun k => ∀ g : Nat, g < 19 → (fun (k g : Int) => (21 + (23 - if k = 24 ∨ (k = 25 ∧ g > 10) then k + 1 else k) % 30) = 21 + if (23 - k) % 30 = 29 ∨ ((23 - k) % 30 = 28 ∧ 10 < g) then (23 - k) % 30 - 1 else (23 - k) % 30) k g) 30 moon_key hl.1 hl.2
    have k := up (P := fun g => (fun (k g : Int) => (21 + (23 - if k = 24 ∨ (k = 25 ∧ g > 10) then k + 1 else k) % 30) = 21 + if (23 - k) % 30 = 29 ∨ ((23 - k) % 30 = 28 ∧ 10 < g) then (23 - k) % 30 - 1 else (23 - k) % 30) (labF y) g) 19 k hgb.1 hgb.2
    rw [e0]
    unfold moonF lab2
    rw [← hg]
    exact k
  obtain ⟨M, hM⟩ : ∃ M, M = if full = 29 ∨ (full = 28 ∧ 10 < g) then full - 1 else full := ⟨_, rfl⟩
  rw [← hM] at e1
  rw [e1, pass_lin] at h7
  have ht := easter_plain (g := g) (full := full) (M := M) (wait := wait) (week := week) (dd := dd) (wt := wt) (S := passF y 22) hgb (modb (by decide) hfull) (modb (by decide) hwait) hw hM (by rw [← hdd, e1]; exact mwt M wt) (wait_sun (by rw [← hc]; exact hwait)) h7 hweek
  have ten : tenF y = ⟨(full + wait - 7 * week + 114) / 31, (full + wait - 7 * week + 114) % 31 + 1⟩ := by
    unfold tenF
    simp only [Int.fdiv_eq_ediv_of_nonneg _ (by decide : (0 : Int) ≤ 19), Int.fdiv_eq_ediv_of_nonneg _ (by decide : (0 : Int) ≤ 100), Int.fdiv_eq_ediv_of_nonneg _ (by decide : (0 : Int) ≤ 4), Int.fdiv_eq_ediv_of_nonneg _ (by decide : (0 : Int) ≤ 25), Int.fdiv_eq_ediv_of_nonneg _ (by decide : (0 : Int) ≤ 3), Int.fdiv_eq_ediv_of_nonneg _ (by decide : (0 : Int) ≤ 451), Int.fdiv_eq_ediv_of_nonneg _ (by decide : (0 : Int) ≤ 31),
      Int.fmod_eq_emod_of_nonneg _ (by decide : (0 : Int) ≤ 19), Int.fmod_eq_emod_of_nonneg _ (by decide : (0 : Int) ≤ 100), Int.fmod_eq_emod_of_nonneg _ (by decide : (0 : Int) ≤ 4), Int.fmod_eq_emod_of_nonneg _ (by decide : (0 : Int) ≤ 30), Int.fmod_eq_emod_of_nonneg _ (by decide : (0 : Int) ≤ 7), Int.fmod_eq_emod_of_nonneg _ (by decide : (0 : Int) ≤ 31)]
    rw [← hc, ← hg, ← hfull, ← hwait, ← hweek]
  rw [ten, ht.1]
  exact up (P := fun dd => 22 ≤ dd → (dd - 22 + 114) / 31 = wM dd ∧ (dd - 22 + 114) % 31 + 1 = mLeft dd) 57 date_key (Int.le_trans (by decide) ht.2.1) (lt_le ht.2.2) ht.2.1
end Mine
end
section
set_option maxHeartbeats 0
open PySem PySem.W PySem.Calls PyProof.Rows
namespace Mine
theorem dchar : ∀ n : Nat, n < 10 → (Nat.digitChar n).toNat = 48 + n := by decide
theorem dig1 {n : Nat} (h : n < 10) : (Nat.toDigits 10 n).map Char.toNat = [48 + n] := by
  rw [Nat.toDigits_of_lt_base h, List.map_singleton, dchar n h]
theorem digS {n : Nat} (h : 10 ≤ n) : (Nat.toDigits 10 n).map Char.toNat = (Nat.toDigits 10 (n / 10)).map Char.toNat ++ [48 + n % 10] := by
  rw [Nat.toDigits_of_base_le (by decide) h, List.map_append, List.map_singleton, dchar _ (Nat.mod_lt _ (by decide))]
theorem txt_num {n : Int} (h : 0 ≤ n) : (Str.ofString (toString n)).cps.toList = (Nat.toDigits 10 n.toNat).map Char.toNat := by
  obtain ⟨m, rfl⟩ := Int.eq_ofNat_of_zero_le h
  show (Str.ofString (toString (Int.ofNat m))).cps.toList = _
  rw [text_ofNat]
  simp
theorem digK {a k : Nat} (h : 10 ≤ 10 * a + k) : (Nat.toDigits 10 (10 * a + k)).map Char.toNat = (Nat.toDigits 10 (a + k / 10)).map Char.toNat ++ [48 + k % 10] := by
  rw [digS h, Nat.mul_add_div (by decide), Nat.mul_add_mod]
theorem le10 (k : Nat) {a : Nat} (h : 10 ≤ 10 * a) : 10 ≤ 10 * a + k := Nat.le_trans h (Nat.le_add_right _ _)
theorem txt_h {n : Int} (h : 0 ≤ n ∧ n ≤ 99) : (Str.ofString (toString (100 + n))).cps.toList = 49 :: two n := by
  refine up (P := fun n => (Str.ofString (toString (100 + n))).cps.toList = 49 :: two n) 100 (fun k hk => ?_) h.1 (lt_le h.2)
  rw [two_nat]
  refine (txt_num (Int.natCast_nonneg (100 + k))).trans ?_
  show (Nat.toDigits 10 (10 * 10 + k)).map Char.toNat = _
  rw [digK (le10 k (by decide)), show 10 + k / 10 = 10 * 1 + k / 10 from rfl, digK (le10 _ (by decide)), dig1 (by rw [Nat.div_div_eq_div_mul, Nat.div_eq_of_lt hk]; decide), Nat.div_div_eq_div_mul, Nat.div_eq_of_lt hk, Nat.mod_eq_of_lt (a := k / 10) (Nat.div_lt_of_lt_mul hk)]
  rfl
theorem four_nat2 (k : Nat) : four (k : Int) = [48 + k / 10 / 10 / 10, 48 + k / 10 / 10 % 10, 48 + k / 10 % 10, 48 + k % 10] := by
  rw [four_nat, Nat.div_div_eq_div_mul k 10 10, Nat.div_div_eq_div_mul k _ 10]
theorem txt_y {n : Int} (h : 0 ≤ n ∧ n ≤ 9999) : (Str.ofString (toString (10000 + n))).cps.toList = 49 :: four n := by
  refine up (P := fun n => (Str.ofString (toString (10000 + n))).cps.toList = 49 :: four n) 10000 (fun k hk => ?_) h.1 (lt_le h.2)
  rw [four_nat2]
  refine (txt_num (Int.natCast_nonneg (10000 + k))).trans ?_
  show (Nat.toDigits 10 (10 * 1000 + k)).map Char.toNat = _
  have e : k / 10 / 10 / 10 < 10 := by rw [Nat.div_div_eq_div_mul, Nat.div_div_eq_div_mul]; exact Nat.div_lt_of_lt_mul hk
  rw [digK (le10 k (by decide)), show 1000 + k / 10 = 10 * 100 + k / 10 from rfl, digK (le10 _ (by decide)), show 100 + k / 10 / 10 = 10 * 10 + k / 10 / 10 from rfl, digK (le10 _ (by decide)), show 10 + k / 10 / 10 / 10 = 10 * 1 + k / 10 / 10 / 10 from rfl, digK (le10 _ (by decide)), Nat.div_eq_of_lt e, Nat.mod_eq_of_lt e, dig1 (by decide)]
  rfl
theorem slice_end {x : Str} {a : Nat} (ha : a ≤ x.length) : Txt.slice x (some (a : Int)) none = ⟨(x.cps.toList.drop a).toArray⟩ := by
  have e : Txt.slice x (some (a : Int)) none = Txt.slice x (some (a : Int)) (some (x.length : Int)) := by
    have e2 : PySem.Builtin.Str.strSliceIndices (some (a : Int)) none 1 x.length = PySem.Builtin.Str.strSliceIndices (some (a : Int)) (some (x.length : Int)) 1 x.length := by
      simp only [PySem.Builtin.Str.strSliceIndices]
      congr 1
      simp
      split <;> omega
    unfold Txt.slice
    rw [e2]
  rw [e, txt_slice ha (Nat.le_refl _), List.take_of_length_le]
  simp [Str.length]
theorem sl_two {n : Int} (h : 0 ≤ n ∧ n ≤ 99) : Txt.slice (Str.ofString (toString (100 + n))) (some 1) none = ⟨(two n).toArray⟩ := by
  have hl : (Str.ofString (toString (100 + n))).length = 3 := by
    have := congrArg List.length (txt_h h)
    simpa [Str.length, two] using this
  show Txt.slice _ (some ((1 : Nat) : Int)) none = _
  rw [slice_end (by rw [hl]; decide), txt_h h]
  rfl
theorem sl_four {n : Int} (h : 0 ≤ n ∧ n ≤ 9999) : Txt.slice (Str.ofString (toString (10000 + n))) (some 1) none = ⟨(four n).toArray⟩ := by
  have hl : (Str.ofString (toString (10000 + n))).length = 5 := by
    have := congrArg List.length (txt_y h)
    simpa [Str.length, four] using this
  show Txt.slice _ (some ((1 : Nat) : Int)) none = _
  rw [slice_end (by rw [hl]; decide), txt_y h]
  rfl
end Mine
end
section
set_option maxHeartbeats 0
open PySem PySem.W PySem.Calls PyProof.Rows
namespace Mine
abbrev TT (l : List Nat) : Str := ⟨l.toArray⟩
theorem len_dayT (k : Int) : (dayT k).length = 3 := by obtain ⟨a, b, c, h⟩ := dayT3 k; rw [h]; rfl
theorem len_monT (k : Int) : (monT k).length = 3 := by obtain ⟨a, b, c, h⟩ := monT3 k; rw [h]; rfl
theorem len_two (k : Int) : (two k).length = 2 := rfl
theorem len_four (k : Int) : (four k).length = 4 := rfl
theorem add_T {prog : Program} {w : World} {A : Around} {E : Value → Shared → Prop} {s : Shared} {x y : Str} {t u : Tok} {Q : Value → Shared → Prop} {a b : List Nat} (hx : x = TT a) (hy : y = TT b) (hl : a.length + b.length ≤ 1000)
    (h : ∀ t' tk, Q (.str (TT (a ++ b)) t') { s with toks := tk }) : wpAny (model prog w) A (binaryOp .Add (.str x t) (.str y u)) Q E s := by
  subst hx hy
  have hz : (TT a).length + (TT b).length ≤ sizeLine := by
    simp only [Str.length, List.size_toArray]
    rw [sizeLine_eq]; omega
  refine PyProof.Rows.SBL.add (hsz := hz) fun t' tk _ => ?_
  have e : (TT a ++ TT b : Str) = TT (a ++ b) := Str.ext' (by rw [Str.cps_append]; simp)
  rw [e]
  exact h t' tk
theorem lit_comma : Str.ofString ", " = TT [44, 32] := by decide +kernel
theorem lit_blank : Str.ofString " " = TT [32] := by decide +kernel
theorem lit_colon : Str.ofString ":" = TT [58] := by decide +kernel
theorem str_T (x : Str) : x = TT x.cps.toList := by cases x; simp
theorem sl_day {k : Int} (h : 0 ≤ k ∧ k < 7) : Txt.slice (Str.ofString "MonTueWedThuFriSatSun") (some (3 * k)) (some (3 * k + 3)) = TT (dayT k) := by
  exact up (P := fun k => Txt.slice (Str.ofString "MonTueWedThuFriSatSun") (some (3 * k)) (some (3 * k + 3)) = TT (dayT k)) 7 (by decide +kernel) h.1 h.2
theorem sl_mon {k : Int} (h : 1 ≤ k ∧ k ≤ 12) : Txt.slice (Str.ofString "JanFebMarAprMayJunJulAugSepOctNovDec") (some (3 * k - 3)) (some (3 * k)) = TT (monT k) := by
  exact up (P := fun k => 1 ≤ k → Txt.slice (Str.ofString "JanFebMarAprMayJunJulAugSepOctNovDec") (some (3 * k - 3)) (some (3 * k)) = TT (monT k)) 13 (by decide +kernel) (Int.le_trans (by decide) h.1) (lt_le h.2) h.1
theorem wk_eq {y d : Int} : (passF y d + 6).fmod 7 = wkF y d ∧ 0 ≤ wkF y d ∧ wkF y d < 7 := by
  refine ⟨?_, ?_⟩
  · rw [Int.fmod_eq_emod_of_nonneg _ (by decide : (0 : Int) ≤ 7)]; rfl
  · exact ⟨Int.emod_nonneg _ (by decide), Int.emod_lt_of_pos _ (by decide)⟩
theorem sl_wk {y d : Int} : Txt.slice (Str.ofString "MonTueWedThuFriSatSun") (some (3 * (passF y d + 6).fmod 7)) (some (3 * (passF y d + 6).fmod 7 + 3)) = TT (dayT (wkF y d)) := by
  rw [wk_eq.1]; exact sl_day wk_eq.2
theorem sl_year {n : Int} (h : 1 ≤ n ∧ n ≤ 9999) : Txt.slice (Str.ofString (toString (10000 + n))) (some 1) none = TT (four n) := sl_four ⟨by omega, h.2⟩
theorem join_two {prog : Program} {w : World} {A : Around} {E : Value → Shared → Prop} {s : Shared} {D : Addr} {a b c : Int} {t u1 u2 u3 : Tok} {Q : Value → Shared → Prop}
    (hl : s.heap.IsList D #[.str ⟨(two a).toArray⟩ u1, .str ⟨(two b).toArray⟩ u2, .str ⟨(two c).toArray⟩ u3]) (h : ∀ t' k, Q (.str (TT (two a ++ ([58] ++ (two b ++ ([58] ++ two c))))) t') { s with toks := k }) :
    wpAny (model prog w) A (call (.builtin "str.join") [.str (Str.ofString ":") t, .ref D]) Q E s := by
  refine SC.join (l := [(⟨(two a).toArray⟩, u1), (⟨(two b).toArray⟩, u2), (⟨(two c).toArray⟩, u3)]) hl rfl (joinOk_of_weight (by simp [Str.length, two]) (by decide +kernel)) fun t' k => ?_
  have e : Txt.join (Str.ofString ":") [⟨(two a).toArray⟩, ⟨(two b).toArray⟩, ⟨(two c).toArray⟩] = TT (two a ++ ([58] ++ (two b ++ ([58] ++ two c)))) := by
    rw [lit_colon]
    refine Str.ext' ?_
    simp only [Txt.join, StrLaws.glued_eq_join, Str.join, Str.cps_append]
    simp [two]
  exact e ▸ h t' k
theorem zlen {x : Str} (h : x.length ≤ 5) : x.cps.toList.length ≤ 5 := by simpa [Str.length] using h
theorem due_end {y d ck : Int} {zone S : Str} (hS : lineS y d ck zone = S) : TT (dayT (wkF y d) ++ [44, 32] ++ two (mLeft d) ++ [32] ++ monT (wM d) ++ [32] ++ four (wY y d) ++ [32] ++ (two (ck / 3600) ++ ([58] ++ (two (ck / 60 % 60) ++ ([58] ++ two (ck % 60))))) ++ [32] ++ zone.cps.toList) = S := by
  rw [← hS]
  simp only [lineS, lineL, List.append_assoc]
theorem str_T5 {x : Str} (_h : x.length ≤ 5) : x = TT x.cps.toList := str_T x
end Mine
end
section
set_option maxHeartbeats 0
open PySem PySem.W PySem.Calls PyProof.Rows
namespace Mine
theorem sp_dig : ∀ c, c < 58 → 48 ≤ c → Unicode.isSpace c = false := by decide +kernel
theorem fig_signs {x : Str} {n : Int} (h : Fig x n) : ∀ c ∈ x.cps.toList, 48 ≤ c ∧ c < 58 := by
  obtain ⟨ds, h1, h2, _⟩ := h
  intro c hc
  rw [h1] at hc
  obtain ⟨d, hd, rfl⟩ := List.mem_map.mp hc
  have := h2 d hd
  omega
theorem fig_len {x : Str} {n : Int} (h : Fig x n) : 1 ≤ x.length ∧ x.length ≤ 4 := by
  obtain ⟨ds, h1, _, h3, h4, _⟩ := h
  have e : x.length = ds.length := by
    have := congrArg List.length h1
    simpa [Str.length] using this
  have := List.length_pos_iff.mpr h3
  omega
theorem fig_rstrip {x : Str} {n : Int} (h : Fig x n) : Txt.rstrip x = x := by
  have hi : stripHi Unicode.isSpace true x 0 = x.length := by
    simp only [stripHi, if_true, List.drop_zero]
    cases hr : x.cps.toList.reverse with
    | nil => rfl
    | cons c l =>
      have hm : c ∈ x.cps.toList := List.mem_reverse.mp (by rw [hr]; exact List.mem_cons_self ..)
      have hc := fig_signs h c hm
      have hs := sp_dig c hc.2 hc.1
      simp [List.takeWhile_cons, hs]
  have lo : stripLo Unicode.isSpace false x = 0 := by simp [stripLo]
  have hsame : stripSame Unicode.isSpace false true x = true := by
    unfold stripSame
    rw [lo, hi]
    simp
  unfold Txt.rstrip Txt.stripBy
  rw [if_pos hsame]
theorem fig_occ {x : Str} {n : Int} (h : Fig x n) : Builtin.Str.occurrences x (Str.ofString "_") 0 x.length (x.length + 1) = [] := by
  have e : Str.ofString "_" = (⟨#[95]⟩ : Str) := by decide +kernel
  rw [e]
  refine occ_nil_of_no x _ _ fun i hi => ?_
  cases hq : Builtin.Str.subAt x ⟨#[95]⟩ i with
  | false => rfl
  | true =>
    have := (StrLaws.subAt_one x 95 i).mp ⟨hi, hq⟩
    have := fig_signs h 95 (List.mem_of_getElem? this)
    omega
theorem fig_slice {x : Str} {n : Int} (_h : Fig x n) : Txt.slice x (some 0) (some (x.length : Int)) = x := by
  show Txt.slice x (some ((0 : Nat) : Int)) (some (x.length : Int)) = x
  rw [txt_slice (Nat.zero_le _) (Nat.le_refl _), List.drop_zero, List.take_of_length_le (by simp [Str.length])]
theorem fold_val (ds : List Nat) (a : Nat) : (ds.map (48 + ·)).foldl (fun n c => n * 10 + (c - 48)) a = ds.foldl (fun a d => 10 * a + d) a := by
  induction ds generalizing a with
  | nil => rfl
  | cons d r ih =>
    simp only [List.map_cons, List.foldl_cons]
    rw [ih]
    congr 1
    omega
theorem fig_int {x : Str} {n : Int} (h : Fig x n) : PySem.intText? x = some n := by
  have hl := fig_len h
  have hs := fig_signs h
  obtain ⟨ds, h1, h2, h3, h4, h5⟩ := h
  have e := PySem.intText_digits (x := x) (fun c hc => ⟨(hs c hc).1, by have := (hs c hc).2; omega⟩) (by rw [h1]; simpa using h3) (by omega)
  rw [e, h1]
  have e2 : PySem.NumText.digitsVal (ds.map (48 + ·)) = ds.foldl (fun a d => 10 * a + d) 0 := fold_val ds 0
  rw [e2, ← h5]
end Mine
end
section
set_option maxHeartbeats 0
open PySem PySem.W PySem.Calls PyProof.Rows
namespace Mine
noncomputable def TbAt (P ln col : Nat) (q : Str) (tb : List (Addr × Obj)) : Prop :=
  ∃ pre o c oc post, tb = pre ++ (P, o) :: (c, oc) :: post ∧ TabSt P ln col q o c oc ∧ (∀ p ∈ pre, p.1 ≠ P) ∧ (∀ p ∈ post, p.1 ≠ P) ∧ ∀ o' c' oc', TabSt P ln col q o' c' oc' → TbsOk (pre ++ (P, o') :: (c', oc') :: post)
theorem tab_apart {P ln col P2 ln2 col2 : Nat} {q q2 : Str} {o oc o2 oc2 : Obj} {c c2 : Addr} {h : Heap} (s1 : TabSt P ln col q o c oc) (s2 : TabSt P2 ln2 col2 q2 o2 c2 oc2) (hP : h.get? P = some o) (h2 : h.get? c2 = some oc2) (hne : P2 ≠ P) : c2 ≠ P := fun e => by
  rcases s2 with ⟨_, e2, _⟩ | ⟨_, _, vs, t, hd, hv⟩
  · exact hne (e2 ▸ e)
  · rw [e, hP] at h2
    cases h2
    rcases s1 with ⟨rfl, _, _⟩ | ⟨rfl, _, _⟩
    · cases hd; simp at hv
    · cases hd; simp [rawInt] at hv
theorem at24 {h₀ h : Heap} {L : Addr} {own tb : List (Addr × Obj)} (N : News h₀ L h (own ++ tb)) (ok : TbsOk tb) : TbAt 24 46 4 (Str.ofString "_str_to_int_inner.<locals>.inner") tb := by
  obtain ⟨o1, c1, oc1, o2, c2, oc2, o3, c3, oc3, rfl, h1, h2, h3⟩ := ok
  have g : ∀ p ∈ [(24, o1), (c1, oc1), (52, o2), (c2, oc2), (59, o3), (c3, oc3)], h.get? p.1 = some p.2 := fun p hp => (N p (List.mem_append_right _ hp)).1
  refine ⟨[], o1, c1, oc1, [(52, o2), (c2, oc2), (59, o3), (c3, oc3)], rfl, h1, (fun _ hp => nomatch hp), fun p hp => ?_, fun o' c' oc' st => ⟨_, _, _, _, _, _, _, _, _, rfl, st, h2, h3⟩⟩
  simp only [List.mem_cons, List.not_mem_nil, or_false] at hp
  rcases hp with rfl | rfl | rfl | rfl
  · exact (by decide : (52 : Nat) ≠ 24)
  · exact tab_apart h1 h2 (g (24, o1) (by simp)) (g (c2, oc2) (by simp)) (by decide)
  · exact (by decide : (59 : Nat) ≠ 24)
  · exact tab_apart h1 h3 (g (24, o1) (by simp)) (g (c3, oc3) (by simp)) (by decide)
theorem at52 {h₀ h : Heap} {L : Addr} {own tb : List (Addr × Obj)} (N : News h₀ L h (own ++ tb)) (ok : TbsOk tb) : TbAt 52 86 4 (Str.ofString "_int2digits.<locals>.inner") tb := by
  obtain ⟨o1, c1, oc1, o2, c2, oc2, o3, c3, oc3, rfl, h1, h2, h3⟩ := ok
  have g : ∀ p ∈ [(24, o1), (c1, oc1), (52, o2), (c2, oc2), (59, o3), (c3, oc3)], h.get? p.1 = some p.2 := fun p hp => (N p (List.mem_append_right _ hp)).1
  refine ⟨[(24, o1), (c1, oc1)], o2, c2, oc2, [(59, o3), (c3, oc3)], rfl, h2, fun p hp => ?_, fun p hp => ?_, fun o' c' oc' st => ⟨_, _, _, _, _, _, _, _, _, rfl, h1, st, h3⟩⟩
  · simp only [List.mem_cons, List.not_mem_nil, or_false] at hp
    rcases hp with rfl | rfl
    · exact (by decide : (24 : Nat) ≠ 52)
    · exact tab_apart h2 h1 (g (52, o2) (by simp)) (g (c1, oc1) (by simp)) (by decide)
  · simp only [List.mem_cons, List.not_mem_nil, or_false] at hp
    rcases hp with rfl | rfl
    · exact (by decide : (59 : Nat) ≠ 52)
    · exact tab_apart h2 h3 (g (52, o2) (by simp)) (g (c3, oc3) (by simp)) (by decide)
theorem at59 {h₀ h : Heap} {L : Addr} {own tb : List (Addr × Obj)} (N : News h₀ L h (own ++ tb)) (ok : TbsOk tb) : TbAt 59 101 4 (Str.ofString "_digits2int.<locals>.inner") tb := by
  obtain ⟨o1, c1, oc1, o2, c2, oc2, o3, c3, oc3, rfl, h1, h2, h3⟩ := ok
  have g : ∀ p ∈ [(24, o1), (c1, oc1), (52, o2), (c2, oc2), (59, o3), (c3, oc3)], h.get? p.1 = some p.2 := fun p hp => (N p (List.mem_append_right _ hp)).1
  refine ⟨[(24, o1), (c1, oc1), (52, o2), (c2, oc2)], o3, c3, oc3, [], rfl, h3, fun p hp => ?_, (fun _ hp => nomatch hp), fun o' c' oc' st => ⟨_, _, _, _, _, _, _, _, _, rfl, h1, h2, st⟩⟩
  simp only [List.mem_cons, List.not_mem_nil, or_false] at hp
  rcases hp with rfl | rfl | rfl | rfl
  · exact (by decide : (24 : Nat) ≠ 59)
  · exact tab_apart h3 h1 (g (59, o3) (by simp)) (g (c1, oc1) (by simp)) (by decide)
  · exact (by decide : (52 : Nat) ≠ 59)
  · exact tab_apart h3 h2 (g (59, o3) (by simp)) (g (c2, oc2) (by simp)) (by decide)
section
variable {M : Model} {A : Around} {E : Value → Shared → Prop} {s : Shared} {h₀ : Heap} {L a c P : Addr} {m mg mb : Str → Option Value} {cn : Str} {cs : Scope} {ccd : Value} {cl : List (Str × Addr)} {news own tb : List (Addr × Obj)}
  {p : Program} {loose : List Str} {mean : ExcName → Option Value} {name qual : Str} {params : Arguments} {body : List Stmt} {scope : Scope} {pos : Pos} {firstLine : Nat} {clos : List (Str × Addr)}
theorem nest_T {Q : Value → Shared → Prop} {ln col : Nat} (F : Fr h₀ L s.heap m) (N : News h₀ L s.heap news) (S : Split news own tb) (T : Top p loose mean mg mb h₀) (C : CodeHd h₀ c P) (hcd : ccd = .ref c) (hl : pos.line = ln ∧ pos.col = col) (tba : ∀ own tb, News h₀ L s.heap (own ++ tb) → TbsOk tb → TbAt P ln col qual tb)
    (hown : ∀ p ∈ own, NoTab p.2 ∨ ∀ q ∈ tb, q.1 ≠ p.1) (hcl : closureFor scope (envX cn cs L a ccd cl) = pure clos)
    (h : ∀ f c' oc' vs t ctv doc h' tk tb', Fr h₀ L h' m →
      News h₀ L h' ((f, fnMade name qual params body scope clos doc ((mg "__name__").getD .none) c' ctv) :: (own ++ tb')) → TbsOk tb' → OffT tb' own → (c', oc') ∈ tb' →
      oc'.data = .fields vs → vs[1]? = some (.str qual t) → (∀ q ∈ own, q.1 < f) → (∀ q ∈ tb', q.1 ≠ f) → Q (.ref f) { s with heap := h', toks := tk }) :
    wpAny M A (makeFunction name qual params (.stmts body) scope (envX cn cs L a ccd cl) [] [] [] pos firstLine) Q E s := by
  obtain ⟨rfl, ok⟩ := S.eq
  obtain ⟨rfl, rfl⟩ := hl
  have ofo : OffT tb own := fun p hp => by
    rcases hown p hp with hn | ho
    · exact apt N (List.mem_append_left _ hp) (fun q hq => List.mem_append_right _ hq) ok hn
    · exact ho
  obtain ⟨pre, o, c1, oc, post, rfl, st, hpre, hpost, mk⟩ := tba own tb N ok
  have noP : ∀ p ∈ own, p.1 ≠ P := fun p hp => (ofo p hp _ (List.mem_append_right _ (.head _))).symm
  rcases st with ⟨rfl, e, rfl⟩ | ⟨rfl, hne, vs, t, hd, hv⟩
  · subst e
    have U0 : ∀ l : List (Addr × Obj), (∀ p ∈ l, p.1 ≠ c1) → UpdF c1 (tabObj #[]) (l ++ (c1, tabObj #[]) :: post) (fun o' => l ++ (c1, o') :: post) := fun l => by
      induction l with
      | nil => exact fun _ => UpdF.head hpost
      | cons x r ih => exact fun hl => UpdF.tail (hl x (.head _)) (ih fun p hp => hl p (.tail _ hp))
    have U : UpdF c1 (tabObj #[]) ((own ++ pre) ++ (c1, tabObj #[]) :: post) (fun o' => (own ++ pre) ++ (c1, o') :: post) := U0 _ fun p hp => by
      rcases List.mem_append.mp hp with hp | hp
      · exact noP p hp
      · exact hpre p hp
    refine nest_K (M := M) F (fun p hp => N p ?_) T C hcd U trivial rfl hcl fun f c' oc' vs t ctv doc h' tk F' N' d1 d2 l1 l2 => ?_
    · rcases List.mem_append.mp hp with hp | hp
      · rcases List.mem_append.mp hp with hp | hp
        · exact List.mem_append_left _ hp
        · exact List.mem_append_right _ (List.mem_append_left _ hp)
      · rcases List.mem_cons.mp hp with rfl | hp
        · exact List.mem_append_right _ (List.mem_append_right _ (.head _))
        · exact List.mem_append_right _ (List.mem_append_right _ (.tail _ (.tail _ hp)))
    · have lo : ∀ q ∈ own, q.1 < c' := fun q hq => l1 q (List.mem_append_left _ (List.mem_append_left _ hq))
      have lp : ∀ q ∈ pre, q.1 < c' := fun q hq => l1 q (List.mem_append_left _ (List.mem_append_right _ hq))
      have lP : c1 < c' := l1 (c1, tabObj #[]) (List.mem_append_right _ (.head _))
      have lq : ∀ q ∈ post, q.1 < c' := fun q hq => l1 q (List.mem_append_right _ (.tail _ hq))
      refine h f c' oc' vs t ctv doc h' tk (pre ++ (c1, tabObj (#[] ++ #[rawInt pos.line, rawInt pos.col, .ref c'])) :: (c', oc') :: post) F' (fun p hp => N' p ?_) (mk _ _ _ (.inr ⟨rfl, Nat.ne_of_gt lP, vs, t, d1, d2⟩)) (fun p hp q hq => ?_) (List.mem_append_right _ (.tail _ (.head _))) d1 d2 (fun q hq => Nat.lt_trans (lo q hq) l2) fun q hq => ?_
      · rcases List.mem_cons.mp hp with rfl | hp
        · exact .head _
        · rcases List.mem_append.mp hp with hp | hp
          · exact .tail _ (.tail _ (List.mem_append_left _ (List.mem_append_left _ hp)))
          · rcases List.mem_append.mp hp with hp | hp
            · exact .tail _ (.tail _ (List.mem_append_left _ (List.mem_append_right _ hp)))
            · rcases List.mem_cons.mp hp with rfl | hp
              · exact .tail _ (.tail _ (List.mem_append_right _ (.head _)))
              · rcases List.mem_cons.mp hp with rfl | hp
                · exact .tail _ (.head _)
                · exact .tail _ (.tail _ (List.mem_append_right _ (.tail _ hp)))
      · rcases List.mem_append.mp hq with hq | hq
        · exact ofo p hp q (List.mem_append_left _ hq)
        · rcases List.mem_cons.mp hq with rfl | hq
          · exact (noP p hp).symm
          · rcases List.mem_cons.mp hq with rfl | hq
            · exact Nat.ne_of_gt (lo p hp)
            · exact ofo p hp q (List.mem_append_right _ (.tail _ (.tail _ hq)))
      · rcases List.mem_append.mp hq with hq | hq
        · exact Nat.ne_of_lt (Nat.lt_trans (lp q hq) l2)
        · rcases List.mem_cons.mp hq with rfl | hq
          · exact Nat.ne_of_lt (Nat.lt_trans lP l2)
          · rcases List.mem_cons.mp hq with rfl | hq
            · exact Nat.ne_of_lt l2
            · exact Nat.ne_of_lt (Nat.lt_trans (lq q hq) l2)
  · refine nestHit_K (M := M) (c' := c1) (ps := #[rawInt pos.line, rawInt pos.col, .ref c1]) F N T C hcd (List.mem_append_right _ (List.mem_append_right _ (.head _))) (by simp [TriplesOk, rawInt]) (by simp [codeAmong, rawInt]) hcl fun f ctv doc h' tk F' N' l1 => ?_
    exact h f c1 oc vs t ctv doc h' tk _ F' N' (mk _ _ _ (.inr ⟨rfl, hne, vs, t, hd, hv⟩)) ofo (List.mem_append_right _ (.tail _ (.head _))) hd hv (fun q hq => l1 q (List.mem_append_left _ hq)) fun q hq => Nat.ne_of_lt (l1 q (List.mem_append_right _ hq))
end
end Mine
end
section
set_option maxHeartbeats 0
open PySem PySem.W PySem.Calls PyProof.Rows
namespace Mine
noncomputable def EndD (g : Heap) (L : Addr) (s : Shared) (Post : Value → List (Addr × Obj) → Prop) (v : Value) (s' : Shared) : Prop :=
  ∃ h' tk' dr' m' new tb', s' = { s with heap := h', toks := tk', drawn := dr' } ∧ Fr g L h' m' ∧ News g L h' (new ++ tb') ∧ TbsOk tb' ∧ Post v new
section
variable {w : World} {A₀ A : Around} {s : Shared} {base h₀ : Heap} {outer : List Env} {L : Addr} {m : Str → Option Value} {env : Env} {tb : List (Addr × Obj)}
  {R : Result → Shared → Prop} {name qual : Str} {params : Arguments} {body : List Stmt} {scope : Scope} {cl : List (Str × Addr)} {dV kV doc pm cdv ct : Value} {an : Option Addr} {fo : Obj} {f : Addr} {args : Args} {binds : List (Str × Value)}
theorem leave_ofD {Post : Value → List (Addr × Obj) → Prop} {Q : Value → Shared → Prop} (B : Below A₀ base outer h₀) (F : Fr h₀ L s.heap m) (N : News h₀ L s.heap tb) (hA : A.frames = some (env :: outer)) (hf : env.frame = some L) (hke : env.scope.kind = .function)
    (hret : ∀ v h' tk' dr' new tb', Fr h₀ L h' m → News h₀ L h' (new ++ tb') → TbsOk tb' → Kept (tb.map (·.1)) s.heap h' → Apart (tb.map (·.1)) s.heap (new ++ tb') → Post v new → Q v { s with heap := h', toks := tk', drawn := dr' }) (L' : Addr)
    (v : Value) (s' : Shared) (e : EndD (hideAll s.heap (tb.map (·.1))) L' s Post v s') : Q v s' := by
  obtain ⟨h', tk', dr', m', nw, tb', rfl, F', N', hok, hp⟩ := e
  obtain ⟨FG, _, st, lv⟩ := groundX (R := fun r s' => ∃ v, r = .ok (.ret v) ∧ (Fr h₀ L s'.heap m ∧ News h₀ L s'.heap (nw ++ tb'))) B F N hA hf hke
  obtain ⟨_, _, a, b⟩ := lv v { s with heap := h', toks := tk', drawn := dr' } ⟨_, _, _, F', N', fun x y => ⟨v, rfl, x, y⟩⟩
  refine hret v h' tk' dr' nw tb' a b hok (fun b o e n => F'.keep _ _ (kept_hide s.heap tb b o e n)) (fun p hm o e => Classical.byContradiction fun n => ?_) hp
  have h1 := kept_hide s.heap tb _ _ e n
  rw [(N' p hm).2.2] at h1
  cases h1
theorem ent_plainD {Post : Value → List (Addr × Obj) → Prop} {Q : Value → Shared → Prop} {E : Value → Shared → Prop} (B : Below A₀ base outer h₀) (F : Fr h₀ L s.heap m) (N : News h₀ L s.heap tb) (hlim : h₀.NoLimit) (hA : A.frames = some (env :: outer)) (hf : env.frame = some L) (hke : env.scope.kind = .function)
    (ho : s.heap.get? f = some fo) (hd : fo.data = .func (fnX name qual params body scope cl dV kV doc pm an cdv ct)) (hcd : s.heap.CodeRec cdv qual) (hroom : A.depth < recursionLimit)
    (hbind : BindsTo s (fnX name qual params body scope cl dV kV doc pm an cdv ct) args binds) (hloc : ∀ y ∈ binds, scope.names.lookup y.1 = some .local)
    (hret : ∀ v h' tk' dr' new tb', Fr h₀ L h' m → News h₀ L h' (new ++ tb') → TbsOk tb' → Kept (tb.map (·.1)) s.heap h' → Apart (tb.map (·.1)) s.heap (new ++ tb') → Post v new → Q v { s with heap := h', toks := tk', drawn := dr' })
    (h : ∀ g L' h₁, Fr g L' h₁ (fun y => binds.reverse.lookup y) → News g L' h₁ tb → Below A base (env :: outer) g → h₀.StaysIn g → Kept (tb.map (·.1)) s.heap g → L' = s.heap.objs.size → (∀ p ∈ tb, p.1 < L') →
      wpAny (model PySem.Challenge.rw_ph0148_01.row.prog w) (A.deeper (envX qual scope L' f cdv cl)) (execs body (envX qual scope L' f cdv cl))
        (fun fl s' => EndD g L' s Post (match fl with | .ret v => v | _ => .none) s') (fun _ _ => False)
        { s with heap := h₁, toks := s.toks + binds.length })
    (hcell : ∀ x ∈ scope.names, x.2 ≠ .cell) (hco : scope.isCoroutine = false := by rfl) (hgen : scope.isGenerator = false := by rfl) (hk : scope.kind = .function := by rfl) :
    codeAny (model PySem.Challenge.rw_ph0148_01.row.prog w) A (.call (.ref f) args) (fun r s' => match r with | .ok (.ret v) => Q v s' | .ok _ => False | .error e => E e s') s := by
  obtain ⟨FG, BG, st, _⟩ := groundX (R := fun _ _ => True) B F N hA hf hke
  refine codeAny_call_def (fd := fnX name qual params body scope cl dV kV doc pm an cdv ct) (body := body) (binds := binds) hroom ho hd (hlim.keeps F.keep) hcd rfl hbind hcell hloc (fun h₁ hns hk₁ => ?_) hco hgen hk
  exact wpAny_mono (h _ s.heap.objs.size h₁ ⟨hns, fun b o e => hk₁ b o (of_hideAll _ e), Nat.le_of_eq (hideAll_size _ _)⟩
    (fun p hp => ⟨hk₁ _ _ (N p hp).1, Nat.ne_of_lt (Heap.lt_size (N p hp).1), hideAll_none _ (List.mem_map_of_mem hp)⟩) BG st (kept_hide _ _) rfl (fun p hp => Heap.lt_size (N p hp).1))
    (fun fl s' hl => leave_ofD (Q := Q) B F N hA hf hke hret _ _ _ hl) fun _ _ y => y.elim
theorem ent_cellsD {Post : Value → List (Addr × Obj) → Prop} {Q : Value → Shared → Prop} {E : Value → Shared → Prop} (B : Below A₀ base outer h₀) (F : Fr h₀ L s.heap m) (N : News h₀ L s.heap tb) (hlim : h₀.NoLimit) (hA : A.frames = some (env :: outer)) (hf : env.frame = some L) (hke : env.scope.kind = .function)
    (ho : s.heap.get? f = some fo) (hd : fo.data = .func (fnX name qual params body scope [] dV kV doc pm an cdv ct)) (hcd : s.heap.CodeRec cdv qual) (hroom : A.depth < recursionLimit)
    (hbind : BindsTo s (fnX name qual params body scope [] dV kV doc pm an cdv ct) args binds)
    (hkind : (binds.all fun y => scope.names.lookup y.1 == some .local || scope.names.lookup y.1 == some .cell) = true)
    (hnd : ((cellsFrom 0 scope.names []).map (·.1)).Nodup)
    (hret : ∀ v h' tk' dr' new tb', Fr h₀ L h' m → News h₀ L h' (new ++ tb') → TbsOk tb' → Kept (tb.map (·.1)) s.heap h' → Apart (tb.map (·.1)) s.heap (new ++ tb') → Post v new → Q v { s with heap := h', toks := tk', drawn := dr' })
    (h : ∀ g L' h₁ tk cells, Fr g L' h₁ (bindL (envOfC qual scope L' f cdv).kindOf binds fun _ => none) → News g L' h₁ (cells ++ tb) →
      CellsAre (bindC (envOfC qual scope L' f cdv).kindOf binds fun _ => none) (cellsFrom (L' + 1) scope.names []) cells → Below A base (env :: outer) g → h₀.StaysIn g → Kept (tb.map (·.1)) s.heap g → L' = s.heap.objs.size → (∀ p ∈ tb, p.1 < L') →
      wpAny (model PySem.Challenge.rw_ph0148_01.row.prog w) (A.deeper (envOfC qual scope L' f cdv)) (execs body (envOfC qual scope L' f cdv))
        (fun fl s' => EndD g L' s Post (match fl with | .ret v => v | _ => .none) s') (fun _ _ => False)
        { s with heap := h₁, toks := tk })
    (hco : scope.isCoroutine = false := by rfl) (hgen : scope.isGenerator = false := by rfl) (hk : scope.kind = .function := by rfl) :
    codeAny (model PySem.Challenge.rw_ph0148_01.row.prog w) A (.call (.ref f) args) (fun r s' => match r with | .ok (.ret v) => Q v s' | .ok _ => False | .error e => E e s') s := by
  obtain ⟨FG, BG, st, _⟩ := groundX (R := fun _ _ => True) B F N hA hf hke
  refine codeAny_call_function hroom ho hd hco hgen rfl hcd (hbind _ _ _ _ ?_)
  refine wpAny_newFunctionEnv_cells hk (kindsX hkind _) fun env' he s' x => ?_
  subst he
  refine ⟨(hlim.keeps F.keep).keeps x.toInCall.keep, codeAny_func ?_⟩
  obtain ⟨h₁, tk, rfl, _⟩ := x.done
  have hk₁ := x.toInCall.keep
  obtain ⟨cells, NC, Y⟩ := Cl.news (h₀ := s.heap) (Nat.le_refl _) fun n c hm => ⟨x.cell n c (lookup_of_mem_nodup (cellsFrom_names scope.names 0 (s.heap.objs.size + 1) [] [] rfl ▸ hnd) hm), x.above n c hm⟩
  refine wpAny_mono (h _ s.heap.objs.size h₁ tk cells ⟨x.toInCall.ns, fun b o e => hk₁ b o (of_hideAll _ e), Nat.le_of_eq (hideAll_size _ _)⟩ (fun p hp => ?_) Y BG st (kept_hide _ _) rfl (fun p hp => Heap.lt_size (N p hp).1)) (fun fl s' hl => leave_ofD (Q := Q) B F N hA hf hke hret _ _ _ hl) fun _ _ y => y.elim
  rcases List.mem_append.mp hp with hp | hp
  · refine ⟨(NC p hp).1, (NC p hp).2.1, ?_⟩
    cases q : (hideAll s.heap (tb.map (·.1))).get? p.1 with
    | none => rfl
    | some o => have := of_hideAll _ q; rw [(NC p hp).2.2] at this; cases this
  · exact ⟨hk₁ _ _ (N p hp).1, Nat.ne_of_lt (Heap.lt_size (N p hp).1), hideAll_none _ (List.mem_map_of_mem hp)⟩
end
/-- a contract: what a call of the def at `f` with `vs` does; the tables stand behind what is made. -/
noncomputable def ConD (w : World) (f : Addr) (vs : List Value) (dn un' : Nat) (Pre : Heap → Prop) (Post : Value → List (Addr × Obj) → Prop) : Prop :=
  ∀ (p : Program) (loose : List Str) (mean : ExcName → Option Value) (mg mb : Str → Option Value) (dp un : Nat) (gd : Option (List Code)) (cn : Str) (cs : Scope) (a : Addr) (ccd : Value) (cl : List (Str × Addr)) (outer : List Env) (A₀ : Around) (base h₀ : Heap) (L : Addr) (m : Str → Option Value) (s : Shared) (tb : List (Addr × Obj)) (Q E : Value → Shared → Prop),
    Below A₀ base outer h₀ → Fr h₀ L s.heap m → (hd.heap_39 w.params).In h₀ → Top p loose mean mg mb h₀ → News h₀ L s.heap tb → TbsOk tb → Pre s.heap → cs.kind = .function →
    dp + dn < recursionLimit → un + un' < cLine →
    (∀ v h' tk' dr' new tb', Fr h₀ L h' m → News h₀ L h' (new ++ tb') → TbsOk tb' → Kept (tb.map (·.1)) s.heap h' → Apart (tb.map (·.1)) s.heap (new ++ tb') → Post v new → Q v { s with heap := h', toks := tk', drawn := dr' }) →
    wpAny (model PySem.Challenge.rw_ph0148_01.row.prog w) (ktrTop dp un gd cn cs L a ccd cl outer) (call (.ref f) vs) Q E s
section
variable {w : World} {name qual : Str} {params : Arguments} {body : List Stmt} {scope : Scope} {dV kV doc pm cdv ct oc : Value} {an od : Option Addr} {osl : Array (Option Value)} {f : Addr} {vs : List Value} {binds : List (Str × Value)} {dn un' : Nat} {Pre : Heap → Prop} {Post : Value → List (Addr × Obj) → Prop}
theorem con_plainD (hst : Stab Pre) (ho : (hd.heap_39 w.params).lookup f = some ⟨oc, od, .func (fnOf name qual params body scope dV kV doc pm an cdv ct), osl⟩) (hcd : codeIn (hd.heap_39 w.params) cdv qual = true)
    (hbind : ∀ s : Shared, (hd.heap_39 w.params).In s.heap → BindsTo s (fnOf name qual params body scope dV kV doc pm an cdv ct) ⟨vs, []⟩ binds) (hloc : ∀ y ∈ binds, scope.names.lookup y.1 = some .local)
    (hcell : ∀ x ∈ scope.names, x.2 ≠ .cell) (hco : scope.isCoroutine = false) (hgen : scope.isGenerator = false) (hk : scope.kind = .function)
    (h : ∀ (p : Program) (loose : List Str) (mean : ExcName → Option Value) (mg mb : Str → Option Value) (dp un : Nat) (gd : Option (List Code)) (cn : Str) (cs : Scope) (L a : Addr) (ccd : Value) (cl : List (Str × Addr)) (outer : List Env) (base : Heap) (s : Shared) (tb : List (Addr × Obj)) (g : Heap) (L' : Addr) (h₁ : Heap),
      dp + dn < recursionLimit → un + un' < cLine → TbsOk tb → Pre g → Fr g L' h₁ (fun y => binds.reverse.lookup y) → News g L' h₁ tb → Below (ktrTop dp un gd cn cs L a ccd cl outer) base (envX cn cs L a ccd cl :: outer) g → (hd.heap_39 w.params).In g → Top p loose mean mg mb g → (∀ p ∈ tb, p.1 < L') →
      wpAny (model PySem.Challenge.rw_ph0148_01.row.prog w) ((ktrTop dp un gd cn cs L a ccd cl outer).deeper (envOf qual scope L' f cdv)) (execs body (envOf qual scope L' f cdv))
        (fun fl s' => EndD g L' s Post (match fl with | .ret v => v | _ => .none) s') (fun _ _ => False)
        { s with heap := h₁, toks := s.toks + binds.length }) (hdn : 0 < dn := by decide) : ConD w f vs dn un' Pre Post := by
  intro p loose mean mg mb dp un gd cn cs a ccd cl outer A₀ base h₀ L m s tb Q E B F X T N ok hp hcs hd hu hret
  have XS := X.keeps F.keep
  refine wpAny_call (ent_plainD (cl := []) (Q := Q) B F N T.nolimit rfl rfl hcs (XS _ _ ho) rfl (codeRec_of XS hcd) (by show dp < _; omega) (hbind s XS) hloc hret (fun g L' h₁ F' N' B' st kp e lt => ?_) hcell hco hgen hk)
  exact h p loose mean mg mb dp un gd cn cs L a ccd cl outer base s tb g L' h₁ hd hu ok (hst _ _ _ (tabs_are N ok) kp hp) F' N' B' (X.keeps st) (T.keeps st) lt
theorem con_cellsD (hst : Stab Pre) (ho : (hd.heap_39 w.params).lookup f = some ⟨oc, od, .func (fnOf name qual params body scope dV kV doc pm an cdv ct), osl⟩) (hcd : codeIn (hd.heap_39 w.params) cdv qual = true)
    (hbind : ∀ s : Shared, (hd.heap_39 w.params).In s.heap → BindsTo s (fnOf name qual params body scope dV kV doc pm an cdv ct) ⟨vs, []⟩ binds)
    (hkind : (binds.all fun y => scope.names.lookup y.1 == some .local || scope.names.lookup y.1 == some .cell) = true)
    (hnd : ((cellsFrom 0 scope.names []).map (·.1)).Nodup) (hco : scope.isCoroutine = false) (hgen : scope.isGenerator = false) (hk : scope.kind = .function)
    (h : ∀ (p : Program) (loose : List Str) (mean : ExcName → Option Value) (mg mb : Str → Option Value) (dp un : Nat) (gd : Option (List Code)) (cn : Str) (cs : Scope) (L a : Addr) (ccd : Value) (cl : List (Str × Addr)) (outer : List Env) (base : Heap) (s : Shared) (tb : List (Addr × Obj)) (g : Heap) (L' : Addr) (h₁ : Heap) (tk : Nat) (cells : List (Addr × Obj)),
      dp + dn < recursionLimit → un + un' < cLine → TbsOk tb → Pre g → Fr g L' h₁ (bindL (envOfC qual scope L' f cdv).kindOf binds fun _ => none) → News g L' h₁ (cells ++ tb) → CellsAre (bindC (envOfC qual scope L' f cdv).kindOf binds fun _ => none) (cellsFrom (L' + 1) scope.names []) cells →
      Below (ktrTop dp un gd cn cs L a ccd cl outer) base (envX cn cs L a ccd cl :: outer) g → (hd.heap_39 w.params).In g → Top p loose mean mg mb g → (∀ p ∈ tb, p.1 < L') →
      wpAny (model PySem.Challenge.rw_ph0148_01.row.prog w) ((ktrTop dp un gd cn cs L a ccd cl outer).deeper (envOfC qual scope L' f cdv)) (execs body (envOfC qual scope L' f cdv))
        (fun fl s' => EndD g L' s Post (match fl with | .ret v => v | _ => .none) s') (fun _ _ => False)
        { s with heap := h₁, toks := tk }) (hdn : 0 < dn := by decide) : ConD w f vs dn un' Pre Post := by
  intro p loose mean mg mb dp un gd cn cs a ccd cl outer A₀ base h₀ L m s tb Q E B F X T N ok hp hcs hd hu hret
  have XS := X.keeps F.keep
  refine wpAny_call (ent_cellsD (Q := Q) B F N T.nolimit rfl rfl hcs (XS _ _ ho) rfl (codeRec_of XS hcd) (by show dp < _; omega) (hbind s XS) hkind hnd hret (fun g L' h₁ tk cells F' N' Y' B' st kp e lt => ?_) hco hgen hk)
  exact h p loose mean mg mb dp un gd cn cs L a ccd cl outer base s tb g L' h₁ tk cells hd hu ok (hst _ _ _ (tabs_are N ok) kp hp) F' N' Y' B' (X.keeps st) (T.keeps st) lt
end
theorem con_goD {w : World} {f : Addr} {vs : List Value} {dn un' : Nat} {Pre : Heap → Prop} {Post : Value → List (Addr × Obj) → Prop} (C : ConD w f vs dn un' Pre Post)
    {p : Program} {loose : List Str} {mean : ExcName → Option Value} {mg mb : Str → Option Value} {dp un : Nat} {gd : Option (List Code)} {cn : Str} {cs : Scope} {a : Addr} {ccd : Value} {cl : List (Str × Addr)} {outer : List Env} {A₀ : Around} {base h₀ : Heap} {L : Addr} {m : Str → Option Value} {s : Shared} {news own tb : List (Addr × Obj)} {Q E : Value → Shared → Prop}
    (B : Below A₀ base outer h₀) (F : Fr h₀ L s.heap m) (X : (hd.heap_39 w.params).In h₀) (T : Top p loose mean mg mb h₀) (N : News h₀ L s.heap news) (S : Split news own tb) (hpre : Pre s.heap) (hown : ∀ p ∈ own, NoTab p.2 ∨ ∀ q ∈ tb, q.1 ≠ p.1) (hcs : cs.kind = .function)
    (hd : dp + dn < recursionLimit) (hu : un + un' < cLine)
    (h : ∀ v h' tk' dr' new tb', Fr h₀ L h' m → News h₀ L h' (new ++ (own ++ tb')) → TbsOk tb' → ApL new own → OffT tb' own → Post v new → Q v { s with heap := h', toks := tk', drawn := dr' }) :
    wpAny (model PySem.Challenge.rw_ph0148_01.row.prog w) (ktrTop dp un gd cn cs L a ccd cl outer) (call (.ref f) vs) Q E s := by
  obtain ⟨rfl, ok⟩ := S.eq
  refine C p loose mean mg mb dp un gd cn cs a ccd cl outer A₀ base h₀ L m s tb Q E B F X T (fun p hp => N p (List.mem_append_right _ hp)) ok hpre hcs hd hu fun v h' tk' dr' new tb' F' N' ok' kp ap hp => ?_
  have nt : ∀ p ∈ own, p.1 ∉ tb.map (·.1) := fun p hp hm => by
    obtain ⟨q, hq, e⟩ := List.mem_map.mp hm
    rcases hown p hp with hn | ho
    · exact apt N (List.mem_append_left _ hp) (fun q hq => List.mem_append_right _ hq) ok hn q hq e
    · exact ho q hq e
  have off : ∀ l : List (Addr × Obj), Apart (tb.map (·.1)) s.heap l → ∀ p ∈ l, ∀ q ∈ own, q.1 ≠ p.1 := fun l al p hp q hq e => nt q hq (e ▸ al p hp q.2 (e ▸ (N q (List.mem_append_left _ hq)).1))
  refine h v h' tk' dr' new tb' F' (fun p hp => ?_) ok' (ApL.of (off new fun p hp => ap p (List.mem_append_left _ hp))) (fun p hp q hq e => off tb' (fun p hp => ap p (List.mem_append_right _ hp)) q hq p hp e.symm) hp
  rcases List.mem_append.mp hp with hp | hp
  · exact N' p (List.mem_append_left _ hp)
  · rcases List.mem_append.mp hp with hp | hp
    · exact ⟨kp _ _ (N p (List.mem_append_left _ hp)).1 (nt p hp), (N p (List.mem_append_left _ hp)).2⟩
    · exact N' p (List.mem_append_right _ hp)
theorem end0D {g h : Heap} {L : Addr} {m : Str → Option Value} {s : Shared} {tk : Nat} {dr : _} {news own tb : List (Addr × Obj)} {Post : Value → List (Addr × Obj) → Prop} {v : Value} (F : Fr g L h m) (N : News g L h news) (S : Split news own tb) (hp : Post v []) : EndD g L s Post v { s with heap := h, toks := tk, drawn := dr } := by
  obtain ⟨rfl, ok⟩ := S.eq
  exact ⟨h, tk, dr, m, [], tb, rfl, F, fun p hp => N p (List.mem_append_right _ hp), ok, hp⟩
theorem end1D {g h : Heap} {L : Addr} {m : Str → Option Value} {s : Shared} {tk : Nat} {dr : _} {news own tb : List (Addr × Obj)} {Post : Value → List (Addr × Obj) → Prop} {v : Value} {q : Addr × Obj} (F : Fr g L h m) (N : News g L h news) (S : Split news own tb) (hm : q ∈ news) (hp : Post v [q]) : EndD g L s Post v { s with heap := h, toks := tk, drawn := dr } := by
  obtain ⟨rfl, ok⟩ := S.eq
  refine ⟨h, tk, dr, m, [q], tb, rfl, F, fun p hp => ?_, ok, hp⟩
  rcases List.mem_append.mp hp with hp | hp
  · rw [List.mem_singleton.mp hp]; exact N q hm
  · exact N p (List.mem_append_right _ hp)
end Mine
namespace Mine
theorem con_d {w : World} {f : Addr} {vs : List Value} {dn un : Nat} {Pre : Heap → Prop} {Post : Value → List (Addr × Obj) → Prop} (C : Con w f vs dn un Pre Post) : ConD w f vs dn un Pre Post :=
  fun p loose mean mg mb dp u gd cn cs a ccd cl outer A₀ base h₀ L m s tb Q E B F X T N ok hp hcs hd hu h => C p loose mean mg mb dp u gd cn cs a ccd cl outer A₀ base h₀ L m s tb Q E B F X T N ok hp hcs hd hu fun v h' tk' new tb' F' N' ok' kp ap hp => h v h' tk' s.drawn new tb' F' N' ok' kp ap hp
theorem con_weakD {w : World} {f : Addr} {vs : List Value} {dn un dn' un' : Nat} {Pre : Heap → Prop} {Post : Value → List (Addr × Obj) → Prop} (C : ConD w f vs dn un Pre Post) (h1 : dn ≤ dn') (h2 : un ≤ un') : ConD w f vs dn' un' Pre Post :=
  fun p loose mean mg mb dp u gd cn cs a ccd cl outer A₀ base h₀ L m s tb Q E B F X T N ok hp hcs hd hu h => C p loose mean mg mb dp u gd cn cs a ccd cl outer A₀ base h₀ L m s tb Q E B F X T N ok hp hcs (by omega) (by omega) h
end Mine
end
section
set_option maxHeartbeats 0
open PySem PySem.W PySem.Calls PyProof.Rows
namespace Mine
theorem wp_choose1 {M : Model} {A : Around} {E : Value → Shared → Prop} {s : Shared} {src : Source} {Q : Nat → Shared → Prop} (h : ∀ dr, Q 0 { s with drawn := dr }) : wpAny M A (choose src 1) Q E s := fun Γ p hΓ => by
  unfold choose
  rw [Sem.wp_choose]
  refine ⟨by decide, ?_⟩
  rw [Nat.mod_one]
  exact h _
theorem noBool_set : typeLookup (.type "set") "__bool__" = pure none := by rw [typeLookup_type, builtinLookup_eq_fast]; kernel_rfl
section
variable {prog : Program} {w : World} {A : Around} {E : Value → Shared → Prop} {s : Shared} {h₀ : Heap} {L d : Addr} {m : Str → Option Value} {news : List (Addr × Obj)} {g : Obj → List (Addr × Obj)} {o : Obj}
theorem truthy_set {S : Int → Bool} {n : Nat} {Q : Bool → Shared → Prop} (N : News h₀ L s.heap news) (hm : (d, o) ∈ news) (hs : o.SetObjOf (intKind prog w) S n) (hn : n < 4096)
    (h : Q (decide (0 < n)) { s with toks := s.toks + 1 + 1 }) : wpAny (model prog w) A (truthy (.ref d)) Q E s := by
  obtain ⟨hex, es, ep, t, hd, hel, hmem, hsz, hf⟩ := hs
  have ho := (N _ hm).1
  have hT : s.TypeIs (.ref d) "set" := ⟨o, ho, hex.1⟩
  have hne : ((es.size : Int) != 0) = decide (0 < n) := by
    rw [hsz]
    by_cases hz : n = 0
    · subst hz; rfl
    · have h1 : ((n : Int) != 0) = true := bne_iff_ne.mpr (by omega)
      rw [h1, decide_eq_true (by omega)]
  have key : wpAny (model prog w) A (runValue (.builtin "len" ⟨[.ref d], []⟩)) (fun r s' => r = .int es.size (s.toks + 1) ∧ Q (decide (0 < n)) s') E s := by
    refine wpAny_runValue (codeAny_builtin entry_len ?_)
    rw [Around.under_plainId plain_len _]
    exact wpAny_mono (wpAny_len_body_set (Q := fun r s' => r = .int es.size (s.toks + 1) ∧ Q (decide (0 < n)) s') ho hex hd hf (by omega) ⟨rfl, h⟩)
      (fun fin s' h' => by obtain ⟨r, rfl, hq⟩ := h'; exact hq) fun _ _ e => e
  unfold truthy
  first
    | refine wpAny_bind (wpAny_callSpecial?_none (name := Str.ofString "__bool__") hT noBool_set ?_)
    | refine wpAny_bind (wpAny_pure (wpAny_bind (wpAny_callSpecial?_none (name := Str.ofString "__bool__") hT noBool_set ?_)))
  first
    | refine wpAny_bind (wpAny_specialOf (name := Str.ofString "__len__") hT F.slot_set_len.lookup ?_)
    | refine wpAny_bind (wpAny_pure (wpAny_bind (wpAny_specialOf (name := Str.ofString "__len__") hT F.slot_set_len.lookup ?_)))
  first
    | exact wpAny_bind (wpAny_mono key (fun r s' h' => by obtain ⟨rfl, hq⟩ := h'; exact wpAny_pure (hne ▸ hq)) fun _ _ e => e)
    | exact wpAny_bind (wpAny_pure (wpAny_bind (wpAny_mono key (fun r s' h' => by obtain ⟨rfl, hq⟩ := h'; exact wpAny_pure (hne ▸ hq)) fun _ _ e => e)))
theorem arr_one {α : Type} {es : Array α} (h : es.size = 1) : ∃ e, es = #[e] := by
  obtain ⟨l⟩ := es
  cases l with
  | nil => cases h
  | cons e r => cases r with
    | nil => exact ⟨e, rfl⟩
    | cons _ _ => cases h
theorem getMethod_pop {S : Int → Bool} {n : Nat} {pl : Sem Bool} {Q : Value × List Value → Shared → Prop} (N : News h₀ L s.heap news) (hm : (d, o) ∈ news) (hs : o.SetObjOf (intKind prog w) S n) (h : Q (.builtin "set.pop", [.ref d]) s) :
    wpAny (model prog w) A (getMethod (.ref d) (Str.ofString "pop") pl) Q E s := by
  obtain ⟨hex, es, ep, t, hd, hel, hmem, hsz, hf⟩ := hs
  have ho := (N _ hm).1
  exact getMethod_builtin ⟨o, ho, hex.1⟩ F.plainAttrs_set F.slot_set_pop F.type_set_pop (fun b e => by injection e with e; subst e; exact ⟨o, ho, hex.2.1⟩) h
theorem min_all (a n : Nat) : min a n - 0 + 1 + (min n n - a) = n + 1 := by
  rw [Nat.min_self, Nat.sub_zero, Nat.add_right_comm]
  congr 1
  rcases Nat.le_total a n with h | h
  · rw [Nat.min_eq_left h]; exact Nat.add_sub_of_le h
  · rw [Nat.min_eq_right h, Nat.sub_eq_zero_of_le h]; rfl
theorem pop_one {S : Int → Bool} {k : Int} {Q : Value → Shared → Prop} (F' : Fr h₀ L s.heap m) (N : News h₀ L s.heap news) (U : UpdF d o news g) (hs : o.SetObjOf (intKind prog w) S 1) (hS : ∀ k', S k' = true → k' = k)
    (h : ∀ h' o' t dr, Fr h₀ L h' m → News h₀ L h' (g o') → o'.SetObjOf (intKind prog w) (fun _ => false) 0 → Q (.int k t) { s with heap := h', drawn := dr }) :
    wpAny (model prog w) A (call (.builtin "set.pop") [.ref d]) Q E s := by
  obtain ⟨pre, post, rfl, hg, a, b⟩ := U.split
  have hm := N (d, o) (List.mem_append_right _ (.head _))
  obtain ⟨hex, es, ep, t, hd, hel, hmem, hsz, hf⟩ := hs
  have ho := hm.1
  obtain ⟨e0, hes⟩ := arr_one hsz
  subst hes
  obtain ⟨⟨k0, hk0, hh0⟩, hsc⟩ := hel e0 (by simp)
  obtain ⟨t0, ht0⟩ := Value.isInt_shape hk0
  have hkk : k0 = k := hS k0 ((hmem k0).mpr ⟨e0, by simp, hk0⟩)
  have hpl : t.place.size = 1 := by
    simp only [SetTable.fits, Bool.and_eq_true, beq_iff_eq, decide_eq_true_eq] at hf
    exact hf.1
  have hpp : t.popPlace = some 0 := by
    unfold SetTable.popPlace
    rw [if_neg (by rw [Array.isEmpty_iff_size_eq_zero, hpl]; decide)]
    simp only [hpl]
    congr 1
    split
    · omega
    · rfl
  have hdone : ∀ dr, wpAny (model prog w) A.in1 (do storeSet d (SetTable.eraseAt #[e0] 0) (t.popped 0); pure (some e0.2)) (fun a s' => wpAny (model prog w) A.in1 (match a with | some x => ret x | _ => do rule "set.pop.empty"; raiseErrorWords "KeyError" "pop from an empty set") (fun fin s' => ∃ v, fin = Fin.done (Flow.ret v) ∧ Q v s') E s') E { s with drawn := dr } := fun dr => by
    have he : SetTable.eraseAt #[e0] 0 = #[] := by simp [SetTable.eraseAt]
    rw [he]
    refine wpAny_bind (wpAny_storeSet_of (s := { s with drawn := dr }) ho hd ?_ (Nat.zero_le _))
    have hf' : (t.popped 0).fits (#[] : Array (Int × Value)).size = true := by
      simp only [SetTable.fits, Bool.and_eq_true, beq_iff_eq, decide_eq_true_eq] at hf ⊢
      obtain ⟨j, hj⟩ : ∃ j, t.place[0]? = some j := ⟨t.place[0]'(by omega), Array.getElem?_eq_getElem (by omega)⟩
      have hdp : t.drop 0 = { t with place := SetTable.eraseAt t.place 0, dummies := SetTable.insertAt t.dummies (SetTable.below t.dummies j) j } := by
        unfold SetTable.drop; rw [hj]
      have e1 : (SetTable.eraseAt t.place 0).size = 0 := by simp [SetTable.eraseAt, hpl]
      have e2 : (SetTable.insertAt t.dummies (SetTable.below t.dummies j) j).size = t.dummies.size + 1 := by
        simp only [SetTable.insertAt, Array.size_append, Array.size_push, Array.size_extract]
        exact min_all _ _
      have hfl := hf.2
      simp only [SetTable.fill, hpl] at hfl
      unfold SetTable.popped
      rw [hdp]
      refine ⟨e1, ?_⟩
      simp only [SetTable.fill, e1, e2]
      omega
    obtain ⟨hg2, hS2⟩ := SetOf_store (knd := intKind prog w) ho hex hd (es' := #[]) (t' := t.popped 0) (S' := fun _ => false) (fun e he => by simp at he) (fun k => by simp) (by decide) hf'
    obtain ⟨o', ho', hso'⟩ := hS2.objOf
    refine wpAny_pure ?_
    dsimp only
    refine wpAny_pure ⟨_, rfl, ?_⟩
    rw [ht0, hkk]
    exact h _ o' t0 dr (F'.change (Heap.SameBut.update _ d _) hm.2.1 hm.2.2) (hg o' ▸ N.setIn a b (Heap.SameBut.update _ d _) ho') hso'
  refine wpAny_call_entry F.slot_set_pop ⟨o, ho, hex.1⟩ F.entry_set_pop ?_ (F.args_set_pop_1 _)
  unfold Builtin.«set.pop» Builtin.Frozenset.noArgs
  simp only [List.isEmpty_nil]
  unfold Builtin.Frozenset.addrOf setPop
  refine wpAny_bind (wpAny_pure ?_)
  try dsimp only
  refine wpAny_bind (wpAny_bind (wpAny_setState_of ho hd hf ?_))
  dsimp only
  rw [hpp]
  dsimp only
  unfold setsByText
  refine wpAny_bind (wpAny_bind (wpAny_askSetting (wpAny_pure ?_)))
  dsimp only
  have hels : ∀ dr, wpAny (model prog w) A.in1 (do
      let i ← pure 0
      match (#[e0] : Array (Int × Value))[i]? with
        | some (_, x) => do storeSet d (SetTable.eraseAt #[e0] i) (t.popped i); pure (some x)
        | _ => unsupported "internal:set.pop") (fun a s' => wpAny (model prog w) A.in1 (match a with | some x => ret x | _ => do rule "set.pop.empty"; raiseErrorWords "KeyError" "pop from an empty set") (fun fin s' => ∃ v, fin = Fin.done (Flow.ret v) ∧ Q v s') E s') E { s with drawn := dr } := fun dr =>
    wpAny_bind (wpAny_pure (hdone dr))
  cases hb : (model prog w).w.params.followText "set-order" with
  | true =>
    simp only [Bool.true_or, if_true]
    refine wpAny_bind (wp_choose1 fun dr => ?_)
    exact hdone dr
  | false =>
    simp only [Bool.false_or]
    split
    · rename_i hq
      have hq2 : (!t.plain && decide ((#[e0] : Array (Int × Value)).size > 1)) = true := hq
      simp at hq2
    · refine wpAny_bind ?_
      show wpAny _ _ (if (!t.led && decide ((#[e0] : Array (Int × Value)).size > 1)) = true then _ else pure ()) _ _ _
      rw [if_neg (by simp)]
      refine wpAny_pure ?_
      exact hels s.drawn
end
end Mine
namespace Mine
section
variable {prog : Program} {w : World} {A : Around} {E : Value → Shared → Prop} {s : Shared} {h₀ : Heap} {L d : Addr} {m : Str → Option Value} {news : List (Addr × Obj)} {g : Obj → List (Addr × Obj)} {o : Obj}
theorem truthy_set1 {S : Int → Bool} {n : Nat} {Q : Bool → Shared → Prop} (N : News h₀ L s.heap news) (hm : (d, o) ∈ news) (hs : o.SetObjOf (intKind prog w) S n) (hn : n = 1)
    (h : Q true { s with toks := s.toks + 1 + 1 }) : wpAny (model prog w) A (truthy (.ref d)) Q E s := truthy_set N hm hs (by omega) (by rw [hn]; exact h)
theorem truthy_set0 {S : Int → Bool} {n : Nat} {Q : Bool → Shared → Prop} (N : News h₀ L s.heap news) (hm : (d, o) ∈ news) (hs : o.SetObjOf (intKind prog w) S n) (hn : n = 0)
    (h : Q false { s with toks := s.toks + 1 + 1 }) : wpAny (model prog w) A (truthy (.ref d)) Q E s := truthy_set N hm hs (by omega) (by rw [hn]; exact h)
theorem one_of {k : Int} : ∀ k', (false || decide (k' = k)) = true → k' = k := fun k' h => by simpa using h
theorem pop_one' {S : Int → Bool} {n : Nat} {k : Int} {Q : Value → Shared → Prop} (F' : Fr h₀ L s.heap m) (N : News h₀ L s.heap news) (U : UpdF d o news g) (hs : o.SetObjOf (intKind prog w) S n) (hn : n = 1) (hS : ∀ k', S k' = true → k' = k)
    (h : ∀ h' o' t dr, Fr h₀ L h' m → News h₀ L h' (g o') → o'.SetObjOf (intKind prog w) (fun _ => false) 0 → Q (.int k t) { s with heap := h', drawn := dr }) :
    wpAny (model prog w) A (call (.builtin "set.pop") [.ref d]) Q E s := pop_one F' N U (hn ▸ hs) hS h
end
end Mine
end
section
set_option maxHeartbeats 0
open PySem PySem.W PySem.Calls PyProof.Rows
namespace Mine
noncomputable def Stop (p : Prop) : Prop := p
theorem stop {p : Prop} (h : Stop p) : p := h
end Mine
end
section
set_option maxHeartbeats 0
open PySem PySem.W PySem.Calls PyProof.Rows
namespace Mine
theorem post_let {β : Type} {m A} {t : Sem β} {Q : β → Shared → Prop} {E s} (h : let Q' := Q; wpAny m A t Q' E s) : wpAny m A t Q E s := h
noncomputable def SeqQ (M : Model) (A : Around) (E : Value → Shared → Prop) (env : Env) (rest : List Stmt) (Q : Flow → Shared → Prop) (f : Flow) (s' : Shared) : Prop := match f with
  | .next => wpAny M A (execs rest env) Q E s'
  | f => Q f s'
section
variable {M : Model} {A : Around} {E : Value → Shared → Prop} {env : Env} {rest : List Stmt} {st : Stmt} {Q : Flow → Shared → Prop} {s : Shared} {v : Value}
theorem seq_cons (h : let Q' := SeqQ M A E env rest Q; wpAny M A (exec st env) Q' E s) : wpAny M A (execs (st :: rest) env) Q E s :=
  wpAny_execs_cons (wpAny_mono h (fun f s' x => by cases f <;> exact x) fun _ _ x => x)
theorem seq_next (h : wpAny M A (execs rest env) Q E s) : SeqQ M A E env rest Q .next s := h
theorem seq_ret (h : Q (.ret v) s) : SeqQ M A E env rest Q (.ret v) s := h
theorem seq_brk (h : Q .brk s) : SeqQ M A E env rest Q .brk s := h
theorem seq_cont (h : Q .cont s) : SeqQ M A E env rest Q .cont s := h
end
theorem unstop {P : Prop} (h : P) : Stop P := h
theorem ex1 {α : Sort _} {p : α → Prop} {G : Prop} (h : ∃ x, p x) (k : ∀ x, p x → G) : G := h.elim k
theorem ex2 {α : Sort _} {p q : α → Prop} {G : Prop} (h : ∃ x, p x ∧ q x) (k : ∀ x, p x → q x → G) : G := h.elim fun x y => k x y.1 y.2
theorem ex3 {α : Sort _} {p q r : α → Prop} {G : Prop} (h : ∃ x, p x ∧ q x ∧ r x) (k : ∀ x, p x → q x → r x → G) : G := h.elim fun x y => k x y.1 y.2.1 y.2.2
noncomputable def OffR (r : Addr) (own : List (Addr × Obj)) : Prop := ∀ p ∈ own, @Ne Nat p.1 r
theorem OffR.get {r a : Addr} {o : Obj} {own : List (Addr × Obj)} (h : OffR r own) (m : (a, o) ∈ own) : @Ne Nat a r := h _ m
noncomputable def NeL (r : Nat) : List Nat → Prop
  | [] => True
  | a :: l => a ≠ r ∧ NeL r l
theorem NeL.get {r a : Nat} : ∀ {l : List Nat}, NeL r l → a ∈ l → @Ne Nat a r
  | _ :: _, h, .head _ => h.1
  | _ :: _, h, .tail _ m => NeL.get h.2 m
theorem fold8 {r a b c d e f g i : Nat} {P : Prop} (h : a ≠ r ∧ b ≠ r ∧ c ≠ r ∧ d ≠ r ∧ e ≠ r ∧ f ≠ r ∧ g ≠ r ∧ i ≠ r ∧ P) : NeL r [a, b, c, d, e, f, g, i] := ⟨h.1, h.2.1, h.2.2.1, h.2.2.2.1, h.2.2.2.2.1, h.2.2.2.2.2.1, h.2.2.2.2.2.2.1, h.2.2.2.2.2.2.2.1, trivial⟩
theorem fold10 {r a b c d e f g i x y : Nat} {P : Prop} (h : x ≠ r ∧ y ≠ r ∧ a ≠ r ∧ b ≠ r ∧ c ≠ r ∧ d ≠ r ∧ e ≠ r ∧ f ≠ r ∧ g ≠ r ∧ i ≠ r ∧ P) : NeL r [x, y, a, b, c, d, e, f, g, i] := ⟨h.1, h.2.1, fold8 h.2.2⟩
theorem own3 {a b c k : Int} (h : k < 0 + ((3 - 0 : Int).toNat : Int)) : k < (([a, b, c] : List Int).length : Int) := h
theorem off1_get {D a : Addr} {o : Obj} : ∀ {l : List (Addr × Obj)}, LCg.Off1 D l → (a, o) ∈ l → @Ne Nat a D
  | _ :: _, h, .head _ => h.1
  | _ :: _, h, .tail _ m => off1_get h.2 m
theorem noTab_seq {c : Value} {d : Option Addr} {vs : Array Value} {n : Nat} {sl : Array (Option Value)} : NoTab ⟨c, d, .seq vs n, sl⟩ := noTab_of rfl (by intro vs e; cases e)
theorem noTab_cell {o : Obj} {v : Option Value} (e : o.data = .cell v) : NoTab o := noTab_of e (by intro vs e; cases e)
theorem own_tab {x : Addr × Obj} {l tb : List (Addr × Obj)} (h : NoTab x.2) (k : ∀ p ∈ l, NoTab p.2 ∨ ∀ q ∈ tb, @Ne Nat q.1 p.1) : ∀ p ∈ x :: l, NoTab p.2 ∨ ∀ q ∈ tb, @Ne Nat q.1 p.1 := List.forall_mem_cons.mpr ⟨.inl h, k⟩
theorem own_off {x : Addr × Obj} {l tb : List (Addr × Obj)} (h : ∀ q ∈ tb, @Ne Nat q.1 x.1) (k : ∀ p ∈ l, NoTab p.2 ∨ ∀ q ∈ tb, @Ne Nat q.1 p.1) : ∀ p ∈ x :: l, NoTab p.2 ∨ ∀ q ∈ tb, @Ne Nat q.1 p.1 := List.forall_mem_cons.mpr ⟨.inr h, k⟩
theorem own_nil {tb : List (Addr × Obj)} : ∀ p ∈ ([] : List (Addr × Obj)), NoTab p.2 ∨ ∀ q ∈ tb, @Ne Nat q.1 p.1 := List.forall_mem_nil _
section
variable {w : World} {f : Addr} {vs : List Value} {dn un' : Nat} {Pre : Heap → Prop}
    {p : Program} {loose : List Str} {mean : ExcName → Option Value} {mg mb : Str → Option Value} {dp un : Nat} {gd : Option (List Code)} {cn : Str} {cs : Scope} {a : Addr} {ccd : Value} {cl : List (Str × Addr)} {outer : List Env} {A₀ : Around} {base h₀ : Heap} {L : Addr} {m : Str → Option Value}
    {hp : Heap} {gs : Array GenState} {dr : Drawn} {tk : Nat} {os : OsState} {news own tb : List (Addr × Obj)} {Q E : Value → Shared → Prop}
theorem apR {r : Addr} {o : Obj} : ∀ {own : List (Addr × Obj)}, ApL [(r, o)] own → OffR r own
  | [], _, _, h => (nomatch h)
  | _ :: _, h, _, .head _ => h.1 _ (.head _)
  | _ :: _, h, _, .tail _ m => apR h.2 _ m
theorem go_val {V : Tok → Value} (C : Con w f vs dn un' Pre (fun v new => (∃ t, v = V t) ∧ new = []))
    (B : Below A₀ base outer h₀) (F : Fr h₀ L hp m) (X : (hd.heap_39 w.params).In h₀) (T : Top p loose mean mg mb h₀) (N : News h₀ L hp news) (S : Split news own tb) (hpre : Pre hp) (hown : ∀ p ∈ own, NoTab p.2 ∨ ∀ q ∈ tb, @Ne Nat q.1 p.1) (hcs : cs.kind = .function)
    (hd : dp + dn < recursionLimit) (hu : un + un' < cLine)
    (h : ∀ t h' tk' tb', Fr h₀ L h' m → News h₀ L h' (own ++ tb') → TbsOk tb' → OffT tb' own → Q (V t) ⟨h', gs, dr, tk', os⟩) :
    wpAny (model PySem.Challenge.rw_ph0148_01.row.prog w) (ktrTop dp un gd cn cs L a ccd cl outer) (call (.ref f) vs) Q E ⟨hp, gs, dr, tk, os⟩ :=
  con_go C B F X T N S hpre hown hcs hd hu fun v h' tk' new tb' F' N' ok' _ of' hp => by obtain ⟨⟨t, rfl⟩, rfl⟩ := hp; exact h t h' tk' tb' F' N' ok' of'
theorem go_pass {V : Tok → Value} {P : Prop} (C : Con w f vs dn un' Pre (fun v new => (∃ t, v = V t) ∧ new = [] ∧ P))
    (B : Below A₀ base outer h₀) (F : Fr h₀ L hp m) (X : (hd.heap_39 w.params).In h₀) (T : Top p loose mean mg mb h₀) (N : News h₀ L hp news) (S : Split news own tb) (hpre : Pre hp) (hown : ∀ p ∈ own, NoTab p.2 ∨ ∀ q ∈ tb, @Ne Nat q.1 p.1) (hcs : cs.kind = .function)
    (hd : dp + dn < recursionLimit) (hu : un + un' < cLine)
    (h : ∀ t h' tk' tb', Fr h₀ L h' m → News h₀ L h' (own ++ tb') → TbsOk tb' → OffT tb' own → P → Q (V t) ⟨h', gs, dr, tk', os⟩) :
    wpAny (model PySem.Challenge.rw_ph0148_01.row.prog w) (ktrTop dp un gd cn cs L a ccd cl outer) (call (.ref f) vs) Q E ⟨hp, gs, dr, tk, os⟩ :=
  con_go C B F X T N S hpre hown hcs hd hu fun v h' tk' new tb' F' N' ok' _ of' hp => by obtain ⟨⟨t, rfl⟩, rfl, hP⟩ := hp; exact h t h' tk' tb' F' N' ok' of' hP
theorem go_tup2 {O : Tok → Tok → Obj} (C : Con w f vs dn un' Pre (fun v new => ∃ r u1 u2, v = .ref r ∧ new = [(r, O u1 u2)]))
    (B : Below A₀ base outer h₀) (F : Fr h₀ L hp m) (X : (hd.heap_39 w.params).In h₀) (T : Top p loose mean mg mb h₀) (N : News h₀ L hp news) (S : Split news own tb) (hpre : Pre hp) (hown : ∀ p ∈ own, NoTab p.2 ∨ ∀ q ∈ tb, @Ne Nat q.1 p.1) (hcs : cs.kind = .function)
    (hd : dp + dn < recursionLimit) (hu : un + un' < cLine)
    (h : ∀ r u1 u2 h' tk' tb', Fr h₀ L h' m → News h₀ L h' ((r, O u1 u2) :: (own ++ tb')) → TbsOk tb' → OffR r own → OffT tb' own → Q (.ref r) ⟨h', gs, dr, tk', os⟩) :
    wpAny (model PySem.Challenge.rw_ph0148_01.row.prog w) (ktrTop dp un gd cn cs L a ccd cl outer) (call (.ref f) vs) Q E ⟨hp, gs, dr, tk, os⟩ :=
  con_go C B F X T N S hpre hown hcs hd hu fun v h' tk' new tb' F' N' ok' ap of' hp => by obtain ⟨r, u1, u2, rfl, rfl⟩ := hp; exact h r u1 u2 h' tk' tb' F' N' ok' (apR ap) of'
theorem go_tup3 {O : Tok → Tok → Tok → Obj} (C : Con w f vs dn un' Pre (fun v new => ∃ r u1 u2 u3, v = .ref r ∧ new = [(r, O u1 u2 u3)]))
    (B : Below A₀ base outer h₀) (F : Fr h₀ L hp m) (X : (hd.heap_39 w.params).In h₀) (T : Top p loose mean mg mb h₀) (N : News h₀ L hp news) (S : Split news own tb) (hpre : Pre hp) (hown : ∀ p ∈ own, NoTab p.2 ∨ ∀ q ∈ tb, @Ne Nat q.1 p.1) (hcs : cs.kind = .function)
    (hd : dp + dn < recursionLimit) (hu : un + un' < cLine)
    (h : ∀ r u1 u2 u3 h' tk' tb', Fr h₀ L h' m → News h₀ L h' ((r, O u1 u2 u3) :: (own ++ tb')) → TbsOk tb' → OffR r own → OffT tb' own → Q (.ref r) ⟨h', gs, dr, tk', os⟩) :
    wpAny (model PySem.Challenge.rw_ph0148_01.row.prog w) (ktrTop dp un gd cn cs L a ccd cl outer) (call (.ref f) vs) Q E ⟨hp, gs, dr, tk, os⟩ :=
  con_go C B F X T N S hpre hown hcs hd hu fun v h' tk' new tb' F' N' ok' ap of' hp => by obtain ⟨r, u1, u2, u3, rfl, rfl⟩ := hp; exact h r u1 u2 u3 h' tk' tb' F' N' ok' (apR ap) of'
theorem go_div {O : Tok → Tok → Obj} {c P : Prop} (C : Con w f vs dn un' Pre (fun v new => (∃ r u1 u2, v = .ref r ∧ new = [(r, O u1 u2)]) ∧ (c → P)))
    (B : Below A₀ base outer h₀) (F : Fr h₀ L hp m) (X : (hd.heap_39 w.params).In h₀) (T : Top p loose mean mg mb h₀) (N : News h₀ L hp news) (S : Split news own tb) (hpre : Pre hp) (hown : ∀ p ∈ own, NoTab p.2 ∨ ∀ q ∈ tb, @Ne Nat q.1 p.1) (hcs : cs.kind = .function)
    (hd : dp + dn < recursionLimit) (hu : un + un' < cLine)
    (h : ∀ r u1 u2 h' tk' tb', Fr h₀ L h' m → News h₀ L h' ((r, O u1 u2) :: (own ++ tb')) → TbsOk tb' → OffR r own → OffT tb' own → (c → P) → Q (.ref r) ⟨h', gs, dr, tk', os⟩) :
    wpAny (model PySem.Challenge.rw_ph0148_01.row.prog w) (ktrTop dp un gd cn cs L a ccd cl outer) (call (.ref f) vs) Q E ⟨hp, gs, dr, tk, os⟩ :=
  con_go C B F X T N S hpre hown hcs hd hu fun v h' tk' new tb' F' N' ok' ap of' hp => by obtain ⟨⟨r, u1, u2, rfl, rfl⟩, hP⟩ := hp; exact h r u1 u2 h' tk' tb' F' N' ok' (apR ap) of' hP
end
end Mine
end
section
set_option maxHeartbeats 0
open PySem PySem.W PySem.Calls PyProof.Rows
namespace Mine
section
variable {h₀ : Heap} {L : Addr} {m : Str → Option Value} {g : Heap} {gs : Array GenState} {dr : Drawn} {tk : Nat} {os : OsState} {ys : List Value} {news : List (Addr × Obj)}
theorem finE {Q : Value → Shared → Prop} (h : ∀ D h tk', Fr h₀ L h m → News h₀ L h ((D, LCg.lst ys) :: news) → LCg.Off1 D news → Q (.ref D) ⟨h, gs, dr, tk', os⟩) : LCg.FinE h₀ L m ⟨g, gs, dr, tk, os⟩ Q ys news := h
theorem finA {y : Str} {Q : Flow → Shared → Prop} (h : ∀ D h tk', Fr h₀ L h (fun z => if z = y then some (.ref D) else m z) → News h₀ L h ((D, LCg.lst ys) :: news) → LCg.Off1 D news → Q .next ⟨h, gs, dr, tk', os⟩) : LCg.FinA h₀ L m ⟨g, gs, dr, tk, os⟩ y Q ys news := h
end
theorem len_succ {n : Nat} {ys : List Value} (h : ys.length = n + 1) : ∃ a r, ys = a :: r ∧ r.length = n := by
  cases ys with
  | nil => cases h
  | cons a r => exact ⟨a, r, rfl, Nat.succ.inj h⟩
theorem len_zero {ys : List Value} (h : ys.length = 0) : ys = [] := List.eq_nil_of_length_eq_zero h
/-- a list whose items are told one by one: its items and the rest -/
theorem told_cons {V : Nat → Tok → Value} {n : Nat} {ys : List Value} (h : ys.length = n + 1 ∧ ∀ i y, ys[i]? = some y → ∃ t, y = V i t) : ∃ u r, ys = V 0 u :: r ∧ r.length = n ∧ ∀ i y, r[i]? = some y → ∃ t, y = V (i + 1) t := by
  obtain ⟨a, r, rfl, hr⟩ := len_succ h.1
  obtain ⟨u, rfl⟩ := h.2 0 _ rfl
  exact ⟨u, r, rfl, hr, fun i y hy => h.2 (i + 1) y hy⟩
theorem told_step {V : Nat → Tok → Value} {n : Nat} {P : List Value → Prop} (k : ∀ u r, r.length = n → (∀ i y, r[i]? = some y → ∃ t, y = V (i + 1) t) → P (V 0 u :: r)) : ∀ ys : List Value, ys.length = n + 1 → (∀ i y, ys[i]? = some y → ∃ t, y = V i t) → P ys := fun ys h1 h2 => by
  obtain ⟨u, r, rfl, a, b⟩ := told_cons ⟨h1, h2⟩
  exact k u r a b
theorem told_nil {V : Nat → Tok → Value} {P : List Value → Prop} (k : P []) : ∀ ys : List Value, ys.length = 0 → (∀ i y, ys[i]? = some y → ∃ t, y = V i t) → P ys := fun ys h1 _ => by
  rw [len_zero h1]
  exact k
theorem comp_gen {prog : Program} {w : World} {A : Around} {h₀ : Heap} {L : Addr} {m : Str → Option Value} {env : Env} {elt : Expr} {x : Str} {scope : Scope} {cl : List (Str × Addr)} {Fin : Shared → List Value → List (Addr × Obj) → Prop} {ax : Addr} {its : Array Value} {k : Nat} {news own tb : List (Addr × Obj)}
    {hp : Heap} {gs : Array GenState} {dr : Drawn} {tk : Nat} {os : OsState}
    (V : Nat → Tok → Value) (hh : A.handled = none) (F : Fr h₀ L hp m) (N : News h₀ L hp news) (S : Split news own tb) (hm : (ax, ({ cls := .type "list", data := .seq its k } : Obj)) ∈ own) (hsz : its.size ≤ sizeLine)
    (turn : ∀ i v I oI C oC D m₂ h tk ys tb (Q E' : Value → Shared → Prop), i < its.size → its[i]? = some v → LCg.NsObj oC m₂ → m₂ x = some v → TbsOk tb → Fr h₀ L h m → News h₀ L h ((I, oI) :: (C, oC) :: (D, LCg.lst ys) :: (own ++ tb)) → OffT tb [(I, oI), (C, oC), (D, LCg.lst ys)] →
      (∀ t h' tk' tb', Fr h₀ L h' m → News h₀ L h' ((I, oI) :: (C, oC) :: (D, LCg.lst ys) :: (own ++ tb')) → TbsOk tb' → OffT tb' [(I, oI), (C, oC), (D, LCg.lst ys)] → Q (V i t) ⟨h', gs, dr, tk', os⟩) →
      wpAny (model prog w) A (eval elt (compEnvC scope cl C env)) Q E' ⟨h, gs, dr, tk, os⟩)
    (fin : ∀ (g : Heap) ys tb, TbsOk tb → ys.length = its.size → (∀ i y, ys[i]? = some y → ∃ t, y = V i t) → Fin ⟨g, gs, dr, tk, os⟩ ys (own ++ tb)) :
    LCg.CompSrc prog w A h₀ L m env elt x scope cl Fin (.ref ax) ⟨hp, gs, dr, tk, os⟩ :=
  comp_src (s₁ := ⟨hp, gs, dr, tk, os⟩) (fun i y => ∃ t, y = V i t) hh F N S hm hsz
    (fun i v I oI C oC D m₂ h tk ys tb Q E' hi hv hC hx ok F N of k => turn i v I oI C oC D m₂ h tk ys tb Q E' hi hv hC hx ok F N of fun t h' tk' tb' F' N' ok' of' => k _ h' tk' tb' F' N' ok' of' ⟨t, rfl⟩) fin
theorem comp_8 {prog : Program} {w : World} {A : Around} {h₀ : Heap} {L : Addr} {m : Str → Option Value} {env : Env} {elt : Expr} {x : Str} {scope : Scope} {cl : List (Str × Addr)} {Fin : Shared → List Value → List (Addr × Obj) → Prop} {ax : Addr} {vs : List Value} {k : Nat} {news own tb : List (Addr × Obj)}
    {hp : Heap} {gs : Array GenState} {dr : Drawn} {tk : Nat} {os : OsState}
    (V : Nat → Tok → Value) (W : Nat → Tok → Value) (h8 : vs.length = 8) (hW : ∀ i v, vs[i]? = some v → ∃ t, v = W i t) (hh : A.handled = none) (F : Fr h₀ L hp m) (N : News h₀ L hp news) (S : Split news own tb) (hm : (ax, ({ cls := .type "list", data := .seq vs.toArray k } : Obj)) ∈ own)
    (turn : ∀ i u I oI C oC D m₂ h tk ys tb (Q E' : Value → Shared → Prop), i < 8 → LCg.NsObj oC m₂ → m₂ x = some (W i u) → TbsOk tb → Fr h₀ L h m → News h₀ L h ((I, oI) :: (C, oC) :: (D, LCg.lst ys) :: (own ++ tb)) → OffT tb [(I, oI), (C, oC), (D, LCg.lst ys)] →
      (∀ t h' tk' tb', Fr h₀ L h' m → News h₀ L h' ((I, oI) :: (C, oC) :: (D, LCg.lst ys) :: (own ++ tb')) → TbsOk tb' → OffT tb' [(I, oI), (C, oC), (D, LCg.lst ys)] → Q (V i t) ⟨h', gs, dr, tk', os⟩) →
      wpAny (model prog w) A (eval elt (compEnvC scope cl C env)) Q E' ⟨h, gs, dr, tk, os⟩)
    (fin : ∀ (g : Heap) u0 u1 u2 u3 u4 u5 u6 u7 tb, TbsOk tb → Fin ⟨g, gs, dr, tk, os⟩ [V 0 u0, V 1 u1, V 2 u2, V 3 u3, V 4 u4, V 5 u5, V 6 u6, V 7 u7] (own ++ tb)) :
    LCg.CompSrc prog w A h₀ L m env elt x scope cl Fin (.ref ax) ⟨hp, gs, dr, tk, os⟩ :=
  comp_gen V hh F N S hm (by rw [List.size_toArray, h8]; decide) (fun i v I oI C oC D m₂ h tk ys tb Q E' hi hv hC hx ok F N of k => by
      obtain ⟨u, rfl⟩ := hW i v (by simpa using hv)
      exact turn i u I oI C oC D m₂ h tk ys tb Q E' (by rw [List.size_toArray, h8] at hi; exact hi) hC hx ok F N of k)
    fun g ys tb ok hl hf => by
      revert ys
      suffices h : ∀ ys : List Value, ys.length = 8 → (∀ i y, ys[i]? = some y → ∃ t, y = V i t) → Fin ⟨g, gs, dr, tk, os⟩ ys (own ++ tb) from fun ys hl hf => h ys (hl.trans (List.size_toArray.trans h8)) hf
      refine told_step fun u0 r h1 h2 => told_step (V := fun i => V (i + 1)) (P := fun r => Fin ⟨g, gs, dr, tk, os⟩ (V 0 u0 :: r) (own ++ tb)) (fun u1 r h1 h2 => ?_) r h1 h2
      refine told_step (V := fun i => V (i + 2)) (P := fun r => Fin ⟨g, gs, dr, tk, os⟩ (V 0 u0 :: V 1 u1 :: r) (own ++ tb)) (fun u2 r h1 h2 => ?_) r h1 h2
      refine told_step (V := fun i => V (i + 3)) (P := fun r => Fin ⟨g, gs, dr, tk, os⟩ (V 0 u0 :: V 1 u1 :: V 2 u2 :: r) (own ++ tb)) (fun u3 r h1 h2 => ?_) r h1 h2
      refine told_step (V := fun i => V (i + 4)) (P := fun r => Fin ⟨g, gs, dr, tk, os⟩ (V 0 u0 :: V 1 u1 :: V 2 u2 :: V 3 u3 :: r) (own ++ tb)) (fun u4 r h1 h2 => ?_) r h1 h2
      refine told_step (V := fun i => V (i + 5)) (P := fun r => Fin ⟨g, gs, dr, tk, os⟩ (V 0 u0 :: V 1 u1 :: V 2 u2 :: V 3 u3 :: V 4 u4 :: r) (own ++ tb)) (fun u5 r h1 h2 => ?_) r h1 h2
      refine told_step (V := fun i => V (i + 6)) (P := fun r => Fin ⟨g, gs, dr, tk, os⟩ (V 0 u0 :: V 1 u1 :: V 2 u2 :: V 3 u3 :: V 4 u4 :: V 5 u5 :: r) (own ++ tb)) (fun u6 r h1 h2 => ?_) r h1 h2
      refine told_step (V := fun i => V (i + 7)) (P := fun r => Fin ⟨g, gs, dr, tk, os⟩ (V 0 u0 :: V 1 u1 :: V 2 u2 :: V 3 u3 :: V 4 u4 :: V 5 u5 :: V 6 u6 :: r) (own ++ tb)) (fun u7 r h1 h2 => ?_) r h1 h2
      rw [len_zero h1]
      exact fin g u0 u1 u2 u3 u4 u5 u6 u7 tb ok
theorem comp_T {prog : Program} {w : World} {A : Around} {h₀ : Heap} {L : Addr} {m : Str → Option Value} {env : Env} {ct elt : Expr} {x : Str} {scope : Scope} {cl : List (Str × Addr)} {Fin : Shared → List Value → List (Addr × Obj) → Prop} {r : Addr} {a b : Int} {t u v : Tok} {n : Nat} {own : List (Addr × Obj)}
    {hp : Heap} {gs : Array GenState} {dr : Drawn} {tk : Nat} {os : OsState} {z : Int}
    (p : Nat → Bool) (hp1 : ((List.range n).filter p).map (fun (j : Nat) => a + (j : Int)) = [z]) (hh : A.handled = none) (F : Fr h₀ L hp m) (N : News h₀ L hp own) (hr : IsRange hp r a b 1 t u v) (hsm : Builtin.Range.small a b 1 = true) (hn : Builtin.Range.rangeSize a b 1 = ((n : Nat) : Int)) (hsz : n ≤ sizeLine)
    (test : ∀ i t I oI C oC D m₂ h tk ys (Q : Bool → Shared → Prop) (E' : Value → Shared → Prop), i < n → LCg.NsObj oC m₂ → m₂ x = some (.int (a + (i : Int)) t) → Fr h₀ L h m → News h₀ L h ((I, oI) :: (C, oC) :: (D, LCg.lst ys) :: own) →
      (∀ h' tk', Fr h₀ L h' m → News h₀ L h' ((I, oI) :: (C, oC) :: (D, LCg.lst ys) :: own) → Q (p i) ⟨h', gs, dr, tk', os⟩) →
      wpAny (model prog w) A (isTrue ct (compEnvC scope cl C env) (eval ct (compEnvC scope cl C env))) Q E' ⟨h, gs, dr, tk, os⟩)
    (el : ∀ v I oI C oC D m₂ h tk ys (Q E' : Value → Shared → Prop), LCg.NsObj oC m₂ → m₂ x = some v → Fr h₀ L h m → News h₀ L h ((I, oI) :: (C, oC) :: (D, LCg.lst ys) :: own) → Q v ⟨h, gs, dr, tk, os⟩ →
      wpAny (model prog w) A (eval elt (compEnvC scope cl C env)) Q E' ⟨h, gs, dr, tk, os⟩)
    (fin : ∀ (g : Heap) t, Fin ⟨g, gs, dr, tk, os⟩ [.int z t] own) :
    LCt.CompSrcT prog w A h₀ L m env ct elt x scope cl Fin (.ref r) ⟨hp, gs, dr, tk, os⟩ :=
  comp_srcT (s₁ := ⟨hp, gs, dr, tk, os⟩) p hh F N hr hsm hn hsz
    (fun i v I oI C oC D m₂ h tk ys Q E' hi hv => by obtain ⟨t, rfl⟩ := hv; exact test i t I oI C oC D m₂ h tk ys Q E' hi) el
    fun g ys hi => by rw [hp1] at hi; obtain ⟨t, rfl⟩ := ints_one hi; exact fin g t
theorem comp_4 {prog : Program} {w : World} {A : Around} {h₀ : Heap} {L : Addr} {m : Str → Option Value} {env : Env} {elt : Expr} {x : Str} {scope : Scope} {cl : List (Str × Addr)} {Fin : Shared → List Value → List (Addr × Obj) → Prop} {ax : Addr} {i0 i1 i2 i3 : Value} {k : Nat} {news own tb : List (Addr × Obj)}
    {hp : Heap} {gs : Array GenState} {dr : Drawn} {tk : Nat} {os : OsState}
    (V : Nat → Tok → Value) {W : Nat → Value → Prop} (hW : ∀ i v, (#[i0, i1, i2, i3] : Array Value)[i]? = some v → W i v) (hh : A.handled = none) (F : Fr h₀ L hp m) (N : News h₀ L hp news) (S : Split news own tb) (hm : (ax, ({ cls := .type "list", data := .seq #[i0, i1, i2, i3] k } : Obj)) ∈ own)
    (turn : ∀ i v I oI C oC D m₂ h tk ys tb (Q E' : Value → Shared → Prop), W i v → LCg.NsObj oC m₂ → m₂ x = some v → TbsOk tb → Fr h₀ L h m → News h₀ L h ((I, oI) :: (C, oC) :: (D, LCg.lst ys) :: (own ++ tb)) → OffT tb [(I, oI), (C, oC), (D, LCg.lst ys)] →
      (∀ t h' tk' tb', Fr h₀ L h' m → News h₀ L h' ((I, oI) :: (C, oC) :: (D, LCg.lst ys) :: (own ++ tb')) → TbsOk tb' → OffT tb' [(I, oI), (C, oC), (D, LCg.lst ys)] → Q (V i t) ⟨h', gs, dr, tk', os⟩) →
      wpAny (model prog w) A (eval elt (compEnvC scope cl C env)) Q E' ⟨h, gs, dr, tk, os⟩)
    (fin : ∀ (g : Heap) u0 u1 u2 u3 tb, TbsOk tb → Fin ⟨g, gs, dr, tk, os⟩ [V 0 u0, V 1 u1, V 2 u2, V 3 u3] (own ++ tb)) :
    LCg.CompSrc prog w A h₀ L m env elt x scope cl Fin (.ref ax) ⟨hp, gs, dr, tk, os⟩ :=
  comp_gen V hh F N S hm (Nat.le_of_ble_eq_true rfl) (fun i v I oI C oC D m₂ h tk ys tb Q E' _ hv => turn i v I oI C oC D m₂ h tk ys tb Q E' (hW i v hv))
    fun g ys tb ok hl hf => by
      refine told_step (n := 3) (V := V) (P := fun r => Fin ⟨g, gs, dr, tk, os⟩ r (own ++ tb)) (fun u0 r h1 h2 => ?_) ys hl hf
      refine told_step (V := fun i => V (i + 1)) (P := fun r => Fin ⟨g, gs, dr, tk, os⟩ (V 0 u0 :: r) (own ++ tb)) (fun u1 r h1 h2 => ?_) r h1 h2
      refine told_step (V := fun i => V (i + 2)) (P := fun r => Fin ⟨g, gs, dr, tk, os⟩ (V 0 u0 :: V 1 u1 :: r) (own ++ tb)) (fun u2 r h1 h2 => ?_) r h1 h2
      refine told_step (V := fun i => V (i + 3)) (P := fun r => Fin ⟨g, gs, dr, tk, os⟩ (V 0 u0 :: V 1 u1 :: V 2 u2 :: r) (own ++ tb)) (fun u3 r h1 h2 => ?_) r h1 h2
      rw [len_zero h1]
      exact fin g u0 u1 u2 u3 tb ok
end Mine
end
section
set_option maxHeartbeats 0
open PySem PySem.W PySem.Calls PyProof.Rows
namespace Mine
section
variable {w : World} {f : Addr} {vs : List Value} {dn un' : Nat} {Pre : Heap → Prop}
    {p : Program} {loose : List Str} {mean : ExcName → Option Value} {mg mb : Str → Option Value} {dp un : Nat} {gd : Option (List Code)} {cn : Str} {cs : Scope} {a : Addr} {ccd : Value} {cl : List (Str × Addr)} {outer : List Env} {A₀ : Around} {base h₀ : Heap} {L : Addr} {m : Str → Option Value}
    {hp : Heap} {gs : Array GenState} {dr : Drawn} {tk : Nat} {os : OsState} {news own tb : List (Addr × Obj)} {Q E : Value → Shared → Prop}
theorem go_valD {V : Tok → Value} (C : ConD w f vs dn un' Pre (fun v new => (∃ t, v = V t) ∧ new = []))
    (B : Below A₀ base outer h₀) (F : Fr h₀ L hp m) (X : (hd.heap_39 w.params).In h₀) (T : Top p loose mean mg mb h₀) (N : News h₀ L hp news) (S : Split news own tb) (hpre : Pre hp) (hown : ∀ p ∈ own, NoTab p.2 ∨ ∀ q ∈ tb, @Ne Nat q.1 p.1) (hcs : cs.kind = .function)
    (hd : dp + dn < recursionLimit) (hu : un + un' < cLine)
    (h : ∀ t h' tk' dr' tb', Fr h₀ L h' m → News h₀ L h' (own ++ tb') → TbsOk tb' → OffT tb' own → Q (V t) ⟨h', gs, dr', tk', os⟩) :
    wpAny (model PySem.Challenge.rw_ph0148_01.row.prog w) (ktrTop dp un gd cn cs L a ccd cl outer) (call (.ref f) vs) Q E ⟨hp, gs, dr, tk, os⟩ :=
  con_goD C B F X T N S hpre hown hcs hd hu fun v h' tk' dr' new tb' F' N' ok' _ of' hp => by obtain ⟨⟨t, rfl⟩, rfl⟩ := hp; exact h t h' tk' dr' tb' F' N' ok' of'
end
end Mine
end
section
set_option maxHeartbeats 0
open PySem PySem.W PySem.Calls PyProof.Rows
namespace Mine
noncomputable def valD (β : Int) : List Int → Int
  | [] => 0
  | d :: r => d + β * valD β r
theorem valD_append {β : Int} (ys : List Int) : ∀ xs : List Int, valD β (xs ++ ys) = valD β xs + β ^ xs.length * valD β ys
  | [] => by simp [valD]
  | x :: r => by
    show x + β * valD β (r ++ ys) = x + β * valD β r + β ^ (r.length + 1) * valD β ys
    rw [valD_append ys r, Int.mul_add, ← Int.mul_assoc, ← Int.pow_succ', Int.add_assoc]
theorem and_high (X s : Nat) : X &&& (X / 2 ^ s * 2 ^ s) = X / 2 ^ s * 2 ^ s := by
  refine Nat.eq_of_testBit_eq fun i => ?_
  rw [Nat.testBit_and, Nat.testBit_mul_two_pow, Nat.testBit_div_two_pow]
  by_cases h : s ≤ i
  · rw [show i - s + s = i by omega]
    simp
  · simp [h]
theorem xor_low {x : Int} {s : Nat} (hx : 0 ≤ x) : Builtin.bitXor x (x / 2 ^ s * 2 ^ s) = x % 2 ^ s := by
  obtain ⟨X, rfl⟩ := Int.eq_ofNat_of_zero_le hx
  have e : ((X : Int) / 2 ^ s * 2 ^ s) = ((X / 2 ^ s * 2 ^ s : Nat) : Int) := by simp
  unfold Builtin.bitXor
  rw [bitOr_and, e, bitAnd_pp (by omega) (by omega)]
  have e2 : ((X : Int)).toNat = X := by simp
  have e3 : (((X / 2 ^ s * 2 ^ s : Nat) : Int)).toNat = X / 2 ^ s * 2 ^ s := by simp only [Int.toNat_natCast]
  rw [e2, e3, and_high]
  have e4 : ((X : Int) % 2 ^ s) = ((X % 2 ^ s : Nat) : Int) := by simp
  rw [e4]
  have := Nat.div_add_mod X (2 ^ s)
  have e5 : 2 ^ s * (X / 2 ^ s) = X / 2 ^ s * 2 ^ s := Nat.mul_comm _ _
  omega
theorem pow_pos' (k : Nat) : (0 : Int) < 2 ^ k := Int.pow_pos (by decide)
theorem split_low {x : Int} {N p q : Nat} (_h0 : 0 ≤ x) (h : x < 2 ^ (N * (p + q))) : (0 ≤ x % 2 ^ (N * p) ∧ x % 2 ^ (N * p) < 2 ^ (N * p)) ∧ (0 ≤ x / 2 ^ (N * p) ∧ x / 2 ^ (N * p) < 2 ^ (N * q)) ∧ x % 2 ^ (N * p) + 2 ^ (N * p) * (x / 2 ^ (N * p)) = x := by
  have hp := pow_pos' (N * p)
  refine ⟨⟨Int.emod_nonneg _ (by omega), Int.emod_lt_of_pos _ hp⟩, ⟨Int.ediv_nonneg _h0 (by omega), ?_⟩, by rw [Int.add_comm]; exact Int.mul_ediv_add_emod _ _⟩
  refine Int.ediv_lt_of_lt_mul hp ?_
  rw [← Int.pow_add, ← Nat.mul_add, Nat.add_comm q p]
  exact h
end Mine
end
section
set_option maxHeartbeats 0
open PySem PySem.W PySem.Calls PyProof.Rows
namespace Mine
theorem bits_facts {a : Int} (h0 : 0 ≤ a) : a < 2 ^ (Builtin.Int.intBits a) ∧ (∀ k : Nat, a < 2 ^ k → Builtin.Int.intBits a ≤ k) := by
  obtain ⟨A, rfl⟩ := Int.eq_ofNat_of_zero_le h0
  unfold Builtin.Int.intBits
  by_cases hz : A = 0
  · subst hz; exact ⟨by decide, fun k _ => by simp⟩
  · have hb : (((A : Int) == 0) = false) := beq_eq_false_iff_ne.mpr (by omega)
    rw [hb]
    simp only [Bool.false_eq_true, if_false, Int.natAbs_natCast]
    have h1 : A < 2 ^ (A.log2 + 1) := Nat.lt_log2_self
    refine ⟨by exact_mod_cast h1, fun k hk => ?_⟩
    have h2 : A < 2 ^ k := by exact_mod_cast hk
    have := (Nat.log2_lt hz).mpr h2
    omega
section
variable {prog : Program} {w : World} {A : Around} {E : Value → Shared → Prop} {s : Shared} {a b sh x U : Int} {t u : Tok} {Q : Value → Shared → Prop}
theorem bits_K (h0 : 0 ≤ a ∧ a ≤ 8000001) (h : ∀ (B : Int) (k : Nat), B = (k : Int) → k ≤ 23 → a < 2 ^ k → (a < 1000 → B ≤ 10) → (1 ≤ a → 1 ≤ B) → (2 ≤ a → 2 ≤ B) → (a ≤ 0 → B = 0) → Q (.int B s.toks) { s with toks := s.toks + 1 }) :
    wpAny (model prog w) A (call (.builtin "int.bit_length") [.int a t]) Q E s := by
  obtain ⟨h1, h2⟩ := bits_facts h0.1
  refine call_int_bit_length (h _ _ rfl (h2 23 (by omega)) h1 (fun h => by have := h2 10 (by omega); omega) (fun h => ?_) (fun h => ?_) fun h => ?_)
  · rcases Nat.lt_or_ge (Builtin.Int.intBits a) 1 with q | q
    · rw [show Builtin.Int.intBits a = 0 by omega] at h1; omega
    · omega
  · rcases Nat.lt_or_ge (Builtin.Int.intBits a) 2 with q | q
    · have : Builtin.Int.intBits a = 0 ∨ Builtin.Int.intBits a = 1 := by omega
      rcases this with e | e <;> rw [e] at h1 <;> omega
    · omega
  · have := h2 0 (by omega); omega
theorem shr1_K (h : ∀ M : Int, M = a / 2 → Q (.int M s.toks) { s with toks := s.toks + 1 }) : wpAny (model prog w) A (binaryOp .RShift (.int a t) (.int 1 u)) Q E s :=
  rshift_int (by decide) (by
    have e : a.fdiv (2 ^ (1 : Int).toNat) = a / 2 := Int.fdiv_eq_ediv_of_nonneg _ (by decide)
    rw [e]; exact h _ rfl)
theorem shr_K (h0 : 0 ≤ sh) (hx : 0 ≤ x) (h : ∀ M : Int, M = x / 2 ^ sh.toNat → 0 ≤ M → M ≤ x → Q (.int M s.toks) { s with toks := s.toks + 1 }) : wpAny (model prog w) A (binaryOp .RShift (.int x t) (.int sh u)) Q E s :=
  rshift_int h0 (by
    have hp := pow_pos' sh.toNat
    rw [Int.fdiv_eq_ediv_of_nonneg _ (by omega)]
    exact h _ rfl (Int.ediv_nonneg hx (by omega)) (Int.ediv_le_self _ hx))
theorem mul_K (ha : 0 ≤ a ∧ a ≤ 60) (hb : 0 ≤ b ∧ b ≤ 60) (h : ∀ M : Int, M = a * b → 0 ≤ M ∧ M ≤ 3600 → M.toNat = b.toNat * a.toNat → Q (.int M s.toks) { s with toks := s.toks + 1 }) : wpAny (model prog w) A (binaryOp .Mult (.int a t) (.int b u)) Q E s := by
  have e1 : a * b ≤ 60 * 60 := Int.mul_le_mul ha.2 hb.2 hb.1 (by decide)
  have e0 : 0 ≤ a * b := Int.mul_nonneg ha.1 hb.1
  refine PyProof.Rows.mul_int (h _ rfl ⟨e0, by omega⟩ ?_) ?_
  · obtain ⟨A, rfl⟩ := Int.eq_ofNat_of_zero_le ha.1
    obtain ⟨B, rfl⟩ := Int.eq_ofNat_of_zero_le hb.1
    rw [← Int.natCast_mul]
    simp only [Int.toNat_natCast]
    exact Nat.mul_comm _ _
  · exact IntMulOk.of_left (Nat.le_trans ((bits_facts ha.1).2 6 (by omega)) (by decide))
theorem shl_K (h0 : 0 ≤ sh ∧ sh ≤ 3600) (hU : 0 ≤ U) (k : Nat) (hk : U < 2 ^ k) (hk2 : k ≤ 10000) (h : Q (.int (U * 2 ^ sh.toNat) s.toks) { s with toks := s.toks + 1 }) : wpAny (model prog w) A (binaryOp .LShift (.int U t) (.int sh u)) Q E s :=
  lshift_int h0.1 (by have := (bits_facts hU).2 k hk; omega) h
theorem xor_K (hx : 0 ≤ x) (hU : U = x / 2 ^ sh.toNat) (h : ∀ W : Int, W = x % 2 ^ sh.toNat → 0 ≤ W → W ≤ x → Q (.int W s.toks) { s with toks := s.toks + 1 }) : wpAny (model prog w) A (binaryOp .BitXor (.int x t) (.int (U * 2 ^ sh.toNat) u)) Q E s := by
  subst hU
  refine xor_int ?_
  rw [xor_low hx]
  have hp := pow_pos' sh.toNat
  refine h _ rfl (Int.emod_nonneg _ (by omega)) ?_
  have h1 := Int.mul_ediv_add_emod x (2 ^ sh.toNat)
  have h2 : 0 ≤ 2 ^ sh.toNat * (x / 2 ^ sh.toNat) := Int.mul_nonneg (by omega) (Int.ediv_nonneg hx (by omega))
  omega
end
end Mine
end
section
set_option maxHeartbeats 0
open PySem PySem.W PySem.Calls PyProof.Rows
namespace Mine
theorem ceil_key : ∀ b : Nat, b < 24 → ∀ k : Nat, k < 11 → (fun (B n : Int) => 2 ≤ n → 0 ≤ (B + n - 1) / n ∧ (B + n - 1) / n ≤ 23 ∧ (1 ≤ B → 1 ≤ (B + n - 1) / n) ∧ B.toNat ≤ n.toNat * ((B + n - 1) / n).toNat) b k := by decide +kernel
theorem ceil_facts {B n : Int} (hB : 0 ≤ B ∧ B ≤ 23) (hn : 2 ≤ n ∧ n ≤ 10) : 0 ≤ (B + n - 1) / n ∧ (B + n - 1) / n ≤ 23 ∧ (1 ≤ B → 1 ≤ (B + n - 1) / n) ∧ B.toNat ≤ n.toNat * ((B + n - 1) / n).toNat :=
  up (P := fun n => (fun (B n : Int) => 2 ≤ n → 0 ≤ (B + n - 1) / n ∧ (B + n - 1) / n ≤ 23 ∧ (1 ≤ B → 1 ≤ (B + n - 1) / n) ∧ B.toNat ≤ n.toNat * ((B + n - 1) / n).toNat) B n) 11
    (up (P := fun B => ∀ k : Nat, k < 11 → (fun (B n : Int) => 2 ≤ n → 0 ≤ (B + n - 1) / n ∧ (B + n - 1) / n ≤ 23 ∧ (1 ≤ B → 1 ≤ (B + n - 1) / n) ∧ B.toNat ≤ n.toNat * ((B + n - 1) / n).toNat) B k) 24 ceil_key hB.1 (lt_le hB.2)) (Int.le_trans (by decide) hn.1) (lt_le hn.2) hn.1
section
variable {prog : Program} {w : World} {A : Around} {E : Value → Shared → Prop} {s : Shared} {t u : Tok} {Q : Value → Shared → Prop}
theorem ceil_K {B n : Int} (hB : 0 ≤ B ∧ B ≤ 23) (hn : 2 ≤ n ∧ n ≤ 10) (h : ∀ M : Int, 0 ≤ M ∧ M ≤ 23 → (1 ≤ B → 1 ≤ M) → B.toNat ≤ n.toNat * M.toNat → Q (.int M s.toks) { s with toks := s.toks + 1 }) : wpAny (model prog w) A (binaryOp .FloorDiv (.int (B + n - 1) t) (.int n u)) Q E s := by
  obtain ⟨h1, h2, h3, h4⟩ := ceil_facts hB hn
  refine floordiv_int (by omega) ?_
  rw [Int.fdiv_eq_ediv_of_nonneg _ (by omega)]
  exact h _ ⟨h1, h2⟩ h3 h4
theorem ints_rep (t : Tok) : ∀ k : Nat, IntsAre (List.replicate k (Value.int 0 t)) (List.replicate k 0)
  | 0 => .nil
  | k + 1 => .cons _ _ (ints_rep t k)
theorem rep_K {h₀ : Heap} {L : Addr} {m : Str → Option Value} {news : List (Addr × Obj)} {l : Addr} {x : Int} (F : Fr h₀ L s.heap m) (N : News h₀ L s.heap news) (hl : s.heap.IsList l [Value.int 0 t].toArray) (hx : 0 ≤ x ∧ x ≤ 23)
    (h : ∀ D h' (vs : List Value), Fr h₀ L h' m → News h₀ L h' ((D, W.listOf vs.toArray 0) :: news) → (∀ p ∈ news, p.1 < D) → IntsAre vs (List.replicate x.toNat 0) → Q (.ref D) { s with heap := h' }) :
    wpAny (model prog w) A (binaryOp .Mult (.ref l) (.int x u)) Q E s :=
  KMa.mul F N hl (by omega) (by omega) (by simp; omega) (ws := List.replicate x.toNat (.int 0 t)) (by simp) fun D h' F' N' hlt => h D h' _ F' N' hlt (ints_rep t _)
end
theorem len_K {prog : Program} {w : World} {A : Around} {E : Value → Shared → Prop} {s : Shared} {Q : Value → Shared → Prop} {h₀ : Heap} {L l : Addr} {news : List (Addr × Obj)} {vs : List Value} {c : Nat} {M : Int} (N : News h₀ L s.heap news) (hm : (l, W.listOf vs.toArray c) ∈ news) (hi : IntsAre vs (List.replicate M.toNat 0)) (hM : 0 ≤ M ∧ M ≤ 23)
    (h : Q (.int M (s.toks + 1)) { s with toks := s.toks + 1 + 1 }) : wpAny (model prog w) A (call (.builtin "len") [.ref l]) Q E s :=
  kst_len N hm (k := M.toNat) (by rw [hi.length, List.length_replicate]) (by omega) (by rw [Int.toNat_of_nonneg hM.1]; exact h)
theorem valD_rep0 (β : Int) : ∀ k : Nat, valD β (List.replicate k 0) = 0
  | 0 => rfl
  | k + 1 => by
    show 0 + β * valD β (List.replicate k 0) = 0
    rw [valD_rep0 β k]; simp
theorem rep0_ok {k : Nat} {N : Nat} : ∀ e ∈ List.replicate k (0 : Int), 0 ≤ e ∧ e < 2 ^ N := fun e he => by
  rw [(List.mem_replicate.mp he).2]
  exact ⟨Int.le_refl _, pow_pos' N⟩
end Mine
end
section
set_option maxHeartbeats 0
open PySem PySem.W PySem.Calls PyProof.Rows
namespace Mine
noncomputable def ClEnd {σ : Type} (g : Heap) (L : Addr) (s : Shared) (Led : σ → List (Addr × Obj)) (Post : Value → σ → Prop) (v : Value) (s' : Shared) : Prop :=
  ∃ h' tk' m' c', s' = { s with heap := h', toks := tk' } ∧ Fr g L h' m' ∧ News g L h' (Led c') ∧ Post v c'
/-- what a call of a def that a def makes does, the ledger written out. -/
noncomputable def ClCon {α σ : Type} (w : World) (f : Addr) (vals : α → List Value) (Led : σ → List (Addr × Obj)) (dn un' : Nat) (Pre : α → σ → Prop) (Post : α → σ → Value → σ → Prop) : Prop :=
  ∀ (x : α) (c : σ) (p : Program) (loose : List Str) (mean : ExcName → Option Value) (mg mb : Str → Option Value) (dp un : Nat) (gd : Option (List Code)) (cn : Str) (cs : Scope) (a : Addr) (ccd : Value) (cl : List (Str × Addr)) (outer : List Env) (A₀ : Around) (base h₀ : Heap) (L : Addr) (m : Str → Option Value) (s : Shared) (Q E : Value → Shared → Prop),
    Below A₀ base outer h₀ → Fr h₀ L s.heap m → (hd.heap_39 w.params).In h₀ → Top p loose mean mg mb h₀ → News h₀ L s.heap (Led c) → Pre x c → cs.kind = .function →
    dp + dn < recursionLimit → un + un' < cLine →
    (∀ v h' tk' c', Fr h₀ L h' m → News h₀ L h' (Led c') → Post x c v c' → Q v { s with heap := h', toks := tk' }) →
    wpAny (model PySem.Challenge.rw_ph0148_01.row.prog w) (ktrTop dp un gd cn cs L a ccd cl outer) (call (.ref f) (vals x)) Q E s
theorem cl_rec {α σ : Type} {w : World} {name qual : Str} {params : Arguments} {body : List Stmt} {scope : Scope} {fcl : List (Str × Addr)} {doc pm ctv : Value} {c' f : Addr} {vals : α → List Value} {binds : α → List (Str × Value)} {Led : σ → List (Addr × Obj)} {Pre : Nat → α → σ → Prop} {Post : α → σ → Value → σ → Prop}
    (hfn : ∀ c, (f, fnMade name qual params body scope fcl doc pm c' ctv) ∈ Led c) (hcode : ∃ oc vs t, (∀ c, (c', oc) ∈ Led c) ∧ oc.data = .fields vs ∧ vs[1]? = some (.str qual t))
    (hbind : ∀ x (s : Shared), BindsTo s (fnX name qual params body scope fcl .none .none doc pm none (.ref c') ctv) ⟨vals x, []⟩ (binds x)) (hloc : ∀ x, ∀ y ∈ binds x, scope.names.lookup y.1 = some .local)
    (hcell : ∀ x ∈ scope.names, x.2 ≠ .cell) (hco : scope.isCoroutine = false) (hgen : scope.isGenerator = false) (hk : scope.kind = .function)
    (step : ∀ d, (∀ d', d = d' + 1 → ClCon w f vals Led (d' + 1) (40 * (d' + 1)) (Pre d') Post) →
      ∀ (x : α) (c : σ) (p : Program) (loose : List Str) (mean : ExcName → Option Value) (mg mb : Str → Option Value) (dp un : Nat) (gd : Option (List Code)) (cn : Str) (cs : Scope) (L a : Addr) (ccd : Value) (cl : List (Str × Addr)) (outer : List Env) (base : Heap) (s : Shared) (g : Heap) (L' : Addr) (h₁ : Heap),
      dp + (d + 1) < recursionLimit → un + 40 * (d + 1) < cLine → Pre d x c → Fr g L' h₁ (fun y => (binds x).reverse.lookup y) → News g L' h₁ (Led c) → Below (ktrTop dp un gd cn cs L a ccd cl outer) base (envX cn cs L a ccd cl :: outer) g → (hd.heap_39 w.params).In g → Top p loose mean mg mb g →
      wpAny (model PySem.Challenge.rw_ph0148_01.row.prog w) ((ktrTop dp un gd cn cs L a ccd cl outer).deeper (envX qual scope L' f (.ref c') fcl)) (execs body (envX qual scope L' f (.ref c') fcl))
        (fun fl s' => ClEnd g L' s Led (Post x c) (match fl with | .ret v => v | _ => .none) s') (fun _ _ => False)
        { s with heap := h₁, toks := s.toks + (binds x).length }) : ∀ d, ClCon w f vals Led (d + 1) (40 * (d + 1)) (Pre d) Post := by
  intro d
  induction d with
  | zero =>
    intro x c p loose mean mg mb dp un gd cn cs a ccd cl outer A₀ base h₀ L m s Q E B F X T N hp hcs hdp hu hret
    obtain ⟨oc, vs, t, h1, h2, h3⟩ := hcode
    refine wpAny_call (code_nest (K := hd.heap_39 w.params) B F X N T rfl rfl hcs (hfn c) (codeRec_news N (h1 c) h2 h3) (by show dp < _; omega) (hbind x s) (hloc x) (fun g L' h₁ _ F' N' B' X' T' => ?_) hco hgen hk hcell)
    refine wpAny_mono (step 0 (fun d' e => by omega) x c p loose mean mg mb dp un gd cn cs L a ccd cl outer base s g L' h₁ hdp hu hp F' N' B' X' T') (fun fl s' he => ?_) fun _ _ y => y.elim
    obtain ⟨h', tk', m', c'', rfl, F2, N2, hp2⟩ := he
    exact leaveK_ F2 N2 fun F3 N3 => hret _ h' tk' c'' F3 N3 hp2
  | succ d ih =>
    intro x c p loose mean mg mb dp un gd cn cs a ccd cl outer A₀ base h₀ L m s Q E B F X T N hp hcs hdp hu hret
    obtain ⟨oc, vs, t, h1, h2, h3⟩ := hcode
    refine wpAny_call (code_nest (K := hd.heap_39 w.params) B F X N T rfl rfl hcs (hfn c) (codeRec_news N (h1 c) h2 h3) (by show dp < _; omega) (hbind x s) (hloc x) (fun g L' h₁ _ F' N' B' X' T' => ?_) hco hgen hk hcell)
    refine wpAny_mono (step (d + 1) (fun d' e => by obtain rfl : d = d' := by omega
                                                    exact ih) x c p loose mean mg mb dp un gd cn cs L a ccd cl outer base s g L' h₁ hdp hu hp F' N' B' X' T') (fun fl s' he => ?_) fun _ _ y => y.elim
    obtain ⟨h', tk', m', c'', rfl, F2, N2, hp2⟩ := he
    exact leaveK_ F2 N2 fun F3 N3 => hret _ h' tk' c'' F3 N3 hp2
end Mine
end
section
set_option maxHeartbeats 0
open PySem PySem.W PySem.Calls PyProof.Rows
namespace Mine
/-- what a call of a def that a def makes does, the ledger written out. -/
noncomputable def ClConK {α σ : Type} (w : World) (Kp : Heap → Prop) (f : Addr) (vals : α → List Value) (Led : σ → List (Addr × Obj)) (dn un' : Nat) (Pre : α → σ → Prop) (Post : α → σ → Value → σ → Prop) : Prop :=
  ∀ (x : α) (c : σ) (p : Program) (loose : List Str) (mean : ExcName → Option Value) (mg mb : Str → Option Value) (dp un : Nat) (gd : Option (List Code)) (cn : Str) (cs : Scope) (a : Addr) (ccd : Value) (cl : List (Str × Addr)) (outer : List Env) (A₀ : Around) (base h₀ : Heap) (L : Addr) (m : Str → Option Value) (s : Shared) (Q E : Value → Shared → Prop),
    Below A₀ base outer h₀ → Fr h₀ L s.heap m → (hd.heap_39 w.params).In h₀ → Top p loose mean mg mb h₀ → Kp h₀ → News h₀ L s.heap (Led c) → Pre x c → cs.kind = .function →
    dp + dn < recursionLimit → un + un' < cLine →
    (∀ v h' tk' c', Fr h₀ L h' m → News h₀ L h' (Led c') → Post x c v c' → Q v { s with heap := h', toks := tk' }) →
    wpAny (model PySem.Challenge.rw_ph0148_01.row.prog w) (ktrTop dp un gd cn cs L a ccd cl outer) (call (.ref f) (vals x)) Q E s
theorem cl_recK {α σ : Type} {w : World} {Kp : Heap → Prop} (hst : ∀ h g : Heap, h.StaysIn g → Kp h → Kp g) {name qual : Str} {params : Arguments} {body : List Stmt} {scope : Scope} {fcl : List (Str × Addr)} {doc pm ctv : Value} {c' f : Addr} {vals : α → List Value} {binds : α → List (Str × Value)} {Led : σ → List (Addr × Obj)} {Pre : Nat → α → σ → Prop} {Post : α → σ → Value → σ → Prop}
    (hfn : ∀ c, (f, fnMade name qual params body scope fcl doc pm c' ctv) ∈ Led c) (hcode : ∃ oc vs t, (∀ c, (c', oc) ∈ Led c) ∧ oc.data = .fields vs ∧ vs[1]? = some (.str qual t))
    (hbind : ∀ x (s : Shared), BindsTo s (fnX name qual params body scope fcl .none .none doc pm none (.ref c') ctv) ⟨vals x, []⟩ (binds x)) (hloc : ∀ x, ∀ y ∈ binds x, scope.names.lookup y.1 = some .local)
    (hcell : ∀ x ∈ scope.names, x.2 ≠ .cell) (hco : scope.isCoroutine = false) (hgen : scope.isGenerator = false) (hk : scope.kind = .function)
    (step : ∀ d, (∀ d', d = d' + 1 → ClConK w Kp f vals Led (d' + 1) (40 * (d' + 1)) (Pre d') Post) →
      ∀ (x : α) (c : σ) (p : Program) (loose : List Str) (mean : ExcName → Option Value) (mg mb : Str → Option Value) (dp un : Nat) (gd : Option (List Code)) (cn : Str) (cs : Scope) (L a : Addr) (ccd : Value) (cl : List (Str × Addr)) (outer : List Env) (base : Heap) (s : Shared) (g : Heap) (L' : Addr) (h₁ : Heap),
      dp + (d + 1) < recursionLimit → un + 40 * (d + 1) < cLine → Pre d x c → Fr g L' h₁ (fun y => (binds x).reverse.lookup y) → News g L' h₁ (Led c) → Below (ktrTop dp un gd cn cs L a ccd cl outer) base (envX cn cs L a ccd cl :: outer) g → (hd.heap_39 w.params).In g → Top p loose mean mg mb g → Kp g →
      wpAny (model PySem.Challenge.rw_ph0148_01.row.prog w) ((ktrTop dp un gd cn cs L a ccd cl outer).deeper (envX qual scope L' f (.ref c') fcl)) (execs body (envX qual scope L' f (.ref c') fcl))
        (fun fl s' => ClEnd g L' s Led (Post x c) (match fl with | .ret v => v | _ => .none) s') (fun _ _ => False)
        { s with heap := h₁, toks := s.toks + (binds x).length }) : ∀ d, ClConK w Kp f vals Led (d + 1) (40 * (d + 1)) (Pre d) Post := by
  intro d
  induction d with
  | zero =>
    intro x c p loose mean mg mb dp un gd cn cs a ccd cl outer A₀ base h₀ L m s Q E B F X T hKp N hp hcs hdp hu hret
    obtain ⟨oc, vs, t, h1, h2, h3⟩ := hcode
    refine wpAny_call (callX_plain (cl := fcl) B F N T.nolimit rfl rfl hcs (N _ (hfn c)).1 rfl (codeRec_news N (h1 c) h2 h3) (by show dp < _; omega) (hbind x s) (hloc x) (fun g L' h₁ _ F' N' B' st _ => ?_) hcell hco hgen hk)
    refine wpAny_mono (step 0 (fun d' e => by omega) x c p loose mean mg mb dp un gd cn cs L a ccd cl outer base s g L' h₁ hdp hu hp F' N' B' (X.keeps st) (T.keeps st) (hst _ _ st hKp)) (fun fl s' he => ?_) fun e s' y => y.elim
    obtain ⟨h', tk', m', c'', rfl, F2, N2, hp2⟩ := he
    exact leaveK_ F2 N2 fun F3 N3 => hret _ h' tk' c'' F3 N3 hp2
  | succ d ih =>
    intro x c p loose mean mg mb dp un gd cn cs a ccd cl outer A₀ base h₀ L m s Q E B F X T hKp N hp hcs hdp hu hret
    obtain ⟨oc, vs, t, h1, h2, h3⟩ := hcode
    refine wpAny_call (callX_plain (cl := fcl) B F N T.nolimit rfl rfl hcs (N _ (hfn c)).1 rfl (codeRec_news N (h1 c) h2 h3) (by show dp < _; omega) (hbind x s) (hloc x) (fun g L' h₁ _ F' N' B' st _ => ?_) hcell hco hgen hk)
    refine wpAny_mono (step (d + 1) (fun d' e => by obtain rfl : d = d' := by omega
                                                    exact ih) x c p loose mean mg mb dp un gd cn cs L a ccd cl outer base s g L' h₁ hdp hu hp F' N' B' (X.keeps st) (T.keeps st) (hst _ _ st hKp)) (fun fl s' he => ?_) fun e s' y => y.elim
    obtain ⟨h', tk', m', c'', rfl, F2, N2, hp2⟩ := he
    exact leaveK_ F2 N2 fun F3 N3 => hret _ h' tk' c'' F3 N3 hp2
end Mine
end
section
set_option maxHeartbeats 0
open PySem PySem.W PySem.Calls PyProof.Rows
namespace Mine
structure IArg where
  x : Int
  lo : Int
  hi : Int
  t1 : Tok
  t2 : Tok
  t3 : Tok
noncomputable def iVals (x : IArg) : List Value := [.int x.x x.t1, .int x.lo x.t2, .int x.hi x.t3]
noncomputable def iPre (n : Int) (d : Nat) (x : IArg) (vs : List Value) : Prop :=
  ∃ ns, IntsAre vs ns ∧ (0 ≤ x.lo ∧ x.lo < x.hi) ∧ x.hi ≤ ns.length ∧ ns.length ≤ 23 ∧ (x.hi - x.lo).toNat ≤ 2 ^ d ∧ (0 ≤ x.x ∧ x.x ≤ 8000001) ∧ x.x < 2 ^ (n.toNat * (x.hi - x.lo).toNat)
noncomputable def iPost (n : Int) (x : IArg) (vs : List Value) (v : Value) (vs' : List Value) : Prop :=
  v = .none ∧ ∀ ns, IntsAre vs ns → ∃ ds, IntsAre vs' (ns.take x.lo.toNat ++ (ds ++ ns.drop x.hi.toNat)) ∧ ds.length = (x.hi - x.lo).toNat ∧ valD (2 ^ n.toNat) ds = x.x ∧ ∀ e ∈ ds, 0 ≤ e ∧ e < 2 ^ n.toNat
section
variable {w : World} {name qual : Str} {params : Arguments} {body : List Stmt} {scope : Scope} {fcl : List (Str × Addr)} {doc pm ctv : Value} {c' f D : Addr} {oc : Obj} {ovs : Array Value} {ot : Tok} {rest : List (Addr × Obj)} {n : Int} {binds : IArg → List (Str × Value)}
  {p : Program} {loose : List Str} {mean : ExcName → Option Value} {mg mb : Str → Option Value} {dp un : Nat} {gd : Option (List Code)} {cn : Str} {cs : Scope} {a : Addr} {ccd : Value} {cl : List (Str × Addr)} {outer : List Env} {A₀ : Around} {base h₀ : Heap} {L : Addr} {m : Str → Option Value} {s : Shared} {Q E : Value → Shared → Prop}
theorem i_go (x : IArg) {vs : List Value} (d : Nat) (B : Below A₀ base outer h₀) (F : Fr h₀ L s.heap m) (X : (hd.heap_39 w.params).In h₀) (T : Top p loose mean mg mb h₀) (N : News h₀ L s.heap ((f, fnMade name qual params body scope fcl doc pm c' ctv) :: (D, W.listOf vs.toArray 0) :: rest))
    (mc : (c', oc) ∈ rest) (hod : oc.data = .fields ovs) (hov : ovs[1]? = some (.str qual ot)) (hpre : iPre n d x vs) (hcs : cs.kind = .function) (hdp : dp + (d + 1) < recursionLimit) (hu : un + 40 * (d + 1) < cLine)
    (hbind : ∀ x (s : Shared), BindsTo s (fnX name qual params body scope fcl .none .none doc pm none (.ref c') ctv) ⟨iVals x, []⟩ (binds x)) (hloc : ∀ x, ∀ y ∈ binds x, scope.names.lookup y.1 = some .local)
    (hcell : ∀ x ∈ scope.names, x.2 ≠ .cell) (hco : scope.isCoroutine = false) (hgen : scope.isGenerator = false) (hk : scope.kind = .function)
    (step : ∀ d, (∀ d', d = d' + 1 → ClCon w f iVals (fun vs => (f, fnMade name qual params body scope fcl doc pm c' ctv) :: (D, W.listOf (List.toArray vs) 0) :: rest) (d' + 1) (40 * (d' + 1)) (iPre n d') (iPost n)) →
      ∀ (x : IArg) (vs : List Value) (p : Program) (loose : List Str) (mean : ExcName → Option Value) (mg mb : Str → Option Value) (dp un : Nat) (gd : Option (List Code)) (cn : Str) (cs : Scope) (L a : Addr) (ccd : Value) (cl : List (Str × Addr)) (outer : List Env) (base : Heap) (s : Shared) (g : Heap) (L' : Addr) (h₁ : Heap),
      dp + (d + 1) < recursionLimit → un + 40 * (d + 1) < cLine → iPre n d x vs → Fr g L' h₁ (fun y => (binds x).reverse.lookup y) → News g L' h₁ ((f, fnMade name qual params body scope fcl doc pm c' ctv) :: (D, W.listOf (List.toArray vs) 0) :: rest) → Below (ktrTop dp un gd cn cs L a ccd cl outer) base (envX cn cs L a ccd cl :: outer) g → (hd.heap_39 w.params).In g → Top p loose mean mg mb g →
      wpAny (model PySem.Challenge.rw_ph0148_01.row.prog w) ((ktrTop dp un gd cn cs L a ccd cl outer).deeper (envX qual scope L' f (.ref c') fcl)) (execs body (envX qual scope L' f (.ref c') fcl))
        (fun fl s' => ClEnd g L' s (fun vs => (f, fnMade name qual params body scope fcl doc pm c' ctv) :: (D, W.listOf (List.toArray vs) 0) :: rest) (iPost n x vs) (match fl with | .ret v => v | _ => .none) s') (fun _ _ => False)
        { s with heap := h₁, toks := s.toks + (binds x).length })
    (fin : ∀ v h' tk' (vs' : List Value), Fr h₀ L h' m → News h₀ L h' ((f, fnMade name qual params body scope fcl doc pm c' ctv) :: (D, W.listOf vs'.toArray 0) :: rest) → iPost n x vs v vs' → Q v { s with heap := h', toks := tk' }) :
    wpAny (model PySem.Challenge.rw_ph0148_01.row.prog w) (ktrTop dp un gd cn cs L a ccd cl outer) (call (.ref f) [.int x.x x.t1, .int x.lo x.t2, .int x.hi x.t3]) Q E s :=
  cl_rec (vals := iVals) (binds := binds) (Led := fun vs => (f, fnMade name qual params body scope fcl doc pm c' ctv) :: (D, W.listOf (List.toArray vs) 0) :: rest) (Pre := iPre n) (Post := iPost n) (fun _ => .head _) ⟨oc, ovs, ot, fun _ => .tail _ (.tail _ mc), hod, hov⟩ hbind hloc hcell hco hgen hk step d
    x vs p loose mean mg mb dp un gd cn cs a ccd cl outer A₀ base h₀ L m s Q E B F X T N hpre hcs hdp hu fin
end
end Mine
end
section
set_option maxHeartbeats 0
open PySem PySem.W PySem.Calls PyProof.Rows
namespace Mine
theorem pow_le' {a b : Nat} (h : a ≤ b) : (2 : Int) ^ a ≤ 2 ^ b := by
  obtain ⟨c, rfl⟩ := Nat.le.dest h
  rw [Int.pow_add]
  have h1 := pow_pos' a
  have h2 := pow_pos' c
  have := Int.mul_le_mul_of_nonneg_left (show (1 : Int) ≤ 2 ^ c by omega) (show (0 : Int) ≤ 2 ^ a by omega)
  omega
theorem i_pre0 {x n M B : Int} {k : Nat} {vs : List Value} {t1 t2 t3 : Tok} (hA : 0 ≤ x ∧ x ≤ 8000001) (hx : x ≠ 0) (hB : B = (k : Int)) (hk : x < 2 ^ k) (hB1 : 1 ≤ x → 1 ≤ B) (hM : 0 ≤ M ∧ M ≤ 23) (hM1 : 1 ≤ B → 1 ≤ M) (hM2 : B.toNat ≤ n.toNat * M.toNat) (hv : IntsAre vs (List.replicate M.toNat 0)) :
    iPre n 5 ⟨x, 0, M, t1, t2, t3⟩ vs := by
  refine ⟨_, hv, ⟨Int.le_refl _, by show 0 < M; omega⟩, by rw [List.length_replicate]; show M ≤ _; omega, by rw [List.length_replicate]; omega, by show (M - 0).toNat ≤ _; omega, hA, ?_⟩
  show x < 2 ^ (n.toNat * (M - 0).toNat)
  rw [Int.sub_zero]
  have : (2 : Int) ^ k ≤ 2 ^ (n.toNat * M.toNat) := pow_le' (by omega)
  omega
theorem i_fin0 {x n M : Int} {vs vs' : List Value} {v : Value} {t1 t2 t3 : Tok} (hM : 0 ≤ M ∧ M ≤ 23) (hv : IntsAre vs (List.replicate M.toNat 0)) (hp : iPost n ⟨x, 0, M, t1, t2, t3⟩ vs v vs') :
    ∃ ds, IntsAre vs' ds ∧ ds.length ≤ 23 ∧ valD (2 ^ n.toNat) ds = x ∧ ∀ e ∈ ds, 0 ≤ e ∧ e < 2 ^ n.toNat := by
  obtain ⟨ds, h1, h2, h3, h4⟩ := hp.2 _ hv
  refine ⟨ds, ?_, by rw [h2]; show (M - 0).toNat ≤ 23; omega, h3, h4⟩
  have e : (List.replicate M.toNat (0 : Int)).drop M.toNat = [] := List.drop_eq_nil_of_le (by simp)
  simpa [e] using h1
theorem i_base {x n lo hi : Int} {vs : List Value} {t t1 t2 t3 : Tok} {ns : List Int} (hns : IntsAre vs ns) (hlo : 0 ≤ lo ∧ lo < hi) (hhi : hi ≤ ns.length) (he : lo + 1 = hi) (hx : 0 ≤ x ∧ x ≤ 8000001) (hxl : x < 2 ^ (n.toNat * (hi - lo).toNat)) :
    iPost n ⟨x, lo, hi, t1, t2, t3⟩ vs .none (vs.set lo.toNat (.int x t)) := by
  refine ⟨rfl, fun ns' h' => ⟨[x], ?_, by show 1 = (hi - lo).toNat; omega, by show x + _ * 0 = x; simp, fun e he' => ?_⟩⟩
  · have h1 := ints_set (x := x) (u := t) h' lo.toNat
    have hl : lo.toNat < ns'.length := by
      have e1 := h'.length
      have e2 := hns.length
      omega
    rw [List.set_eq_take_append_cons_drop (l := ns'), if_pos hl] at h1
    have e3 : hi.toNat = lo.toNat + 1 := by omega
    show IntsAre _ (ns'.take lo.toNat ++ ([x] ++ ns'.drop hi.toNat))
    rw [e3]
    exact h1
  · rw [List.mem_singleton.mp he']
    refine ⟨hx.1, ?_⟩
    have e4 : (hi - lo).toNat = 1 := by omega
    rw [e4, Nat.mul_one] at hxl
    exact hxl
theorem hi_lo {lo hi M : Int} (h : lo < M ∧ M < hi) : (hi - lo).toNat = (M - lo).toNat + (hi - M).toNat := by
  rw [← Int.toNat_add (Int.sub_nonneg_of_le (Int.le_of_lt h.1)) (Int.sub_nonneg_of_le (Int.le_of_lt h.2))]
  congr 1
  omega
theorem mid_in {lo hi M : Int} (h : lo < hi) (hne : lo + 1 ≠ hi) (hM : M = (lo + hi) / 2) : lo < M ∧ M < hi := by omega
theorem mid_half {lo hi M : Int} {d : Nat} (hM : M = (lo + hi) / 2) (hd : (hi - lo).toNat ≤ d * 2) : (M - lo).toNat ≤ d ∧ (hi - M).toNat ≤ d := by
  rw [Int.toNat_le] at hd ⊢
  rw [Int.toNat_le]
  omega
theorem i_split {x n lo hi M sh U W : Int} {d : Nat} (hlo : 0 ≤ lo ∧ lo < hi) (hne : lo + 1 ≠ hi) (hM : M = (lo + hi) / 2) (hsh : sh.toNat = n.toNat * (M - lo).toNat) (hU : U = x / 2 ^ sh.toNat) (hW : W = x % 2 ^ sh.toNat) (hd : (hi - lo).toNat ≤ 2 ^ (d + 1)) (hx : 0 ≤ x ∧ x ≤ 8000001) (hxl : x < 2 ^ (n.toNat * (hi - lo).toNat)) :
    (lo < M ∧ M < hi) ∧ ((M - lo).toNat ≤ 2 ^ d ∧ (hi - M).toNat ≤ 2 ^ d) ∧ (0 ≤ W ∧ W < 2 ^ (n.toNat * (M - lo).toNat)) ∧ (0 ≤ U ∧ U < 2 ^ (n.toNat * (hi - M).toNat)) ∧ W + 2 ^ (n.toNat * (M - lo).toNat) * U = x := by
  rw [hsh] at hU hW
  subst hU hW
  have hMM := mid_in hlo.2 hne hM
  have e : (hi - lo).toNat = (M - lo).toNat + (hi - M).toNat := hi_lo hMM
  rw [e] at hxl
  obtain ⟨h1, h2, h3⟩ := split_low hx.1 hxl
  rw [Nat.pow_succ] at hd
  exact ⟨hMM, mid_half hM hd, h1, h2, h3⟩
theorem i_pre1 {W n lo hi M : Int} {d : Nat} {vs : List Value} {ns : List Int} {t1 t2 t3 : Tok} (hns : IntsAre vs ns) (hlo : 0 ≤ lo) (hM : lo < M ∧ M < hi) (hhi : hi ≤ ns.length) (hln : ns.length ≤ 23) (hd : (M - lo).toNat ≤ 2 ^ d) (hW : 0 ≤ W ∧ W < 2 ^ (n.toNat * (M - lo).toNat)) (hW2 : W ≤ 8000001) :
    iPre n d ⟨W, lo, M, t1, t2, t3⟩ vs := ⟨ns, hns, ⟨hlo, hM.1⟩, by show M ≤ _; omega, hln, hd, ⟨hW.1, hW2⟩, hW.2⟩
theorem lo_add {lo M : Int} (h : 0 ≤ lo) (h2 : lo < M) : lo.toNat + (M - lo).toNat = M.toNat := by
  obtain ⟨a, rfl⟩ := Int.eq_ofNat_of_zero_le h
  obtain ⟨b, rfl⟩ := Int.eq_ofNat_of_zero_le (Int.le_trans h (Int.le_of_lt h2))
  rw [Int.toNat_sub]
  exact Nat.add_sub_of_le (Int.ofNat_le.mp (Int.le_of_lt h2))
theorem le_nat {lo M : Int} (h2 : lo < M) : lo.toNat ≤ M.toNat := Int.toNat_le_toNat (Int.le_of_lt h2)
theorem i_mid {n lo hi M W : Int} {vs vs1 : List Value} {v : Value} {ns : List Int} {t1 t2 t3 : Tok} (hns : IntsAre vs ns) (hlo : 0 ≤ lo) (hM : lo < M ∧ M < hi) (hhi : hi ≤ ns.length) (hp : iPost n ⟨W, lo, M, t1, t2, t3⟩ vs v vs1) :
    ∃ ns1, IntsAre vs1 ns1 ∧ ns1.length = ns.length := by
  obtain ⟨ds, h1, h2, _⟩ := hp.2 _ hns
  refine ⟨_, h1, ?_⟩
  have h3 : ds.length = (M - lo).toNat := h2
  have h4 : M.toNat ≤ ns.length := Int.toNat_le.mpr (Int.le_trans (Int.le_of_lt hM.2) hhi)
  show (ns.take lo.toNat ++ (ds ++ ns.drop M.toNat)).length = _
  rw [List.length_append, List.length_append, List.length_take, List.length_drop, h3, Nat.min_eq_left (Nat.le_trans (le_nat hM.1) h4), ← Nat.add_assoc, lo_add hlo hM.1]
  exact Nat.add_sub_of_le h4
theorem i_join {x n lo hi M W U : Int} {vs vs1 vs2 : List Value} {v1 v2 : Value} {t1 t2 t3 u1 u2 u3 w1 w2 w3 : Tok} {ns : List Int} (hns : IntsAre vs ns) (hlo : 0 ≤ lo) (hM : lo < M ∧ M < hi) (hhi : hi ≤ ns.length) (hx : W + 2 ^ (n.toNat * (M - lo).toNat) * U = x)
    (h1 : iPost n ⟨W, lo, M, t1, t2, t3⟩ vs v1 vs1) (h2 : iPost n ⟨U, M, hi, u1, u2, u3⟩ vs1 v2 vs2) : iPost n ⟨x, lo, hi, w1, w2, w3⟩ vs .none vs2 := by
  refine ⟨rfl, fun ns' h' => ?_⟩
  have hl : ns'.length = ns.length := by rw [← h'.length, ← hns.length]
  obtain ⟨d1, a1, a2, a3, a4⟩ := h1.2 _ h'
  obtain ⟨d2, b1, b2, b3, b4⟩ := h2.2 _ a1
  have a2 : d1.length = (M - lo).toNat := a2
  have b2 : d2.length = (hi - M).toNat := b2
  have a3 : valD (2 ^ n.toNat) d1 = W := a3
  have b3 : valD (2 ^ n.toNat) d2 = U := b3
  have ht : (ns'.take lo.toNat).length = lo.toNat := by rw [List.length_take]; omega
  have e1 : (ns'.take lo.toNat ++ (d1 ++ ns'.drop M.toNat)).take M.toNat = ns'.take lo.toNat ++ d1 := by
    rw [← List.append_assoc]
    rw [List.take_append_of_le_length (by rw [List.length_append, ht, a2, lo_add hlo hM.1]; exact Nat.le_refl _), List.take_of_length_le (by rw [List.length_append, ht, a2, lo_add hlo hM.1]; exact Nat.le_refl _)]
  have e2 : (ns'.take lo.toNat ++ (d1 ++ ns'.drop M.toNat)).drop hi.toNat = ns'.drop hi.toNat := by
    rw [← List.append_assoc, List.drop_append, List.drop_eq_nil_of_le (by rw [List.length_append, ht, a2, lo_add hlo hM.1]; exact le_nat hM.2), List.nil_append, List.length_append, ht, a2, lo_add hlo hM.1, List.drop_drop, Nat.add_sub_of_le (le_nat hM.2)]
  refine ⟨d1 ++ d2, ?_, ?_, ?_, fun e he => ?_⟩
  · have b1' : IntsAre vs2 ((ns'.take lo.toNat ++ (d1 ++ ns'.drop M.toNat)).take M.toNat ++ (d2 ++ (ns'.take lo.toNat ++ (d1 ++ ns'.drop M.toNat)).drop hi.toNat)) := b1
    rw [e1, e2] at b1'
    show IntsAre vs2 (ns'.take lo.toNat ++ (d1 ++ d2 ++ ns'.drop hi.toNat))
    simpa [List.append_assoc] using b1'
  · show (d1 ++ d2).length = (hi - lo).toNat
    rw [List.length_append, a2, b2]; exact (hi_lo hM).symm
  · show valD (2 ^ n.toNat) (d1 ++ d2) = x
    rw [valD_append, a3, b3, a2, ← Int.pow_mul]
    exact hx
  · rcases List.mem_append.mp he with he | he
    · exact a4 e he
    · exact b4 e he
theorem i_pre2 {U n lo hi M : Int} {d : Nat} {vs1 : List Value} {ns ns1 : List Int} {t1 t2 t3 : Tok} (hns : IntsAre vs1 ns1) (he : ns1.length = ns.length) (hlo : 0 ≤ lo) (hM : lo < M ∧ M < hi) (hhi : hi ≤ ns.length) (hln : ns.length ≤ 23) (hd : (hi - M).toNat ≤ 2 ^ d) (hU : 0 ≤ U ∧ U < 2 ^ (n.toNat * (hi - M).toNat)) (hU2 : U ≤ 8000001) :
    iPre n d ⟨U, M, hi, t1, t2, t3⟩ vs1 := ⟨ns1, hns, ⟨by show 0 ≤ M; omega, hM.2⟩, by show hi ≤ _; omega, by omega, hd, ⟨hU.1, hU2⟩, hU.2⟩
theorem i_use {σ : Type} {w : World} {f : Addr} {Led : σ → List (Addr × Obj)} {dn un' : Nat} {Pre : IArg → σ → Prop} {Post : IArg → σ → Value → σ → Prop} {p : Program} {loose : List Str} {mean : ExcName → Option Value} {mg mb : Str → Option Value} {dp un : Nat} {gd : Option (List Code)} {cn : Str} {cs : Scope} {a : Addr} {ccd : Value} {cl : List (Str × Addr)} {outer : List Env} {A₀ : Around} {base h₀ : Heap} {L : Addr} {m : Str → Option Value} {s : Shared} {Q E : Value → Shared → Prop}
    {x lo hi : Int} {t1 t2 t3 : Tok} (vs : σ) (H : ClCon w f iVals Led dn un' Pre Post) (B : Below A₀ base outer h₀) (F : Fr h₀ L s.heap m) (X : (hd.heap_39 w.params).In h₀) (T : Top p loose mean mg mb h₀) (N : News h₀ L s.heap (Led vs)) (hpre : Pre ⟨x, lo, hi, t1, t2, t3⟩ vs) (hcs : cs.kind = .function) (hdp : dp + dn < recursionLimit) (hu : un + un' < cLine)
    (fin : ∀ v h' tk' vs', Fr h₀ L h' m → News h₀ L h' (Led vs') → Post ⟨x, lo, hi, t1, t2, t3⟩ vs v vs' → Q v { s with heap := h', toks := tk' }) :
    wpAny (model PySem.Challenge.rw_ph0148_01.row.prog w) (ktrTop dp un gd cn cs L a ccd cl outer) (call (.ref f) [.int x t1, .int lo t2, .int hi t3]) Q E s :=
  H ⟨x, lo, hi, t1, t2, t3⟩ vs p loose mean mg mb dp un gd cn cs a ccd cl outer A₀ base h₀ L m s Q E B F X T N hpre hcs hdp hu fin
theorem cl_end {σ : Type} {g h : Heap} {L : Addr} {m : Str → Option Value} {s : Shared} {tk : Nat} {Led : σ → List (Addr × Obj)} {Post : Value → σ → Prop} {v : Value} (c : σ) (F : Fr g L h m) (N : News g L h (Led c)) (hp : Post v c) : ClEnd g L s Led Post v { s with heap := h, toks := tk } := ⟨h, tk, m, c, rfl, F, N, hp⟩
end Mine
end
section
set_option maxHeartbeats 0
open PySem PySem.W PySem.Calls PyProof.Rows
namespace Mine
structure JArg where
  lo : Int
  hi : Int
  t1 : Tok
  t2 : Tok
noncomputable def jVals (x : JArg) : List Value := [.int x.lo x.t1, .int x.hi x.t2]
noncomputable def sl (ds : List Int) (lo hi : Int) : List Int := (ds.drop lo.toNat).take (hi - lo).toNat
noncomputable def jPre (ds : List Int) (d : Nat) (x : JArg) (_c : Unit) : Prop := (0 ≤ x.lo ∧ x.lo < x.hi) ∧ x.hi ≤ ds.length ∧ (x.hi - x.lo).toNat ≤ 2 ^ d
noncomputable def jPost (ds : List Int) (n : Int) (x : JArg) (_c : Unit) (v : Value) (_c' : Unit) : Prop := ∃ V t, v = .int V t ∧ V = valD (2 ^ n.toNat) (sl ds x.lo x.hi)
theorem valD_bound {β : Int} (hβ : 0 < β) : ∀ ds : List Int, (∀ e ∈ ds, 0 ≤ e ∧ e < β) → 0 ≤ valD β ds ∧ valD β ds < β ^ ds.length
  | [], _ => by simp [valD]
  | d :: r, h => by
    have hd := h d (.head _)
    obtain ⟨h1, h2⟩ := valD_bound hβ r fun e he => h e (.tail _ he)
    have h3 : 0 ≤ β * valD β r := Int.mul_nonneg (by omega) h1
    refine ⟨by show 0 ≤ d + β * valD β r; omega, ?_⟩
    show d + β * valD β r < β ^ (r.length + 1)
    have h4 : β * (valD β r + 1) ≤ β * β ^ r.length := Int.mul_le_mul_of_nonneg_left (by omega) (by omega)
    rw [Int.pow_succ', ]
    rw [Int.mul_add, Int.mul_one] at h4
    omega
theorem sl_mem {ds : List Int} {lo hi : Int} : ∀ e ∈ sl ds lo hi, e ∈ ds := fun e he => List.mem_of_mem_drop (List.mem_of_mem_take he)
theorem lo_add' {lo M : Int} (h : 0 ≤ lo) (h2 : lo ≤ M) : lo.toNat + (M - lo).toNat = M.toNat := by
  rcases Int.lt_or_eq_of_le h2 with h3 | rfl
  · exact lo_add h h3
  · rw [Int.sub_self]; rfl
theorem sl_len {ds : List Int} {lo hi : Int} (hlo : 0 ≤ lo ∧ lo ≤ hi) (hhi : hi ≤ ds.length) : (sl ds lo hi).length = (hi - lo).toNat := by
  unfold sl
  rw [List.length_take, List.length_drop]
  refine Nat.min_eq_left (Nat.le_sub_of_add_le ?_)
  rw [Nat.add_comm, lo_add' hlo.1 hlo.2]
  exact Int.toNat_le.mpr hhi
theorem sl_full {ds : List Int} : sl ds 0 (ds.length : Int) = ds := by
  unfold sl
  rw [Int.sub_zero, Int.toNat_natCast]
  show (ds.drop 0).take ds.length = ds
  rw [List.drop_zero, List.take_length]
theorem sl_split {ds : List Int} {lo M hi : Int} (hlo : 0 ≤ lo) (hM : lo < M ∧ M < hi) (_hhi : hi ≤ ds.length) : sl ds lo hi = sl ds lo M ++ sl ds M hi := by
  unfold sl
  rw [hi_lo hM, ← lo_add hlo hM.1, ← List.drop_drop, List.take_add]
theorem sl_one {ds : List Int} {lo hi : Int} (hlo : 0 ≤ lo ∧ lo < hi) (hhi : hi ≤ ds.length) (he : lo + 1 = hi) : sl ds lo hi = [ds.getD lo.toNat 0] := by
  unfold sl
  have e1 : (hi - lo).toNat = 1 := by omega
  have hl : lo.toNat < ds.length := by omega
  rw [e1, List.drop_eq_getElem_cons hl, List.take_succ_cons, List.take_zero, List.getD_eq_getElem?_getD, List.getElem?_eq_getElem hl]
  rfl
theorem sl_big {ds : List Int} {n lo hi : Int} (hn : 2 ≤ n ∧ n ≤ 10) (hlo : 0 ≤ lo ∧ lo ≤ hi) (hhi : hi ≤ ds.length) (hln : ds.length ≤ 23) (hb : ∀ e ∈ ds, 0 ≤ e ∧ e < 2 ^ n.toNat) :
    0 ≤ valD (2 ^ n.toNat) (sl ds lo hi) ∧ ∃ k : Nat, valD (2 ^ n.toNat) (sl ds lo hi) < 2 ^ k ∧ k ≤ 1000 := by
  obtain ⟨h1, h2⟩ := valD_bound (pow_pos' n.toNat) (sl ds lo hi) fun e he => hb e (sl_mem e he)
  refine ⟨h1, n.toNat * (sl ds lo hi).length, by rw [Int.pow_mul]; exact h2, ?_⟩
  rw [sl_len hlo hhi]
  have : n.toNat * (hi - lo).toNat ≤ 10 * 23 := Nat.mul_le_mul (by omega) (by omega)
  omega
theorem j_split {n lo hi M sh : Int} {d : Nat} {ds : List Int} {U V : Int} (hlo : 0 ≤ lo ∧ lo < hi) (hne : lo + 1 ≠ hi) (hM : M = (lo + hi) / 2) (hhi : hi ≤ ds.length) (hsh : sh.toNat = n.toNat * (M - lo).toNat) (hd : (hi - lo).toNat ≤ 2 ^ (d + 1)) :
    (lo < M ∧ M < hi) ∧ ((M - lo).toNat ≤ 2 ^ d ∧ (hi - M).toNat ≤ 2 ^ d) ∧ (U = valD (2 ^ n.toNat) (sl ds M hi) → V = valD (2 ^ n.toNat) (sl ds lo M) → U * 2 ^ sh.toNat + V = valD (2 ^ n.toNat) (sl ds lo hi)) := by
  rw [Nat.pow_succ] at hd
  have hM' := mid_in hlo.2 hne hM
  refine ⟨hM', mid_half hM hd, fun hU hV => ?_⟩
  rw [sl_split hlo.1 hM' hhi, valD_append, sl_len ⟨hlo.1, Int.le_of_lt hM'.1⟩ (Int.le_trans (Int.le_of_lt hM'.2) hhi), ← Int.pow_mul, ← hU, ← hV, hsh, Int.mul_comm U]
  exact Int.add_comm _ _
section
variable {w : World} {Kp : Heap → Prop} {name qual : Str} {params : Arguments} {body : List Stmt} {scope : Scope} {fcl : List (Str × Addr)} {doc pm ctv : Value} {c' f : Addr} {oc : Obj} {ovs : Array Value} {ot : Tok} {rest : List (Addr × Obj)} {n : Int} {ds : List Int} {binds : JArg → List (Str × Value)}
  {p : Program} {loose : List Str} {mean : ExcName → Option Value} {mg mb : Str → Option Value} {dp un : Nat} {gd : Option (List Code)} {cn : Str} {cs : Scope} {a : Addr} {ccd : Value} {cl : List (Str × Addr)} {outer : List Env} {A₀ : Around} {base h₀ : Heap} {L : Addr} {m : Str → Option Value} {s : Shared} {Q E : Value → Shared → Prop}
theorem j_go (x : JArg) (d : Nat) (hst : ∀ h g : Heap, h.StaysIn g → Kp h → Kp g) (hKp : Kp h₀) (B : Below A₀ base outer h₀) (F : Fr h₀ L s.heap m) (X : (hd.heap_39 w.params).In h₀) (T : Top p loose mean mg mb h₀) (N : News h₀ L s.heap ((f, fnMade name qual params body scope fcl doc pm c' ctv) :: rest))
    (mc : (c', oc) ∈ rest) (hod : oc.data = .fields ovs) (hov : ovs[1]? = some (.str qual ot)) (hpre : jPre ds d x ()) (hcs : cs.kind = .function) (hdp : dp + (d + 1) < recursionLimit) (hu : un + 40 * (d + 1) < cLine)
    (hbind : ∀ x (s : Shared), BindsTo s (fnX name qual params body scope fcl .none .none doc pm none (.ref c') ctv) ⟨jVals x, []⟩ (binds x)) (hloc : ∀ x, ∀ y ∈ binds x, scope.names.lookup y.1 = some .local)
    (hcell : ∀ x ∈ scope.names, x.2 ≠ .cell) (hco : scope.isCoroutine = false) (hgen : scope.isGenerator = false) (hk : scope.kind = .function)
    (step : ∀ d, (∀ d', d = d' + 1 → ClConK w Kp f jVals (fun (_ : Unit) => (f, fnMade name qual params body scope fcl doc pm c' ctv) :: rest) (d' + 1) (40 * (d' + 1)) (jPre ds d') (jPost ds n)) →
      ∀ (x : JArg) (vs : Unit) (p : Program) (loose : List Str) (mean : ExcName → Option Value) (mg mb : Str → Option Value) (dp un : Nat) (gd : Option (List Code)) (cn : Str) (cs : Scope) (L a : Addr) (ccd : Value) (cl : List (Str × Addr)) (outer : List Env) (base : Heap) (s : Shared) (g : Heap) (L' : Addr) (h₁ : Heap),
      dp + (d + 1) < recursionLimit → un + 40 * (d + 1) < cLine → jPre ds d x vs → Fr g L' h₁ (fun y => (binds x).reverse.lookup y) → News g L' h₁ ((f, fnMade name qual params body scope fcl doc pm c' ctv) :: rest) → Below (ktrTop dp un gd cn cs L a ccd cl outer) base (envX cn cs L a ccd cl :: outer) g → (hd.heap_39 w.params).In g → Top p loose mean mg mb g → Kp g →
      wpAny (model PySem.Challenge.rw_ph0148_01.row.prog w) ((ktrTop dp un gd cn cs L a ccd cl outer).deeper (envX qual scope L' f (.ref c') fcl)) (execs body (envX qual scope L' f (.ref c') fcl))
        (fun fl s' => ClEnd g L' s (fun (_ : Unit) => (f, fnMade name qual params body scope fcl doc pm c' ctv) :: rest) (jPost ds n x vs) (match fl with | .ret v => v | _ => .none) s') (fun _ _ => False)
        { s with heap := h₁, toks := s.toks + (binds x).length })
    (fin : ∀ v h' tk', Fr h₀ L h' m → News h₀ L h' ((f, fnMade name qual params body scope fcl doc pm c' ctv) :: rest) → jPost ds n x () v () → Q v { s with heap := h', toks := tk' }) :
    wpAny (model PySem.Challenge.rw_ph0148_01.row.prog w) (ktrTop dp un gd cn cs L a ccd cl outer) (call (.ref f) [.int x.lo x.t1, .int x.hi x.t2]) Q E s :=
  cl_recK (vals := jVals) (binds := binds) hst (Led := fun (_ : Unit) => (f, fnMade name qual params body scope fcl doc pm c' ctv) :: rest) (Pre := jPre ds) (Post := jPost ds n) (fun _ => .head _) ⟨oc, ovs, ot, fun _ => .tail _ mc, hod, hov⟩ hbind hloc hcell hco hgen hk step d
    x () p loose mean mg mb dp un gd cn cs a ccd cl outer A₀ base h₀ L m s Q E B F X T hKp N hpre hcs hdp hu fun v h' tk' _ F' N' hp => fin v h' tk' F' N' hp
theorem j_use {Led : Unit → List (Addr × Obj)} {dn un' : Nat} {Pre : JArg → Unit → Prop} {Post : JArg → Unit → Value → Unit → Prop}
    {lo hi : Int} {t1 t2 : Tok} (H : ClConK w Kp f jVals Led dn un' Pre Post) (B : Below A₀ base outer h₀) (F : Fr h₀ L s.heap m) (X : (hd.heap_39 w.params).In h₀) (T : Top p loose mean mg mb h₀) (hKp : Kp h₀) (N : News h₀ L s.heap (Led ())) (hpre : Pre ⟨lo, hi, t1, t2⟩ ()) (hcs : cs.kind = .function) (hdp : dp + dn < recursionLimit) (hu : un + un' < cLine)
    (fin : ∀ v h' tk', Fr h₀ L h' m → News h₀ L h' (Led ()) → Post ⟨lo, hi, t1, t2⟩ () v () → Q v { s with heap := h', toks := tk' }) :
    wpAny (model PySem.Challenge.rw_ph0148_01.row.prog w) (ktrTop dp un gd cn cs L a ccd cl outer) (call (.ref f) [.int lo t1, .int hi t2]) Q E s :=
  H ⟨lo, hi, t1, t2⟩ () p loose mean mg mb dp un gd cn cs a ccd cl outer A₀ base h₀ L m s Q E B F X T hKp N hpre hcs hdp hu fun v h' tk' _ F' N' hp => fin v h' tk' F' N' hp
end
theorem list_stays {l : Addr} {vs : Array Value} : ∀ h g : Heap, h.StaysIn g → h.IsList l vs → g.IsList l vs := fun _ _ st ⟨o, ho, r⟩ => ⟨o, st _ _ ho, r⟩
theorem j_pre0 {ds : List Int} {t1 t2 : Tok} (hln : ds.length ≤ 23) (h : 0 < ds.length) : jPre ds 5 ⟨0, (ds.length : Int), t1, t2⟩ () := by
  refine ⟨⟨Int.le_refl _, by show (0 : Int) < ds.length; omega⟩, Int.le_refl _, ?_⟩
  show ((ds.length : Int) - 0).toNat ≤ 2 ^ 5
  omega
end Mine
end
section
set_option maxHeartbeats 0
open PySem PySem.W PySem.Calls PyProof.Rows
namespace Mine
theorem rev_ind {prog : Program} {w : World} {A : Around} {E : Value → Shared → Prop} {h₀ : Heap} {env : Env} {x : Str} {body : List Stmt} {Q : Flow → Shared → Prop} {s : Shared} {I : Addr} {lp : Addr × Obj} (J : List Int → (Str → Option Value) → List (Addr × Obj) → Prop)
    (turn : ∀ e es t m news (it : Obj) h tk, J (e :: es) m news → it.cls = .type "list_reverseiterator" → Fr h₀ env.locals h (fun y => if y = x then some (.int e t) else m y) → News h₀ env.locals h ((I, it) :: news) →
      wpAny (model prog w) A (execs body env) (UnrPost h₀ env.locals { s with heap := h, toks := tk } I it (fun m' n' => lp ∈ n' ∧ J es m' n') Q) E { s with heap := h, toks := tk })
    (fin : ∀ m news h tk, J [] m news → Fr h₀ env.locals h m → News h₀ env.locals h news → Q .next { s with heap := h, toks := tk }) :
    ∀ (rs : List Value) (es : List Int) m news, IntsAre rs es → J es m news → RevRest prog w A E h₀ env x body Q s I lp rs m news
  | _, _, m, news, .nil, hJ => RevRest.zero fun h tk F N => fin m news h tk hJ F N
  | _, _, m, news, .cons e t hr, hJ => RevRest.succ fun it h tk hc F N => wpAny_mono (turn e _ t m news it h tk hJ hc F N) (fun f s₂ hp => by
      have step : ∀ s₃, UnrEnd h₀ env.locals { s with heap := h, toks := tk } I it (fun m' n' => lp ∈ n' ∧ J _ m' n') s₃ → UnrEnd h₀ env.locals { s with heap := h, toks := tk } I it (fun m' n' => lp ∈ n' ∧ RevRest prog w A E h₀ env x body Q s I lp _ m' n') s₃ := fun s₃ ⟨h', tk', m', n', e1, F', N', off, hl, hJ'⟩ =>
        ⟨h', tk', m', n', e1, F', N', off, hl, rev_ind J turn fin _ _ m' n' hr hJ'⟩
      cases f with
      | ret v => exact hp
      | brk => exact hp
      | next => exact step _ hp
      | cont => exact step _ hp) fun _ _ y => y
noncomputable def DI (β b a : Int) (es qs : List Int) (r : Int) : Prop :=
  (0 ≤ r ∧ r < b) ∧ (valD β qs.reverse * b + r) * β ^ es.length + valD β es.reverse = a ∧ qs.length + es.length ≤ 23 ∧ (∀ e ∈ es, 0 ≤ e ∧ e < β) ∧ (∀ q ∈ qs, 0 ≤ q ∧ q < β)
theorem di_start {β b a : Int} {ds : List Int} (hb : 2 ≤ b) (hl : ds.length ≤ 23) (hv : valD β ds = a) (hd : ∀ e ∈ ds, 0 ≤ e ∧ e < β) : DI β b a ds.reverse [] 0 := by
  refine ⟨⟨by omega, by omega⟩, ?_, by simpa using hl, fun e he => hd e (List.mem_reverse.mp he), fun q hq => nomatch hq⟩
  rw [List.reverse_reverse, hv]
  simp [valD]
theorem di_turn {β b a e r : Int} {es qs : List Int} (hb : 2 ≤ b) (h : DI β b a (e :: es) qs r) : DI β b a es (qs ++ [(r * β + e).fdiv b]) ((r * β + e).fmod b) := by
  obtain ⟨h1, h2, h3, h4, h5⟩ := h
  have he := h4 e (.head _)
  rw [Int.fdiv_eq_ediv_of_nonneg _ (by omega), Int.fmod_eq_emod_of_nonneg _ (by omega)]
  have hbp : 0 < b := by omega
  have hβ : 0 < β := by omega
  have ht0 : 0 ≤ r * β + e := by have := Int.mul_nonneg h1.1 (Int.le_of_lt hβ); omega
  have htb : r * β + e < β * b := by
    have h6 : (r + 1) * β ≤ b * β := Int.mul_le_mul_of_nonneg_right (by omega) (by omega)
    rw [Int.add_mul, Int.one_mul] at h6
    rw [Int.mul_comm β b]; omega
  refine ⟨⟨Int.emod_nonneg _ (by omega), Int.emod_lt_of_pos _ hbp⟩, ?_, by simp only [List.length_append, List.length_cons, List.length_nil] at h3 ⊢; omega, fun x hx => h4 x (.tail _ hx), fun q hq => ?_⟩
  · have e1 : (qs ++ [(r * β + e) / b]).reverse = (r * β + e) / b :: qs.reverse := by simp
    rw [e1]
    show ((((r * β + e) / b) + β * valD β qs.reverse) * b + (r * β + e) % b) * β ^ es.length + valD β es.reverse = a
    rw [List.reverse_cons, valD_append, List.length_reverse, List.length_cons] at h2
    have e2 : valD β [e] = e := by simp [valD]
    rw [e2, Int.pow_succ] at h2
    have e3 := Int.mul_ediv_add_emod (r * β + e) b
    have e4 : (((r * β + e) / b) + β * valD β qs.reverse) * b + (r * β + e) % b = (valD β qs.reverse * b + r) * β + e := by
      rw [Int.add_mul, Int.mul_comm ((r * β + e) / b) b, Int.add_mul (valD β qs.reverse * b), Int.mul_comm β, Int.mul_right_comm]
      omega
    rw [e4, ← h2, Int.add_mul]
    have e5 : (valD β qs.reverse * b + r) * (β ^ es.length * β) = (valD β qs.reverse * b + r) * β * β ^ es.length := by rw [Int.mul_comm (β ^ es.length) β, Int.mul_assoc]
    have e6 : β ^ es.length * e = e * β ^ es.length := Int.mul_comm _ _
    rw [e5, e6]
    omega
  · rcases List.mem_append.mp hq with hq | hq
    · exact h5 q hq
    · rw [List.mem_singleton.mp hq]
      exact ⟨Int.ediv_nonneg ht0 (by omega), Int.ediv_lt_of_lt_mul hbp htb⟩
theorem di_end {β b a r : Int} {qs : List Int} (hb : 2 ≤ b) (h : DI β b a [] qs r) : valD β qs.reverse = a.fdiv b ∧ r = a.fmod b ∧ qs.reverse.length ≤ 23 ∧ ∀ e ∈ qs.reverse, 0 ≤ e ∧ e < β := by
  obtain ⟨h1, h2, h3, _, h5⟩ := h
  rw [Int.fdiv_eq_ediv_of_nonneg _ (by omega), Int.fmod_eq_emod_of_nonneg _ (by omega)]
  have h2' : valD β qs.reverse * b + r = a := by simpa [valD] using h2
  have u : a / b = valD β qs.reverse ∧ a % b = r := by
    rw [Int.ediv_emod_unique (by omega)]
    exact ⟨by rw [Int.mul_comm]; omega, h1⟩
  exact ⟨u.1.symm, u.2.symm, by simpa using h3, fun e he => h5 e (List.mem_reverse.mp he)⟩
theorem shl_R {prog : Program} {w : World} {A : Around} {E : Value → Shared → Prop} {s : Shared} {r n : Int} {t u : Tok} {Q : Value → Shared → Prop} (hr : 0 ≤ r ∧ r < 1000) (hn : 2 ≤ n ∧ n ≤ 10) (h : ∀ S : Int, S = r * 2 ^ n.toNat → 0 ≤ S ∧ S ≤ 2000000 → Q (.int S s.toks) { s with toks := s.toks + 1 }) :
    wpAny (model prog w) A (binaryOp .LShift (.int r t) (.int n u)) Q E s := by
  refine shl_K ⟨by omega, by omega⟩ hr.1 10 (by omega) (by decide) (h _ rfl ?_)
  have h1 : (2 : Int) ^ n.toNat ≤ 2 ^ 10 := pow_le' (by omega)
  have h0 := pow_pos' n.toNat
  have h2 : r * 2 ^ n.toNat ≤ 999 * 2 ^ 10 := Int.mul_le_mul (by omega) h1 (by omega) (by decide)
  exact ⟨Int.mul_nonneg hr.1 (by omega), by omega⟩
theorem pow_dig {n e : Int} (hn : 2 ≤ n ∧ n ≤ 10) (he : 0 ≤ e ∧ e < 2 ^ n.toNat) : 0 ≤ e ∧ e ≤ 1024 := by
  have h1 : (2 : Int) ^ n.toNat ≤ 2 ^ 10 := pow_le' (by omega)
  exact ⟨he.1, by omega⟩
noncomputable def RJ (l r9 I : Addr) (vs : List Value) (k : Nat) (n b a : Int) (es : List Int) (m : Str → Option Value) (news : List (Addr × Obj)) : Prop :=
  ∃ r qs qvs c tb tr tn tb2, news = (l, W.listOf (List.toArray qvs) c) :: (r9, W.listOf vs.toArray k) :: tb ∧ TbsOk tb ∧ (∀ q ∈ tb, q.1 ≠ I) ∧ m (Str.ofString "r") = some (.int r tr) ∧ m (Str.ofString "n") = some (.int n tn) ∧ m (Str.ofString "b") = some (.int b tb2) ∧ m (Str.ofString "q_digits") = some (.ref l) ∧ IntsAre qvs qs ∧ DI (2 ^ n.toNat) b a es qs r
theorem notab_rev {l : Addr} {i : Int} : NoTab (revObj l i) := fun vs e => by
  cases e
  exact ⟨by simp [revObj], fun x t => by simp [rawInt]⟩
theorem offI_of {I : Addr} {it : Obj} : ∀ {l : List (Addr × Obj)}, (∀ q ∈ l, q.1 ≠ I) → OffI I it l
  | [], _ => trivial
  | _ :: _, h => ⟨.inl (h _ (.head _)), offI_of fun q hq => h q (.tail _ hq)⟩
theorem rj_start {l r9 I : Addr} {vs : List Value} {k : Nat} {n b a : Int} {ds : List Int} {tb : List (Addr × Obj)} {m : Str → Option Value} {tr tn tb2 : Tok} (hv : valD (2 ^ n.toNat) ds = a) (hd : ∀ e ∈ ds, 0 ≤ e ∧ e < 2 ^ n.toNat) (hb : 2 ≤ b) (hl : ds.length ≤ 23) (ok : TbsOk tb) (off : ∀ q ∈ tb, q.1 ≠ I)
    (h1 : m (Str.ofString "r") = some (.int 0 tr)) (h2 : m (Str.ofString "n") = some (.int n tn)) (h3 : m (Str.ofString "b") = some (.int b tb2)) (h4 : m (Str.ofString "q_digits") = some (.ref l)) : RJ l r9 I vs k n b a ds.reverse m ((l, W.listOf #[] 0) :: (r9, W.listOf vs.toArray k) :: tb) :=
  ⟨0, [], [], 0, tb, tr, tn, tb2, rfl, ok, off, h1, h2, h3, h4, .nil, di_start hb hl hv hd⟩
section
variable {prog : Program} {w : World} {A : Around} {E : Value → Shared → Prop} {s : Shared} {h₀ : Heap} {L D : Addr} {m : Str → Option Value} {news news' : List (Addr × Obj)} {qvs : List Value} {c : Nat} {x : Value} {Q : Value → Shared → Prop}
theorem app_K (F : Fr h₀ L s.heap m) (N : News h₀ L s.heap news) (hz : qvs.length ≤ 23) (U : Upd D (W.listOf qvs.toArray c) (W.listOf (qvs ++ [x]).toArray (c + 1)) news news') (h : ∀ h', Fr h₀ L h' m → News h₀ L h' news' → Q .none { s with heap := h' }) :
    wpAny (model prog w) A (call (.builtin "list.append") [.ref D, x]) Q E s :=
  append_K F N (by rw [show qvs.toArray.push x = (qvs ++ [x]).toArray by simp]; exact U) h (by rw [List.size_toArray, sizeLine_eq]; omega)
theorem rvs_K (F : Fr h₀ L s.heap m) (N : News h₀ L s.heap news) (hz : qvs.length ≤ 23) (U : Upd D (W.listOf qvs.toArray c) (W.listOf qvs.reverse.toArray c) news news') (h : ∀ h', Fr h₀ L h' m → News h₀ L h' news' → Q .none { s with heap := h' }) :
    wpAny (model prog w) A (call (.builtin "list.reverse") [.ref D]) Q E s :=
  kl_reverse F N (l := qvs.reverse) (by simp) U (by simp [sizeLine_eq]; omega) h
end
theorem rj_end {l r9 I : Addr} {vs : List Value} {k : Nat} {n b a e r S : Int} {es qs : List Int} {qvs : List Value} {c : Nat} {tb : List (Addr × Obj)} {m : Str → Option Value} {tr tn tb2 tq : Tok} (hS : S = r * 2 ^ n.toNat) (hb : 2 ≤ b) (hdi : DI (2 ^ n.toNat) b a (e :: es) qs r) (hqi : IntsAre qvs qs) (ok : TbsOk tb) (off : ∀ q ∈ tb, q.1 ≠ I)
    (h1 : m (Str.ofString "r") = some (.int ((S + e).fmod b) tr)) (h2 : m (Str.ofString "n") = some (.int n tn)) (h3 : m (Str.ofString "b") = some (.int b tb2)) (h4 : m (Str.ofString "q_digits") = some (.ref l)) :
    RJ l r9 I vs k n b a es m ((l, W.listOf (qvs ++ [Value.int ((S + e).fdiv b) tq]).toArray c) :: (r9, W.listOf vs.toArray k) :: tb) := by
  subst hS
  exact ⟨_, _, _, c, tb, tr, tn, tb2, rfl, ok, off, h1, h2, h3, h4, IntsAre.append hqi (.cons _ _ .nil), di_turn hb hdi⟩
theorem off_get {tb l : List (Addr × Obj)} {I : Addr} {it : Obj} (h : OffT tb ((I, it) :: l)) : ∀ q ∈ tb, q.1 ≠ I := h _ (.head _)
end Mine
end
section
set_option maxHeartbeats 0
open PySem PySem.W PySem.Calls PyProof.Rows
namespace Mine
open PySem.Builtin.Str in
theorem pad_field {c : Percent} {k : Nat} {x : List Nat} (h1 : c.ljust = false) (h2 : c.sign = false) (h3 : c.blank = false) (h4 : c.alt = false) (h5 : c.zero = true) (h6 : c.width = some k) (h7 : c.prec = none) (h8 : c.type = 100) (hx : ∀ a ∈ x, 48 ≤ a) :
    (percentField c true x = none ∧ k ≤ x.length) ∨ percentField c true x = some (List.replicate (k - x.length) 48 ++ x) := by
  by_cases hk : k ≤ x.length
  · left
    refine ⟨?_, hk⟩
    unfold percentField
    simp [h6, h7, h2, h3, hk]
  · right
    unfold percentField
    have e0 : (c.width.all (· ≤ x.length) && c.prec.all (· ≥ x.length) && !c.sign && !c.blank) = false := by simp [h6, hk]
    rw [e0]
    simp only [Bool.false_eq_true, if_false, h8, h4, h1, h5, h2, h3, h6]
    simp
    split
    · exfalso; have := hx 45 (by simp); omega
    · exfalso; have := hx 43 (by simp); omega
    · simp
theorem le48 (a : Nat) : 48 ≤ 48 + a := Nat.le_add_right _ _
theorem div0 {k : Nat} (h : k < 10) : k / 10 = 0 := Nat.div_eq_of_lt h
theorem dlt {k m : Nat} (h : k < 10 * m) : k / 10 < m := Nat.div_lt_of_lt_mul h
theorem pad_two {n : Int} (h : 0 ≤ n ∧ n ≤ 99) : ∀ x, x = (Nat.toDigits 10 n.toNat).map Char.toNat → (∀ a ∈ x, 48 ≤ a) ∧ List.replicate (2 - x.length) 48 ++ x = two n ∧ (2 ≤ x.length → x = two n) := by
  refine up (P := fun n => ∀ x, x = (Nat.toDigits 10 n.toNat).map Char.toNat → (∀ a ∈ x, 48 ≤ a) ∧ List.replicate (2 - x.length) 48 ++ x = two n ∧ (2 ≤ x.length → x = two n)) 100 (fun k hk x hx => ?_) h.1 (lt_le h.2)
  subst hx
  rw [two_nat]
  show (∀ a ∈ (Nat.toDigits 10 k).map Char.toNat, 48 ≤ a) ∧ _
  by_cases hs : k < 10
  · rw [Int.toNat_natCast, dig1 hs, div0 hs, Nat.mod_eq_of_lt hs]
    exact ⟨List.forall_mem_cons.mpr ⟨le48 _, List.forall_mem_nil _⟩, rfl, fun q => absurd q (by decide : ¬ 2 ≤ 1)⟩
  · rw [Int.toNat_natCast, digS (Nat.le_of_not_lt hs), dig1 (dlt hk)]
    exact ⟨List.forall_mem_cons.mpr ⟨le48 _, List.forall_mem_cons.mpr ⟨le48 _, List.forall_mem_nil _⟩⟩, rfl, fun _ => rfl⟩
theorem pad_four {n : Int} (h : 0 ≤ n ∧ n ≤ 9999) : ∀ x, x = (Nat.toDigits 10 n.toNat).map Char.toNat → (∀ a ∈ x, 48 ≤ a) ∧ List.replicate (4 - x.length) 48 ++ x = four n ∧ (4 ≤ x.length → x = four n) := by
  refine up (P := fun n => ∀ x, x = (Nat.toDigits 10 n.toNat).map Char.toNat → (∀ a ∈ x, 48 ≤ a) ∧ List.replicate (4 - x.length) 48 ++ x = four n ∧ (4 ≤ x.length → x = four n)) 10000 (fun k hk x hx => ?_) h.1 (lt_le h.2)
  subst hx
  rw [four_nat2, Int.toNat_natCast]
  have l1 : ∀ a, 48 ≤ 48 + a := le48
  by_cases h1 : k < 10
  · rw [dig1 h1, div0 h1, Nat.mod_eq_of_lt h1]
    exact ⟨List.forall_mem_cons.mpr ⟨l1 _, List.forall_mem_nil _⟩, rfl, fun q => absurd q (by decide : ¬ 4 ≤ 1)⟩
  · by_cases h2 : k < 100
    · rw [digS (Nat.le_of_not_lt h1), dig1 (dlt h2), div0 (dlt h2), Nat.mod_eq_of_lt (dlt (m := 10) h2)]
      exact ⟨List.forall_mem_cons.mpr ⟨l1 _, List.forall_mem_cons.mpr ⟨l1 _, List.forall_mem_nil _⟩⟩, rfl, fun q => absurd q (by decide : ¬ 4 ≤ 2)⟩
    · have g2 : ¬ k / 10 < 10 := fun q => h2 ((Nat.div_lt_iff_lt_mul (by decide)).mp q)
      by_cases h3 : k < 1000
      · rw [digS (Nat.le_of_not_lt h1), digS (Nat.le_of_not_lt g2), dig1 (dlt (dlt (m := 100) h3)), div0 (dlt (dlt (m := 100) h3)), Nat.mod_eq_of_lt (dlt (m := 10) (dlt (m := 100) h3))]
        exact ⟨List.forall_mem_cons.mpr ⟨l1 _, List.forall_mem_cons.mpr ⟨l1 _, List.forall_mem_cons.mpr ⟨l1 _, List.forall_mem_nil _⟩⟩⟩, rfl, fun q => absurd q (by decide : ¬ 4 ≤ 3)⟩
      · have g3 : ¬ k / 10 / 10 < 10 := fun q => h3 (by
          rw [Nat.div_div_eq_div_mul] at q
          exact (Nat.div_lt_iff_lt_mul (by decide)).mp q)
        rw [digS (Nat.le_of_not_lt h1), digS (Nat.le_of_not_lt g2), digS (Nat.le_of_not_lt g3), dig1 (dlt (dlt (m := 100) (dlt (m := 1000) hk)))]
        exact ⟨List.forall_mem_cons.mpr ⟨l1 _, List.forall_mem_cons.mpr ⟨l1 _, List.forall_mem_cons.mpr ⟨l1 _, List.forall_mem_cons.mpr ⟨l1 _, List.forall_mem_nil _⟩⟩⟩⟩, rfl, fun _ => rfl⟩
section
open PySem.Builtin.Str
variable {M : Model} {A : Around} {E : Value → Shared → Prop} {s : Shared} {p : List Value} {r : List Nat} {Q : ForInStep (List Value × Writer × List Nat) → Shared → Prop} {w : Writer} {T : Str} {N : Nat}
theorem pad_turn {c : Percent} {x t2 : List Nat} {o : Option Value} (K : Nat) (hK : t2.length = K) (g : KPc.Good w T N) (ho : o = none) (hp : (percentField c true x = none ∧ x = t2) ∨ percentField c true x = some t2) (h : ∀ w', KPc.Good w' (T ++ (⟨t2.toArray⟩ : Str)) (N + K) → Q (.yield (p, w', r)) s) :
    wpAny M A (match percentField c true x with | none => pure (ForInStep.yield (p, w.add ⟨x.toArray⟩ o, r)) | some laid => pure (ForInStep.yield (p, w.add ⟨laid.toArray⟩, r))) Q E s := by
  have hl : (⟨t2.toArray⟩ : Str).length = K := by simp [Str.length, hK]
  rcases hp with ⟨e, e2⟩ | e
  · rw [e, e2]
    refine wpAny_pure (h _ ?_)
    have := KPc.good_add (x := ⟨t2.toArray⟩) g (KPc.obj_none ho)
    rw [hl] at this
    exact this
  · rw [e]
    refine wpAny_pure (h _ ?_)
    have := KPc.good_add (x := ⟨t2.toArray⟩) g (KPc.obj_none (o := none) rfl)
    rw [hl] at this
    exact this
theorem pad_two' {c : Percent} {n : Int} {d : List Nat} (h : 0 ≤ n ∧ n ≤ 99) (h1 : c.ljust = false) (h2 : c.sign = false) (h3 : c.blank = false) (h4 : c.alt = false) (h5 : c.zero = true) (h6 : c.width = some 2) (h7 : c.prec = none) (h8 : c.type = 100) (hd : d = (Str.ofString (toString ((n.natAbs : Nat) : Int))).cps.toList) :
    (percentField c true (percentInt c (decide (n < 0)) d) = none ∧ percentInt c (decide (n < 0)) d = two n) ∨ percentField c true (percentInt c (decide (n < 0)) d) = some (two n) := by
  have en : ((n.natAbs : Nat) : Int) = n := Int.natAbs_of_nonneg h.1
  rw [KPc.int_text c h4 (.inl h8) h7 h.1, hd, en, txt_num h.1]
  obtain ⟨a1, a2, a3⟩ := pad_two h _ rfl
  rcases pad_field h1 h2 h3 h4 h5 h6 h7 h8 a1 with ⟨q1, q2⟩ | q
  · exact .inl ⟨q1, a3 q2⟩
  · exact .inr (by rw [q, a2])
theorem pad_four' {c : Percent} {n : Int} {d : List Nat} (h : 0 ≤ n ∧ n ≤ 9999) (h1 : c.ljust = false) (h2 : c.sign = false) (h3 : c.blank = false) (h4 : c.alt = false) (h5 : c.zero = true) (h6 : c.width = some 4) (h7 : c.prec = none) (h8 : c.type = 100) (hd : d = (Str.ofString (toString ((n.natAbs : Nat) : Int))).cps.toList) :
    (percentField c true (percentInt c (decide (n < 0)) d) = none ∧ percentInt c (decide (n < 0)) d = four n) ∨ percentField c true (percentInt c (decide (n < 0)) d) = some (four n) := by
  have en : ((n.natAbs : Nat) : Int) = n := Int.natAbs_of_nonneg h.1
  rw [KPc.int_text c h4 (.inl h8) h7 h.1, hd, en, txt_num h.1]
  obtain ⟨a1, a2, a3⟩ := pad_four h _ rfl
  rcases pad_field h1 h2 h3 h4 h5 h6 h7 h8 a1 with ⟨q1, q2⟩ | q
  · exact .inl ⟨q1, a3 q2⟩
  · exact .inr (by rw [q, a2])
end
end Mine
end
section
set_option maxHeartbeats 0
open PySem PySem.W PySem.Calls PyProof.Rows
namespace Mine
section
variable {prog : Program} {w : World} {A : Around} {E : Value → Shared → Prop} {s : Shared} {h₀ : Heap} {L : Addr} {m : Str → Option Value} {env : Env}
/-- the turns of a comprehension over a list of the ledger, where a turn may draw. -/
noncomputable def DRest (prog : Program) (w : World) (A : Around) (h₀ : Heap) (L : Addr) (m : Str → Option Value) (env : Env) (elt : Expr) (x : Str) (scope : Scope) (cl : List (Str × Addr)) (s : Shared) (S : List (Addr × Obj) → Prop) (its : Array Value)
    (Fin : List Value → List (Addr × Obj) → Prop) : Nat → Nat → List Value → List (Addr × Obj) → Prop
  | 0, _, ys, news => Fin ys news
  | k + 1, i, ys, news => ∀ v I oI C oC D m₂ h tk dr (E' : Value → Shared → Prop), its[i]? = some v → LCg.NsObj oC m₂ → m₂ x = some v → Fr h₀ L h m → News h₀ L h ((I, oI) :: (C, oC) :: (D, LCg.lst ys) :: news) → LCg.Off3 I C D news → ((@Ne Nat I C) ∧ (@Ne Nat I D) ∧ (@Ne Nat C D)) →
      wpAny (model prog w) A (eval elt (compEnvC scope cl C env)) (fun y s₂ => ∃ h' tk' dr' news', s₂ = { s with heap := h', toks := tk', drawn := dr' } ∧ Fr h₀ L h' m ∧ News h₀ L h' ((I, oI) :: (C, oC) :: (D, LCg.lst ys) :: news') ∧ LCg.Off3 I C D news' ∧ S news' ∧
        DRest prog w A h₀ L m env elt x scope cl s S its Fin k (i + 1) (ys ++ [y]) news') E' { s with heap := h, toks := tk, drawn := dr }
noncomputable def DFin (h₀ : Heap) (L : Addr) (m : Str → Option Value) (s : Shared) (y : Str) (Q : Flow → Shared → Prop) (ys : List Value) (news : List (Addr × Obj)) : Prop :=
  ∀ D h tk dr, Fr h₀ L h (fun z => if z = y then some (.ref D) else m z) → News h₀ L h ((D, LCg.lst ys) :: news) → LCg.Off1 D news → Q .next { s with heap := h, toks := tk, drawn := dr }
noncomputable def DSrc (prog : Program) (w : World) (A : Around) (h₀ : Heap) (L : Addr) (m : Str → Option Value) (env : Env) (elt : Expr) (x : Str) (scope : Scope) (cl : List (Str × Addr)) (Fin : Shared → List Value → List (Addr × Obj) → Prop) (xv : Value) (s₁ : Shared) : Prop :=
  ∃ ax its news, xv = .ref ax ∧ A.handled = none ∧ Fr h₀ L s₁.heap m ∧ News h₀ L s₁.heap news ∧ LCg.SrcAt h₀ ax its news ∧ its.size ≤ sizeLine ∧
    ∀ g : Heap, DRest prog w A h₀ L m env elt x scope cl { s₁ with heap := g } (LCg.SrcAt h₀ ax its) its (Fin { s₁ with heap := g }) its.size 0 [] news
theorem blockD {elt iter : Expr} {x : Str} {px : Pos} {scope : Scope} {cl : List (Str × Addr)} {pos : Pos} {s₂ : Shared} {I ax : Addr} {its : Array Value} {news : List (Addr × Obj)}
    {Fin : List Value → List (Addr × Obj) → Prop} {RR : Value → Addr → Result → Shared → Prop}
    (W : Walks prog w A I [I, ax] [I] its.size (fun i v => its[i]? = some v) (fun i h => h.IsListIter I ax i ∧ h.IsList ax its)) (hsz : its.size ≤ sizeLine)
    (hcell : ∀ y ∈ scope.names, y.2 ≠ .cell) (hkind : scope.kind = .function) (hx : scope.names.lookup x = some .local) (hst : s₂.heap.IsListIter I ax 0 ∧ s₂.heap.IsList ax its) (hfp : ∀ b ∈ [I, ax], b < s₂.heap.objs.size)
    (F : Fr h₀ L s₂.heap m) (N : News h₀ L s₂.heap news) (hIL : L ≠ I) (hI₀ : h₀.get? I = none) (off : ∀ p ∈ news, p.1 ≠ I) (hS : LCg.SrcAt h₀ ax its news)
    (R : DRest prog w A h₀ L m env elt x scope cl s₂ (LCg.SrcAt h₀ ax its) its Fin its.size 0 [] news)
    (hRR : ∀ D C h tk dr m' ys news', Fr h₀ L h m → News h₀ L h ((D, LCg.lst ys) :: news') → LCg.Off1 D news' → h.Ns C m' → h₀.get? C = none → h₀.get? D = none → C ≠ L → D ≠ L → C ≠ D → (∀ p ∈ news', p.1 ≠ C) → Fin ys news' → RR (.ref D) C (.ok .next) { s₂ with heap := h, toks := tk, drawn := dr }) :
    wpAny (model prog w) A (newList []) (fun acc s₃ => wpAny (model prog w) A (newFunctionEnv scope env.globals cl [] env.qual none .none (some env)) (fun cenv s₄ =>
      codeAny (model prog w) A (.compStart (.ListComp elt [⟨.Name x px, iter, [], 0⟩] scope pos) 0 (.ref I) acc { cenv with scope := relabel scope env }) (RR acc cenv.locals) s₄) E s₃) E s₂ := by
  refine wpAny_newObj_type (wpAny_newFunctionEnv hcell (by intro y hy; simp at hy) (fun h₁ hns₁ hsb₁ => ?_) hkind)
  dsimp only at hns₁ hsb₁ ⊢
  generalize hH2 : s₂.heap.push { cls := .type "list", dict := none, data := .seq ([] : List Value).toArray } = H2 at hns₁ hsb₁ ⊢
  have szH : H2.objs.size = s₂.heap.objs.size + 1 := by rw [← hH2, Heap.size_push]
  have neDC : s₂.heap.objs.size ≠ H2.objs.size := by rw [szH]; exact Nat.ne_of_lt (Nat.lt_succ_self _)
  have low : ∀ b, b < s₂.heap.objs.size → b ≠ H2.objs.size ∧ b ≠ s₂.heap.objs.size := fun b hb => ⟨by rw [szH]; exact Nat.ne_of_lt (Nat.lt_succ_of_lt hb), Nat.ne_of_lt hb⟩
  have hDf : s₂.heap.objs.size ∉ [I, ax] := fun hm => Nat.lt_irrefl _ (hfp _ hm)
  have hCf : H2.objs.size ∉ [I, ax] := fun hm => by have := hfp _ hm; rw [szH] at this; exact Nat.lt_irrefl _ (Nat.lt_of_succ_lt this)
  have hIlt : I < s₂.heap.objs.size := hfp I (.head _)
  have old : ∀ b o, s₂.heap.get? b = some o → h₁.get? b = some o := fun b o e => hsb₁.extBut b o (low b (Heap.lt_size e)).1 (Heap.get?_push_of_some _ (hH2 ▸ Heap.get?_push_of_some _ e))
  have hacc : h₁.get? s₂.heap.objs.size = some (LCg.lst []) := hsb₁.extBut _ _ neDC (Heap.get?_push_of_some _ (hH2 ▸ Heap.get?_push_size _ rfl))
  have hst₁ : h₁.IsListIter I ax 0 ∧ h₁.IsList ax its := W.frame _ _ _ hst fun b _ o e => old b o e
  have fresh₀ : ∀ a, s₂.heap.objs.size ≤ a → h₀.get? a = none := fun a ha => by
    cases e : h₀.get? a with
    | none => rfl
    | some o' => exact absurd (Heap.lt_size (F.keep a o' e)) (Nat.not_lt.mpr ha)
  have hD₀ : h₀.get? s₂.heap.objs.size = none := fresh₀ _ (Nat.le_refl _)
  have hC₀ : h₀.get? H2.objs.size = none := fresh₀ _ (by omega)
  have hLlt : L < s₂.heap.objs.size := F.ns.lt
  have hDL : s₂.heap.objs.size ≠ L := Ne.symm (low L hLlt).2
  have hCL : H2.objs.size ≠ L := Ne.symm (low L hLlt).1
  have hCI : I ≠ H2.objs.size := (low I hIlt).1
  have hDI : I ≠ s₂.heap.objs.size := (low I hIlt).2
  have off₀ : LCg.Off3 I H2.objs.size s₂.heap.objs.size news := LCg.Off3.of fun p hp => ⟨off p hp, (low _ (Heap.lt_size (N p hp).1)).1, (low _ (Heap.lt_size (N p hp).1)).2⟩
  have loop : ∀ s₃ : Shared, s₃ = { s₂ with heap := h₁, toks := s₂.toks + ([] : List (Str × Value)).length } →
      codeAny (model prog w) A (.compLoop (.ListComp elt [⟨.Name x px, iter, [], 0⟩] scope pos) 0 (.ref I) (.ref s₂.heap.objs.size) (compEnvC scope cl H2.objs.size env))
        (RR (.ref s₂.heap.objs.size) H2.objs.size) s₃ := by
    rintro s₃ rfl
    refine codeAny_compLoop_tests
      (fun k s' => ∃ h' tk dr i ys m' news', s' = { s₂ with heap := h', toks := tk, drawn := dr } ∧ i ≤ its.size ∧ k = its.size + 1 - i ∧ ys.length = i ∧ (h'.IsListIter I ax i ∧ h'.IsList ax its) ∧ Fr h₀ L h' m ∧ h'.Ns H2.objs.size m' ∧ News h₀ L h' ((s₂.heap.objs.size, LCg.lst ys) :: news') ∧
        LCg.Off3 I H2.objs.size s₂.heap.objs.size news' ∧ LCg.SrcAt h₀ ax its news' ∧ DRest prog w A h₀ L m env elt x scope cl s₂ (LCg.SrcAt h₀ ax its) its Fin (its.size - i) i ys news') ?_ (its.size + 1)
      ⟨h₁, _, s₂.drawn, 0, [], _, news, rfl, Nat.zero_le _, rfl, rfl, hst₁, F.keeps old, hns₁, fun p hp => ?_, off₀, hS, R⟩
    · rintro k s' ⟨h', tk, dr, i, ys, m', news', rfl, hi, rfl, hyl, hst', F', hn', N', off', hS', R'⟩
      have off3 := off'.mem
      by_cases hlt : i < its.size
      · obtain ⟨j, hj⟩ : ∃ j, its.size - i = j + 1 := ⟨its.size - i - 1, by omega⟩
        rw [hj] at R'
        refine W.item i _ _ _ hlt hst' fun v h₂ tk₂ hPv hst₂ hk₂ => ?_
        refine wpAny_assign_Name (wpAny_storeName_local (lookup_relabel_local hx) (hn'.at' fun o e => hk₂ _ o (by simpa using Ne.symm hCI) e) (fun h₃ hn₃ hs₃ => ?_) (by simp [compEnvC, relabel, hkind]))
        refine wpAny_tests_nil ?_
        simp only [if_true]
        have hst₃ : h₃.IsListIter I ax (i + 1) ∧ h₃.IsList ax its := W.frame _ _ _ hst₂ fun b hb o e => hs₃.extBut b o (fun q => hCf (by have q' : b = H2.objs.size := q; rw [← q']; exact hb)) e
        obtain ⟨oI, heI⟩ : ∃ o, h₃.get? I = some o := by obtain ⟨o, e, _⟩ := hst₃.1; exact ⟨o, e⟩
        obtain ⟨oC, heC, hoC⟩ := LCg.ns_obj hn₃
        have F₃ : Fr h₀ L h₃ m := (LCg.fr_but F' hk₂ hIL hI₀).change hs₃ hCL hC₀
        have N₂ : News h₀ L h₂ ((s₂.heap.objs.size, LCg.lst ys) :: news') := LCg.news_but N' hk₂ fun p hp => by
          rcases List.mem_cons.mp hp with rfl | hp
          · exact Ne.symm hDI
          · exact (off3 p hp).1
        have N₃ : News h₀ L h₃ ((I, oI) :: (H2.objs.size, oC) :: (s₂.heap.objs.size, LCg.lst ys) :: news') := fun p hp => by
          rcases List.mem_cons.mp hp with rfl | hp
          · exact ⟨heI, Ne.symm hIL, hI₀⟩
          · rcases List.mem_cons.mp hp with rfl | hp
            · exact ⟨heC, hCL, hC₀⟩
            · have z := N₂ p hp
              refine ⟨hs₃.extBut _ _ ?_ z.1, z.2⟩
              rcases List.mem_cons.mp hp with rfl | hp
              · exact neDC
              · exact (off3 p hp).2.1
        refine wpAny_mono (R' v I oI H2.objs.size oC s₂.heap.objs.size _ h₃ _ dr _ hPv hoC (by simp) F₃ N₃ off' ⟨hCI, hDI, Ne.symm neDC⟩) (fun y s₄ h₄ => ?_) fun _ _ e => e
        obtain ⟨h₄, tk₄, dr₄, news₄, rfl, F₄, N₄, off₄, hS₄, R₄⟩ := h₄
        have zI := (N₄ (I, oI) List.mem_cons_self).1
        have zC := (N₄ (H2.objs.size, oC) (List.mem_cons_of_mem _ List.mem_cons_self)).1
        have zD := (N₄ (s₂.heap.objs.size, LCg.lst ys) (List.mem_cons_of_mem _ (List.mem_cons_of_mem _ List.mem_cons_self))).1
        have N₄' : News h₀ L h₄ news₄ := fun p hp => N₄ p (List.mem_cons_of_mem _ (List.mem_cons_of_mem _ (List.mem_cons_of_mem _ hp)))
        have hst₄ : h₄.IsListIter I ax (i + 1) ∧ h₄.IsList ax its := LCg.list_st (h₀ := h₀) (L := L) _ _ _ _ _ hst₃ heI zI F₄.keep N₄' hS₄
        refine append_at (hsz := by show ys.toArray.size ≤ sizeLine; rw [List.size_toArray, hyl]; exact Nat.le_trans hi hsz) zD fun h₅ hs₅ hD₅ => ?_
        have off4 := off₄.mem
        refine ⟨its.size + 1 - (i + 1), by omega, h₅, tk₄, dr₄, i + 1, ys ++ [y], _, news₄, rfl, hlt, rfl, by rw [List.length_append, List.length_singleton, hyl], W.frame _ _ _ hst₄ fun b hb o e => hs₅.extBut b o (fun q => hDf (q ▸ hb)) e, F₄.change hs₅ hDL hD₀,
          (hoC.ns zC).sameBut hs₅ (Ne.symm neDC), fun p hp => ?_, off₄, hS₄, ?_⟩
        · rcases List.mem_cons.mp hp with rfl | hp
          · exact ⟨hD₅.trans (congrArg some (LCg.lst_snoc ys y)), hDL, hD₀⟩
          · exact ⟨hs₅.extBut _ _ (off4 p hp).2.2 (N₄' p hp).1, (N₄' p hp).2⟩
        · rw [show its.size - (i + 1) = j by omega]
          exact R₄
      · obtain rfl : i = its.size := Nat.le_antisymm hi (Nat.not_lt.mp hlt)
        rw [Nat.sub_self] at R'
        refine W.done _ _ _ hst' fun h₂ tk₂ hk₂ => ?_
        exact hRR _ _ h₂ tk₂ dr _ ys news' (LCg.fr_but F' hk₂ hIL hI₀) (LCg.news_but N' hk₂ fun p hp => by
          rcases List.mem_cons.mp hp with rfl | hp
          · exact Ne.symm hDI
          · exact (off3 p hp).1) off'.one (hn'.at' fun o e => hk₂ _ o (by simpa using Ne.symm hCI) e) hC₀ hD₀ hCL hDL (Ne.symm neDC) (fun p hp => (off3 p hp).2.1) R'
    · rcases List.mem_cons.mp hp with rfl | hp
      · exact ⟨hacc, hDL, hD₀⟩
      · exact ⟨old _ _ (N p hp).1, (N p hp).2⟩
  exact codeAny_compStart_list (loop _ rfl) (W.self 0 _ _ _ hst₁ (loop _ rfl))
theorem assignD {elt iter : Expr} {x y : Str} {px py : Pos} {scope : Scope} {cl : List (Str × Addr)} {pos spos : Pos} {Q : Flow → Shared → Prop} (F₀ : Fr h₀ L s.heap m) (hLe : env.locals = L)
    (hsw : swapsWith (.ListComp elt [⟨.Name x px, iter, [], 0⟩] scope pos) (some (.Name y py)) spos.line env = pure true)
    (hclos : closureFor scope env = pure cl) (hcell : ∀ z ∈ scope.names, z.2 ≠ .cell) (hkind : scope.kind = .function)
    (hnames : ∀ z ∈ scope.names, z.2 = .local → scope.names.lookup z.1 = some .local) (hx : scope.names.lookup x = some .local)
    (hy : env.kindOf y = some .local) (hp : (env.scope.kind == .class || (env.scope.kind == .module && env.locals != env.globals)) = false)
    (h : wpAny (model prog w) A (eval iter env) (DSrc prog w A h₀ L m env elt x scope cl (fun s₂ => DFin h₀ L m s₂ y Q)) E s)
    (hs : ∀ x, foldedSetIterable iter env x = pure x := by intro _; rfl) :
    wpAny (model prog w) A (exec (.Assign [.Name y py] (.ListComp elt [⟨.Name x px, iter, [], 0⟩] scope pos) spos) env) Q E s := by
  subst hLe
  rw [exec_Assign_Name_used _ _ _ _ hsw]
  refine wpAny_bind (wpAny_standAt (wpAny_bind ?_))
  show wpAny _ A (do let _ ← comprehension (.ListComp elt [⟨.Name x px, iter, [], 0⟩] scope pos) scope env _ (newList []) false (eval iter env) (some (assign (.Name y py) env))) _ _ s
  refine wpAny_bind (wpAny_mono (wpAny_comprehension_free (use := some (assign (.Name y py) env)) (Q := fun _ s' => Q .next s') rfl hs hclos hkind hnames
    (wpAny_mono h (fun xv s₁ h₁ => ?_) fun _ _ e => e)) (fun _ s' hq => wpAny_pure (wpAny_pure hq)) fun _ _ e => e)
  obtain ⟨ax, its, news, rfl, hh, F, N, S, hsz, R⟩ := h₁
  have hl := S.list F.keep N
  have hlt : ax < s₁.heap.objs.size := by obtain ⟨_, e, _⟩ := hl; exact Heap.lt_size e
  refine wpAny_pyIter_list hl ?_
  have up : ∀ b o, s₁.heap.get? b = some o → (s₁.heap.push { cls := .type "list_iterator", data := .fields #[.ref ax, .int 0 0] }).get? b = some o := fun b o e => Heap.get?_push_of_some _ e
  refine blockD (Walks.list hh s₁.heap.objs.size ax (Nat.ne_of_lt hlt) its) hsz hcell hkind hx ⟨⟨_, Heap.get?_push_size _ rfl, rfl, rfl⟩, hl.push _⟩ (fun b hb => ?_)
    (F.keeps up) (N.grown up) (Nat.ne_of_lt F.ns.lt) (next_is_new F) (fun p hp => Nat.ne_of_lt (Heap.lt_size (N p hp).1)) S (R _) ?_
  · show b < (s₁.heap.push _).objs.size
    rw [Heap.size_push]
    rcases List.mem_cons.mp hb with rfl | hb
    · exact Nat.lt_succ_self _
    · rw [List.mem_singleton.mp hb]; exact Nat.lt_succ_of_lt hlt
  · intro D C h' tk dr m' ys news' F' N' o1 hn hC₀ hD₀ hCL hDL hCD offC fin
    show wpAny _ A (assign (.Name y py) env (.ref D)) _ _ _
    refine wpAny_assign_Name (wpAny_storeName_local hy F'.ns (fun h₂ hn₂ hs₂ => ?_) hp)
    have hL₀ : h₀.get? env.locals = none := Heap.get?_none_of_le F'.above
    have F₂ : Fr h₀ env.locals h₂ (fun z => if z = y then some (.ref D) else m z) := ⟨hn₂, fun b o e => hs₂.extBut b o (fun q => by rw [q, hL₀] at e; cases e) (F'.keep b o e), F'.above⟩
    refine ⟨m', hn.sameBut hs₂ hCL, fun h'' hs'' => fin D h'' _ dr (F₂.change hs'' hCL hC₀) (fun p hp => ?_) o1⟩
    have z : h₂.get? p.1 = some p.2 := hs₂.extBut _ _ (N' p hp).2.1 (N' p hp).1
    refine ⟨hs''.extBut _ _ ?_ z, (N' p hp).2⟩
    rcases List.mem_cons.mp hp with rfl | hp
    · exact Ne.symm hCD
    · exact offC p hp
end
end Mine
end
section
set_option maxHeartbeats 0
open PySem PySem.W PySem.Calls PyProof.Rows
namespace Mine
theorem turnsD {prog : Program} {w : World} {A : Around} {h₀ : Heap} {L : Addr} {m : Str → Option Value} {env : Env} {elt : Expr} {x : Str} {scope : Scope} {cl : List (Str × Addr)} {s : Shared} {S : List (Addr × Obj) → Prop} {its : Array Value} {Fin : List Value → List (Addr × Obj) → Prop}
    {own : List (Addr × Obj)} (f : Nat → Value → Prop) (n : Nat) (hS : ∀ tb, S (own ++ tb))
    (turn : ∀ i v I oI C oC D m₂ h tk dr ys tb (Q E' : Value → Shared → Prop), i < n → its[i]? = some v → LCg.NsObj oC m₂ → m₂ x = some v → TbsOk tb → Fr h₀ L h m → News h₀ L h ((I, oI) :: (C, oC) :: (D, LCg.lst ys) :: (own ++ tb)) → OffT tb [(I, oI), (C, oC), (D, LCg.lst ys)] →
      (∀ y h' tk' dr' tb', Fr h₀ L h' m → News h₀ L h' ((I, oI) :: (C, oC) :: (D, LCg.lst ys) :: (own ++ tb')) → TbsOk tb' → OffT tb' [(I, oI), (C, oC), (D, LCg.lst ys)] → f i y → Q y { s with heap := h', toks := tk', drawn := dr' }) →
      wpAny (model prog w) A (eval elt (compEnvC scope cl C env)) Q E' { s with heap := h, toks := tk, drawn := dr })
    (fin : ∀ ys tb, TbsOk tb → ys.length = n → (∀ i y, ys[i]? = some y → f i y) → Fin ys (own ++ tb)) :
    ∀ k i ys tb, i + k = n → ys.length = i → (∀ j y, ys[j]? = some y → f j y) → TbsOk tb → DRest prog w A h₀ L m env elt x scope cl s S its Fin k i ys (own ++ tb)
  | 0, i, ys, tb, hn, hl, hf, ok => fin ys tb ok (by omega) hf
  | k + 1, i, ys, tb, hn, hl, hf, ok => fun v I oI C oC D m₂ h tk dr E' hP hC hx F N off ne => by
      have om := off.mem
      refine turn i v I oI C oC D m₂ h tk dr ys tb _ E' (by omega) hP hC hx ok F N (fun p hp q hq => ?_) fun y h' tk' dr' tb' F' N' ok' of' hy => ?_
      · simp only [List.mem_cons, List.not_mem_nil, or_false] at hp
        have z := om q (List.mem_append_right _ hq)
        rcases hp with rfl | rfl | rfl
        · exact z.1
        · exact z.2.1
        · exact z.2.2
      · refine ⟨h', tk', dr', own ++ tb', rfl, F', N', LCg.Off3.of fun p hp => ?_, hS _, turnsD f n hS turn fin k (i + 1) (ys ++ [y]) tb' (by omega) (by simp [hl]) (fun j z hz => ?_) ok'⟩
        · rcases List.mem_append.mp hp with hp | hp
          · exact om p (List.mem_append_left _ hp)
          · exact ⟨of' _ (.head _) p hp, of' _ (.tail _ (.head _)) p hp, of' _ (.tail _ (.tail _ (.head _))) p hp⟩
        · rw [List.getElem?_append] at hz
          split at hz
          · exact hf j z hz
          · have : j = i := by
              rcases Nat.lt_or_ge (j - ys.length) 1 with h1 | h1
              · omega
              · rw [List.getElem?_eq_none (by simpa using h1)] at hz; cases hz
            subst this
            rw [hl, Nat.sub_self] at hz
            cases hz
            exact hy
theorem comp_srcD {prog : Program} {w : World} {A : Around} {h₀ : Heap} {L : Addr} {m : Str → Option Value} {env : Env} {elt : Expr} {x : Str} {scope : Scope} {cl : List (Str × Addr)} {Fin : Shared → List Value → List (Addr × Obj) → Prop} {ax : Addr} {its : Array Value} {k : Nat} {news own tb : List (Addr × Obj)} {s₁ : Shared}
    (f : Nat → Value → Prop) (hh : A.handled = none) (F : Fr h₀ L s₁.heap m) (N : News h₀ L s₁.heap news) (S : Split news own tb) (hm : (ax, ({ cls := .type "list", data := .seq its k } : Obj)) ∈ own) (hsz : its.size ≤ sizeLine)
    (turn : ∀ i v I oI C oC D m₂ h tk dr ys tb (Q E' : Value → Shared → Prop), i < its.size → its[i]? = some v → LCg.NsObj oC m₂ → m₂ x = some v → TbsOk tb → Fr h₀ L h m → News h₀ L h ((I, oI) :: (C, oC) :: (D, LCg.lst ys) :: (own ++ tb)) → OffT tb [(I, oI), (C, oC), (D, LCg.lst ys)] →
      (∀ y h' tk' dr' tb', Fr h₀ L h' m → News h₀ L h' ((I, oI) :: (C, oC) :: (D, LCg.lst ys) :: (own ++ tb')) → TbsOk tb' → OffT tb' [(I, oI), (C, oC), (D, LCg.lst ys)] → f i y → Q y { s₁ with heap := h', toks := tk', drawn := dr' }) →
      wpAny (model prog w) A (eval elt (compEnvC scope cl C env)) Q E' { s₁ with heap := h, toks := tk, drawn := dr })
    (fin : ∀ (g : Heap) ys tb, TbsOk tb → ys.length = its.size → (∀ i y, ys[i]? = some y → f i y) → Fin { s₁ with heap := g } ys (own ++ tb)) :
    DSrc prog w A h₀ L m env elt x scope cl Fin (.ref ax) s₁ := by
  obtain ⟨rfl, ok⟩ := S.eq
  refine ⟨ax, its, own ++ tb, rfl, hh, F, N, .inr ⟨_, List.mem_append_left _ hm, rfl, _, rfl⟩, hsz, fun g => ?_⟩
  exact turnsD (s := { s₁ with heap := g }) f its.size (fun tb => .inr ⟨_, List.mem_append_left _ hm, rfl, _, rfl⟩) turn (fin g) its.size 0 [] tb (by omega) rfl (fun j y h => by simp at h) ok
end Mine
end
section
set_option maxHeartbeats 0
open PySem PySem.W PySem.Calls PyProof.Rows
namespace Mine
theorem dFin {h₀ : Heap} {L : Addr} {m : Str → Option Value} {g : Heap} {gs : Array GenState} {dr : Drawn} {tk : Nat} {os : OsState} {ys : List Value} {news : List (Addr × Obj)} {y : Str} {Q : Flow → Shared → Prop}
    (h : ∀ D h tk' dr', Fr h₀ L h (fun z => if z = y then some (.ref D) else m z) → News h₀ L h ((D, LCg.lst ys) :: news) → LCg.Off1 D news → Q .next ⟨h, gs, dr', tk', os⟩) : DFin h₀ L m ⟨g, gs, dr, tk, os⟩ y Q ys news := h
theorem comp_3D {prog : Program} {w : World} {A : Around} {h₀ : Heap} {L : Addr} {m : Str → Option Value} {env : Env} {elt : Expr} {x : Str} {scope : Scope} {cl : List (Str × Addr)} {Fin : Shared → List Value → List (Addr × Obj) → Prop} {ax : Addr} {i0 i1 i2 : Value} {k : Nat} {news own tb : List (Addr × Obj)}
    {hp : Heap} {gs : Array GenState} {dr : Drawn} {tk : Nat} {os : OsState}
    (V : Nat → Tok → Value) {W : Nat → Value → Prop} (h0 : W 0 i0) (h1 : W 1 i1) (h2 : W 2 i2) (hh : A.handled = none) (F : Fr h₀ L hp m) (N : News h₀ L hp news) (S : Split news own tb) (hm : (ax, ({ cls := .type "list", data := .seq #[i0, i1, i2] k } : Obj)) ∈ own)
    (turn : ∀ i v I oI C oC D m₂ h tk dr ys tb (Q E' : Value → Shared → Prop), W i v → LCg.NsObj oC m₂ → m₂ x = some v → TbsOk tb → Fr h₀ L h m → News h₀ L h ((I, oI) :: (C, oC) :: (D, LCg.lst ys) :: (own ++ tb)) → OffT tb [(I, oI), (C, oC), (D, LCg.lst ys)] →
      (∀ t h' tk' dr' tb', Fr h₀ L h' m → News h₀ L h' ((I, oI) :: (C, oC) :: (D, LCg.lst ys) :: (own ++ tb')) → TbsOk tb' → OffT tb' [(I, oI), (C, oC), (D, LCg.lst ys)] → Q (V i t) ⟨h', gs, dr', tk', os⟩) →
      wpAny (model prog w) A (eval elt (compEnvC scope cl C env)) Q E' ⟨h, gs, dr, tk, os⟩)
    (fin : ∀ (g : Heap) u0 u1 u2 tb, TbsOk tb → Fin ⟨g, gs, dr, tk, os⟩ [V 0 u0, V 1 u1, V 2 u2] (own ++ tb)) :
    DSrc prog w A h₀ L m env elt x scope cl Fin (.ref ax) ⟨hp, gs, dr, tk, os⟩ :=
  comp_srcD (s₁ := ⟨hp, gs, dr, tk, os⟩) (fun i y => ∃ t, y = V i t) hh F N S hm (Nat.le_of_ble_eq_true rfl)
    (fun i v I oI C oC D m₂ h tk dr ys tb Q E' _ hv hC hx ok F N of k => turn i v I oI C oC D m₂ h tk dr ys tb Q E' (by
      rcases three_get hv with ⟨rfl, rfl⟩ | ⟨rfl, rfl⟩ | ⟨rfl, rfl⟩
      · exact h0
      · exact h1
      · exact h2) hC hx ok F N of fun t h' tk' dr' tb' F' N' ok' of' => k _ h' tk' dr' tb' F' N' ok' of' ⟨t, rfl⟩)
    fun g ys tb ok hl hf => by
      refine told_step (n := 2) (V := V) (P := fun r => Fin ⟨g, gs, dr, tk, os⟩ r (own ++ tb)) (fun u0 r h1 h2 => ?_) ys hl hf
      refine told_step (V := fun i => V (i + 1)) (P := fun r => Fin ⟨g, gs, dr, tk, os⟩ (V 0 u0 :: r) (own ++ tb)) (fun u1 r h1 h2 => ?_) r h1 h2
      refine told_step (V := fun i => V (i + 2)) (P := fun r => Fin ⟨g, gs, dr, tk, os⟩ (V 0 u0 :: V 1 u1 :: r) (own ++ tb)) (fun u2 r h1 h2 => ?_) r h1 h2
      rw [len_zero h1]
      exact fin g u0 u1 u2 tb ok
end Mine
end
namespace Mine
set_option maxHeartbeats 0 in
example : PySem.Challenge.rw_ph0148_01.name = PySem.Challenge.rw_ph0148_01.name ∧ hd.heap_39 = hd.heap_39 := by
  k_fill
  exact ⟨rfl, rfl⟩
end Mine
section
local macro_rules | `(tactic| walk_at $s:str) => `(tactic| k_extra $s)
local macro_rules | `(tactic| k_all) => `(tactic| walk_at "my k_all")
local macro_rules | `(tactic| k_ne) => `(tactic| walk_at "my k_ne")
local macro_rules | `(tactic| k_room) => `(tactic| walk_at "my k_room")
local macro_rules | `(tactic| ke_shaped) => `(tactic| walk_at "my ke_shaped")
section
set_option maxHeartbeats 0
open PySem PySem.W PySem.Calls PyProof.Rows
set_option Elab.async false
set_option maxRecDepth 100000
set_option maxHeartbeats 0
namespace Mine
example : True := by
  k_with_none
  k_with "my k_room" => (ktr_room)
  k_with "con stab" => (first | exact stab_true | exact stab_tup | exact stab_list | exact stab_and (by walk_at "con stab") (by walk_at "con stab"))
  k_with "con plain" => ((
  refine' con_plain ?kSW9 ?k6W9 ?k7W9 ?k9W9 ?kBW9 ?c5W9 ?c2W9 ?c3W9 ?c4W9 ?_
  (case kSW9 => walk_at "con stab")
  (case k6W9 => k_is)
  (case k7W9 => k_is)
  (case k9W9 => intro s _; exact BindsTo.of_eq rfl)
  (case kBW9 => exact locs rfl)
  (case c5W9 => decide)
  (case c2W9 => exact rfl)
  (case c3W9 => exact rfl)
  (case c4W9 => exact rfl)))
  k_with "con cells" => ((
  refine' con_cells ?kSW9 ?k6W9 ?k7W9 ?k9W9 ?kBW9 ?c5W9 ?c2W9 ?c3W9 ?c4W9 ?_
  (case kSW9 => walk_at "con stab")
  (case k6W9 => k_is)
  (case k7W9 => k_is)
  (case k9W9 => intro s _; exact BindsTo.of_eq rfl)
  (case kBW9 => exact rfl)
  (case c5W9 => decide +kernel)
  (case c2W9 => exact rfl)
  (case c3W9 => exact rfl)
  (case c4W9 => exact rfl)))
  k_with "con end int" => ((
  (try dsimp only)
  refine' ⟨_, _, _, [], _, rfl, ?FW9, ?NW9, ?okW9, ?PW9⟩
  (case FW9 => k_asm)
  (case NW9 => first | k_asm | exact cb_drop (by k_asm) (by walk_at "con sub"))
  (case okW9 => assumption)
  refine ⟨_, ?_, rfl⟩))
  trivial
theorem code28 {w : World} {h : Heap} (X : (hd.heap_39 w.params).In h) : CodeHd h 28 24 := ⟨_, _, _, _, _, _, _, _, _, X 28 _ (by k_is), rfl, rfl, rfl, rfl, rfl, rfl, rfl, rfl, by decide⟩
theorem code56 {w : World} {h : Heap} (X : (hd.heap_39 w.params).In h) : CodeHd h 56 52 := ⟨_, _, _, _, _, _, _, _, _, X 56 _ (by k_is), rfl, rfl, rfl, rfl, rfl, rfl, rfl, rfl, by decide⟩
theorem code63 {w : World} {h : Heap} (X : (hd.heap_39 w.params).In h) : CodeHd h 63 59 := ⟨_, _, _, _, _, _, _, _, _, X 63 _ (by k_is), rfl, rfl, rfl, rfl, rfl, rfl, rfl, rfl, by decide⟩
end Mine
end
namespace Mine
set_option maxHeartbeats 0 in
example : True ∧ True := by
  w_top off
  walk1 <;> trivial
end Mine
section
set_option maxHeartbeats 0
open PySem PySem.W PySem.Calls PyProof.Rows
set_option Elab.async false
set_option maxRecDepth 100000
set_option maxHeartbeats 0
namespace Mine
example : True := by
  k_with_none
  k_with "my k_room" => (ktr_room)
  k_with "con stab" => (first | exact stab_true | exact stab_tup | exact stab_list | exact stab_and (by walk_at "con stab") (by walk_at "con stab"))
  k_with "con plain" => ((
  refine' con_plain ?kSW9 ?k6W9 ?k7W9 ?k9W9 ?kBW9 ?c5W9 ?c2W9 ?c3W9 ?c4W9 ?_
  (case kSW9 => walk_at "con stab")
  (case k6W9 => k_is)
  (case k7W9 => k_is)
  (case k9W9 => intro s _; exact BindsTo.of_eq rfl)
  (case kBW9 => exact locs rfl)
  (case c5W9 => decide)
  (case c2W9 => exact rfl)
  (case c3W9 => exact rfl)
  (case c4W9 => exact rfl)))
  k_with "con cells" => ((
  refine' con_cells ?kSW9 ?k6W9 ?k7W9 ?k9W9 ?kBW9 ?c5W9 ?c2W9 ?c3W9 ?c4W9 ?_
  (case kSW9 => walk_at "con stab")
  (case k6W9 => k_is)
  (case k7W9 => k_is)
  (case k9W9 => intro s _; exact BindsTo.of_eq rfl)
  (case kBW9 => exact rfl)
  (case c5W9 => decide +kernel)
  (case c2W9 => exact rfl)
  (case c3W9 => exact rfl)
  (case c4W9 => exact rfl)))
  k_with "con end int" => ((
  (try dsimp only)
  refine' ⟨_, _, _, [], _, rfl, ?FW9, ?NW9, ?okW9, ?PW9⟩
  (case FW9 => k_asm)
  (case NW9 => first | k_asm | exact cb_drop (by k_asm) (by walk_at "con sub"))
  (case okW9 => assumption)
  refine ⟨_, ?_, rfl⟩))
  k_with "con split" => (repeat' (first | exact Split.nil (by assumption) | refine' Split.cons ?_))
  k_with "con pre" => (first | exact trivial | is_list)
  k_with "con notab" => (first | exact noTab_seq | exact noTab_cell (by assumption) | exact noTab_of rfl (by intro vs e; cases e) | exact noTab_of (by assumption) (by intro vs e; cases e) | assumption)
  k_with "con own" => (repeat' (first | exact own_nil | refine own_off (OffT.get (by assumption) (by k_mem)) ?_ | refine own_tab (by walk_at "con notab") ?_))
  k_with "con fact" => (first | assumption | exact rfl | (with_reducible refine And.intro ?_ ?_ <;> walk_at "con fact") | decide | omega | (simp only [bitNot_eq]; omega) | (refine ⟨?_, ?_⟩ <;> walk_at "con fact") | fail "con fact")
  k_with "con sub" => (first | exact sub_self _ | (refine sub_tail ?_; walk_at "con sub") | fail "con sub")
  k_with "my k_all" => (first | exact OffT.at (by assumption) (by k_mem) | exact apt_tail (by k_asm) (by k_mem) (by walk_at "con sub") (by assumption) (by walk_at "con notab"))
  k_with "my k_ne" => ((refine neN ?_; first | with_reducible assumption | exact OffR.get (by assumption) (by k_mem) | exact Ne.symm (OffR.get (by assumption) (by k_mem)) | exact NeL.get (by assumption) (by k_mem) | exact Ne.symm (NeL.get (by assumption) (by k_mem)) | exact off1_get (by assumption) (by k_mem) | exact Ne.symm (off1_get (by assumption) (by k_mem)) | ((try dsimp only); omega)))
  k_with "execs cons" => (((with_reducible refine seq_cons ?_); intro _))
  k_with "SeqQ" => (first | refine seq_next ?_ | refine seq_ret ?_ | refine seq_brk ?_ | refine seq_cont ?_)
  k_with "compareOp In int ref" => ((k_here; k_dflt (refine' in_menu ?lW9 ?_; (case lW9 => is_list); k_whole)))
  k_with "call builtin:list.index" => ((k_here; (have q9' := moon_lab (by assumption) (by assumption)); k_dflt (refine' moon_ix ?k1W9 ?k2W9 ?k3W9 ?_; (case k1W9 => is_list); (case k2W9 => assumption); (case k3W9 => omega)); k_whole))
  trivial
theorem in_menu {prog : Program} {w : World} {A : Around} {E : Value → Shared → Prop} {s : Shared} {Q : Value → Shared → Prop} {l : Addr} {k : Int} {t a b c d e f g h : Tok} (hl : s.heap.IsList l #[.int 2 a, .int 5 b, .int 8 c, .int 11 d, .int 14 e, .int 18 f, .int 21 g, .int 24 h])
    (hq : Q (.bool ([2, 5, 8, 11, 14, 18, 21, 24].any fun x => x == k)) s) : wpAny (model prog w) A (compareOp .In (.int k t) (.ref l)) Q E s := by
  have hi : IntsAre [.int 2 a, .int 5 b, .int 8 c, .int 11 d, .int 14 e, .int 18 f, .int 21 g, .int 24 h] [2, 5, 8, 11, 14, 18, 21, 24] := .cons _ _ (.cons _ _ (.cons _ _ (.cons _ _ (.cons _ _ (.cons _ _ (.cons _ _ (.cons _ _ .nil)))))))
  exact in_list_ints hl hi hq
theorem cen_bd : ∀ n : Nat, n ≤ 99 → -100 ≤ cenF n ∧ cenF n ≤ 100 := by decide +kernel
theorem cen_start {y : Int} : 8 + 11 * y.fmod 19 = 8 + 11 * y.fmod 19 + cenF ([] : List Int).length ∧ -200 ≤ 8 + 11 * y.fmod 19 ∧ 8 + 11 * y.fmod 19 ≤ 400 := by
  have := (fdiv_fmod_facts y 19).2.2.1 (by decide)
  refine ⟨by simp [cenF], by omega, by omega⟩
theorem cen_turn {y e k e' : Int} {pre : List Int} {a b : Int} (hy : 1 ≤ y ∧ y ≤ 9998) (hlt : pre.length < (y.fdiv 100 + 1 - 1).toNat) (heq : k = 1 + (pre.length : Int)) (he : e = 8 + 11 * y.fmod 19 + cenF pre.length)
    (h4 : (k.fmod 4 ≠ 0 ∧ a = -1) ∨ (k.fmod 4 = 0 ∧ a = 0)) (h25 : (([2, 5, 8, 11, 14, 18, 21, 24].any fun x => x == k.fmod 25) = true ∧ b = 1) ∨ (([2, 5, 8, 11, 14, 18, 21, 24].any fun x => x == k.fmod 25) = false ∧ b = 0)) (h' : e' = e + a + b) :
    e' = 8 + 11 * y.fmod 19 + cenF (pre ++ [k]).length ∧ -200 ≤ e' ∧ e' ≤ 400 := by
  have hg := (fdiv_fmod_facts y 19).2.2.1 (by decide)
  rw [Int.fdiv_eq_ediv_of_nonneg _ (by decide : (0 : Int) ≤ 100)] at hlt
  have hn : pre.length + 1 ≤ 99 := by omega
  have hb := cen_bd _ hn
  rw [Int.fmod_eq_emod_of_nonneg _ (by decide : (0 : Int) ≤ 4)] at h4
  rw [Int.fmod_eq_emod_of_nonneg _ (by decide : (0 : Int) ≤ 25)] at h25
  have hk : ((pre.length + 1 : Nat) : Int) = k := by omega
  have e1 : cenF (pre.length + 1) = cenF pre.length + a + b := by
    show cenF pre.length + (if ((pre.length + 1 : Nat) : Int) % 4 ≠ 0 then -1 else 0) + (if ((pre.length + 1 : Nat) : Int) % 25 ∈ [2, 5, 8, 11, 14, 18, 21, 24] then 1 else 0) = _
    rw [hk]
    have x1 : (if k % 4 ≠ 0 then (-1 : Int) else 0) = a := by
      rcases h4 with ⟨q, rfl⟩ | ⟨q, rfl⟩
      · rw [if_pos q]
      · rw [if_neg (by simp [q])]
    have hm : ([2, 5, 8, 11, 14, 18, 21, 24].any fun x => x == k % 25) = true ↔ k % 25 ∈ ([2, 5, 8, 11, 14, 18, 21, 24] : List Int) := by
      simp only [List.any_eq_true, beq_iff_eq]; exact ⟨fun ⟨x, h, e⟩ => e ▸ h, fun h => ⟨_, h, rfl⟩⟩
    have x2 : (if k % 25 ∈ ([2, 5, 8, 11, 14, 18, 21, 24] : List Int) then (1 : Int) else 0) = b := by
      rcases h25 with ⟨q, rfl⟩ | ⟨q, rfl⟩
      · rw [if_pos (hm.mp q)]
      · rw [if_neg (fun z => by rw [hm.mpr z] at q; cases q)]
    rw [x1, x2]
  have e2 : (pre ++ [k]).length = pre.length + 1 := by simp
  rw [e2]
  refine ⟨by omega, by omega, by omega⟩
theorem moon_lab {y e : Int} (hy : 1 ≤ y ∧ y ≤ 9998) (he : e = 8 + 11 * y.fmod 19 + cenF (rangeKs 1 (y.fdiv 100 + 1 - 1).toNat).length) : labF y = e.fmod 30 ∧ (0 ≤ e.fmod 30 ∧ e.fmod 30 < 30) := by
  refine ⟨?_, (fdiv_fmod_facts e 30).2.2.1 (by decide)⟩
  rw [rangeKs_length, Int.fdiv_eq_ediv_of_nonneg _ (by decide : (0 : Int) ≤ 100), Int.fmod_eq_emod_of_nonneg _ (by decide : (0 : Int) ≤ 19)] at he
  rw [Int.fmod_eq_emod_of_nonneg _ (by decide : (0 : Int) ≤ 30)]
  unfold labF
  rw [he, show y / 100 + 1 - 1 = y / 100 by omega]
theorem moon_fin {y e lab : Int} (hy : 1 ≤ y ∧ y ≤ 9998) (he : e = 8 + 11 * y.fmod 19 + cenF (rangeKs 1 (y.fdiv 100 + 1 - 1).toNat).length)
    (hl : ((e.fmod 30 = 24 ∨ (e.fmod 30 = 25 ∧ y.fmod 19 > 10)) ∧ lab = e.fmod 30 + 1) ∨ (¬ (e.fmod 30 = 24 ∨ (e.fmod 30 = 25 ∧ y.fmod 19 > 10)) ∧ lab = e.fmod 30)) : 21 + (23 - lab) % 30 = moonF y := by
  have h := (moon_lab hy he).1
  rw [← h, Int.fmod_eq_emod_of_nonneg y (by decide : (0 : Int) ≤ 19)] at hl
  have e2 : lab2 y = lab := by
    unfold lab2
    rcases hl with ⟨q, rfl⟩ | ⟨q, rfl⟩
    · rw [if_pos q]
    · rw [if_neg q]
  unfold moonF
  rw [e2]
theorem moon_keys : ∀ n : Nat, n < 30 → n ≠ 24 → ((n : Int) ∈ List.map (fun k' => (23 - k').fmod 30) (rangeKs 0 (29 - 0 : Int).toNat) ∧ ((List.idxOf (n : Int) (List.map (fun k' => (23 - k').fmod 30) (rangeKs 0 (29 - 0 : Int).toNat)) : Nat) : Int) = (23 - (n : Int)) % 30) := by decide +kernel
theorem moon_ix {prog : Program} {w : World} {A : Around} {E : Value → Shared → Prop} {s : Shared} {l : Addr} {vs : List Value} {k : Int} {t : Tok} {Q : Value → Shared → Prop} (hl : s.heap.IsList l vs.toArray) (hi : IntsAre vs (List.map (fun k' => (23 - k').fmod 30) (rangeKs 0 (29 - 0 : Int).toNat)))
    (hk : 0 ≤ k ∧ k < 30 ∧ k ≠ 24) (h : Q (.int ((23 - k) % 30) s.toks) { s with toks := s.toks + 1 }) :
    wpAny (model prog w) A (call (.builtin "list.index") [.ref l, .int k t]) Q E s := by
  obtain ⟨n, rfl⟩ : ∃ n : Nat, k = (n : Int) := ⟨k.toNat, by omega⟩
  obtain ⟨h1, h2⟩ := moon_keys n (by omega) (by omega)
  refine index_list_ints hl hi (by decide +kernel) h1 ?_
  rw [h2]
  exact h
theorem c_moon (w : World) (y : Int) (t1 : Tok) (hy : 1 ≤ y ∧ y ≤ 9998) :
    Con w 90 [.int y t1] 20 300 (fun _ => True) (fun v new => (∃ t, v = .int (moonF y) t) ∧ new = []) := by
  walk_at "con plain"
  (k_with "pyIter ref" => k_state (fun pre e => e = 8 + 11 * y.fmod 19 + cenF pre.length ∧ -200 ≤ e ∧ e ≤ 400) "epact")
  (k_with "state" => first | exact cen_start | exact cen_turn hy (by assumption) (by assumption) (by assumption) (by first | exact .inl ⟨by assumption, rfl⟩ | exact .inr ⟨by assumption, rfl⟩) (by first | exact .inl ⟨by assumption, rfl⟩ | exact .inr ⟨by assumption, rfl⟩) (by omega))
  k_steps
  all_goals (k_dflt (refine end0 (by k_asm) (by k_asm) (by walk_at "con split") ⟨⟨_, congrArg (fun z => Value.int z _) (moon_fin hy (by assumption) (by omega))⟩, rfl⟩))
end Mine
end
namespace Mine
set_option maxHeartbeats 0 in
example : True ∧ True := by
  w_top off
  walk1 <;> trivial
end Mine
section
set_option maxHeartbeats 0
open PySem PySem.W PySem.Calls PyProof.Rows
set_option Elab.async false
set_option maxRecDepth 100000
set_option maxHeartbeats 0
namespace Mine
example : True := by
  k_with_none
  k_with "my k_room" => (ktr_room)
  k_with "con stab" => (first | exact stab_true | exact stab_tup | exact stab_list | exact stab_and (by walk_at "con stab") (by walk_at "con stab"))
  k_with "con plain" => ((
  refine' con_plain ?kSW9 ?k6W9 ?k7W9 ?k9W9 ?kBW9 ?c5W9 ?c2W9 ?c3W9 ?c4W9 ?_
  (case kSW9 => walk_at "con stab")
  (case k6W9 => k_is)
  (case k7W9 => k_is)
  (case k9W9 => intro s _; exact BindsTo.of_eq rfl)
  (case kBW9 => exact locs rfl)
  (case c5W9 => decide)
  (case c2W9 => exact rfl)
  (case c3W9 => exact rfl)
  (case c4W9 => exact rfl)))
  k_with "con cells" => ((
  refine' con_cells ?kSW9 ?k6W9 ?k7W9 ?k9W9 ?kBW9 ?c5W9 ?c2W9 ?c3W9 ?c4W9 ?_
  (case kSW9 => walk_at "con stab")
  (case k6W9 => k_is)
  (case k7W9 => k_is)
  (case k9W9 => intro s _; exact BindsTo.of_eq rfl)
  (case kBW9 => exact rfl)
  (case c5W9 => decide +kernel)
  (case c2W9 => exact rfl)
  (case c3W9 => exact rfl)
  (case c4W9 => exact rfl)))
  k_with "con end int" => ((
  (try dsimp only)
  refine' ⟨_, _, _, [], _, rfl, ?FW9, ?NW9, ?okW9, ?PW9⟩
  (case FW9 => k_asm)
  (case NW9 => first | k_asm | exact cb_drop (by k_asm) (by walk_at "con sub"))
  (case okW9 => assumption)
  refine ⟨_, ?_, rfl⟩))
  k_with "con plainD" => ((
  refine' con_plainD ?kSW9 ?k6W9 ?k7W9 ?k9W9 ?kBW9 ?c5W9 ?c2W9 ?c3W9 ?c4W9 ?_
  (case kSW9 => walk_at "con stab")
  (case k6W9 => k_is)
  (case k7W9 => k_is)
  (case k9W9 => first | (intro s _; exact BindsTo.of_eq rfl) | (intro s hs; exact binds_K hs rfl (by k_is) rfl rfl rfl))
  (case kBW9 => exact locs rfl)
  (case c5W9 => decide)
  (case c2W9 => exact rfl)
  (case c3W9 => exact rfl)
  (case c4W9 => exact rfl)))
  k_with "con cellsD" => ((
  refine' con_cellsD ?kSW9 ?k6W9 ?k7W9 ?k9W9 ?kBW9 ?c5W9 ?c2W9 ?c3W9 ?c4W9 ?_
  (case kSW9 => walk_at "con stab")
  (case k6W9 => k_is)
  (case k7W9 => k_is)
  (case k9W9 => intro s _; exact BindsTo.of_eq rfl)
  (case kBW9 => exact rfl)
  (case c5W9 => decide +kernel)
  (case c2W9 => exact rfl)
  (case c3W9 => exact rfl)
  (case c4W9 => exact rfl)))
  k_with "con split" => (repeat' (first | exact Split.nil (by assumption) | refine' Split.cons ?_))
  k_with "con pre" => (first | exact trivial | is_list)
  k_with "con notab" => (first | exact noTab_seq | exact noTab_cell (by assumption) | exact noTab_of rfl (by intro vs e; cases e) | exact noTab_of (by assumption) (by intro vs e; cases e) | assumption)
  k_with "con own" => (repeat' (first | exact own_nil | refine own_off (OffT.get (by assumption) (by k_mem)) ?_ | refine own_tab (by walk_at "con notab") ?_))
  k_with "con fact" => (first | assumption | exact rfl | (with_reducible refine And.intro ?_ ?_ <;> walk_at "con fact") | decide | omega | (simp only [bitNot_eq]; omega) | (refine ⟨?_, ?_⟩ <;> walk_at "con fact") | fail "con fact")
  k_with "con sub" => (first | exact sub_self _ | (refine sub_tail ?_; walk_at "con sub") | fail "con sub")
  k_with "my k_all" => (first | exact OffT.at (by assumption) (by k_mem) | exact apt_tail (by k_asm) (by k_mem) (by walk_at "con sub") (by assumption) (by walk_at "con notab"))
  k_with "my k_ne" => ((refine neN ?_; first | with_reducible assumption | exact OffR.get (by assumption) (by k_mem) | exact Ne.symm (OffR.get (by assumption) (by k_mem)) | exact NeL.get (by assumption) (by k_mem) | exact Ne.symm (NeL.get (by assumption) (by k_mem)) | exact off1_get (by assumption) (by k_mem) | exact Ne.symm (off1_get (by assumption) (by k_mem)) | ((try dsimp only); omega)))
  k_with "execs cons" => (((with_reducible refine seq_cons ?_); intro _))
  k_with "SeqQ" => (first | refine seq_next ?_ | refine seq_ret ?_ | refine seq_brk ?_ | refine seq_cont ?_)
  k_with "truthy ref" => ((k_here; (with_reducible show wpAny _ _ (truthy (Value.ref _)) _ _ _); k_dflt (first
  | (refine' truthy_set1 ?NW9 ?mW9 ?sW9 ?nW9 ?_; (case NW9 => k_asm); (case mW9 => k_mem); (case sW9 => assumption); (case nW9 => first | exact rfl | omega); k_whole)
  | (refine' truthy_set0 ?NW9 ?mW9 ?sW9 ?nW9 ?_; (case NW9 => k_asm); (case mW9 => k_mem); (case sW9 => assumption); (case nW9 => first | exact rfl | omega); k_whole))))
  k_with "getMethod ref" => ((k_here; (with_reducible show wpAny _ _ (getMethod (Value.ref _) (Str.ofString "pop") _) _ _ _); k_dflt (refine' getMethod_pop ?NW9 ?mW9 ?sW9 ?_; (case NW9 => k_asm); (case mW9 => k_mem); (case sW9 => assumption); k_whole)))
  k_with "call builtin:set.pop" => ((k_here; (try dsimp only); k_dflt (refine' pop_one' ?FW9 ?NW9 ?UW9 ?sW9 ?nW9 ?SW9 ?_; (case FW9 => k_asm); (case NW9 => k_asm); (case UW9 => k_updF); (case sW9 => assumption); (case nW9 => first | exact rfl | omega); (case SW9 => exact one_of); k_whole); intro h' o' t' dr' F' N' hs'; (try dsimp only at N')))
  k_with "con tba" => (first | exact fun _ _ N ok => at24 N ok | exact fun _ _ N ok => at52 N ok | exact fun _ _ N ok => at59 N ok)
  k_with "exec FunctionDef" => ((k_here; k_dflt (refine' nestDef_K ?d0W9 ?k0W9 ?a0W9 ?_; (case d0W9 => exact rfl); (case k0W9 => exact rfl); (case a0W9 => exact rfl)); k_dflt (refine' nest_T ?FW9 ?NW9 ?SW9 ?TW9 ?CW9 ?cdW9 ?lW9 ?tbaW9 ?ownW9 ?clW9 ?_; (case FW9 => k_asm); (case NW9 => k_asm); (case SW9 => walk_at "con split"); (case TW9 => k_asm); (case CW9 => assumption); (case cdW9 => exact rfl); (case lW9 => exact ⟨rfl, rfl⟩); (case tbaW9 => walk_at "con tba"); (case ownW9 => walk_at "con own"); (case clW9 => exact rfl); k_whole); intro f' c' oc' vs' t' ct' dc' h' tk' tb' F' N' ok' of' mc' d1' d2' l1' l2'; (try simp only [List.nil_append, List.cons_append] at N'); (try dsimp only at N'); (try k_lt l1')))
  k_with "con mem" => (first | assumption | (refine List.Mem.tail _ ?_; walk_at "con mem"))
  k_with "call ref" => ((k_here; k_dflt (refine wpAny_call ?_; refine' code_nest ?k1W9 ?k2W9 ?k3W9 ?k4W9 ?k5W9 ?kAW9 ?kFW9 ?kKW9 ?k6W9 ?k7W9 ?k8W9 ?k9W9 ?kBW9 ?_ ?c2W9 ?c3W9 ?c4W9 ?c5W9; (case kAW9 => exact rfl); (case kFW9 => exact rfl); (case kKW9 => exact rfl); (case k1W9 => k_asm); (case k2W9 => k_asm); (case k3W9 => k_asm); (case k4W9 => k_asm); (case k5W9 => k_asm); (case k6W9 => k_mem); (case k7W9 => exact codeRec_news (by k_asm) (by walk_at "con mem") (by assumption) (by assumption)); (case k8W9 => k_room); (case k9W9 => exact BindsTo.of_eq rfl); (case c5W9 => decide); (case kBW9 => exact locs rfl); (case c2W9 => exact rfl); (case c3W9 => exact rfl); (case c4W9 => exact rfl); k_whole; intro g' L' h' FG' F' N' B' X' T'; (try dsimp only); (try k_lift B'); (try k_fold))))
  k_with "call type:int" => ((k_here; k_dflt (refine' int_fig ?hfW9 ?_; (case hfW9 => assumption); k_whole)))
  trivial
theorem int_fig {prog : Program} {w : World} {A : Around} {E : Value → Shared → Prop} {s : Shared} {Q : Value → Shared → Prop} {x : Str} {n : Int} {t : Tok} (hf : Fig x n) (h : Q (.int n s.toks) { s with toks := s.toks + 1 }) :
    wpAny (model prog w) A (call (.type "int") [.str (Txt.slice x (some 0) (some (x.length : Int))) t]) Q E s := by
  rw [fig_slice hf]
  exact KIN.call_text (fig_int hf) (by have := fig_len hf; omega) h
theorem c_sii (w : World) (x : Str) (n : Int) (t1 : Tok) (h : Fig x n) :
    ConD w 29 [.str x t1] 12 200 (fun _ => True) (fun v new => (∃ t, v = .int n t) ∧ new = []) := by
  have hfl := fig_len h
  walk_at "con cellsD"
  intro p loose mean mg mb dp un gd cn cs L a ccd cl outer base s tb g L' h₁ tk cells hdp hun ok hP F N Y B X T lt
  have C28 := code28 X
  k_cells Y
  (try simp only [List.cons_append, List.nil_append] at N)
  (try dsimp only)
  (try k_fold)
  k_steps
  k_dflt (exact end0D (by k_asm) (by k_asm) (by walk_at "con split") ⟨⟨_, rfl⟩, rfl⟩)
end Mine
end
namespace Mine
set_option maxHeartbeats 0 in
example : True ∧ True := by
  w_top off
  walk1 <;> trivial
end Mine
section
set_option maxHeartbeats 0
open PySem PySem.W PySem.Calls PyProof.Rows
set_option Elab.async false
set_option maxRecDepth 100000
set_option maxHeartbeats 0
namespace Mine
example : True := by
  k_with_none
  k_with "my k_room" => (ktr_room)
  k_with "con stab" => (first | exact stab_true | exact stab_tup | exact stab_list | exact stab_and (by walk_at "con stab") (by walk_at "con stab"))
  k_with "con plain" => ((
  refine' con_plain ?kSW9 ?k6W9 ?k7W9 ?k9W9 ?kBW9 ?c5W9 ?c2W9 ?c3W9 ?c4W9 ?_
  (case kSW9 => walk_at "con stab")
  (case k6W9 => k_is)
  (case k7W9 => k_is)
  (case k9W9 => intro s _; exact BindsTo.of_eq rfl)
  (case kBW9 => exact locs rfl)
  (case c5W9 => decide)
  (case c2W9 => exact rfl)
  (case c3W9 => exact rfl)
  (case c4W9 => exact rfl)))
  k_with "con cells" => ((
  refine' con_cells ?kSW9 ?k6W9 ?k7W9 ?k9W9 ?kBW9 ?c5W9 ?c2W9 ?c3W9 ?c4W9 ?_
  (case kSW9 => walk_at "con stab")
  (case k6W9 => k_is)
  (case k7W9 => k_is)
  (case k9W9 => intro s _; exact BindsTo.of_eq rfl)
  (case kBW9 => exact rfl)
  (case c5W9 => decide +kernel)
  (case c2W9 => exact rfl)
  (case c3W9 => exact rfl)
  (case c4W9 => exact rfl)))
  k_with "con end int" => ((
  (try dsimp only)
  refine' ⟨_, _, _, [], _, rfl, ?FW9, ?NW9, ?okW9, ?PW9⟩
  (case FW9 => k_asm)
  (case NW9 => first | k_asm | exact cb_drop (by k_asm) (by walk_at "con sub"))
  (case okW9 => assumption)
  refine ⟨_, ?_, rfl⟩))
  k_with "con plainD" => ((
  refine' con_plainD ?kSW9 ?k6W9 ?k7W9 ?k9W9 ?kBW9 ?c5W9 ?c2W9 ?c3W9 ?c4W9 ?_
  (case kSW9 => walk_at "con stab")
  (case k6W9 => k_is)
  (case k7W9 => k_is)
  (case k9W9 => first | (intro s _; exact BindsTo.of_eq rfl) | (intro s hs; exact binds_K hs rfl (by k_is) rfl rfl rfl))
  (case kBW9 => exact locs rfl)
  (case c5W9 => decide)
  (case c2W9 => exact rfl)
  (case c3W9 => exact rfl)
  (case c4W9 => exact rfl)))
  k_with "con cellsD" => ((
  refine' con_cellsD ?kSW9 ?k6W9 ?k7W9 ?k9W9 ?kBW9 ?c5W9 ?c2W9 ?c3W9 ?c4W9 ?_
  (case kSW9 => walk_at "con stab")
  (case k6W9 => k_is)
  (case k7W9 => k_is)
  (case k9W9 => intro s _; exact BindsTo.of_eq rfl)
  (case kBW9 => exact rfl)
  (case c5W9 => decide +kernel)
  (case c2W9 => exact rfl)
  (case c3W9 => exact rfl)
  (case c4W9 => exact rfl)))
  k_with "con split" => (repeat' (first | exact Split.nil (by assumption) | refine' Split.cons ?_))
  k_with "con pre" => (first | exact trivial | is_list)
  k_with "con notab" => (first | exact noTab_seq | exact noTab_cell (by assumption) | exact noTab_of rfl (by intro vs e; cases e) | exact noTab_of (by assumption) (by intro vs e; cases e) | assumption)
  k_with "con own" => (repeat' (first | exact own_nil | refine own_off (OffT.get (by assumption) (by k_mem)) ?_ | refine own_tab (by walk_at "con notab") ?_))
  k_with "con fact" => (first | assumption | exact rfl | (with_reducible refine And.intro ?_ ?_ <;> walk_at "con fact") | decide | omega | (simp only [bitNot_eq]; omega) | (refine ⟨?_, ?_⟩ <;> walk_at "con fact") | fail "con fact")
  k_with "con sub" => (first | exact sub_self _ | (refine sub_tail ?_; walk_at "con sub") | fail "con sub")
  k_with "my k_all" => (first | exact OffT.at (by assumption) (by k_mem) | exact apt_tail (by k_asm) (by k_mem) (by walk_at "con sub") (by assumption) (by walk_at "con notab"))
  k_with "my k_ne" => ((refine neN ?_; first | with_reducible assumption | exact OffR.get (by assumption) (by k_mem) | exact Ne.symm (OffR.get (by assumption) (by k_mem)) | exact NeL.get (by assumption) (by k_mem) | exact Ne.symm (NeL.get (by assumption) (by k_mem)) | exact off1_get (by assumption) (by k_mem) | exact Ne.symm (off1_get (by assumption) (by k_mem)) | ((try dsimp only); omega)))
  k_with "execs cons" => (((with_reducible refine seq_cons ?_); intro _))
  k_with "SeqQ" => (first | refine seq_next ?_ | refine seq_ret ?_ | refine seq_brk ?_ | refine seq_cont ?_)
  k_with "call ref" => ((k_here; k_dflt (first
  | (refine' go_valD (c_sii _ _ _ _ ?bW9) ?BW9 ?FW9 ?XW9 ?TW9 ?NW9 ?SW9 ?preW9 ?ownW9 ?csW9 ?hdW9 ?huW9 ?_; (case BW9 => k_asm); (case FW9 => k_asm); (case XW9 => k_asm); (case TW9 => k_asm); (case NW9 => k_asm); (case SW9 => walk_at "con split"); (case preW9 => walk_at "con pre"); (case ownW9 => walk_at "con own"); (case csW9 => first | exact rfl | assumption); (case hdW9 => ktr_room); (case huW9 => ktr_units); (case bW9 => walk_at "con fact"); k_whole; intro t9' h' tk' dr' tb' F' N' ok' of'; (try dsimp only [List.nil_append, List.cons_append] at N'); (try dsimp only [tupo] at N'); (try k_sweep)))))
  k_with "call builtin:str.rstrip" => ((k_here; (try dsimp only); k_dflt (refine' rs_fig ?hfW9 ?_; (case hfW9 => assumption); k_whole); intro _ _))
  k_with "call builtin:str.replace" => ((k_here; (try dsimp only); k_dflt (refine' rp_fig ?hfW9 ?_; (case hfW9 => assumption); k_whole); intro _ _))
  trivial
theorem rs_fig {prog : Program} {w : World} {A : Around} {E : Value → Shared → Prop} {s : Shared} {x : Str} {n : Int} {t : Tok} {Q : Value → Shared → Prop} (hf : Fig x n) (h : ∀ t' k, Q (.str x t') { s with toks := k }) : wpAny (model prog w) A (call (.builtin "str.rstrip") [.str x t]) Q E s :=
  SC.rstrip (fun t' k => by rw [fig_rstrip hf]; exact h t' k) (by have := fig_len hf; rw [sizeLine_eq]; omega)
theorem rp_fig {prog : Program} {w : World} {A : Around} {E : Value → Shared → Prop} {s : Shared} {x : Str} {n : Int} {t u v : Tok} {Q : Value → Shared → Prop} (hf : Fig x n) (h : ∀ t' k, Q (.str x t') { s with toks := k }) : wpAny (model prog w) A (call (.builtin "str.replace") [.str x t, .str (Str.ofString "_") u, .str (Str.ofString "") v]) Q E s := by
  have ho := fig_occ hf
  have hc : ((Builtin.Str.occurrences x (Str.ofString "_") 0 x.length (x.length + 1)).isEmpty || ((Str.ofString "_").length == 0 && (Str.ofString "").length == 0)) = true := by rw [ho]; rfl
  refine call_gives F.slot_str_replace (typeIs_str _ _ _) F.entry_str_replace (F.args_str_replace_3 _ _ _)
    (gives_str_replace x (Str.ofString "_") (Str.ofString "") t u v fun hz => by rw [hc] at hz; cases hz) ?_
  rw [hc]
  simp only [if_true]
  exact h t s.toks
theorem c_ifs (w : World) (x : Str) (n : Int) (t1 : Tok) (h : Fig x n) :
    ConD w 36 [.str x t1] 20 300 (fun _ => True) (fun v new => (∃ t, v = .int n t) ∧ new = []) := by
  walk_at "con plainD"
  k_steps
  k_dflt (exact end0D (by k_asm) (by k_asm) (by walk_at "con split") ⟨⟨_, rfl⟩, rfl⟩)
end Mine
end
namespace Mine
set_option maxHeartbeats 0 in
example : True ∧ True := by
  w_top off
  walk1 <;> trivial
end Mine
section
set_option maxHeartbeats 0
open PySem PySem.W PySem.Calls PyProof.Rows
set_option Elab.async false
set_option maxRecDepth 100000
set_option maxHeartbeats 0
namespace Mine
example : True := by
  k_with_none
  k_with "my k_room" => (ktr_room)
  k_with "con stab" => (first | exact stab_true | exact stab_tup | exact stab_list | exact stab_and (by walk_at "con stab") (by walk_at "con stab"))
  k_with "con plain" => ((
  refine' con_plain ?kSW9 ?k6W9 ?k7W9 ?k9W9 ?kBW9 ?c5W9 ?c2W9 ?c3W9 ?c4W9 ?_
  (case kSW9 => walk_at "con stab")
  (case k6W9 => k_is)
  (case k7W9 => k_is)
  (case k9W9 => intro s _; exact BindsTo.of_eq rfl)
  (case kBW9 => exact locs rfl)
  (case c5W9 => decide)
  (case c2W9 => exact rfl)
  (case c3W9 => exact rfl)
  (case c4W9 => exact rfl)))
  k_with "con cells" => ((
  refine' con_cells ?kSW9 ?k6W9 ?k7W9 ?k9W9 ?kBW9 ?c5W9 ?c2W9 ?c3W9 ?c4W9 ?_
  (case kSW9 => walk_at "con stab")
  (case k6W9 => k_is)
  (case k7W9 => k_is)
  (case k9W9 => intro s _; exact BindsTo.of_eq rfl)
  (case kBW9 => exact rfl)
  (case c5W9 => decide +kernel)
  (case c2W9 => exact rfl)
  (case c3W9 => exact rfl)
  (case c4W9 => exact rfl)))
  k_with "con end int" => ((
  (try dsimp only)
  refine' ⟨_, _, _, [], _, rfl, ?FW9, ?NW9, ?okW9, ?PW9⟩
  (case FW9 => k_asm)
  (case NW9 => first | k_asm | exact cb_drop (by k_asm) (by walk_at "con sub"))
  (case okW9 => assumption)
  refine ⟨_, ?_, rfl⟩))
  k_with "con split" => (repeat' (first | exact Split.nil (by assumption) | refine' Split.cons ?_))
  k_with "con pre" => (first | exact trivial | is_list)
  k_with "con notab" => (first | exact noTab_seq | exact noTab_cell (by assumption) | exact noTab_of rfl (by intro vs e; cases e) | exact noTab_of (by assumption) (by intro vs e; cases e) | assumption)
  k_with "con own" => (repeat' (first | exact own_nil | refine own_off (OffT.get (by assumption) (by k_mem)) ?_ | refine own_tab (by walk_at "con notab") ?_))
  k_with "con fact" => (first | assumption | exact rfl | (with_reducible refine And.intro ?_ ?_ <;> walk_at "con fact") | decide | omega | (simp only [bitNot_eq]; omega) | (refine ⟨?_, ?_⟩ <;> walk_at "con fact") | fail "con fact")
  k_with "con sub" => (first | exact sub_self _ | (refine sub_tail ?_; walk_at "con sub") | fail "con sub")
  k_with "my k_all" => (first | exact OffT.at (by assumption) (by k_mem) | exact apt_tail (by k_asm) (by k_mem) (by walk_at "con sub") (by assumption) (by walk_at "con notab"))
  k_with "my k_ne" => ((refine neN ?_; first | with_reducible assumption | exact OffR.get (by assumption) (by k_mem) | exact Ne.symm (OffR.get (by assumption) (by k_mem)) | exact NeL.get (by assumption) (by k_mem) | exact Ne.symm (NeL.get (by assumption) (by k_mem)) | exact off1_get (by assumption) (by k_mem) | exact Ne.symm (off1_get (by assumption) (by k_mem)) | ((try dsimp only); omega)))
  k_with "execs cons" => (((with_reducible refine seq_cons ?_); intro _))
  k_with "SeqQ" => (first | refine seq_next ?_ | refine seq_ret ?_ | refine seq_brk ?_ | refine seq_cont ?_)
  k_with "con tba" => (first | exact fun _ _ N ok => at24 N ok | exact fun _ _ N ok => at52 N ok | exact fun _ _ N ok => at59 N ok)
  k_with "exec FunctionDef" => ((k_here; k_dflt (refine' nestDef_K ?d0W9 ?k0W9 ?a0W9 ?_; (case d0W9 => exact rfl); (case k0W9 => exact rfl); (case a0W9 => exact rfl)); k_dflt (refine' nest_T ?FW9 ?NW9 ?SW9 ?TW9 ?CW9 ?cdW9 ?lW9 ?tbaW9 ?ownW9 ?clW9 ?_; (case FW9 => k_asm); (case NW9 => k_asm); (case SW9 => walk_at "con split"); (case TW9 => k_asm); (case CW9 => assumption); (case cdW9 => exact rfl); (case lW9 => exact ⟨rfl, rfl⟩); (case tbaW9 => walk_at "con tba"); (case ownW9 => walk_at "con own"); (case clW9 => exact rfl); k_whole); intro f' c' oc' vs' t' ct' dc' h' tk' tb' F' N' ok' of' mc' d1' d2' l1' l2'; (try simp only [List.nil_append, List.cons_append] at N'); (try dsimp only at N'); (try k_lt l1')))
  k_with "call builtin:int.bit_length" => ((k_here; (try dsimp only); k_dflt (refine' bits_K ?bW9 ?_; (case bW9 => first | assumption | omega); k_whole); intro B' k' hB1' hB2' hB3' hB4' hB5' hB6' hB7'))
  k_with "binaryOp RShift int int" => ((k_here; k_dflt (first | ((with_reducible show wpAny _ _ (binaryOp Operator.RShift (Value.int _ _) (Value.int 1 _)) _ _ _); refine' shr1_K ?_; k_whole; intro M' hM') | (refine' shr_K ?aW9 ?bW9 ?_; (case aW9 => omega); (case bW9 => omega); k_whole; intro M' hM' hM1' hM2'))))
  k_with "binaryOp Mult int int" => ((k_here; k_dflt (refine' mul_K ?aW9 ?bW9 ?_; (case aW9 => omega); (case bW9 => omega); k_whole); intro M' hM' hM1' hM2'))
  k_with "binaryOp BitXor int int" => ((k_here; (with_reducible show wpAny _ _ (binaryOp Operator.BitXor (Value.int _ _) (Value.int (_ * 2 ^ Int.toNat _) _)) _ _ _); k_dflt (refine' xor_K ?aW9 ?bW9 ?_; (case aW9 => omega); (case bW9 => assumption); k_whole); intro W' hW' hW1' hW2'))
  k_with "binaryOp LShift int int" => ((k_here; k_dflt (refine' shl_K ?aW9 ?bW9 63 ?cW9 ?dW9 ?_; (case aW9 => omega); (case bW9 => omega); (case cW9 => omega); (case dW9 => decide); k_whole)))
  k_with "call ref" => ((refine stop ?_))
  k_with "binaryOp FloorDiv int int" => ((k_here; (with_reducible show wpAny _ _ (binaryOp Operator.FloorDiv (Value.int (_ + _ - 1) _) (Value.int _ _)) _ _ _); k_dflt (refine' ceil_K ?aW9 ?bW9 ?_; (case aW9 => omega); (case bW9 => omega); k_whole); intro M' hM' hM1' hM2'))
  k_with "binaryOp Mult ref int" => ((k_here; (with_reducible show wpAny _ _ (binaryOp Operator.Mult (Value.ref _) (Value.int _ _)) _ _ _); k_dflt (refine' rep_K ?FW9 ?NW9 ?lW9 ?xW9 ?_; (case FW9 => k_asm); (case NW9 => k_asm); (case lW9 => is_list); (case xW9 => omega); k_whole); intro D' h' vs' F' N' l1 hv'; (try k_lt l1)))
  k_with "call builtin:len" => ((k_here; k_dflt (refine' len_K ?NW9 ?mW9 ?iW9 ?zW9 ?_; (case NW9 => k_asm); (case mW9 => k_mem); (case iW9 => assumption); (case zW9 => omega); k_whole)))
  k_with "con mem" => (first | assumption | (refine List.Mem.tail _ ?_; walk_at "con mem"))
  trivial
theorem c_i2d (w : World) (x n : Int) (t1 t2 : Tok) (h : (0 ≤ x ∧ x ≤ 8000001) ∧ (2 ≤ n ∧ n ≤ 10)) :
    Con w 57 [.int x t1, .int n t2] 8 400 (fun _ => True) (fun v new => ∃ r vs c ds, v = .ref r ∧ new = [(r, W.listOf (List.toArray vs) c)] ∧ IntsAre vs ds ∧ ds.length ≤ 23 ∧ valD (2 ^ n.toNat) ds = x ∧ ∀ e ∈ ds, 0 ≤ e ∧ e < 2 ^ n.toNat) := by
  obtain ⟨hA, hN⟩ := h
  walk_at "con cells"
  intro p loose mean mg mb dp un gd cn cs L a ccd cl outer base s tb g L' h₁ tk cells hdp hun ok hP F N Y B X T lt
  have C56 := code56 X
  k_cells Y
  (try simp only [List.cons_append, List.nil_append] at N)
  (try dsimp only)
  (try k_fold)
  k_steps
  · refine unstop ?_
    k_dflt (refine' i_go (n := n) ⟨x, 0, _, _, _, _⟩ 5 ?B ?F ?X ?T ?N ?mc ?hod ?hov ?hpre ?cs ?hd ?hu ?bi ?lo ?ce ?co ?ge ?hk ?st ?fin)
    case B => k_asm
    case F => k_asm
    case X => k_asm
    case T => k_asm
    case N => k_asm
    case mc => walk_at "con mem"
    case hod => assumption
    case hov => assumption
    case cs => exact rfl
    case hd => ktr_room
    case hu => ktr_units
    case bi => intro x s; exact BindsTo.of_eq rfl
    case lo => intro x; exact locs rfl
    case ce => decide
    case co => exact rfl
    case ge => exact rfl
    case hk => exact rfl
    case hpre => exact i_pre0 hA (by assumption) (by assumption) (by assumption) (by assumption) (by assumption) (by assumption) (by assumption) (by assumption)
    case st =>
      intro d ih x vs p loose mean mg mb dp un gd cn cs L a ccd cl outer base s g L' h₁ hdp hun hP F N B X T
      obtain ⟨x, lo, hi, t1, t2, t3⟩ := x
      dsimp only [iVals] at F
      obtain ⟨ns, hns, hlo, hhi, hln, hd2, hx, hxl⟩ := hP
      dsimp only at hlo hhi hd2 hx hxl
      have hll := hns.length
      (try dsimp only)
      (try k_fold)
      cases d with
      | zero =>
        k_steps
        · (try dsimp only)
          k_dflt (exact cl_end (vs.set lo.toNat (.int x t1)) (by k_asm) (by ((try dsimp only); k_asm)) (i_base hns hlo hhi (by omega) hx hxl))
        · exfalso; omega
      | succ d =>
        have ih' := ih d rfl
        clear ih
        k_steps
        · (try dsimp only)
          k_dflt (exact cl_end (vs.set lo.toNat (.int x t1)) (by k_asm) (by ((try dsimp only); k_asm)) (i_base hns hlo hhi (by omega) hx hxl))
        · refine unstop ?_
          obtain ⟨hM, ⟨hdl, hdr⟩, hW, hU, hx2⟩ := i_split (x := x) (n := n) hlo (by omega) (by assumption) (by assumption) (by assumption) (by assumption) hd2 hx hxl
          k_dflt (refine' i_use vs ih' ?yB ?yF ?yX ?yT ?yN ?yhpre ?ycs ?yhd ?yhu ?yfin)
          case yB => k_asm
          case yF => k_asm
          case yX => k_asm
          case yT => k_asm
          case yN => ((try dsimp only); k_asm)
          case ycs => exact rfl
          case yhd => ktr_room
          case yhu => ktr_units
          case yhpre => exact i_pre1 hns hlo.1 hM hhi hln hdl hW (by omega)
          intro v1 h1 tk1 vs1 F1 N1 hp1
          (try dsimp only at N1)
          obtain ⟨ns1, hns1, hl1⟩ := i_mid hns hlo.1 hM hhi hp1
          k_steps
          refine unstop ?_
          k_dflt (refine' i_use vs1 ih' ?zB ?zF ?zX ?zT ?zN ?zhpre ?zcs ?zhd ?zhu ?zfin)
          case zB => k_asm
          case zF => k_asm
          case zX => k_asm
          case zT => k_asm
          case zN => ((try dsimp only); k_asm)
          case zcs => exact rfl
          case zhd => ktr_room
          case zhu => ktr_units
          case zhpre => exact i_pre2 hns1 hl1 hlo.1 hM hhi hln hdr hU (by omega)
          intro v2 h2 tk2 vs2 F2 N2 hp2
          (try dsimp only at N2)
          k_steps
          (try dsimp only)
          k_dflt (exact cl_end vs2 (by k_asm) (by ((try dsimp only); k_asm)) (i_join hns hlo.1 hM hhi hx2 hp1 hp2))
    case fin =>
      intro v h' tk' vs' F N hp
      obtain ⟨ds, hq1, hq2, hq3, hq4⟩ := i_fin0 (by assumption) (by assumption) hp
      k_steps
      (try dsimp only)
      k_dflt (refine end1 (by k_asm) (by k_asm) (by walk_at "con split") (.tail _ (.head _)) ⟨_, _, _, ds, rfl, rfl, hq1, hq2, hq3, hq4⟩)
  · (try dsimp only)
    k_dflt (refine end1 (by k_asm) (by k_asm) (by walk_at "con split") (by k_mem) ⟨_, _, _, _, rfl, rfl, by assumption, by (rw [List.length_replicate]; omega), ?_, rep0_ok⟩)
    rw [valD_rep0]
    omega
end Mine
end
namespace Mine
set_option maxHeartbeats 0 in
example : True ∧ True := by
  w_top off
  walk1 <;> trivial
end Mine
section
set_option maxHeartbeats 0
open PySem PySem.W PySem.Calls PyProof.Rows
set_option Elab.async false
set_option maxRecDepth 100000
set_option maxHeartbeats 0
namespace Mine
example : True := by
  k_with_none
  k_with "my k_room" => (ktr_room)
  k_with "con stab" => (first | exact stab_true | exact stab_tup | exact stab_list | exact stab_and (by walk_at "con stab") (by walk_at "con stab"))
  k_with "con plain" => ((
  refine' con_plain ?kSW9 ?k6W9 ?k7W9 ?k9W9 ?kBW9 ?c5W9 ?c2W9 ?c3W9 ?c4W9 ?_
  (case kSW9 => walk_at "con stab")
  (case k6W9 => k_is)
  (case k7W9 => k_is)
  (case k9W9 => intro s _; exact BindsTo.of_eq rfl)
  (case kBW9 => exact locs rfl)
  (case c5W9 => decide)
  (case c2W9 => exact rfl)
  (case c3W9 => exact rfl)
  (case c4W9 => exact rfl)))
  k_with "con cells" => ((
  refine' con_cells ?kSW9 ?k6W9 ?k7W9 ?k9W9 ?kBW9 ?c5W9 ?c2W9 ?c3W9 ?c4W9 ?_
  (case kSW9 => walk_at "con stab")
  (case k6W9 => k_is)
  (case k7W9 => k_is)
  (case k9W9 => intro s _; exact BindsTo.of_eq rfl)
  (case kBW9 => exact rfl)
  (case c5W9 => decide +kernel)
  (case c2W9 => exact rfl)
  (case c3W9 => exact rfl)
  (case c4W9 => exact rfl)))
  k_with "con end int" => ((
  (try dsimp only)
  refine' ⟨_, _, _, [], _, rfl, ?FW9, ?NW9, ?okW9, ?PW9⟩
  (case FW9 => k_asm)
  (case NW9 => first | k_asm | exact cb_drop (by k_asm) (by walk_at "con sub"))
  (case okW9 => assumption)
  refine ⟨_, ?_, rfl⟩))
  k_with "con split" => (repeat' (first | exact Split.nil (by assumption) | refine' Split.cons ?_))
  k_with "con pre" => (first | exact trivial | is_list)
  k_with "con notab" => (first | exact noTab_seq | exact noTab_cell (by assumption) | exact noTab_of rfl (by intro vs e; cases e) | exact noTab_of (by assumption) (by intro vs e; cases e) | assumption)
  k_with "con own" => (repeat' (first | exact own_nil | refine own_off (OffT.get (by assumption) (by k_mem)) ?_ | refine own_tab (by walk_at "con notab") ?_))
  k_with "con fact" => (first | assumption | exact rfl | (with_reducible refine And.intro ?_ ?_ <;> walk_at "con fact") | decide | omega | (simp only [bitNot_eq]; omega) | (refine ⟨?_, ?_⟩ <;> walk_at "con fact") | fail "con fact")
  k_with "con sub" => (first | exact sub_self _ | (refine sub_tail ?_; walk_at "con sub") | fail "con sub")
  k_with "my k_all" => (first | exact OffT.at (by assumption) (by k_mem) | exact apt_tail (by k_asm) (by k_mem) (by walk_at "con sub") (by assumption) (by walk_at "con notab"))
  k_with "my k_ne" => ((refine neN ?_; first | with_reducible assumption | exact OffR.get (by assumption) (by k_mem) | exact Ne.symm (OffR.get (by assumption) (by k_mem)) | exact NeL.get (by assumption) (by k_mem) | exact Ne.symm (NeL.get (by assumption) (by k_mem)) | exact off1_get (by assumption) (by k_mem) | exact Ne.symm (off1_get (by assumption) (by k_mem)) | ((try dsimp only); omega)))
  k_with "execs cons" => (((with_reducible refine seq_cons ?_); intro _))
  k_with "SeqQ" => (first | refine seq_next ?_ | refine seq_ret ?_ | refine seq_brk ?_ | refine seq_cont ?_)
  k_with "con tba" => (first | exact fun _ _ N ok => at24 N ok | exact fun _ _ N ok => at52 N ok | exact fun _ _ N ok => at59 N ok)
  k_with "exec FunctionDef" => ((k_here; k_dflt (refine' nestDef_K ?d0W9 ?k0W9 ?a0W9 ?_; (case d0W9 => exact rfl); (case k0W9 => exact rfl); (case a0W9 => exact rfl)); k_dflt (refine' nest_T ?FW9 ?NW9 ?SW9 ?TW9 ?CW9 ?cdW9 ?lW9 ?tbaW9 ?ownW9 ?clW9 ?_; (case FW9 => k_asm); (case NW9 => k_asm); (case SW9 => walk_at "con split"); (case TW9 => k_asm); (case CW9 => assumption); (case cdW9 => exact rfl); (case lW9 => exact ⟨rfl, rfl⟩); (case tbaW9 => walk_at "con tba"); (case ownW9 => walk_at "con own"); (case clW9 => exact rfl); k_whole); intro f' c' oc' vs' t' ct' dc' h' tk' tb' F' N' ok' of' mc' d1' d2' l1' l2'; (try simp only [List.nil_append, List.cons_append] at N'); (try dsimp only at N'); (try k_lt l1')))
  k_with "call builtin:int.bit_length" => ((k_here; (try dsimp only); k_dflt (refine' bits_K ?bW9 ?_; (case bW9 => first | assumption | omega); k_whole); intro B' k' hB1' hB2' hB3' hB4' hB5' hB6' hB7'))
  k_with "binaryOp RShift int int" => ((k_here; k_dflt (first | ((with_reducible show wpAny _ _ (binaryOp Operator.RShift (Value.int _ _) (Value.int 1 _)) _ _ _); refine' shr1_K ?_; k_whole; intro M' hM') | (refine' shr_K ?aW9 ?bW9 ?_; (case aW9 => omega); (case bW9 => omega); k_whole; intro M' hM' hM1' hM2'))))
  k_with "binaryOp Mult int int" => ((k_here; k_dflt (refine' mul_K ?aW9 ?bW9 ?_; (case aW9 => omega); (case bW9 => omega); k_whole); intro M' hM' hM1' hM2'))
  k_with "binaryOp BitXor int int" => ((k_here; (with_reducible show wpAny _ _ (binaryOp Operator.BitXor (Value.int _ _) (Value.int (_ * 2 ^ Int.toNat _) _)) _ _ _); k_dflt (refine' xor_K ?aW9 ?bW9 ?_; (case aW9 => omega); (case bW9 => assumption); k_whole); intro W' hW' hW1' hW2'))
  k_with "binaryOp LShift int int" => ((k_here; k_dflt (refine' shl_K ?aW9 ?bW9 63 ?cW9 ?dW9 ?_; (case aW9 => omega); (case bW9 => omega); (case cW9 => omega); (case dW9 => decide); k_whole)))
  k_with "call ref" => ((refine stop ?_))
  k_with "binaryOp FloorDiv int int" => ((k_here; (with_reducible show wpAny _ _ (binaryOp Operator.FloorDiv (Value.int (_ + _ - 1) _) (Value.int _ _)) _ _ _); k_dflt (refine' ceil_K ?aW9 ?bW9 ?_; (case aW9 => omega); (case bW9 => omega); k_whole); intro M' hM' hM1' hM2'))
  k_with "binaryOp Mult ref int" => ((k_here; (with_reducible show wpAny _ _ (binaryOp Operator.Mult (Value.ref _) (Value.int _ _)) _ _ _); k_dflt (refine' rep_K ?FW9 ?NW9 ?lW9 ?xW9 ?_; (case FW9 => k_asm); (case NW9 => k_asm); (case lW9 => is_list); (case xW9 => omega); k_whole); intro D' h' vs' F' N' l1 hv'; (try k_lt l1)))
  k_with "call builtin:len" => ((k_here; k_dflt (refine' len_K ?NW9 ?mW9 ?iW9 ?zW9 ?_; (case NW9 => k_asm); (case mW9 => k_mem); (case iW9 => assumption); (case zW9 => omega); k_whole)))
  k_with "binaryOp LShift int int" => ((k_here; k_dflt (refine' shl_K ?aW9 ?bW9 _ ?cW9 ?dW9 ?_; (case aW9 => omega); (case bW9 => assumption); (case cW9 => assumption); (case dW9 => omega); k_whole)))
  k_with "con mem" => (first | assumption | (refine List.Mem.tail _ ?_; walk_at "con mem"))
  trivial
theorem c_d2i (w : World) (l : Addr) (vs : List Value) (ds : List Int) (n : Int) (t1 : Tok) (hN : 2 ≤ n ∧ n ≤ 10) (hln : ds.length ≤ 23) (hb : ∀ e ∈ ds, 0 ≤ e ∧ e < 2 ^ n.toNat) (hi : IntsAre vs ds) :
    Con w 64 [.ref l, .int n t1] 8 400 (fun h => h.IsList l vs.toArray) (fun v new => (∃ t, v = .int (valD (2 ^ n.toNat) ds) t) ∧ new = []) := by
  have hvl := hi.length
  walk_at "con cells"
  intro p loose mean mg mb dp un gd cn cs L a ccd cl outer base s tb g L' h₁ tk cells hdp hun ok hP F N Y B X T lt
  (try dsimp only at hP)
  have C63 := code63 X
  k_cells Y
  (try simp only [List.cons_append, List.nil_append] at N)
  (try dsimp only)
  (try k_fold)
  k_steps
  · refine unstop ?_
    k_dflt (refine' j_go (n := n) (ds := ds) (Kp := fun h => h.IsList l vs.toArray) ⟨0, _, _, _⟩ 5 ?S ?K ?B ?F ?X ?T ?N ?mc ?hod ?hov ?hpre ?cs ?hd ?hu ?bi ?lo ?ce ?co ?ge ?hk ?st ?fin)
    case S => exact list_stays
    case K => assumption
    case B => k_asm
    case F => k_asm
    case X => k_asm
    case T => k_asm
    case N => k_asm
    case mc => walk_at "con mem"
    case hod => assumption
    case hov => assumption
    case cs => exact rfl
    case hd => ktr_room
    case hu => ktr_units
    case bi => intro x s; exact BindsTo.of_eq rfl
    case lo => intro x; exact locs rfl
    case ce => decide
    case co => exact rfl
    case ge => exact rfl
    case hk => exact rfl
    case hpre => exact j_pre0 hln (by omega)
    case st =>
      intro d ih x vs' p loose mean mg mb dp un gd cn cs L a ccd cl outer base s g L' h₁ hdp hun hP F N B X T hK
      obtain ⟨lo, hi, t1, t2⟩ := x
      dsimp only [jVals] at F
      obtain ⟨hlo, hhi, hd2⟩ := hP
      dsimp only at hlo hhi hd2
      (try dsimp only at hK)
      (try dsimp only)
      (try k_fold)
      cases d with
      | zero =>
        k_steps
        · (try dsimp only)
          k_dflt (exact cl_end () (by k_asm) (by ((try dsimp only); k_asm)) ⟨_, _, rfl, by rw [sl_one hlo hhi (by omega)]; simp [valD]⟩)
        · exfalso; omega
      | succ d =>
        have ih' := ih d rfl
        clear ih
        k_steps
        · (try dsimp only)
          k_dflt (exact cl_end () (by k_asm) (by ((try dsimp only); k_asm)) ⟨_, _, rfl, by rw [sl_one hlo hhi (by omega)]; simp [valD]⟩)
        · refine unstop ?_
          obtain ⟨hM, ⟨hdl, hdr⟩, hx2⟩ := j_split (n := n) (ds := ds) (U := valD (2 ^ n.toNat) (sl ds _ hi)) (V := valD (2 ^ n.toNat) (sl ds lo _)) hlo (by omega) (by assumption) hhi (by assumption) hd2
          k_dflt (refine' j_use ih' ?yB ?yF ?yX ?yT ?yK ?yN ?yhpre ?ycs ?yhd ?yhu ?yfin)
          case yB => k_asm
          case yF => k_asm
          case yX => k_asm
          case yT => k_asm
          case yK => assumption
          case yN => ((try dsimp only); k_asm)
          case ycs => exact rfl
          case yhd => ktr_room
          case yhu => ktr_units
          case yhpre => exact ⟨⟨by dsimp only; omega, hM.2⟩, hhi, hdr⟩
          intro v1 h1 tk1 F1 N1 hp1
          (try dsimp only at N1)
          obtain ⟨U, tU, eU, hU⟩ := hp1
          subst eU
          obtain ⟨hU0, kU, hUk, hk1⟩ := sl_big (n := n) (ds := ds) (lo := _) (hi := hi) hN ⟨by omega, Int.le_of_lt hM.2⟩ hhi hln hb
          dsimp only at hU
          rw [← hU] at hU0 hUk
          k_steps
          refine unstop ?_
          k_dflt (refine' j_use ih' ?zB ?zF ?zX ?zT ?zK ?zN ?zhpre ?zcs ?zhd ?zhu ?zfin)
          case zB => k_asm
          case zF => k_asm
          case zX => k_asm
          case zT => k_asm
          case zK => assumption
          case zN => ((try dsimp only); k_asm)
          case zcs => exact rfl
          case zhd => ktr_room
          case zhu => ktr_units
          case zhpre => exact ⟨⟨hlo.1, hM.1⟩, by dsimp only; omega, hdl⟩
          intro v2 h2 tk2 F2 N2 hp2
          (try dsimp only at N2)
          obtain ⟨V, tV, eV, hV⟩ := hp2
          subst eV
          k_steps
          (try dsimp only)
          k_dflt (exact cl_end () (by k_asm) (by ((try dsimp only); k_asm)) ⟨_, _, rfl, by rw [hU, hV]; exact hx2 rfl rfl⟩)
    case fin =>
      intro v h' tk' F N hp
      obtain ⟨V, tV, eV, hV⟩ := hp
      subst eV
      dsimp only at hV
      rw [sl_full] at hV
      (try k_steps)
      (try dsimp only)
      k_dflt (exact end0 (by k_asm) (by k_asm) (by walk_at "con split") ⟨⟨_, by rw [hV]⟩, rfl⟩)
  · have hds : ds = [] := by
      cases ds with
      | nil => rfl
      | cons a r => simp_all
    subst hds
    k_dflt (exact end0 (by k_asm) (by k_asm) (by walk_at "con split") ⟨⟨_, rfl⟩, rfl⟩)
end Mine
end
namespace Mine
set_option maxHeartbeats 0 in
example : True ∧ True := by
  w_top off
  walk1 <;> trivial
end Mine
section
set_option maxHeartbeats 0
open PySem PySem.W PySem.Calls PyProof.Rows
set_option Elab.async false
set_option maxRecDepth 100000
set_option maxHeartbeats 0
namespace Mine
example : True := by
  k_with_none
  k_with "my k_room" => (ktr_room)
  k_with "con stab" => (first | exact stab_true | exact stab_tup | exact stab_list | exact stab_and (by walk_at "con stab") (by walk_at "con stab"))
  k_with "con plain" => ((
  refine' con_plain ?kSW9 ?k6W9 ?k7W9 ?k9W9 ?kBW9 ?c5W9 ?c2W9 ?c3W9 ?c4W9 ?_
  (case kSW9 => walk_at "con stab")
  (case k6W9 => k_is)
  (case k7W9 => k_is)
  (case k9W9 => intro s _; exact BindsTo.of_eq rfl)
  (case kBW9 => exact locs rfl)
  (case c5W9 => decide)
  (case c2W9 => exact rfl)
  (case c3W9 => exact rfl)
  (case c4W9 => exact rfl)))
  k_with "con cells" => ((
  refine' con_cells ?kSW9 ?k6W9 ?k7W9 ?k9W9 ?kBW9 ?c5W9 ?c2W9 ?c3W9 ?c4W9 ?_
  (case kSW9 => walk_at "con stab")
  (case k6W9 => k_is)
  (case k7W9 => k_is)
  (case k9W9 => intro s _; exact BindsTo.of_eq rfl)
  (case kBW9 => exact rfl)
  (case c5W9 => decide +kernel)
  (case c2W9 => exact rfl)
  (case c3W9 => exact rfl)
  (case c4W9 => exact rfl)))
  k_with "con end int" => ((
  (try dsimp only)
  refine' ⟨_, _, _, [], _, rfl, ?FW9, ?NW9, ?okW9, ?PW9⟩
  (case FW9 => k_asm)
  (case NW9 => first | k_asm | exact cb_drop (by k_asm) (by walk_at "con sub"))
  (case okW9 => assumption)
  refine ⟨_, ?_, rfl⟩))
  k_with "con split" => (repeat' (first | exact Split.nil (by assumption) | refine' Split.cons ?_))
  k_with "con pre" => (first | exact trivial | is_list)
  k_with "con notab" => (first | exact noTab_seq | exact noTab_cell (by assumption) | exact noTab_of rfl (by intro vs e; cases e) | exact noTab_of (by assumption) (by intro vs e; cases e) | assumption)
  k_with "con own" => (repeat' (first | exact own_nil | refine own_off (OffT.get (by assumption) (by k_mem)) ?_ | refine own_tab (by walk_at "con notab") ?_))
  k_with "con fact" => (first | assumption | exact rfl | (with_reducible refine And.intro ?_ ?_ <;> walk_at "con fact") | decide | omega | (simp only [bitNot_eq]; omega) | (refine ⟨?_, ?_⟩ <;> walk_at "con fact") | fail "con fact")
  k_with "con sub" => (first | exact sub_self _ | (refine sub_tail ?_; walk_at "con sub") | fail "con sub")
  k_with "my k_all" => (first | exact OffT.at (by assumption) (by k_mem) | exact apt_tail (by k_asm) (by k_mem) (by walk_at "con sub") (by assumption) (by walk_at "con notab"))
  k_with "my k_ne" => ((refine neN ?_; first | with_reducible assumption | exact OffR.get (by assumption) (by k_mem) | exact Ne.symm (OffR.get (by assumption) (by k_mem)) | exact NeL.get (by assumption) (by k_mem) | exact Ne.symm (NeL.get (by assumption) (by k_mem)) | exact off1_get (by assumption) (by k_mem) | exact Ne.symm (off1_get (by assumption) (by k_mem)) | ((try dsimp only); omega)))
  k_with "execs cons" => (((with_reducible refine seq_cons ?_); intro _))
  k_with "SeqQ" => (first | refine seq_next ?_ | refine seq_ret ?_ | refine seq_brk ?_ | refine seq_cont ?_)
  k_with "call builtin:int.bit_length" => ((k_here; (try dsimp only); k_dflt (refine' bits_K ?bW9 ?_; (case bW9 => first | assumption | omega); k_whole); intro B' k' hB1' hB2' hB3' hB4' hB5' hB6' hB7'))
  trivial
theorem c_d21 (w : World) (a b n : Int) (t1 t2 t3 : Tok) (h : (0 ≤ a ∧ a ≤ 8000001) ∧ (2 ≤ b ∧ b < 1000) ∧ (1 ≤ n ∧ n ≤ 10)) :
    Con w 43 [.int a t1, .int b t2, .int n t3] 3 40 (fun _ => True) (fun v new => ∃ r u1 u2, v = .ref r ∧ new = [(r, tupo [.int (a.fdiv b) u1, .int (a.fmod b) u2])]) := by
  obtain ⟨h1, h2, h3⟩ := h
  walk_at "con plain"
  k_steps
  k_dflt (exact end1 (by k_asm) (by k_asm) (by walk_at "con split") (.head _) ⟨_, _, _, rfl, rfl⟩)
end Mine
end
namespace Mine
set_option maxHeartbeats 0 in
example : True ∧ True := by
  w_top off
  walk1 <;> trivial
end Mine
section
set_option maxHeartbeats 0
open PySem PySem.W PySem.Calls PyProof.Rows
set_option Elab.async false
set_option maxRecDepth 100000
set_option maxHeartbeats 0
namespace Mine
example : True := by
  k_with_none
  k_with "my k_room" => (ktr_room)
  k_with "con stab" => (first | exact stab_true | exact stab_tup | exact stab_list | exact stab_and (by walk_at "con stab") (by walk_at "con stab"))
  k_with "con plain" => ((
  refine' con_plain ?kSW9 ?k6W9 ?k7W9 ?k9W9 ?kBW9 ?c5W9 ?c2W9 ?c3W9 ?c4W9 ?_
  (case kSW9 => walk_at "con stab")
  (case k6W9 => k_is)
  (case k7W9 => k_is)
  (case k9W9 => intro s _; exact BindsTo.of_eq rfl)
  (case kBW9 => exact locs rfl)
  (case c5W9 => decide)
  (case c2W9 => exact rfl)
  (case c3W9 => exact rfl)
  (case c4W9 => exact rfl)))
  k_with "con cells" => ((
  refine' con_cells ?kSW9 ?k6W9 ?k7W9 ?k9W9 ?kBW9 ?c5W9 ?c2W9 ?c3W9 ?c4W9 ?_
  (case kSW9 => walk_at "con stab")
  (case k6W9 => k_is)
  (case k7W9 => k_is)
  (case k9W9 => intro s _; exact BindsTo.of_eq rfl)
  (case kBW9 => exact rfl)
  (case c5W9 => decide +kernel)
  (case c2W9 => exact rfl)
  (case c3W9 => exact rfl)
  (case c4W9 => exact rfl)))
  k_with "con end int" => ((
  (try dsimp only)
  refine' ⟨_, _, _, [], _, rfl, ?FW9, ?NW9, ?okW9, ?PW9⟩
  (case FW9 => k_asm)
  (case NW9 => first | k_asm | exact cb_drop (by k_asm) (by walk_at "con sub"))
  (case okW9 => assumption)
  refine ⟨_, ?_, rfl⟩))
  k_with "con split" => (repeat' (first | exact Split.nil (by assumption) | refine' Split.cons ?_))
  k_with "con pre" => (first | exact trivial | is_list)
  k_with "con notab" => (first | exact noTab_seq | exact noTab_cell (by assumption) | exact noTab_of rfl (by intro vs e; cases e) | exact noTab_of (by assumption) (by intro vs e; cases e) | assumption)
  k_with "con own" => (repeat' (first | exact own_nil | refine own_off (OffT.get (by assumption) (by k_mem)) ?_ | refine own_tab (by walk_at "con notab") ?_))
  k_with "con fact" => (first | assumption | exact rfl | (with_reducible refine And.intro ?_ ?_ <;> walk_at "con fact") | decide | omega | (simp only [bitNot_eq]; omega) | (refine ⟨?_, ?_⟩ <;> walk_at "con fact") | fail "con fact")
  k_with "con sub" => (first | exact sub_self _ | (refine sub_tail ?_; walk_at "con sub") | fail "con sub")
  k_with "my k_all" => (first | exact OffT.at (by assumption) (by k_mem) | exact apt_tail (by k_asm) (by k_mem) (by walk_at "con sub") (by assumption) (by walk_at "con notab"))
  k_with "my k_ne" => ((refine neN ?_; first | with_reducible assumption | exact OffR.get (by assumption) (by k_mem) | exact Ne.symm (OffR.get (by assumption) (by k_mem)) | exact NeL.get (by assumption) (by k_mem) | exact Ne.symm (NeL.get (by assumption) (by k_mem)) | exact off1_get (by assumption) (by k_mem) | exact Ne.symm (off1_get (by assumption) (by k_mem)) | ((try dsimp only); omega)))
  k_with "execs cons" => (((with_reducible refine seq_cons ?_); intro _))
  k_with "SeqQ" => (first | refine seq_next ?_ | refine seq_ret ?_ | refine seq_brk ?_ | refine seq_cont ?_)
  k_with "call ref" => ((k_here; k_dflt (first
  | (refine' go_tup2 (c_d21 _ _ _ _ _ _ _ ?bW9) ?BW9 ?FW9 ?XW9 ?TW9 ?NW9 ?SW9 ?preW9 ?ownW9 ?csW9 ?hdW9 ?huW9 ?_; (case BW9 => k_asm); (case FW9 => k_asm); (case XW9 => k_asm); (case TW9 => k_asm); (case NW9 => k_asm); (case SW9 => walk_at "con split"); (case preW9 => walk_at "con pre"); (case ownW9 => walk_at "con own"); (case csW9 => first | exact rfl | assumption); (case hdW9 => ktr_room); (case huW9 => ktr_units); (case bW9 => walk_at "con fact"); k_whole; intro r9' u1' u2' h' tk' tb' F' N' ok' ap' of'; (try dsimp only [List.nil_append, List.cons_append] at N'); (try dsimp only [tupo] at N'); (try k_sweep))
  | (refine' con_go (c_i2d _ _ _ _ _ ?bW9) ?BW9 ?FW9 ?XW9 ?TW9 ?NW9 ?SW9 ?preW9 ?ownW9 ?csW9 ?hdW9 ?huW9 ?_; (case BW9 => k_asm); (case FW9 => k_asm); (case XW9 => k_asm); (case TW9 => k_asm); (case NW9 => k_asm); (case SW9 => walk_at "con split"); (case preW9 => walk_at "con pre"); (case ownW9 => walk_at "con own"); (case csW9 => first | exact rfl | assumption); (case hdW9 => ktr_room); (case huW9 => ktr_units); (case bW9 => walk_at "con fact"); k_whole; intro v' h' tk' nw' tb' F' N' ok' ap' of' hp'; obtain ⟨r9', vs9', k9', ds9', e1', e2', i9', l9', v9', b9'⟩ := hp'; subst e1'; subst e2'; (try simp only [List.nil_append, List.cons_append] at N'); (try dsimp only [tupo] at N'); (try simp only [ApL, List.forall_mem_cons, List.not_mem_nil, false_implies, implies_true, and_true, true_and] at ap'); (try k_sweep); (try dsimp only); (try k_fold))
  | (refine' go_val (c_d2i _ _ _ _ _ _ ?bW9 ?cW9 ?dW9 ?eW9) ?BW9 ?FW9 ?XW9 ?TW9 ?NW9 ?SW9 ?preW9 ?ownW9 ?csW9 ?hdW9 ?huW9 ?_; (case BW9 => k_asm); (case FW9 => k_asm); (case XW9 => k_asm); (case TW9 => k_asm); (case NW9 => k_asm); (case SW9 => walk_at "con split"); (case preW9 => walk_at "con pre"); (case ownW9 => walk_at "con own"); (case csW9 => first | exact rfl | assumption); (case hdW9 => ktr_room); (case huW9 => ktr_units); (case eW9 => walk_at "con fact"); (case dW9 => walk_at "con fact"); (case cW9 => walk_at "con fact"); (case bW9 => walk_at "con fact"); k_whole; intro t9' h' tk' tb' F' N' ok' of'; (try dsimp only [List.nil_append, List.cons_append] at N'); (try dsimp only [tupo] at N'); (try k_sweep)))))
  k_with "call builtin:int.bit_length" => ((k_here; (try dsimp only); k_dflt (refine' bits_K ?bW9 ?_; (case bW9 => first | assumption | omega); k_whole); intro B' k' hB1' hB2' hB3' hB4' hB5' hB6' hB7'))
  k_with "eval Name" => ((k_here; k_dflt (refine' ld ?k1W9 ?k2W9 ?_; (case k1W9 => k_asm); (case k2W9 => assumption); k_whole)))
  k_with "binaryOp LShift int int" => ((k_here; k_dflt (refine' shl_R ?aW9 ?bW9 ?_; (case aW9 => omega); (case bW9 => omega); k_whole); intro S' hS' hS1'))
  k_with "pyIter ref" => ((refine stop ?_))
  k_with "call builtin:list.append" => ((k_here; k_dflt (refine' app_K ?FW9 ?NW9 ?zW9 ?UW9 ?_; (case FW9 => k_asm); (case NW9 => k_asm); (case UW9 => k_upd); (case zW9 => omega); k_whole); intro h' F' N'))
  k_with "call builtin:list.reverse" => ((k_here; (try dsimp only); k_dflt (refine' rvs_K ?FW9 ?NW9 ?zW9 ?UW9 ?_; (case FW9 => k_asm); (case NW9 => k_asm); (case UW9 => k_upd); (case zW9 => omega); k_whole); intro h' F' N'))
  k_with "UnrEnd" => ((refine stop ?_))
  trivial
theorem c_dpos (w : World) (a b : Int) (t1 t2 : Tok) (h : (0 ≤ a ∧ a ≤ 8000001) ∧ (2 ≤ b ∧ b < 1000)) :
    Con w 71 [.int a t1, .int b t2] 14 600 (fun _ => True) (fun v new => ∃ r u1 u2, v = .ref r ∧ new = [(r, tupo [.int (a.fdiv b) u1, .int (a.fmod b) u2])]) := by
  obtain ⟨h1, h2⟩ := h
  walk_at "con plain"
  k_steps
  refine unstop ?_
  rename News _ _ _ ((_, revObj _ _) :: _) => NX
  rename Fr _ _ _ _ => FX
  rename (IntsAre _ _) => hI
  rename (valD _ _ = a) => hv
  rename (∀ e ∈ _, 0 ≤ e ∧ e < _) => hb9
  rename (List.length _ ≤ 23) => hl9
  k_dflt (refine' iter_revUnr (lo := W.listOf (List.toArray _) _) (vs := _) rfl FX NX ?of (.tail _ (.head _)) rfl rfl ?R)
  case of => exact ⟨.inl (by k_ne), .inl (by k_ne), offI_of fun q hq => apt_tail NX (.head _) (fun q hq => .tail _ (.tail _ (.tail _ hq))) (by assumption) (by exact notab_rev) q hq⟩
  refine' rev_ind (RJ _ _ _ _ _ _ b a) ?T ?E _ _ _ _ (IntsAre.reverse hI) ?J
  case J =>
    refine' rj_start hv hb9 h2.1 hl9 (by assumption) (fun q hq => apt_tail NX (.head _) (fun q hq => .tail _ (.tail _ (.tail _ hq))) (by assumption) (by exact notab_rev) q hq) ?j1 ?j2 ?j3 ?j4
    case j1 => exact rfl
    case j2 => exact rfl
    case j3 => exact rfl
    case j4 => exact rfl
  case T =>
    intro e es t m news it h tk hJ hic F N
    obtain ⟨r, qs, qvs, c, tb, tr, tn, tb2, hnw, ok, hoff, hr, hn, hb, hq, hqi, hdi⟩ := hJ
    subst hnw
    have hde := pow_dig (n := _) (by omega) (hdi.2.2.2.1 e (.head _))
    have hrr := hdi.1
    have hqz : qvs.length ≤ 23 := by have q1 := hqi.length; have q2 := hdi.2.2.1; omega
    have hOI : OffT tb [(_, it)] := fun p hp q hq => by
      rw [List.mem_singleton.mp hp]; exact hoff q hq
    k_steps
    refine unstop ?_
    rename OffT _ [(_, it), _, _] => hO9
    rename News _ _ _ _ => NE
    k_dflt (exact ⟨_, _, _, _, rfl, by k_asm, news_tl NE, fun p hp => by
      rcases List.mem_cons.mp hp with rfl | hp
      · k_ne
      · rcases List.mem_cons.mp hp with rfl | hp
        · k_ne
        · exact off_get hO9 p hp, .tail _ (.head _), rj_end (by assumption) h2.1 hdi hqi (by assumption) (off_get hO9) (by exact rfl) (by exact hn) (by exact hb) (by exact hq)⟩)
  case E =>
    intro m news h tk hJ F N
    obtain ⟨r, qs, qvs, c, tb, tr, tn, tb2, hnw, ok, hoff, hr, hn, hb, hq, hqi, hdi⟩ := hJ
    subst hnw
    obtain ⟨hq1, hq2, hq3, hq4⟩ := di_end h2.1 hdi
    have hqz : qvs.length ≤ 23 := by have q1 := hqi.length; have q2 := hdi.2.2.1; omega
    have hqr := IntsAre.reverse hqi
    (try dsimp only)
    k_steps
    rename News _ _ _ _ => NZ
    rw [hq1, hq2] at NZ
    k_dflt (exact end1 (by k_asm) NZ (by walk_at "con split") (.head _) ⟨_, _, _, rfl, rfl⟩)
end Mine
end
namespace Mine
set_option maxHeartbeats 0 in
example : True ∧ True := by
  w_top off
  walk1 <;> trivial
end Mine
section
set_option maxHeartbeats 0
open PySem PySem.W PySem.Calls PyProof.Rows
set_option Elab.async false
set_option maxRecDepth 100000
set_option maxHeartbeats 0
namespace Mine
example : True := by
  k_with_none
  k_with "my k_room" => (ktr_room)
  k_with "con stab" => (first | exact stab_true | exact stab_tup | exact stab_list | exact stab_and (by walk_at "con stab") (by walk_at "con stab"))
  k_with "con plain" => ((
  refine' con_plain ?kSW9 ?k6W9 ?k7W9 ?k9W9 ?kBW9 ?c5W9 ?c2W9 ?c3W9 ?c4W9 ?_
  (case kSW9 => walk_at "con stab")
  (case k6W9 => k_is)
  (case k7W9 => k_is)
  (case k9W9 => intro s _; exact BindsTo.of_eq rfl)
  (case kBW9 => exact locs rfl)
  (case c5W9 => decide)
  (case c2W9 => exact rfl)
  (case c3W9 => exact rfl)
  (case c4W9 => exact rfl)))
  k_with "con cells" => ((
  refine' con_cells ?kSW9 ?k6W9 ?k7W9 ?k9W9 ?kBW9 ?c5W9 ?c2W9 ?c3W9 ?c4W9 ?_
  (case kSW9 => walk_at "con stab")
  (case k6W9 => k_is)
  (case k7W9 => k_is)
  (case k9W9 => intro s _; exact BindsTo.of_eq rfl)
  (case kBW9 => exact rfl)
  (case c5W9 => decide +kernel)
  (case c2W9 => exact rfl)
  (case c3W9 => exact rfl)
  (case c4W9 => exact rfl)))
  k_with "con end int" => ((
  (try dsimp only)
  refine' ⟨_, _, _, [], _, rfl, ?FW9, ?NW9, ?okW9, ?PW9⟩
  (case FW9 => k_asm)
  (case NW9 => first | k_asm | exact cb_drop (by k_asm) (by walk_at "con sub"))
  (case okW9 => assumption)
  refine ⟨_, ?_, rfl⟩))
  k_with "con split" => (repeat' (first | exact Split.nil (by assumption) | refine' Split.cons ?_))
  k_with "con pre" => (first | exact trivial | is_list)
  k_with "con notab" => (first | exact noTab_seq | exact noTab_cell (by assumption) | exact noTab_of rfl (by intro vs e; cases e) | exact noTab_of (by assumption) (by intro vs e; cases e) | assumption)
  k_with "con own" => (repeat' (first | exact own_nil | refine own_off (OffT.get (by assumption) (by k_mem)) ?_ | refine own_tab (by walk_at "con notab") ?_))
  k_with "con fact" => (first | assumption | exact rfl | (with_reducible refine And.intro ?_ ?_ <;> walk_at "con fact") | decide | omega | (simp only [bitNot_eq]; omega) | (refine ⟨?_, ?_⟩ <;> walk_at "con fact") | fail "con fact")
  k_with "con sub" => (first | exact sub_self _ | (refine sub_tail ?_; walk_at "con sub") | fail "con sub")
  k_with "my k_all" => (first | exact OffT.at (by assumption) (by k_mem) | exact apt_tail (by k_asm) (by k_mem) (by walk_at "con sub") (by assumption) (by walk_at "con notab"))
  k_with "my k_ne" => ((refine neN ?_; first | with_reducible assumption | exact OffR.get (by assumption) (by k_mem) | exact Ne.symm (OffR.get (by assumption) (by k_mem)) | exact NeL.get (by assumption) (by k_mem) | exact Ne.symm (NeL.get (by assumption) (by k_mem)) | exact off1_get (by assumption) (by k_mem) | exact Ne.symm (off1_get (by assumption) (by k_mem)) | ((try dsimp only); omega)))
  k_with "execs cons" => (((with_reducible refine seq_cons ?_); intro _))
  k_with "SeqQ" => (first | refine seq_next ?_ | refine seq_ret ?_ | refine seq_brk ?_ | refine seq_cont ?_)
  k_with "call ref" => ((k_here; k_dflt (first
  | (refine' go_tup2 (c_dpos _ _ _ _ _ ?bW9) ?BW9 ?FW9 ?XW9 ?TW9 ?NW9 ?SW9 ?preW9 ?ownW9 ?csW9 ?hdW9 ?huW9 ?_; (case BW9 => k_asm); (case FW9 => k_asm); (case XW9 => k_asm); (case TW9 => k_asm); (case NW9 => k_asm); (case SW9 => walk_at "con split"); (case preW9 => walk_at "con pre"); (case ownW9 => walk_at "con own"); (case csW9 => first | exact rfl | assumption); (case hdW9 => ktr_room); (case huW9 => ktr_units); (case bW9 => walk_at "con fact"); k_whole; intro r9' u1' u2' h' tk' tb' F' N' ok' ap' of'; (try dsimp only [List.nil_append, List.cons_append] at N'); (try dsimp only [tupo] at N'); (try k_sweep)))))
  trivial
theorem c_div1 (w : World) (a b : Int) (t1 t2 : Tok) (h : (0 ≤ a ∧ a ≤ 8000001) ∧ (2 ≤ b ∧ b < 1000)) :
    Con w 78 [.int a t1, .int b t2] 16 700 (fun _ => True) (fun v new => ∃ r u1 u2, v = .ref r ∧ new = [(r, tupo [.int (a.fdiv b) u1, .int (a.fmod b) u2])]) := by
  obtain ⟨⟨h1, h2⟩, h3, h4⟩ := h
  walk_at "con plain"
  k_steps
  · exfalso; omega
  · k_dflt (exact end1 (by k_asm) (by k_asm) (by walk_at "con split") (.head _) ⟨_, _, _, rfl, rfl⟩)
end Mine
end
namespace Mine
set_option maxHeartbeats 0 in
example : True ∧ True := by
  w_top off
  walk1 <;> trivial
end Mine
section
set_option maxHeartbeats 0
open PySem PySem.W PySem.Calls PyProof.Rows
set_option Elab.async false
set_option maxRecDepth 100000
set_option maxHeartbeats 0
namespace Mine
example : True := by
  k_with_none
  k_with "my k_room" => (ktr_room)
  k_with "con stab" => (first | exact stab_true | exact stab_tup | exact stab_list | exact stab_and (by walk_at "con stab") (by walk_at "con stab"))
  k_with "con plain" => ((
  refine' con_plain ?kSW9 ?k6W9 ?k7W9 ?k9W9 ?kBW9 ?c5W9 ?c2W9 ?c3W9 ?c4W9 ?_
  (case kSW9 => walk_at "con stab")
  (case k6W9 => k_is)
  (case k7W9 => k_is)
  (case k9W9 => intro s _; exact BindsTo.of_eq rfl)
  (case kBW9 => exact locs rfl)
  (case c5W9 => decide)
  (case c2W9 => exact rfl)
  (case c3W9 => exact rfl)
  (case c4W9 => exact rfl)))
  k_with "con cells" => ((
  refine' con_cells ?kSW9 ?k6W9 ?k7W9 ?k9W9 ?kBW9 ?c5W9 ?c2W9 ?c3W9 ?c4W9 ?_
  (case kSW9 => walk_at "con stab")
  (case k6W9 => k_is)
  (case k7W9 => k_is)
  (case k9W9 => intro s _; exact BindsTo.of_eq rfl)
  (case kBW9 => exact rfl)
  (case c5W9 => decide +kernel)
  (case c2W9 => exact rfl)
  (case c3W9 => exact rfl)
  (case c4W9 => exact rfl)))
  k_with "con end int" => ((
  (try dsimp only)
  refine' ⟨_, _, _, [], _, rfl, ?FW9, ?NW9, ?okW9, ?PW9⟩
  (case FW9 => k_asm)
  (case NW9 => first | k_asm | exact cb_drop (by k_asm) (by walk_at "con sub"))
  (case okW9 => assumption)
  refine ⟨_, ?_, rfl⟩))
  k_with "con split" => (repeat' (first | exact Split.nil (by assumption) | refine' Split.cons ?_))
  k_with "con pre" => (first | exact trivial | is_list)
  k_with "con notab" => (first | exact noTab_seq | exact noTab_cell (by assumption) | exact noTab_of rfl (by intro vs e; cases e) | exact noTab_of (by assumption) (by intro vs e; cases e) | assumption)
  k_with "con own" => (repeat' (first | exact own_nil | refine own_off (OffT.get (by assumption) (by k_mem)) ?_ | refine own_tab (by walk_at "con notab") ?_))
  k_with "con fact" => (first | assumption | exact rfl | (with_reducible refine And.intro ?_ ?_ <;> walk_at "con fact") | decide | omega | (simp only [bitNot_eq]; omega) | (refine ⟨?_, ?_⟩ <;> walk_at "con fact") | fail "con fact")
  k_with "con sub" => (first | exact sub_self _ | (refine sub_tail ?_; walk_at "con sub") | fail "con sub")
  k_with "my k_all" => (first | exact OffT.at (by assumption) (by k_mem) | exact apt_tail (by k_asm) (by k_mem) (by walk_at "con sub") (by assumption) (by walk_at "con notab"))
  k_with "my k_ne" => ((refine neN ?_; first | with_reducible assumption | exact OffR.get (by assumption) (by k_mem) | exact Ne.symm (OffR.get (by assumption) (by k_mem)) | exact NeL.get (by assumption) (by k_mem) | exact Ne.symm (NeL.get (by assumption) (by k_mem)) | exact off1_get (by assumption) (by k_mem) | exact Ne.symm (off1_get (by assumption) (by k_mem)) | ((try dsimp only); omega)))
  k_with "execs cons" => (((with_reducible refine seq_cons ?_); intro _))
  k_with "SeqQ" => (first | refine seq_next ?_ | refine seq_ret ?_ | refine seq_brk ?_ | refine seq_cont ?_)
  k_with "call ref" => ((k_here; k_dflt (first
  | (refine' go_tup2 (c_div1 _ _ _ _ _ ?bW9) ?BW9 ?FW9 ?XW9 ?TW9 ?NW9 ?SW9 ?preW9 ?ownW9 ?csW9 ?hdW9 ?huW9 ?_; (case BW9 => k_asm); (case FW9 => k_asm); (case XW9 => k_asm); (case TW9 => k_asm); (case NW9 => k_asm); (case SW9 => walk_at "con split"); (case preW9 => walk_at "con pre"); (case ownW9 => walk_at "con own"); (case csW9 => first | exact rfl | assumption); (case hdW9 => ktr_room); (case huW9 => ktr_units); (case bW9 => walk_at "con fact"); k_whole; intro r9' u1' u2' h' tk' tb' F' N' ok' ap' of'; (try dsimp only [List.nil_append, List.cons_append] at N'); (try dsimp only [tupo] at N'); (try k_sweep)))))
  trivial
theorem c_div2 (w : World) (a b : Int) (t1 t2 : Tok) (h : (-8000001 ≤ a ∧ a ≤ 8000001) ∧ (2 ≤ b ∧ b < 1000)) :
    Con w 78 [.int a t1, .int b t2] 17 800 (fun _ => True) (fun v new => ∃ r u1 u2, v = .ref r ∧ new = [(r, tupo [.int (a.fdiv b) u1, .int (a.fmod b) u2])]) := by
  by_cases ha : 0 ≤ a
  · exact con_weak (c_div1 w a b t1 t2 ⟨⟨ha, h.1.2⟩, h.2⟩) (by decide) (by decide)
  · obtain ⟨⟨h1, h2⟩, h3, h4⟩ := h
    obtain ⟨e1, e2⟩ := div_neg (a := a) (b := b) (by omega) (by omega)
    walk_at "con plain"
    k_steps
    · exfalso; omega
    · rename News _ _ _ _ => NX
      simp only [e1, e2] at NX
      k_dflt (exact end1 (by k_asm) NX (by walk_at "con split") (.head _) ⟨_, _, _, rfl, rfl⟩)
end Mine
end
namespace Mine
set_option maxHeartbeats 0 in
example : True ∧ True := by
  w_top off
  walk1 <;> trivial
end Mine
section
set_option maxHeartbeats 0
open PySem PySem.W PySem.Calls PyProof.Rows
set_option Elab.async false
set_option maxRecDepth 100000
set_option maxHeartbeats 0
namespace Mine
example : True := by
  k_with_none
  k_with "my k_room" => (ktr_room)
  k_with "con stab" => (first | exact stab_true | exact stab_tup | exact stab_list | exact stab_and (by walk_at "con stab") (by walk_at "con stab"))
  k_with "con plain" => ((
  refine' con_plain ?kSW9 ?k6W9 ?k7W9 ?k9W9 ?kBW9 ?c5W9 ?c2W9 ?c3W9 ?c4W9 ?_
  (case kSW9 => walk_at "con stab")
  (case k6W9 => k_is)
  (case k7W9 => k_is)
  (case k9W9 => intro s _; exact BindsTo.of_eq rfl)
  (case kBW9 => exact locs rfl)
  (case c5W9 => decide)
  (case c2W9 => exact rfl)
  (case c3W9 => exact rfl)
  (case c4W9 => exact rfl)))
  k_with "con cells" => ((
  refine' con_cells ?kSW9 ?k6W9 ?k7W9 ?k9W9 ?kBW9 ?c5W9 ?c2W9 ?c3W9 ?c4W9 ?_
  (case kSW9 => walk_at "con stab")
  (case k6W9 => k_is)
  (case k7W9 => k_is)
  (case k9W9 => intro s _; exact BindsTo.of_eq rfl)
  (case kBW9 => exact rfl)
  (case c5W9 => decide +kernel)
  (case c2W9 => exact rfl)
  (case c3W9 => exact rfl)
  (case c4W9 => exact rfl)))
  k_with "con end int" => ((
  (try dsimp only)
  refine' ⟨_, _, _, [], _, rfl, ?FW9, ?NW9, ?okW9, ?PW9⟩
  (case FW9 => k_asm)
  (case NW9 => first | k_asm | exact cb_drop (by k_asm) (by walk_at "con sub"))
  (case okW9 => assumption)
  refine ⟨_, ?_, rfl⟩))
  k_with "con split" => (repeat' (first | exact Split.nil (by assumption) | refine' Split.cons ?_))
  k_with "con pre" => (first | exact trivial | is_list)
  k_with "con notab" => (first | exact noTab_seq | exact noTab_cell (by assumption) | exact noTab_of rfl (by intro vs e; cases e) | exact noTab_of (by assumption) (by intro vs e; cases e) | assumption)
  k_with "con own" => (repeat' (first | exact own_nil | refine own_off (OffT.get (by assumption) (by k_mem)) ?_ | refine own_tab (by walk_at "con notab") ?_))
  k_with "con fact" => (first | assumption | exact rfl | (with_reducible refine And.intro ?_ ?_ <;> walk_at "con fact") | decide | omega | (simp only [bitNot_eq]; omega) | (refine ⟨?_, ?_⟩ <;> walk_at "con fact") | fail "con fact")
  k_with "con sub" => (first | exact sub_self _ | (refine sub_tail ?_; walk_at "con sub") | fail "con sub")
  k_with "my k_all" => (first | exact OffT.at (by assumption) (by k_mem) | exact apt_tail (by k_asm) (by k_mem) (by walk_at "con sub") (by assumption) (by walk_at "con notab"))
  k_with "my k_ne" => ((refine neN ?_; first | with_reducible assumption | exact OffR.get (by assumption) (by k_mem) | exact Ne.symm (OffR.get (by assumption) (by k_mem)) | exact NeL.get (by assumption) (by k_mem) | exact Ne.symm (NeL.get (by assumption) (by k_mem)) | exact off1_get (by assumption) (by k_mem) | exact Ne.symm (off1_get (by assumption) (by k_mem)) | ((try dsimp only); omega)))
  k_with "execs cons" => (((with_reducible refine seq_cons ?_); intro _))
  k_with "SeqQ" => (first | refine seq_next ?_ | refine seq_ret ?_ | refine seq_brk ?_ | refine seq_cont ?_)
  k_with "call ref" => ((k_here; k_dflt (first
  | (refine' go_tup2 (c_div2 _ _ _ _ _ ?bW9) ?BW9 ?FW9 ?XW9 ?TW9 ?NW9 ?SW9 ?preW9 ?ownW9 ?csW9 ?hdW9 ?huW9 ?_; (case BW9 => k_asm); (case FW9 => k_asm); (case XW9 => k_asm); (case TW9 => k_asm); (case NW9 => k_asm); (case SW9 => walk_at "con split"); (case preW9 => walk_at "con pre"); (case ownW9 => walk_at "con own"); (case csW9 => first | exact rfl | assumption); (case hdW9 => ktr_room); (case huW9 => ktr_units); (case bW9 => walk_at "con fact"); k_whole; intro r9' u1' u2' h' tk' tb' F' N' ok' ap' of'; (try dsimp only [List.nil_append, List.cons_append] at N'); (try dsimp only [tupo] at N'); (try k_sweep)))))
  trivial
theorem c_divmod (w : World) (a b : Int) (t1 t2 : Tok) (h : (-8000000 ≤ a ∧ a ≤ 8000000) ∧ (-1000 < b ∧ b < 1000) ∧ (b < -1 ∨ 1 < b)) :
    Con w 78 [.int a t1, .int b t2] 20 900 (fun _ => True) (fun v new => (∃ r u1 u2, v = .ref r ∧ new = [(r, tupo [.int (a.fdiv b) u1, .int (a.fmod b) u2])]) ∧ (0 < b → 0 ≤ a.fmod b ∧ a.fmod b < b ∧ b * a.fdiv b + a.fmod b = a)) := by
  refine con_imp (Post := fun v new => ∃ r u1 u2, v = .ref r ∧ new = [(r, tupo [.int (a.fdiv b) u1, .int (a.fmod b) u2])]) ?_ fun v n hp => ⟨hp, div_facts_of a b⟩
  obtain ⟨⟨h1, h2⟩, ⟨h3, h4⟩, h5⟩ := h
  rcases h5 with h5 | h5
  · obtain ⟨e1, e2⟩ := div_flip a b
    walk_at "con plain"
    k_steps
    · exfalso; omega
    · rename News _ _ _ _ => NX
      simp only [e1, e2] at NX
      k_dflt (exact end1 (by k_asm) NX (by walk_at "con split") (.head _) ⟨_, _, _, rfl, rfl⟩)
  · exact con_weak (c_div2 w a b t1 t2 (by omega)) (by decide) (by decide)
end Mine
end
namespace Mine
set_option maxHeartbeats 0 in
example : True ∧ True := by
  w_top off
  walk1 <;> trivial
end Mine
section
set_option maxHeartbeats 0
open PySem PySem.W PySem.Calls PyProof.Rows
set_option Elab.async false
set_option maxRecDepth 100000
set_option maxHeartbeats 0
namespace Mine
example : True := by
  k_with_none
  k_with "my k_room" => (ktr_room)
  k_with "con stab" => (first | exact stab_true | exact stab_tup | exact stab_list | exact stab_and (by walk_at "con stab") (by walk_at "con stab"))
  k_with "con plain" => ((
  refine' con_plain ?kSW9 ?k6W9 ?k7W9 ?k9W9 ?kBW9 ?c5W9 ?c2W9 ?c3W9 ?c4W9 ?_
  (case kSW9 => walk_at "con stab")
  (case k6W9 => k_is)
  (case k7W9 => k_is)
  (case k9W9 => intro s _; exact BindsTo.of_eq rfl)
  (case kBW9 => exact locs rfl)
  (case c5W9 => decide)
  (case c2W9 => exact rfl)
  (case c3W9 => exact rfl)
  (case c4W9 => exact rfl)))
  k_with "con cells" => ((
  refine' con_cells ?kSW9 ?k6W9 ?k7W9 ?k9W9 ?kBW9 ?c5W9 ?c2W9 ?c3W9 ?c4W9 ?_
  (case kSW9 => walk_at "con stab")
  (case k6W9 => k_is)
  (case k7W9 => k_is)
  (case k9W9 => intro s _; exact BindsTo.of_eq rfl)
  (case kBW9 => exact rfl)
  (case c5W9 => decide +kernel)
  (case c2W9 => exact rfl)
  (case c3W9 => exact rfl)
  (case c4W9 => exact rfl)))
  k_with "con end int" => ((
  (try dsimp only)
  refine' ⟨_, _, _, [], _, rfl, ?FW9, ?NW9, ?okW9, ?PW9⟩
  (case FW9 => k_asm)
  (case NW9 => first | k_asm | exact cb_drop (by k_asm) (by walk_at "con sub"))
  (case okW9 => assumption)
  refine ⟨_, ?_, rfl⟩))
  k_with "con split" => (repeat' (first | exact Split.nil (by assumption) | refine' Split.cons ?_))
  k_with "con pre" => (first | exact trivial | is_list)
  k_with "con notab" => (first | exact noTab_seq | exact noTab_cell (by assumption) | exact noTab_of rfl (by intro vs e; cases e) | exact noTab_of (by assumption) (by intro vs e; cases e) | assumption)
  k_with "con own" => (repeat' (first | exact own_nil | refine own_off (OffT.get (by assumption) (by k_mem)) ?_ | refine own_tab (by walk_at "con notab") ?_))
  k_with "con fact" => (first | assumption | exact rfl | (with_reducible refine And.intro ?_ ?_ <;> walk_at "con fact") | decide | omega | (simp only [bitNot_eq]; omega) | (refine ⟨?_, ?_⟩ <;> walk_at "con fact") | fail "con fact")
  k_with "con sub" => (first | exact sub_self _ | (refine sub_tail ?_; walk_at "con sub") | fail "con sub")
  k_with "my k_all" => (first | exact OffT.at (by assumption) (by k_mem) | exact apt_tail (by k_asm) (by k_mem) (by walk_at "con sub") (by assumption) (by walk_at "con notab"))
  k_with "my k_ne" => ((refine neN ?_; first | with_reducible assumption | exact OffR.get (by assumption) (by k_mem) | exact Ne.symm (OffR.get (by assumption) (by k_mem)) | exact NeL.get (by assumption) (by k_mem) | exact Ne.symm (NeL.get (by assumption) (by k_mem)) | exact off1_get (by assumption) (by k_mem) | exact Ne.symm (off1_get (by assumption) (by k_mem)) | ((try dsimp only); omega)))
  k_with "execs cons" => (((with_reducible refine seq_cons ?_); intro _))
  k_with "SeqQ" => (first | refine seq_next ?_ | refine seq_ret ?_ | refine seq_brk ?_ | refine seq_cont ?_)
  k_with "call ref" => ((k_here; k_dflt (first
  | (refine' go_div2 ?bW9 ?BW9 ?FW9 ?XW9 ?TW9 ?NW9 ?SW9 ?ownW9 ?csW9 ?hdW9 ?huW9 (by decide) ?_; (case BW9 => k_asm); (case FW9 => k_asm); (case XW9 => k_asm); (case TW9 => k_asm); (case NW9 => k_asm); (case SW9 => walk_at "con split"); (case ownW9 => walk_at "con own"); (case csW9 => first | exact rfl | assumption); (case hdW9 => ktr_room); (case huW9 => ktr_units); (case bW9 => walk_at "con fact"); k_whole; intro r9' u1' u2' q' z' h' tk' tb' F' N' ok' ap' of' hq9' hz9' hb9'; (try dsimp only [Int.reduceDiv, Int.reduceNeg, Int.reduceSub] at hb9'); (try dsimp only [List.nil_append, List.cons_append] at N'); (try dsimp only [tupo] at N'); (try k_sweep)))))
  trivial
noncomputable def IsV (a b : Int) : Prop := a = b
theorem div_box {x b q z : Int} (hx : -8000000 ≤ x ∧ x ≤ 8000000) (hb : 0 < b) (h : 0 ≤ z ∧ z < b ∧ b * q + z = x) : (0 ≤ z ∧ z < b) ∧ -(8000000 / b) - 1 ≤ q ∧ q ≤ 8000000 / b := by
  refine ⟨⟨h.1, h.2.1⟩, ?_, (Int.le_ediv_iff_mul_le hb).mpr ?_⟩
  · have e : -q - 1 ≤ 8000000 / b := by
      rw [Int.le_ediv_iff_mul_le hb, Int.sub_mul, Int.neg_mul, Int.mul_comm q b]
      omega
    omega
  · rw [Int.mul_comm]; omega
section
variable {w : World} 
    {p : Program} {loose : List Str} {mean : ExcName → Option Value} {mg mb : Str → Option Value} {dp un : Nat} {gd : Option (List Code)} {cn : Str} {cs : Scope} {a : Addr} {ccd : Value} {cl : List (Str × Addr)} {outer : List Env} {A₀ : Around} {base h₀ : Heap} {L : Addr} {m : Str → Option Value}
    {hp : Heap} {gs : Array GenState} {dr : Drawn} {tk : Nat} {os : OsState} {news own tb : List (Addr × Obj)} {Q E : Value → Shared → Prop}
theorem go_div2 {x b : Int} {t1 t2 : Tok} (hx : (-8000000 ≤ x ∧ x ≤ 8000000) ∧ (-1000 < b ∧ b < 1000) ∧ (b < -1 ∨ 1 < b))
    (B : Below A₀ base outer h₀) (F : Fr h₀ L hp m) (X : (hd.heap_39 w.params).In h₀) (T : Top p loose mean mg mb h₀) (N : News h₀ L hp news) (S : Split news own tb) (hown : ∀ p ∈ own, NoTab p.2 ∨ ∀ q ∈ tb, @Ne Nat q.1 p.1) (hcs : cs.kind = .function)
    (hd : dp + 20 < recursionLimit) (hu : un + 900 < cLine) (hb : 0 < b)
    (h : ∀ r u1 u2 q z h' tk' tb', Fr h₀ L h' m → News h₀ L h' ((r, tupo [.int q u1, .int z u2]) :: (own ++ tb')) → TbsOk tb' → OffR r own → OffT tb' own → IsV q (x.fdiv b) → IsV z (x.fmod b) → (0 ≤ z ∧ z < b) ∧ -(8000000 / b) - 1 ≤ q ∧ q ≤ 8000000 / b → Q (.ref r) ⟨h', gs, dr, tk', os⟩) :
    wpAny (model PySem.Challenge.rw_ph0148_01.row.prog w) (ktrTop dp un gd cn cs L a ccd cl outer) (call (.ref 78) [.int x t1, .int b t2]) Q E ⟨hp, gs, dr, tk, os⟩ :=
  con_go (c_divmod w x b t1 t2 hx) B F X T N S trivial hown hcs hd hu fun v h' tk' new tb' F' N' ok' ap of' hp => by obtain ⟨⟨r, u1, u2, rfl, rfl⟩, hP⟩ := hp; exact h r u1 u2 _ _ h' tk' tb' F' N' ok' (apR ap) of' rfl rfl (div_box hx.1 hb (hP hb))
end
theorem ten_is {y g c r f o b l e k m w z mo da : Int} (h1 : g = y.fmod 19) (h2 : c = y.fdiv 100) (h3 : r = y.fmod 100) (h4 : f = c.fdiv 4) (h5 : o = c.fmod 4) (h6 : b = (c + 8).fdiv 25) (h7 : l = (c - b + 1).fdiv 3) (h8 : e = (c - f - l - 11 * g + 15).fmod 30) (h9 : k = r.fdiv 4) (h10 : m = r.fmod 4) (h11 : w = (2 * o + 2 * k - e - m + 4).fmod 7) (h12 : z = (g + 11 * e + 22 * w).fdiv 451) (h13 : mo = (e + w - 7 * z + 114).fdiv 31) (h14 : da = (e + w - 7 * z + 114).fmod 31) : mo = (tenF y).month ∧ da + 1 = (tenF y).day := by
  subst h1 h2 h3 h4 h5 h6 h7 h8 h9 h10 h11 h12 h13 h14
  exact ⟨rfl, rfl⟩
theorem ten_of {y g c r f o b l e k m w z mo da : Int} (h1 : IsV g (y.fmod 19)) (h2 : IsV c (y.fdiv 100)) (h3 : IsV r (y.fmod 100)) (h4 : IsV f (c.fdiv 4)) (h5 : IsV o (c.fmod 4)) (h6 : IsV b ((c + 8).fdiv 25)) (h7 : IsV l ((c - b + 1).fdiv 3)) (h8 : IsV e ((c - f - l - 11 * g + 15).fmod 30)) (h9 : IsV k (r.fdiv 4)) (h10 : IsV m (r.fmod 4)) (h11 : IsV w ((2 * o + 2 * k - e - m + 4).fmod 7)) (h12 : IsV z ((g + 11 * e + 22 * w).fdiv 451)) (h13 : IsV mo ((e + w - 7 * z + 114).fdiv 31)) (h14 : IsV da ((e + w - 7 * z + 114).fmod 31)) : mo = (tenF y).month ∧ da + 1 = (tenF y).day := ten_is h1 h2 h3 h4 h5 h6 h7 h8 h9 h10 h11 h12 h13 h14
theorem c_ten (w : World) (y a b : Int) (t1 : Tok) (h : 1 ≤ y ∧ y ≤ 9998) (ha : (tenF y).month = a) (hb : (tenF y).day = b) :
    Con w 123 [.int y t1] 40 1100 (fun _ => True) (fun v new => ∃ r u1 u2, v = .ref r ∧ new = [(r, tupo [.int a u1, .int b u2])]) := by
  walk_at "con plain"
  k_steps
  have e := ten_of (y := y) (by assumption) (by assumption) (by assumption) (by assumption) (by assumption) (by assumption) (by assumption) (by assumption) (by assumption) (by assumption) (by assumption) (by assumption) (by assumption) (by assumption)
  k_dflt (exact end1 (by k_asm) (by k_asm) (by walk_at "con split") (.head _) ⟨_, _, _, rfl, by rw [e.1, e.2, ha, hb]⟩)
end Mine
end
namespace Mine
set_option maxHeartbeats 0 in
example : True ∧ True := by
  w_top off
  walk1 <;> trivial
end Mine
section
set_option maxHeartbeats 0
open PySem PySem.W PySem.Calls PyProof.Rows
set_option Elab.async false
set_option maxRecDepth 100000
set_option maxHeartbeats 0
namespace Mine
example : True := by
  k_with_none
  k_with "my k_room" => (ktr_room)
  k_with "con stab" => (first | exact stab_true | exact stab_tup | exact stab_list | exact stab_and (by walk_at "con stab") (by walk_at "con stab"))
  k_with "con plain" => ((
  refine' con_plain ?kSW9 ?k6W9 ?k7W9 ?k9W9 ?kBW9 ?c5W9 ?c2W9 ?c3W9 ?c4W9 ?_
  (case kSW9 => walk_at "con stab")
  (case k6W9 => k_is)
  (case k7W9 => k_is)
  (case k9W9 => intro s _; exact BindsTo.of_eq rfl)
  (case kBW9 => exact locs rfl)
  (case c5W9 => decide)
  (case c2W9 => exact rfl)
  (case c3W9 => exact rfl)
  (case c4W9 => exact rfl)))
  k_with "con cells" => ((
  refine' con_cells ?kSW9 ?k6W9 ?k7W9 ?k9W9 ?kBW9 ?c5W9 ?c2W9 ?c3W9 ?c4W9 ?_
  (case kSW9 => walk_at "con stab")
  (case k6W9 => k_is)
  (case k7W9 => k_is)
  (case k9W9 => intro s _; exact BindsTo.of_eq rfl)
  (case kBW9 => exact rfl)
  (case c5W9 => decide +kernel)
  (case c2W9 => exact rfl)
  (case c3W9 => exact rfl)
  (case c4W9 => exact rfl)))
  k_with "con end int" => ((
  (try dsimp only)
  refine' ⟨_, _, _, [], _, rfl, ?FW9, ?NW9, ?okW9, ?PW9⟩
  (case FW9 => k_asm)
  (case NW9 => first | k_asm | exact cb_drop (by k_asm) (by walk_at "con sub"))
  (case okW9 => assumption)
  refine ⟨_, ?_, rfl⟩))
  k_with "con split" => (repeat' (first | exact Split.nil (by assumption) | refine' Split.cons ?_))
  k_with "con pre" => (first | exact trivial | is_list)
  k_with "con notab" => (first | exact noTab_seq | exact noTab_cell (by assumption) | exact noTab_of rfl (by intro vs e; cases e) | exact noTab_of (by assumption) (by intro vs e; cases e) | assumption)
  k_with "con own" => (repeat' (first | exact own_nil | refine own_off (OffT.get (by assumption) (by k_mem)) ?_ | refine own_tab (by walk_at "con notab") ?_))
  k_with "con fact" => (first | assumption | exact rfl | (with_reducible refine And.intro ?_ ?_ <;> walk_at "con fact") | decide | omega | (simp only [bitNot_eq]; omega) | (refine ⟨?_, ?_⟩ <;> walk_at "con fact") | fail "con fact")
  k_with "con sub" => (first | exact sub_self _ | (refine sub_tail ?_; walk_at "con sub") | fail "con sub")
  k_with "my k_all" => (first | exact OffT.at (by assumption) (by k_mem) | exact apt_tail (by k_asm) (by k_mem) (by walk_at "con sub") (by assumption) (by walk_at "con notab"))
  k_with "my k_ne" => ((refine neN ?_; first | with_reducible assumption | exact OffR.get (by assumption) (by k_mem) | exact Ne.symm (OffR.get (by assumption) (by k_mem)) | exact NeL.get (by assumption) (by k_mem) | exact Ne.symm (NeL.get (by assumption) (by k_mem)) | exact off1_get (by assumption) (by k_mem) | exact Ne.symm (off1_get (by assumption) (by k_mem)) | ((try dsimp only); omega)))
  k_with "execs cons" => (((with_reducible refine seq_cons ?_); intro _))
  k_with "SeqQ" => (first | refine seq_next ?_ | refine seq_ret ?_ | refine seq_brk ?_ | refine seq_cont ?_)
  trivial
theorem passF_eq (y d : Int) : 365 * y + y.fdiv 4 - y.fdiv 100 + y.fdiv 400 - 730485 + d - 5 = passF y d := by
  rw [Int.fdiv_eq_ediv_of_nonneg _ (by decide : (0 : Int) ≤ 4), Int.fdiv_eq_ediv_of_nonneg _ (by decide : (0 : Int) ≤ 100), Int.fdiv_eq_ediv_of_nonneg _ (by decide : (0 : Int) ≤ 400)]
  rfl
theorem c_passed (w : World) (y d : Int) (t1 t2 : Tok) (h : (1 ≤ y ∧ y ≤ 9998) ∧ (1 ≤ d ∧ d ≤ 365)) :
    Con w 97 [.int y t1, .int d t2] 20 300 (fun _ => True) (fun v new => (∃ t, v = .int (passF y d) t) ∧ new = [] ∧ (-800000 ≤ passF y d ∧ passF y d ≤ 3000000)) := by
  walk_at "con plain"
  k_steps
  try dsimp only
  k_dflt (refine end0 (by k_asm) (by k_asm) (by walk_at "con split") ⟨⟨_, congrArg (fun z => Value.int z _) (passF_eq y d)⟩, rfl, passF_le h⟩)
end Mine
end
namespace Mine
set_option maxHeartbeats 0 in
example : True ∧ True := by
  w_top off
  walk1 <;> trivial
end Mine
section
set_option maxHeartbeats 0
open PySem PySem.W PySem.Calls PyProof.Rows
set_option Elab.async false
set_option maxRecDepth 100000
set_option maxHeartbeats 0
namespace Mine
example : True := by
  k_with_none
  k_with "my k_room" => (ktr_room)
  k_with "con stab" => (first | exact stab_true | exact stab_tup | exact stab_list | exact stab_and (by walk_at "con stab") (by walk_at "con stab"))
  k_with "con plain" => ((
  refine' con_plain ?kSW9 ?k6W9 ?k7W9 ?k9W9 ?kBW9 ?c5W9 ?c2W9 ?c3W9 ?c4W9 ?_
  (case kSW9 => walk_at "con stab")
  (case k6W9 => k_is)
  (case k7W9 => k_is)
  (case k9W9 => intro s _; exact BindsTo.of_eq rfl)
  (case kBW9 => exact locs rfl)
  (case c5W9 => decide)
  (case c2W9 => exact rfl)
  (case c3W9 => exact rfl)
  (case c4W9 => exact rfl)))
  k_with "con cells" => ((
  refine' con_cells ?kSW9 ?k6W9 ?k7W9 ?k9W9 ?kBW9 ?c5W9 ?c2W9 ?c3W9 ?c4W9 ?_
  (case kSW9 => walk_at "con stab")
  (case k6W9 => k_is)
  (case k7W9 => k_is)
  (case k9W9 => intro s _; exact BindsTo.of_eq rfl)
  (case kBW9 => exact rfl)
  (case c5W9 => decide +kernel)
  (case c2W9 => exact rfl)
  (case c3W9 => exact rfl)
  (case c4W9 => exact rfl)))
  k_with "con end int" => ((
  (try dsimp only)
  refine' ⟨_, _, _, [], _, rfl, ?FW9, ?NW9, ?okW9, ?PW9⟩
  (case FW9 => k_asm)
  (case NW9 => first | k_asm | exact cb_drop (by k_asm) (by walk_at "con sub"))
  (case okW9 => assumption)
  refine ⟨_, ?_, rfl⟩))
  k_with "con split" => (repeat' (first | exact Split.nil (by assumption) | refine' Split.cons ?_))
  k_with "con pre" => (first | exact trivial | is_list)
  k_with "con notab" => (first | exact noTab_seq | exact noTab_cell (by assumption) | exact noTab_of rfl (by intro vs e; cases e) | exact noTab_of (by assumption) (by intro vs e; cases e) | assumption)
  k_with "con own" => (repeat' (first | exact own_nil | refine own_off (OffT.get (by assumption) (by k_mem)) ?_ | refine own_tab (by walk_at "con notab") ?_))
  k_with "con fact" => (first | assumption | exact rfl | (with_reducible refine And.intro ?_ ?_ <;> walk_at "con fact") | decide | omega | (simp only [bitNot_eq]; omega) | (refine ⟨?_, ?_⟩ <;> walk_at "con fact") | fail "con fact")
  k_with "con sub" => (first | exact sub_self _ | (refine sub_tail ?_; walk_at "con sub") | fail "con sub")
  k_with "my k_all" => (first | exact OffT.at (by assumption) (by k_mem) | exact apt_tail (by k_asm) (by k_mem) (by walk_at "con sub") (by assumption) (by walk_at "con notab"))
  k_with "my k_ne" => ((refine neN ?_; first | with_reducible assumption | exact OffR.get (by assumption) (by k_mem) | exact Ne.symm (OffR.get (by assumption) (by k_mem)) | exact NeL.get (by assumption) (by k_mem) | exact Ne.symm (NeL.get (by assumption) (by k_mem)) | exact off1_get (by assumption) (by k_mem) | exact Ne.symm (off1_get (by assumption) (by k_mem)) | ((try dsimp only); omega)))
  k_with "execs cons" => (((with_reducible refine seq_cons ?_); intro _))
  k_with "SeqQ" => (first | refine seq_next ?_ | refine seq_ret ?_ | refine seq_brk ?_ | refine seq_cont ?_)
  trivial
theorem c_walked (w : World) (y d : Int) (t1 t2 : Tok) (h : (1 ≤ y ∧ y ≤ 9998) ∧ (1 ≤ d ∧ d ≤ 365)) :
    Con w 104 [.int y t1, .int d t2] 20 300 (fun _ => True) (fun v new => ∃ r u1 u2 u3, v = .ref r ∧ new = [(r, tupo [.int (wY y d) u1, .int (wM d) u2, .int (mLeft d) u3])]) := by
  have hd' := h.2
  walk_at "con plain"
  (k_with "exec While Compare cons nil" => k_while (fun (script : List Int) left month => 0 ≤ month ∧ month ≤ 11 ∧ left = d - (153 * month + 2) / 5 ∧ 1 ≤ left) (fun (script : List Int) left month => (12 - month).toNat) "left" "month")
  (k_with "state" => first | exact walk_step hd' ⟨by assumption, by assumption, by assumption, by assumption⟩ (by assumption) | omega)
  k_steps
  · obtain ⟨e1, e2, e3⟩ := walk_lo (y := y) hd' (by assumption) (by assumption) (by assumption) (by assumption) (by assumption) (by assumption)
    simp only [e1, e2, e3]
    k_dflt (exact end1 (by k_asm) (by k_asm) (by walk_at "con split") (.head _) ⟨_, _, _, _, rfl, rfl⟩)
  · obtain ⟨e1, e2, e3⟩ := walk_hi (y := y) hd' (by assumption) (by assumption) (by assumption) (by assumption) (by assumption) (by assumption)
    simp only [e1, e2, e3]
    k_dflt (exact end1 (by k_asm) (by k_asm) (by walk_at "con split") (.head _) ⟨_, _, _, _, rfl, rfl⟩)
end Mine
end
namespace Mine
set_option maxHeartbeats 0 in
example : True ∧ True := by
  w_top off
  walk1 <;> trivial
end Mine
section
set_option maxHeartbeats 0
open PySem PySem.W PySem.Calls PyProof.Rows
set_option Elab.async false
set_option maxRecDepth 100000
set_option maxHeartbeats 0
namespace Mine
example : True := by
  k_with_none
  k_with "my k_room" => (ktr_room)
  k_with "con stab" => (first | exact stab_true | exact stab_tup | exact stab_list | exact stab_and (by walk_at "con stab") (by walk_at "con stab"))
  k_with "con plain" => ((
  refine' con_plain ?kSW9 ?k6W9 ?k7W9 ?k9W9 ?kBW9 ?c5W9 ?c2W9 ?c3W9 ?c4W9 ?_
  (case kSW9 => walk_at "con stab")
  (case k6W9 => k_is)
  (case k7W9 => k_is)
  (case k9W9 => intro s _; exact BindsTo.of_eq rfl)
  (case kBW9 => exact locs rfl)
  (case c5W9 => decide)
  (case c2W9 => exact rfl)
  (case c3W9 => exact rfl)
  (case c4W9 => exact rfl)))
  k_with "con cells" => ((
  refine' con_cells ?kSW9 ?k6W9 ?k7W9 ?k9W9 ?kBW9 ?c5W9 ?c2W9 ?c3W9 ?c4W9 ?_
  (case kSW9 => walk_at "con stab")
  (case k6W9 => k_is)
  (case k7W9 => k_is)
  (case k9W9 => intro s _; exact BindsTo.of_eq rfl)
  (case kBW9 => exact rfl)
  (case c5W9 => decide +kernel)
  (case c2W9 => exact rfl)
  (case c3W9 => exact rfl)
  (case c4W9 => exact rfl)))
  k_with "con end int" => ((
  (try dsimp only)
  refine' ⟨_, _, _, [], _, rfl, ?FW9, ?NW9, ?okW9, ?PW9⟩
  (case FW9 => k_asm)
  (case NW9 => first | k_asm | exact cb_drop (by k_asm) (by walk_at "con sub"))
  (case okW9 => assumption)
  refine ⟨_, ?_, rfl⟩))
  k_with "con split" => (repeat' (first | exact Split.nil (by assumption) | refine' Split.cons ?_))
  k_with "con pre" => (first | exact trivial | is_list)
  k_with "con notab" => (first | exact noTab_seq | exact noTab_cell (by assumption) | exact noTab_of rfl (by intro vs e; cases e) | exact noTab_of (by assumption) (by intro vs e; cases e) | assumption)
  k_with "con own" => (repeat' (first | exact own_nil | refine own_off (OffT.get (by assumption) (by k_mem)) ?_ | refine own_tab (by walk_at "con notab") ?_))
  k_with "con fact" => (first | assumption | exact rfl | (with_reducible refine And.intro ?_ ?_ <;> walk_at "con fact") | decide | omega | (simp only [bitNot_eq]; omega) | (refine ⟨?_, ?_⟩ <;> walk_at "con fact") | fail "con fact")
  k_with "con sub" => (first | exact sub_self _ | (refine sub_tail ?_; walk_at "con sub") | fail "con sub")
  k_with "my k_all" => (first | exact OffT.at (by assumption) (by k_mem) | exact apt_tail (by k_asm) (by k_mem) (by walk_at "con sub") (by assumption) (by walk_at "con notab"))
  k_with "my k_ne" => ((refine neN ?_; first | with_reducible assumption | exact OffR.get (by assumption) (by k_mem) | exact Ne.symm (OffR.get (by assumption) (by k_mem)) | exact NeL.get (by assumption) (by k_mem) | exact Ne.symm (NeL.get (by assumption) (by k_mem)) | exact off1_get (by assumption) (by k_mem) | exact Ne.symm (off1_get (by assumption) (by k_mem)) | ((try dsimp only); omega)))
  k_with "execs cons" => (((with_reducible refine seq_cons ?_); intro _))
  k_with "SeqQ" => (first | refine seq_next ?_ | refine seq_ret ?_ | refine seq_brk ?_ | refine seq_cont ?_)
  k_with "call ref" => ((k_here; k_dflt (first
  | (refine' go_pass (c_passed _ _ _ _ _ ?bW9) ?BW9 ?FW9 ?XW9 ?TW9 ?NW9 ?SW9 ?preW9 ?ownW9 ?csW9 ?hdW9 ?huW9 ?_; (case BW9 => k_asm); (case FW9 => k_asm); (case XW9 => k_asm); (case TW9 => k_asm); (case NW9 => k_asm); (case SW9 => walk_at "con split"); (case preW9 => walk_at "con pre"); (case ownW9 => walk_at "con own"); (case csW9 => first | exact rfl | assumption); (case hdW9 => ktr_room); (case huW9 => ktr_units); (case bW9 => walk_at "con fact"); k_whole; intro t9' h' tk' tb' F' N' ok' of' hp9'; (try dsimp only [List.nil_append, List.cons_append] at N'); (try dsimp only [tupo] at N'); (try k_sweep))
  | (refine' go_tup3 (c_walked _ _ _ _ _ ?bW9) ?BW9 ?FW9 ?XW9 ?TW9 ?NW9 ?SW9 ?preW9 ?ownW9 ?csW9 ?hdW9 ?huW9 ?_; (case BW9 => k_asm); (case FW9 => k_asm); (case XW9 => k_asm); (case TW9 => k_asm); (case NW9 => k_asm); (case SW9 => walk_at "con split"); (case preW9 => walk_at "con pre"); (case ownW9 => walk_at "con own"); (case csW9 => first | exact rfl | assumption); (case hdW9 => ktr_room); (case huW9 => ktr_units); (case bW9 => walk_at "con fact"); k_whole; intro r9' u1' u2' u3' h' tk' tb' F' N' ok' ap' of'; (try dsimp only [List.nil_append, List.cons_append] at N'); (try dsimp only [tupo] at N'); (try k_sweep)))))
  k_with "txt is" => (first | (with_reducible exact lit_comma) | (with_reducible exact lit_blank) | (with_reducible exact lit_colon) | (with_reducible exact sl_wk) | (with_reducible exact sl_mon (by assumption)) | (with_reducible exact sl_year (by assumption)) | (with_reducible exact str_T5 (by assumption)) | (with_reducible exact rfl))
  k_with "binaryOp Add str str" => ((k_here; (with_reducible show wpAny _ _ (binaryOp Operator.Add (Value.str _ _) (Value.str _ _)) _ _ _); k_dflt (refine' add_T ?hxW9 ?hyW9 ?hlW9 ?_; (case hxW9 => walk_at "txt is"); (case hyW9 => walk_at "txt is"); (case hlW9 => ((have z9 := zlen (by assumption)); simp only [List.length_append, len_two, len_four, len_dayT, len_monT, List.length_cons, List.length_nil]; omega)); k_whole); intro _ _))
  k_with "call builtin:str.join" => ((k_here; k_dflt (refine' join_two ?hlW9 ?_; (case hlW9 => is_list); k_whole); intro _ _))
  k_with "CompSrc" => ((refine stop ?_))
  trivial
noncomputable def dnth (d c : Int) : Nat → Int
  | 0 => mLeft d
  | 1 => c / 3600
  | 2 => c / 60 % 60
  | _ => c % 60
theorem four_get {a b c d v : Value} {i : Nat} (h : (#[a, b, c, d] : Array Value)[i]? = some v) : (i = 0 ∧ v = a) ∨ (i = 1 ∧ v = b) ∨ (i = 2 ∧ v = c) ∨ (i = 3 ∧ v = d) := by
  match i with
  | 0 => exact .inl ⟨rfl, (Option.some.inj h).symm⟩
  | 1 => exact .inr (.inl ⟨rfl, (Option.some.inj h).symm⟩)
  | 2 => exact .inr (.inr (.inl ⟨rfl, (Option.some.inj h).symm⟩))
  | 3 => exact .inr (.inr (.inr ⟨rfl, (Option.some.inj h).symm⟩))
  | n + 4 => simp at h
theorem dnths {d c : Int} {i : Nat} {a0 a1 a2 a3 v : Value} {t0 t1 t2 t3 : Tok} (hd : 1 ≤ d ∧ d ≤ 365) (hc : 0 ≤ c ∧ c < 86400) (h0 : a0 = .int (mLeft d) t0) (h1 : a1 = .int (c.fdiv 3600) t1) (h2 : a2 = .int ((c.fdiv 60).fmod 60) t2) (h3 : a3 = .int (c.fmod 60) t3) (h : (#[a0, a1, a2, a3] : Array Value)[i]? = some v) : ∃ n t, v = .int n t ∧ dnth d c i = n ∧ 0 ≤ n ∧ n ≤ 99 := by
  have := mLeft_le hd
  rw [Int.fdiv_eq_ediv_of_nonneg _ (by decide : (0 : Int) ≤ 3600)] at h1
  rw [Int.fdiv_eq_ediv_of_nonneg _ (by decide : (0 : Int) ≤ 60), Int.fmod_eq_emod_of_nonneg _ (by decide : (0 : Int) ≤ 60)] at h2
  rw [Int.fmod_eq_emod_of_nonneg _ (by decide : (0 : Int) ≤ 60)] at h3
  rcases four_get h with ⟨rfl, rfl⟩ | ⟨rfl, rfl⟩ | ⟨rfl, rfl⟩ | ⟨rfl, rfl⟩
  · exact ⟨_, _, h0, rfl, by omega, by omega⟩
  · exact ⟨_, _, h1, rfl, by omega, by omega⟩
  · exact ⟨_, _, h2, rfl, by omega, by omega⟩
  · exact ⟨_, _, h3, rfl, by omega, by omega⟩
theorem c_due (w : World) (y d ck : Int) (zone S : Str) (t1 t2 t3 t4 : Tok) (hS : lineS y d ck zone = S) (h : (1 ≤ y ∧ y ≤ 9998) ∧ (1 ≤ d ∧ d ≤ 365) ∧ (0 ≤ ck ∧ ck < 86400) ∧ zone.length ≤ 5) :
    Con w 116 [.int y t1, .int d t2, .int ck t3, .str zone t4] 40 600 (fun _ => True) (fun v new => (∃ t, v = .str S t) ∧ new = []) := by
  obtain ⟨h1, h2, h3, h4⟩ := h
  have h12 := And.intro h1 h2
  have hwm := wM_le h2
  have hwy := wY_le (d := d) h1
  have hml := mLeft_le h2
  walk_at "con plain"
  k_steps
  refine unstop ?_
  k_dflt (refine' comp_4 (fun i t => .str ⟨(two (dnth d ck i)).toArray⟩ t) (fun i v hv => dnths h2 h3 rfl rfl rfl rfl hv) rfl (by k_asm) (by k_asm) (by walk_at "con split") (by k_mem) ?_ ?_)
  · intro i v I oI C oC D m₂ h tk ys tb Q E' hv hC hx ok F N of k
    dsimp only [List.cons_append, List.nil_append] at N
    obtain ⟨n, t, e, hn, hn0, hn9⟩ := hv
    subst e
    k_steps
    rw [sl_two ⟨hn0, hn9⟩, ← hn]
    exact k _ _ _ _ (by assumption) (by assumption) (by assumption) (OffT.cut (by assumption))
  · intro g v0 v1 v2 v3 tb2 ok2
    first | refine finA ?_ | refine finE ?_
    intro DL hL1 tkL FL NL oL
    dsimp only [dnth, List.cons_append, List.nil_append] at oL NL
    k_steps
    (try dsimp only)
    k_dflt (refine end0 (by k_asm) (by k_asm) (by walk_at "con split") ⟨⟨_, congrArg (fun z => Value.str z _) (due_end hS)⟩, rfl⟩)
end Mine
end
namespace Mine
set_option maxHeartbeats 0 in
example : True ∧ True := by
  w_top off
  walk1 <;> trivial
end Mine
section
set_option maxHeartbeats 0
open PySem PySem.W PySem.Calls PyProof.Rows PySem.Builtin.Str
set_option Elab.async false
set_option maxRecDepth 100000
set_option maxHeartbeats 0
namespace Mine
example : True := by
  k_with_none
  k_with "pad step" => ((refine KPc.turn ?_; kpc_check; (repeat kpc_if); first
  | (refine wpAny_pure ?_; kpt_piece)
  | (refine wpAny_bind ?_; refine wpAny_holding ?_; (repeat kpc_if); kpt_conv; refine wpAny_pure ?_; refine wpAny_pure ?_; kpt_piece)
  | (refine wpAny_bind ?_; refine wpAny_holding ?_; (repeat kpc_if); kpt_conv; refine wpAny_pure ?_; (first | refine pad_turn 2 rfl (by kpc_g) rfl (pad_two' (by assumption) rfl rfl rfl rfl rfl rfl rfl rfl rfl) ?_ | refine pad_turn 4 rfl (by kpc_g) rfl (pad_four' (by assumption) rfl rfl rfl rfl rfl rfl rfl rfl rfl) ?_); intro _ _)))
  trivial
theorem fmt_meets (b : Addr) (D M z : Str) (d y h mi s : Int) (t t0 t1 t2 t3 t4 t5 t6 t7 : Tok) (hD : D.length ≤ 100000) (hM : M.length ≤ 100000) (hz : z.length ≤ 100000) (hd : 0 ≤ d ∧ d ≤ 99) (hy : 0 ≤ y ∧ y ≤ 9999) (hh : 0 ≤ h ∧ h ≤ 99) (hmi : 0 ≤ mi ∧ mi ≤ 99) (hs : 0 ≤ s ∧ s ≤ 99) {prog : Program} {w : World} {A : Around} {E : Value → Shared → Prop} {st : Shared} {Q : Value → Shared → Prop} {L : Addr} {h₀ : Heap} {news : List (Addr × Obj)}
    (N : News h₀ L st.heap news) (hb : (b, ({ cls := .type "tuple", data := .seq #[.str D t0, .int d t1, .str M t2, .int y t3, .int h t4, .int mi t5, .int s t6, .str z t7] } : Obj)) ∈ news) (k : ∀ t' k, Q (.str (D ++ Str.ofString ", " ++ (⟨(two d).toArray⟩ : Str) ++ Str.ofString " " ++ M ++ Str.ofString " " ++ (⟨(four y).toArray⟩ : Str) ++ Str.ofString " " ++ (⟨(two h).toArray⟩ : Str) ++ Str.ofString ":" ++ (⟨(two mi).toArray⟩ : Str) ++ Str.ofString ":" ++ (⟨(two s).toArray⟩ : Str) ++ Str.ofString " " ++ z) t') { st with toks := k }) :
    wpAny (model prog w) A (binaryOp .Mod (.str (Str.ofString "%s, %02d %s %04d %02d:%02d:%02d %s") t) (.ref b)) Q E st := by
  k_dflt (refine' KPt.mod_tuple N hb ?kptF ?kptm ?_)
  (case kptF => kpt_eq)
  (case kptm =>
    apply KPt.meets_tup
    intro _ _ _ _ _ _ kptH kfin
    obtain ⟨kptO, kptG, kptC, kptN, kptD⟩ := kptH
    rw [KPt.entry_is_r]
    unfold Builtin.Str.percentFormat
    refine wpAny_bind (wpAny_isInstance (T := "tuple") ⟨kptO, kptG, kptC⟩ KPt.sub_tt ?_)
    refine wpAny_bind (KPt.asStr_ref kptG kptD ?_)
    refine wpAny_bind (KPt.fills_ref ⟨kptO, kptG, kptC⟩ ?_)
    intro _
    kpc_if
    refine wpAny_bind (wpAny_seqItems kptG kptD ?_)
    refine wpAny_bind (wpAny_pure ?_)
    refine wpAny_bind ?_
    rw [KPc.range_list]
    refine KPc.start ?_
    intro _ _
    walk_at "pad step"
    walk_at "pad step"
    walk_at "pad step"
    walk_at "pad step"
    walk_at "pad step"
    walk_at "pad step"
    walk_at "pad step"
    walk_at "pad step"
    walk_at "pad step"
    walk_at "pad step"
    walk_at "pad step"
    walk_at "pad step"
    walk_at "pad step"
    walk_at "pad step"
    walk_at "pad step"
    refine KPc.turn ?_
    kpc_check
    (repeat kpc_if)
    kpc_close)
  exact k
end Mine
end
namespace Mine
set_option maxHeartbeats 0 in
example : True ∧ True := by
  w_top off
  walk1 <;> trivial
end Mine
section
set_option maxHeartbeats 0
open PySem PySem.W PySem.Calls PyProof.Rows
namespace Mine
theorem wk_eq2 (y d : Int) : ((passF y d).fmod 7 + 6).fmod 7 = wkF y d := by
  rw [Int.fmod_eq_emod_of_nonneg _ (by decide : (0 : Int) ≤ 7), Int.fmod_eq_emod_of_nonneg _ (by decide : (0 : Int) ≤ 7)]
  unfold wkF; omega
theorem below_all {P : Int → Prop} {n : Nat} (H : ∀ j < n, P (j : Int)) {k : Int} (h0 : 0 ≤ k) (h1 : k < (n : Int)) : P k := by
  obtain ⟨j, rfl⟩ := Int.eq_ofNat_of_zero_le h0
  exact H j (Int.ofNat_lt.mp h1)
theorem day_get {k : Int} (h : 0 ≤ k ∧ k < 7) : [Str.ofString "Mon", Str.ofString "Tue", Str.ofString "Wed", Str.ofString "Thu", Str.ofString "Fri", Str.ofString "Sat", Str.ofString "Sun"].getD k.toNat Str.empty = TT (dayT k) :=
  below_all (P := fun k => [Str.ofString "Mon", Str.ofString "Tue", Str.ofString "Wed", Str.ofString "Thu", Str.ofString "Fri", Str.ofString "Sat", Str.ofString "Sun"].getD k.toNat Str.empty = TT (dayT k)) (n := 7) (by decide +kernel) h.1 h.2
theorem mon_get {k : Int} (h : 1 ≤ k ∧ k ≤ 12) : [Str.ofString "Jan", Str.ofString "Feb", Str.ofString "Mar", Str.ofString "Apr", Str.ofString "May", Str.ofString "Jun", Str.ofString "Jul", Str.ofString "Aug", Str.ofString "Sep", Str.ofString "Oct", Str.ofString "Nov", Str.ofString "Dec"].getD (k - 1).toNat Str.empty = TT (monT k) := by
  have := below_all (P := fun k => [Str.ofString "Jan", Str.ofString "Feb", Str.ofString "Mar", Str.ofString "Apr", Str.ofString "May", Str.ofString "Jun", Str.ofString "Jul", Str.ofString "Aug", Str.ofString "Sep", Str.ofString "Oct", Str.ofString "Nov", Str.ofString "Dec"].getD k.toNat Str.empty = TT (monT (k + 1))) (n := 12) (by decide +kernel) (Int.sub_nonneg_of_le h.1) (Int.lt_of_le_of_lt (Int.sub_le_sub_right h.2 1) (by decide))
  rwa [Int.sub_add_cancel] at this
theorem app_TT (a b : List Nat) : (TT a ++ TT b : Str) = TT (a ++ b) := Str.ext' (by rw [Str.cps_append]; simp)
theorem wr_go {prog : Program} {w : World} {A : Around} {E : Value → Shared → Prop} {st : Shared} {Q : Value → Shared → Prop} {L : Addr} {h₀ : Heap} {news : List (Addr × Obj)} {b : Addr} {y d ck : Int} {zone S : Str} {t t0 t1 t2 t3 t4 t5 t6 t7 : Tok} (hS : lineS y d ck zone = S) (h1 : 1 ≤ y ∧ y ≤ 9998) (h2 : 1 ≤ d ∧ d ≤ 365) (h3 : 0 ≤ ck ∧ ck < 86400) (h4 : zone.length ≤ 5)
    (N : News h₀ L st.heap news)
    (hb : (b, ({ cls := .type "tuple", data := .seq #[.str ([Str.ofString "Mon", Str.ofString "Tue", Str.ofString "Wed", Str.ofString "Thu", Str.ofString "Fri", Str.ofString "Sat", Str.ofString "Sun"].getD (((passF y d).fmod 7 + 6).fmod 7).toNat Str.empty) t0, .int (mLeft d) t1,
      .str ([Str.ofString "Jan", Str.ofString "Feb", Str.ofString "Mar", Str.ofString "Apr", Str.ofString "May", Str.ofString "Jun", Str.ofString "Jul", Str.ofString "Aug", Str.ofString "Sep", Str.ofString "Oct", Str.ofString "Nov", Str.ofString "Dec"].getD (wM d - 1).toNat Str.empty) t2, .int (wY y d) t3, .int (ck.fdiv 3600) t4, .int ((ck.fdiv 60).fmod 60) t5, .int (ck.fmod 60) t6, .str zone t7] } : Obj)) ∈ news)
    (k : ∀ t' k, Q (.str S t') { st with toks := k }) :
    wpAny (model prog w) A (binaryOp .Mod (.str (Str.ofString "%s, %02d %s %04d %02d:%02d:%02d %s") t) (.ref b)) Q E st := by
  have hwm := wM_le h2
  have hwy := wY_le (d := d) h1
  have hml := mLeft_le h2
  rw [wk_eq2, day_get wk_eq.2, mon_get hwm, Int.fdiv_eq_ediv_of_nonneg ck (by decide : (0 : Int) ≤ 3600), Int.fdiv_eq_ediv_of_nonneg ck (by decide : (0 : Int) ≤ 60), Int.fmod_eq_emod_of_nonneg (ck / 60) (by decide : (0 : Int) ≤ 60), Int.fmod_eq_emod_of_nonneg ck (by decide : (0 : Int) ≤ 60)] at hb
  refine fmt_meets b _ _ _ _ _ _ _ _ t _ _ _ _ _ _ _ _ ?_ ?_ (by omega) (by omega) (by omega) (by omega) (by omega) (by omega) N hb fun t' k' => ?_
  · show (TT (dayT (wkF y d))).cps.size ≤ _
    simp [len_dayT]
  · show (TT (monT (wM d))).cps.size ≤ _
    simp [len_monT]
  · have e : TT (dayT (wkF y d)) ++ Str.ofString ", " ++ (⟨(two (mLeft d)).toArray⟩ : Str) ++ Str.ofString " " ++ TT (monT (wM d)) ++ Str.ofString " " ++ (⟨(four (wY y d)).toArray⟩ : Str) ++ Str.ofString " " ++ (⟨(two (ck / 3600)).toArray⟩ : Str) ++ Str.ofString ":" ++ (⟨(two (ck / 60 % 60)).toArray⟩ : Str) ++ Str.ofString ":" ++ (⟨(two (ck % 60)).toArray⟩ : Str) ++ Str.ofString " " ++ zone = S := by
      rw [← hS, lit_comma, lit_blank, lit_colon, str_T zone]
      simp only [app_TT, lineS, lineL, List.append_assoc]
    rw [e]
    exact k t' k'
end Mine
end
section
set_option maxHeartbeats 0
open PySem PySem.W PySem.Calls PyProof.Rows
set_option Elab.async false
set_option maxRecDepth 100000
set_option maxHeartbeats 0
namespace Mine
example : True := by
  k_with_none
  k_with "my k_room" => (ktr_room)
  k_with "con stab" => (first | exact stab_true | exact stab_tup | exact stab_list | exact stab_and (by walk_at "con stab") (by walk_at "con stab"))
  k_with "con plain" => ((
  refine' con_plain ?kSW9 ?k6W9 ?k7W9 ?k9W9 ?kBW9 ?c5W9 ?c2W9 ?c3W9 ?c4W9 ?_
  (case kSW9 => walk_at "con stab")
  (case k6W9 => k_is)
  (case k7W9 => k_is)
  (case k9W9 => intro s _; exact BindsTo.of_eq rfl)
  (case kBW9 => exact locs rfl)
  (case c5W9 => decide)
  (case c2W9 => exact rfl)
  (case c3W9 => exact rfl)
  (case c4W9 => exact rfl)))
  k_with "con cells" => ((
  refine' con_cells ?kSW9 ?k6W9 ?k7W9 ?k9W9 ?kBW9 ?c5W9 ?c2W9 ?c3W9 ?c4W9 ?_
  (case kSW9 => walk_at "con stab")
  (case k6W9 => k_is)
  (case k7W9 => k_is)
  (case k9W9 => intro s _; exact BindsTo.of_eq rfl)
  (case kBW9 => exact rfl)
  (case c5W9 => decide +kernel)
  (case c2W9 => exact rfl)
  (case c3W9 => exact rfl)
  (case c4W9 => exact rfl)))
  k_with "con end int" => ((
  (try dsimp only)
  refine' ⟨_, _, _, [], _, rfl, ?FW9, ?NW9, ?okW9, ?PW9⟩
  (case FW9 => k_asm)
  (case NW9 => first | k_asm | exact cb_drop (by k_asm) (by walk_at "con sub"))
  (case okW9 => assumption)
  refine ⟨_, ?_, rfl⟩))
  k_with "con split" => (repeat' (first | exact Split.nil (by assumption) | refine' Split.cons ?_))
  k_with "con pre" => (first | exact trivial | is_list)
  k_with "con notab" => (first | exact noTab_seq | exact noTab_cell (by assumption) | exact noTab_of rfl (by intro vs e; cases e) | exact noTab_of (by assumption) (by intro vs e; cases e) | assumption)
  k_with "con own" => (repeat' (first | exact own_nil | refine own_off (OffT.get (by assumption) (by k_mem)) ?_ | refine own_tab (by walk_at "con notab") ?_))
  k_with "con fact" => (first | assumption | exact rfl | (with_reducible refine And.intro ?_ ?_ <;> walk_at "con fact") | decide | omega | (simp only [bitNot_eq]; omega) | (refine ⟨?_, ?_⟩ <;> walk_at "con fact") | fail "con fact")
  k_with "con sub" => (first | exact sub_self _ | (refine sub_tail ?_; walk_at "con sub") | fail "con sub")
  k_with "my k_all" => (first | exact OffT.at (by assumption) (by k_mem) | exact apt_tail (by k_asm) (by k_mem) (by walk_at "con sub") (by assumption) (by walk_at "con notab"))
  k_with "my k_ne" => ((refine neN ?_; first | with_reducible assumption | exact OffR.get (by assumption) (by k_mem) | exact Ne.symm (OffR.get (by assumption) (by k_mem)) | exact NeL.get (by assumption) (by k_mem) | exact Ne.symm (NeL.get (by assumption) (by k_mem)) | exact off1_get (by assumption) (by k_mem) | exact Ne.symm (off1_get (by assumption) (by k_mem)) | ((try dsimp only); omega)))
  k_with "execs cons" => (((with_reducible refine seq_cons ?_); intro _))
  k_with "SeqQ" => (first | refine seq_next ?_ | refine seq_ret ?_ | refine seq_brk ?_ | refine seq_cont ?_)
  k_with "call ref" => ((k_here; k_dflt (first
  | (refine' go_pass (c_passed _ _ _ _ _ ?bW9) ?BW9 ?FW9 ?XW9 ?TW9 ?NW9 ?SW9 ?preW9 ?ownW9 ?csW9 ?hdW9 ?huW9 ?_; (case BW9 => k_asm); (case FW9 => k_asm); (case XW9 => k_asm); (case TW9 => k_asm); (case NW9 => k_asm); (case SW9 => walk_at "con split"); (case preW9 => walk_at "con pre"); (case ownW9 => walk_at "con own"); (case csW9 => first | exact rfl | assumption); (case hdW9 => ktr_room); (case huW9 => ktr_units); (case bW9 => walk_at "con fact"); k_whole; intro t9' h' tk' tb' F' N' ok' of' hp9'; (try dsimp only [List.nil_append, List.cons_append] at N'); (try dsimp only [tupo] at N'); (try k_sweep))
  | (refine' go_tup3 (c_walked _ _ _ _ _ ?bW9) ?BW9 ?FW9 ?XW9 ?TW9 ?NW9 ?SW9 ?preW9 ?ownW9 ?csW9 ?hdW9 ?huW9 ?_; (case BW9 => k_asm); (case FW9 => k_asm); (case XW9 => k_asm); (case TW9 => k_asm); (case NW9 => k_asm); (case SW9 => walk_at "con split"); (case preW9 => walk_at "con pre"); (case ownW9 => walk_at "con own"); (case csW9 => first | exact rfl | assumption); (case hdW9 => ktr_room); (case huW9 => ktr_units); (case bW9 => walk_at "con fact"); k_whole; intro r9' u1' u2' u3' h' tk' tb' F' N' ok' ap' of'; (try dsimp only [List.nil_append, List.cons_append] at N'); (try dsimp only [tupo] at N'); (try k_sweep))
  | (refine' go_div (c_divmod _ _ _ _ _ ?bW9) ?BW9 ?FW9 ?XW9 ?TW9 ?NW9 ?SW9 ?preW9 ?ownW9 ?csW9 ?hdW9 ?huW9 ?_; (case BW9 => k_asm); (case FW9 => k_asm); (case XW9 => k_asm); (case TW9 => k_asm); (case NW9 => k_asm); (case SW9 => walk_at "con split"); (case preW9 => walk_at "con pre"); (case ownW9 => walk_at "con own"); (case csW9 => first | exact rfl | assumption); (case hdW9 => ktr_room); (case huW9 => ktr_units); (case bW9 => walk_at "con fact"); k_whole; intro r9' u1' u2' h' tk' tb' F' N' ok' ap' of' hb9'; (try (replace hb9' := hb9' (by decide))); (try dsimp only [List.nil_append, List.cons_append] at N'); (try dsimp only [tupo] at N'); (try k_sweep)))))
  k_with "binaryOp Mod str ref" => ((k_here; k_dflt (refine' wr_go ?hSW9 ?aW9 ?bW9 ?cW9 ?dW9 ?NW9 ?mW9 ?_; (case NW9 => k_asm); (case mW9 => k_mem); (case hSW9 => assumption); (case aW9 => assumption); (case bW9 => assumption); (case cW9 => assumption); (case dW9 => assumption); k_whole); intro _ _))
  trivial
theorem c_written (w : World) (y d ck : Int) (zone S : Str) (t1 t2 t3 t4 : Tok) (hS : lineS y d ck zone = S) (h : (1 ≤ y ∧ y ≤ 9998) ∧ (1 ≤ d ∧ d ≤ 365) ∧ (0 ≤ ck ∧ ck < 86400) ∧ zone.length ≤ 5) :
    Con w 111 [.int y t1, .int d t2, .int ck t3, .str zone t4] 40 1100 (fun _ => True) (fun v new => (∃ t, v = .str S t) ∧ new = []) := by
  obtain ⟨h1, h2, h3, h4⟩ := h
  have h12 := And.intro h1 h2
  have hwm := wM_le h2
  have hwy := wY_le (d := d) h1
  have hml := mLeft_le h2
  walk_at "con plain"
  k_with "table" => skip
  k_steps
  (try dsimp only)
  k_dflt (exact end0 (by k_asm) (by k_asm) (by walk_at "con split") ⟨⟨_, rfl⟩, rfl⟩)
end Mine
end
namespace Mine
set_option maxHeartbeats 0 in
example : True ∧ True := by
  w_top off
  walk1 <;> trivial
end Mine
section
set_option maxHeartbeats 0
open PySem PySem.W PySem.Calls PyProof.Rows
set_option Elab.async false
set_option maxRecDepth 100000
set_option maxHeartbeats 0
namespace Mine
example : True := by
  k_with_none
  k_with "con split" => (repeat' (first | exact Split.nil (by assumption) | refine' Split.cons ?_))
  k_with "con pre" => (first | exact trivial | is_list)
  k_with "con notab" => (first | exact noTab_seq | exact noTab_cell (by assumption) | exact noTab_of rfl (by intro vs e; cases e) | exact noTab_of (by assumption) (by intro vs e; cases e) | assumption)
  k_with "con own" => (repeat' (first | exact own_nil | refine own_off (OffT.get (by assumption) (by k_mem)) ?_ | refine own_tab (by walk_at "con notab") ?_))
  k_with "con fact" => (first | assumption | exact rfl | (with_reducible refine And.intro ?_ ?_ <;> walk_at "con fact") | decide | omega | (simp only [bitNot_eq]; omega) | (refine ⟨?_, ?_⟩ <;> walk_at "con fact") | fail "con fact")
  k_with "con sub" => (first | exact sub_self _ | (refine sub_tail ?_; walk_at "con sub") | fail "con sub")
  k_with "my k_all" => (first | exact OffT.at (by assumption) (by k_mem) | exact apt_tail (by k_asm) (by k_mem) (by walk_at "con sub") (by assumption) (by walk_at "con notab"))
  k_with "my k_ne" => ((refine neN ?_; first | with_reducible assumption | exact OffR.get (by assumption) (by k_mem) | exact Ne.symm (OffR.get (by assumption) (by k_mem)) | exact NeL.get (by assumption) (by k_mem) | exact Ne.symm (NeL.get (by assumption) (by k_mem)) | exact off1_get (by assumption) (by k_mem) | exact Ne.symm (off1_get (by assumption) (by k_mem)) | ((try dsimp only); omega)))
  k_with "execs cons" => (((with_reducible refine seq_cons ?_); intro _))
  k_with "SeqQ" => (first | refine seq_next ?_ | refine seq_ret ?_ | refine seq_brk ?_ | refine seq_cont ?_)
  k_with "call ref" => ((k_here; k_dflt (first
  | (refine' go_val (c_moon _ _ _ ?bW9) ?BW9 ?FW9 ?XW9 ?TW9 ?NW9 ?SW9 ?preW9 ?ownW9 ?csW9 ?hdW9 ?huW9 ?_; (case BW9 => k_asm); (case FW9 => k_asm); (case XW9 => k_asm); (case TW9 => k_asm); (case NW9 => k_asm); (case SW9 => walk_at "con split"); (case preW9 => walk_at "con pre"); (case ownW9 => walk_at "con own"); (case csW9 => first | exact rfl | assumption); (case hdW9 => ktr_room); (case huW9 => ktr_units); (case bW9 => walk_at "con fact"); k_whole; intro t9' h' tk' tb' F' N' ok' of'; (have hm9' := moonF_le _ (by assumption)); (try dsimp only [List.nil_append, List.cons_append] at N'); (try dsimp only [tupo] at N'); (try k_sweep))
  | (refine' go_pass (c_passed _ _ _ _ _ ?bW9) ?BW9 ?FW9 ?XW9 ?TW9 ?NW9 ?SW9 ?preW9 ?ownW9 ?csW9 ?hdW9 ?huW9 ?_; (case BW9 => k_asm); (case FW9 => k_asm); (case XW9 => k_asm); (case TW9 => k_asm); (case NW9 => k_asm); (case SW9 => walk_at "con split"); (case preW9 => walk_at "con pre"); (case ownW9 => walk_at "con own"); (case csW9 => first | exact rfl | assumption); (case hdW9 => ktr_room); (case huW9 => ktr_units); (case bW9 => walk_at "con fact"); k_whole; intro t9' h' tk' tb' F' N' ok' of' hp9'; (try dsimp only [List.nil_append, List.cons_append] at N'); (try dsimp only [tupo] at N'); (try k_sweep))
  | (refine' go_val (c_written _ _ _ _ _ _ _ _ _ _ ?cW9 ?bW9) ?BW9 ?FW9 ?XW9 ?TW9 ?NW9 ?SW9 ?preW9 ?ownW9 ?csW9 ?hdW9 ?huW9 ?_; (case BW9 => k_asm); (case FW9 => k_asm); (case XW9 => k_asm); (case TW9 => k_asm); (case NW9 => k_asm); (case SW9 => walk_at "con split"); (case preW9 => walk_at "con pre"); (case ownW9 => walk_at "con own"); (case csW9 => first | exact rfl | assumption); (case hdW9 => ktr_room); (case huW9 => ktr_units); (case cW9 => walk_at "con fact"); (case bW9 => walk_at "con fact"); k_whole; intro t9' h' tk' tb' F' N' ok' of'; (try dsimp only [List.nil_append, List.cons_append] at N'); (try dsimp only [tupo] at N'); (try k_sweep))
  | (refine' go_val (c_due _ _ _ _ _ _ _ _ _ _ ?cW9 ?bW9) ?BW9 ?FW9 ?XW9 ?TW9 ?NW9 ?SW9 ?preW9 ?ownW9 ?csW9 ?hdW9 ?huW9 ?_; (case BW9 => k_asm); (case FW9 => k_asm); (case XW9 => k_asm); (case TW9 => k_asm); (case NW9 => k_asm); (case SW9 => walk_at "con split"); (case preW9 => walk_at "con pre"); (case ownW9 => walk_at "con own"); (case csW9 => first | exact rfl | assumption); (case hdW9 => ktr_room); (case huW9 => ktr_units); (case cW9 => walk_at "con fact"); (case bW9 => walk_at "con fact"); k_whole; intro t9' h' tk' tb' F' N' ok' of'; (try dsimp only [List.nil_append, List.cons_append] at N'); (try dsimp only [tupo] at N'); (try k_sweep))
  | (refine' go_tup3 (c_walked _ _ _ _ _ ?bW9) ?BW9 ?FW9 ?XW9 ?TW9 ?NW9 ?SW9 ?preW9 ?ownW9 ?csW9 ?hdW9 ?huW9 ?_; (case BW9 => k_asm); (case FW9 => k_asm); (case XW9 => k_asm); (case TW9 => k_asm); (case NW9 => k_asm); (case SW9 => walk_at "con split"); (case preW9 => walk_at "con pre"); (case ownW9 => walk_at "con own"); (case csW9 => first | exact rfl | assumption); (case hdW9 => ktr_room); (case huW9 => ktr_units); (case bW9 => walk_at "con fact"); k_whole; intro r9' u1' u2' u3' h' tk' tb' F' N' ok' ap' of'; (try dsimp only [List.nil_append, List.cons_append] at N'); (try dsimp only [tupo] at N'); (try k_sweep))
  | (refine' go_div (c_divmod _ _ _ _ _ ?bW9) ?BW9 ?FW9 ?XW9 ?TW9 ?NW9 ?SW9 ?preW9 ?ownW9 ?csW9 ?hdW9 ?huW9 ?_; (case BW9 => k_asm); (case FW9 => k_asm); (case XW9 => k_asm); (case TW9 => k_asm); (case NW9 => k_asm); (case SW9 => walk_at "con split"); (case preW9 => walk_at "con pre"); (case ownW9 => walk_at "con own"); (case csW9 => first | exact rfl | assumption); (case hdW9 => ktr_room); (case huW9 => ktr_units); (case bW9 => walk_at "con fact"); k_whole; intro r9' u1' u2' h' tk' tb' F' N' ok' ap' of' hb9'; (try (replace hb9' := hb9' (by decide))); (try dsimp only [List.nil_append, List.cons_append] at N'); (try dsimp only [tupo] at N'); (try k_sweep))
  | (refine' go_tup2 (c_ten _ _ _ _ _ ?bW9 ?cW9 ?dW9) ?BW9 ?FW9 ?XW9 ?TW9 ?NW9 ?SW9 ?preW9 ?ownW9 ?csW9 ?hdW9 ?huW9 ?_; (case BW9 => k_asm); (case FW9 => k_asm); (case XW9 => k_asm); (case TW9 => k_asm); (case NW9 => k_asm); (case SW9 => walk_at "con split"); (case preW9 => walk_at "con pre"); (case ownW9 => walk_at "con own"); (case csW9 => first | exact rfl | assumption); (case hdW9 => ktr_room); (case huW9 => ktr_units); (case bW9 => walk_at "con fact"); (case cW9 => walk_at "con fact"); (case dW9 => walk_at "con fact"); k_whole; intro r9' u1' u2' h' tk' tb' F' N' ok' ap' of'; (try dsimp only [List.nil_append, List.cons_append] at N'); (try dsimp only [tupo] at N'); (try k_sweep))
  | (refine' go_valD (c_ifs _ _ _ _ ?bW9) ?BW9 ?FW9 ?XW9 ?TW9 ?NW9 ?SW9 ?preW9 ?ownW9 ?csW9 ?hdW9 ?huW9 ?_; (case BW9 => k_asm); (case FW9 => k_asm); (case XW9 => k_asm); (case TW9 => k_asm); (case NW9 => k_asm); (case SW9 => walk_at "con split"); (case preW9 => walk_at "con pre"); (case ownW9 => walk_at "con own"); (case csW9 => first | exact rfl | assumption); (case hdW9 => ktr_room); (case huW9 => ktr_units); (case bW9 => walk_at "con fact"); k_whole; intro t9' h' tk' dr' tb' F' N' ok' of'; (try dsimp only [List.nil_append, List.cons_append] at N'); (try dsimp only [tupo] at N'); (try k_sweep)))))
  k_with "execs cons" => (((with_reducible show wpAny _ _ (execs (Stmt.Assign [Expr.Name (Str.ofString "moon") _] _ _ :: _) _) _ _ _); (fail_if_success (have q9 : Mk 1 := by assumption)); refine stop ?_))
  k_with "execs cons" => (((with_reducible show wpAny _ _ (execs (Stmt.Assign [Expr.Name (Str.ofString "lines") _] _ _ :: _) _) _ _ _); (fail_if_success (have q9 : Mk 2 := by assumption)); refine stop ?_))
  k_with "execs cons" => (((with_reducible show wpAny _ _ (execs (Stmt.Assign [Expr.Name (Str.ofString "wait") _] _ _ :: _) _) _ _ _); (fail_if_success (have q9 : Mk 3 := by assumption)); refine stop ?_))
  k_with "execs cons" => (((with_reducible show wpAny _ _ (execs (Stmt.Assign [Expr.Name (Str.ofString "found") _] _ _ :: _) _) _ _ _); (fail_if_success (have q9 : Mk 5 := by assumption)); refine stop ?_))
  k_with "execs cons" => (((with_reducible show wpAny _ _ (execs (Stmt.Assign [Expr.Name (Str.ofString "last") _] _ _ :: _) _) _ _ _); (fail_if_success (have q9 : Mk 8 := by assumption)); refine stop ?_))
  k_with "execs cons" => (((with_reducible show wpAny _ _ (execs (Stmt.Assign [Expr.Name (Str.ofString "told") _] _ _ :: _) _) _ _ _); (fail_if_success (have q9 : Mk 9 := by assumption)); refine stop ?_))
  k_with "execs cons" => (((with_reducible show wpAny _ _ (execs (Stmt.If _ _ _ _ :: _) _) _ _ _); (fail_if_success (fail_if_success (have q9 : Mk 3 := by assumption))); (fail_if_success (have q9 : Mk 4 := by assumption)); refine stop ?_))
  k_with "execs cons" => (((with_reducible show wpAny _ _ (execs (Stmt.If _ _ _ _ :: _) _) _ _ _); (fail_if_success (fail_if_success (have q9 : Mk 5 := by assumption))); (fail_if_success (have q9 : Mk 6 := by assumption)); refine stop ?_))
  k_with "execs cons" => (((with_reducible show wpAny _ _ (execs (Stmt.Assign [Expr.Tuple _ _ _] _ _ :: _) _) _ _ _); (fail_if_success (have q9 : Mk 7 := by assumption)); refine stop ?_))
  k_with "CompSrc" => (((fail_if_success (fail_if_success (have q9 : Mk 2 := by assumption))); refine stop ?_))
  k_with "CompSrcT" => ((refine stop ?_))
  k_with "DSrc" => ((refine stop ?_))
  k_with "exec Assign cons ListComp" => ((k_here; (with_reducible show wpAny _ _ (exec (Stmt.Assign [Expr.Name (Str.ofString "told") _] _ _) _) _ _ _); k_dflt (refine assignD (F₀ := by k_asm) (by rfl) (by with_unfolding_all rfl) (by rfl) (by decide) (by rfl) (by decide) (by rfl) (by rfl) (by rfl) ?_)))
  k_with "execs cons" => (((with_reducible show wpAny _ _ (execs (Stmt.Assign [Expr.Name (Str.ofString "year") _] _ _ :: _) _) _ _ _); (fail_if_success (have q9 : Mk 20 := by assumption)); refine stop ?_))
  k_with "subscriptTail Name Name ref int" => ((k_dflt (refine item_list_ints (by is_list) (by assumption) (by assumption) (by first | exact own3 (by assumption) | assumption) (by decide) ?_); intro _))
  k_with "my ke_shaped" => (exact shaped8 (by assumption))
  k_with "subscriptTail" => (((with_reducible show wpAny _ _ (subscriptTail _ (Expr.Slice none (some _) none _) (Value.str _ _) _) _ _ _); (with_reducible rename Fr _ _ _ _ => F'); (with_reducible rename News _ _ _ _ => N'); k_dflt (refine slice_strN_ns (hsz := ?hszW9) (s := ⟨_, _, _, _, _⟩) F' N' ?_); (case hszW9 => walk_at "con size"); intro t9' h' tk' F' N'; (try k_sweep); (try dsimp only); (try k_fold)))
  k_with "subscriptTail" => (((with_reducible show wpAny _ _ (subscriptTail _ (Expr.Slice (some _) (some _) none _) (Value.str _ _) _) _ _ _); (with_reducible rename Fr _ _ _ _ => F'); (with_reducible rename News _ _ _ _ => N'); k_dflt (refine slice_strN_ss (hsz := ?hszW9) (s := ⟨_, _, _, _, _⟩) F' N' ?_); (case hszW9 => walk_at "con size"); intro t9' h' tk' F' N'; (try k_sweep); (try dsimp only); (try k_fold)))
  k_with "con size" => ((rename ∀ i, Str.length _ ≤ sizeLine => hgs9; exact hgs9 _))
  k_with "subscriptTail Name BinOp ref int" => ((k_dflt (refine item_g8 (by is_list) (by walk_at "con fact") ?_); intro t9'))
  k_with "subscriptTail Name Name ref int" => ((k_dflt (refine item_g8 (by is_list) (by walk_at "con fact") ?_); intro t9'))
  k_with "call builtin:str.index" => ((k_dflt (refine idx_mon rfl (by assumption) (by assumption) ?_)))
  k_with "con size" => (first | assumption | (rename ∀ i, Str.length _ ≤ sizeLine => hgs9; exact hgs9 _))
  k_with "compareOp NotEq str str" => ((k_dflt (refine ne_same ?_)))
  k_with "GrownAll" => (exact tbs_grown (by k_asm) (by walk_at "con split"))
  k_with "eval BinOp" => (((fail_if_success (have q9 : Mk 21 := by assumption)); have hk63 := lt63 (by assumption); have hk111 := lt111 (by assumption); have mk21 := mkI 21))
  trivial
structure Mk (n : Nat) : Prop where
  mk :: (one : True)
theorem mkI (n : Nat) : Mk n := ⟨trivial⟩
theorem lt63 {k : Int} (h : k < 0 + ((3 - 0 : Int).toNat : Int)) : k < 2 ^ 63 := Int.lt_trans h (by decide)
theorem lt111 {k : Int} (h : k < 0 + ((3 - 0 : Int).toNat : Int)) : k < ((1 + 1 + 1 : Nat) : Int) := h
theorem cell_year {o : Obj} {x : Int} {t : Tok} (d : o.data = .cell (some (.int (x.fmod 9998 + 1) t))) : ∃ y : Int, (1 ≤ y ∧ y ≤ 9998) ∧ o.data = .cell (some (.int y t)) :=
  ⟨_, by have h1 := Int.fmod_nonneg_of_pos x (b := 9998) (by decide); have h2 := Int.fmod_lt_of_pos x (b := 9998) (by decide); omega, d⟩
theorem cell_clock {o : Obj} {x : Int} {t : Tok} (d : o.data = .cell (some (.int (x.fmod 86400) t))) : ∃ y : Int, (0 ≤ y ∧ y < 86400) ∧ o.data = .cell (some (.int y t)) :=
  ⟨_, ⟨Int.fmod_nonneg_of_pos x (b := 86400) (by decide), Int.fmod_lt_of_pos x (b := 86400) (by decide)⟩, d⟩
theorem cell_zone {o : Obj} {i : Nat} {t : Tok} {r : Str} (d : o.data = .cell (some (.str ([Str.ofString "-0000", Str.ofString "GMT", Str.ofString "+0545"].getD i Str.empty) t))) : ∃ z : Str, z.length ≤ 5 ∧ PyData.strOk z = true ∧ o.data = .cell (some (.str z t)) := by
  suffices h : ∀ i, ([Str.ofString "-0000", Str.ofString "GMT", Str.ofString "+0545"].getD i Str.empty).length ≤ 5 ∧ PyData.strOk ([Str.ofString "-0000", Str.ofString "GMT", Str.ofString "+0545"].getD i Str.empty) = true from ⟨_, (h i).1, (h i).2, d⟩
  intro i
  match i with
  | 0 => decide +kernel
  | 1 => decide +kernel
  | 2 => decide +kernel
  | n + 3 => simp only [List.getD_cons_succ, List.getD_nil]; decide +kernel
theorem tabs0 : TbsOk [(24, tabObj #[]), (24, tabObj #[]), (52, tabObj #[]), (52, tabObj #[]), (59, tabObj #[]), (59, tabObj #[])] :=
  ⟨_, _, _, _, _, _, _, _, _, rfl, .inl ⟨rfl, rfl, rfl⟩, .inl ⟨rfl, rfl, rfl⟩, .inl ⟨rfl, rfl, rfl⟩⟩
theorem tabs_lay {h₀ h : Heap} {L c1 c2 c3 c4 c5 c6 c7 : Addr} {o1 o2 o3 o4 o5 o6 o7 : Obj} {P : Prop}
    (N : News h₀ L h [(c1, o1), (c2, o2), (c3, o3), (c4, o4), (c5, o5), (c6, o6), (c7, o7), (59, tabObj #[]), (52, tabObj #[]), (24, tabObj #[])])
    (k : ∀ tb, TbsOk tb → News h₀ L h ((c1, o1) :: (c2, o2) :: (c3, o3) :: (c4, o4) :: (c5, o5) :: (c6, o6) :: (c7, o7) :: tb) → P) : P := by
  exact k _ tabs0 (List.forall_mem_cons.mpr ⟨N _ (by k_mem), List.forall_mem_cons.mpr ⟨N _ (by k_mem), List.forall_mem_cons.mpr ⟨N _ (by k_mem), List.forall_mem_cons.mpr ⟨N _ (by k_mem), List.forall_mem_cons.mpr ⟨N _ (by k_mem), List.forall_mem_cons.mpr ⟨N _ (by k_mem), List.forall_mem_cons.mpr ⟨N _ (by k_mem), List.forall_mem_cons.mpr ⟨N _ (by k_mem), List.forall_mem_cons.mpr ⟨N _ (by k_mem), List.forall_mem_cons.mpr ⟨N _ (by k_mem), List.forall_mem_cons.mpr ⟨N _ (by k_mem), List.forall_mem_cons.mpr ⟨N _ (by k_mem), List.forall_mem_cons.mpr ⟨N _ (by k_mem), List.forall_mem_nil _⟩⟩⟩⟩⟩⟩⟩⟩⟩⟩⟩⟩⟩)
theorem sun_filter2 {g : Nat → Str} {y m c wt : Int} {z : Str} (hg : ∀ i : Nat, g i = lineS y (m + (i : Int)) c z) (hw : -(passF y m + 1).fmod (-7) = wt) :
    ((List.range 7).filter fun i : Nat => Txt.slice (g (1 + (i : Int)).toNat) none (some 3) == Str.ofString "Sun").map (fun (j : Nat) => (1 : Int) + (j : Int)) = [1 + wt] ∧ (0 ≤ wt ∧ wt ≤ 6) ∧ (passF y m + 1 + wt) % 7 = 0 := by
  have h := sun_filter hg hw
  have e : ∀ i : Nat, (1 + (i : Int)).toNat = i + 1 := fun i => by omega
  simp only [e]
  exact h
theorem tnth_sum2 {c : Int} (h : 0 ≤ c ∧ c < 86400) : ∃ q : Nat → Int, (∀ i, tnth c i = q i) ∧ 3600 * q 0 + 60 * q 1 + q 2 = c ∧ (0 ≤ q 0 ∧ q 0 < 100) ∧ (0 ≤ q 1 ∧ q 1 < 100) ∧ (0 ≤ q 2 ∧ q 2 < 100) := by
  obtain ⟨a, b, d, rfl, rfl, rfl, h1, h2, h3, h4⟩ := tnth_sum h
  exact ⟨_, fun _ => rfl, h1, h2, h3, h4⟩
theorem exq {p : (Nat → Int) → Prop} {p2 p3 p4 p5 : (Nat → Int) → Prop} {G : Prop} (h : ∃ q, p q ∧ p2 q ∧ p3 q ∧ p4 q ∧ p5 q) (k : ∀ q, p q → p2 q → p3 q → p4 q → p5 q → G) : G := h.elim fun q y => k q y.1 y.2.1 y.2.2.1 y.2.2.2.1 y.2.2.2.2
theorem line_fn (y m c : Int) (z : Str) : ∃ gL : Nat → Str, ∀ i : Nat, gL i = lineS y (m + (i : Int)) c z := ⟨_, fun _ => rfl⟩
theorem law_holds : PySem.Challenge.rw_ph0148_01.Holds := hd (by
  k_go0
  (all_goals try k_fold)
  rename News _ _ _ _ => N9
  refine tabs_lay N9 ?_
  clear N9
  intro tb9 hok9 N9
  k_with "table" => skip
  k_steps
  refine unstop ?_
  rename (@Ne Nat _ _ ∧ _) => hne1
  have hnl1 := fold8 hne1
  clear hne1
  have mk20 := mkI 20
  k_steps
  refine unstop ?_
  rename (Obj.data _ = Data.cell (some (Value.int (Int.fmod _ 9998 + 1) _))) => dY
  rename (Obj.data _ = Data.cell (some (Value.int (Int.fmod _ 86400) _))) => dC
  rename (Obj.data _ = Data.cell (some (Value.str (List.getD _ _ _) _))) => dZ
  refine ex2 (cell_year dY) ?_; intro y9 hy9 dY9
  refine ex2 (cell_clock dC) ?_; intro c9 hc9 dC9
  refine ex3 (cell_zone (r := Str.empty) dZ) ?_; intro z9 hz9 hzk9 dZ9
  have mk1 := mkI 1
  k_steps
  refine unstop ?_
  have mk2 := mkI 2
  k_steps
  refine unstop ?_
  rename (@Ne Nat _ _ ∧ _) => hne2
  have hnl2 := fold10 hne2
  clear hne2
  rename (IntsAre _ (List.map _ (rangeKs (moonF _) _))) => hDays
  have hDl := (days8 hDays).1
  have hDv := (days8 hDays).2
  refine ex1 (line_fn y9 (moonF y9) c9 z9) ?_; intro gL hG
  have hgk : ∀ i < 8, PyData.strOk (gL i) = true := fun i hi => by rw [hG]; exact lineS_ok ⟨hy9, by omega, hc9⟩ hzk9
  have hgs : ∀ i, (gL i).length ≤ sizeLine := fun i => by rw [hG, lineS_len, sizeLine_eq]; omega
  k_dflt (refine' comp_8 (fun i t => .str (gL i) t) (fun i t => .int (moonF y9 + (i : Int)) t) hDl hDv rfl (by k_asm) (by k_asm) (by walk_at "con split") (by k_mem) ?_ ?_)
  · intro i u I oI C oC D m₂ h tk ys tb Q E' hi hC hx ok F N of k
    (try dsimp only [List.cons_append, List.nil_append] at N)
    k_steps
    simp only [← hG]
    exact k _ _ _ _ (by assumption) (by assumption) (by assumption) (OffT.cut (by assumption))
  · intro g u0 u1 u2 u3 u4 u5 u6 u7 tb2 ok2
    refine finE ?_
    intro DL hL1 tkL FL NL oL
    (try dsimp only [List.cons_append, List.nil_append] at oL NL)
    k_steps
    refine unstop ?_
    k_dflt (refine' comp_8 (fun i t => .str (gL i) t) (fun i t => .int (moonF y9 + (i : Int)) t) hDl hDv rfl (by k_asm) (by k_asm) (by walk_at "con split") (by k_mem) ?_ ?_)
    · intro i u I oI C oC D m₂ h tk ys tb Q E' hi hC hx ok F N of k
      (try dsimp only [List.cons_append, List.nil_append] at N)
      k_steps
      simp only [← hG]
      exact k _ _ _ _ (by assumption) (by assumption) (by assumption) (OffT.cut (by assumption))
    · intro g x0 x1 x2 x3 x4 x5 x6 x7 tb2 ok2
      refine finE ?_
      intro DM hM1 tkM FM NM oM
      (try dsimp only [List.cons_append, List.nil_append] at oM NM)
      (try dsimp only)
      k_steps
      refine unstop ?_
      have mk3 := mkI 3
      k_steps
      refine unstop ?_
      have mk4 := mkI 4
      refine ex1 ⟨-(passF y9 (moonF y9) + 1).fmod (-7), rfl⟩ ?_; intro wt hwt
      rename Fr _ _ _ _ => FW
      simp only [hwt] at FW
      k_steps
      refine unstop ?_
      have hSun := (sun_filter2 hG hwt).1
      have hwb := (sun_filter2 hG hwt).2.1
      have hw7 := (sun_filter2 hG hwt).2.2
      k_dflt (refine' comp_T (n := 7) (fun i : Nat => Txt.slice (gL (1 + (i : Int)).toNat) none (some 3) == Str.ofString "Sun") hSun rfl (by k_asm) (by k_asm) (by assumption) (by decide) (by decide) (by decide) ?_ ?_ ?_)
      · intro i t I oI C oC D m₂ h tk ys Q E' hi hC hx F N k
        k_steps
        exact k _ _ (by assumption) (by assumption)
      · intro v I oI C oC D m₂ h tk ys Q E' hC hx F N k
        k_steps
        exact k
      · intro g uF
        refine finE ?_
        intro DS hS1 tkS FS NS oS
        (try dsimp only [List.cons_append, List.nil_append] at oS NS)
        clear hSun
        k_steps
        refine unstop ?_
        have mk5 := mkI 5
        rename News _ _ _ _ => NX
        have NY := news_d3 (news_d2 (news_d2 (news_tl (news_tl (news_tl (news_tl NX))))))
        clear NX
        have hmo := moonF_le y9 hy9
        refine ex1 ⟨moonF y9 + 1 + wt, rfl⟩ ?_; intro dd hdd
        have hdb := (found_facts hG hwb hmo hy9 hdd).1
        have hs8 := (found_facts hG hwb hmo hy9 hdd).2.1
        have hf5 := (found_facts hG hwb hmo hy9 hdd).2.2.1
        have hf12 := (found_facts hG hwb hmo hy9 hdd).2.2.2
        have hsp1 := (spring (y := y9) hdb).1
        have hsp2 := (spring (y := y9) hdb).2.1
        have hsp3 := (spring (y := y9) hdb).2.2.1
        have hsp4 := (spring (y := y9) hdb).2.2.2
        have hten1 := (easter hy9 hwb hdd hw7).1
        have hten2 := (easter hy9 hwb hdd hw7).2
        k_steps
        refine unstop ?_
        rename News _ _ _ _ => NX
        rw [hsp4] at NX
        have mk6 := mkI 6
        k_steps
        refine unstop ?_
        rename Fr _ _ _ _ => FW
        refine ex2 (fr_feast FW) ?_; intro ft hft FW2
        clear FW
        have mk7 := mkI 7
        rename News _ _ _ _ => NX
        have NY := news_tl (news_tl (news_tl (news_tl NX)))
        clear NX
        have hft2 : 1 ≤ ft ∧ ft ≤ 365 := by omega
        have hfd1 := (feast_date (y := y9) hft2).1
        have hfd2 := (feast_date (y := y9) hft2).2.1
        have hfd3 := (feast_date (y := y9) hft2).2.2
        k_steps
        refine unstop ?_
        rename News _ _ _ _ => NX
        rw [hfd1, hfd2, hfd3] at NX
        have mk8 := mkI 8
        rename News _ _ _ _ => NX
        have NY := news_d2 (news_d2 NX)
        clear NX
        refine ex1 ⟨lineS y9 ft c9 z9, rfl⟩ ?_; intro ln hln
        k_steps
        all_goals (try (refine unstop ?_))
        have mk9 := mkI 9
        rename News _ _ _ _ => NX
        have NY := news_tl (news_tl NX)
        clear NX
        have hlz : ln.length ≤ sizeLine := by rw [← hln, lineS_len, sizeLine_eq]; omega
        have hq0 : Fig (Txt.slice ln (some 17) (some 19)) (c9 / 3600) := by rw [← hln, line_hour]; exact fig_two (by omega)
        have hq1 : Fig (Txt.slice ln (some 20) (some 22)) (c9 / 60 % 60) := by rw [← hln, line_min]; exact fig_two (by omega)
        have hq2 : Fig (Txt.slice ln (some 23) (some 25)) (c9 % 60) := by rw [← hln, line_sec]; exact fig_two (by omega)
        clear hln hG
        k_steps
        all_goals (try (refine unstop ?_))
        refine exq (tnth_sum2 hc9) ?_
        intro q hq hqs hqa2 hqb2 hqd2
        have hf0 : Fig (Txt.slice ln (some 17) (some (17 + 2))) (q 0) := by rw [← hq 0]; exact hq0
        have hf1 : Fig (Txt.slice ln (some 20) (some (20 + 2))) (q 1) := by rw [← hq 1]; exact hq1
        have hf2 : Fig (Txt.slice ln (some 23) (some (23 + 2))) (q 2) := by rw [← hq 2]; exact hq2
        k_dflt (refine' comp_3D (fun i t => .int (q i) t) (W := fun i v => ∃ n t, v = .int n t ∧ Fig (Txt.slice ln (some n) (some (n + 2))) (q i)) ⟨17, _, rfl, hf0⟩ ⟨20, _, rfl, hf1⟩ ⟨23, _, rfl, hf2⟩ rfl (by k_asm) (by k_asm) (by walk_at "con split") (by k_mem) ?_ ?_)
        · intro i v I oI C oC D m₂ h tk dr ys tb Q E' hv hC hx ok F N of k
          (try dsimp only [List.cons_append, List.nil_append] at N)
          obtain ⟨n, t, e, hf⟩ := hv
          subst e
          k_steps
          exact k _ _ _ _ _ (by assumption) (by assumption) (by assumption) (OffT.cut (by assumption))
        · intro g v0 v1 v2 tb2 ok2
          refine dFin ?_
          intro DT hT1 tkT drT FT NT oT
          (try dsimp only [List.cons_append, List.nil_append] at oT NT)
          k_steps)
end Mine
end
namespace Mine
set_option maxHeartbeats 0 in
example : True ∧ True := by
  w_top off
  walk1 <;> trivial
end Mine
end
set_option maxRecDepth 100000 in
set_option maxHeartbeats 8000000 in
theorem PySem.Challenge.cw_ph0148_01_holds : PySem.Challenge.rw_ph0148_01.Holds :=
  Mine.law_holds
