import PyProof.Rows.All
import Wide.All
import OpenK.AllK
import Wide.FinOn
import PySem.Challenge.RW_sr0036_01
set_option Elab.async false
set_option maxRecDepth 100000
set_option maxHeartbeats 8000000


local macro_rules | `(tactic| walk_at $s:str) => `(tactic| k_extra $s)

section
open PySem PySem.W PyProof.Rows
namespace Mine
theorem backHd : True := by
  k_with_none
  w_top off
  exact trivial
open_top hd for PySem.Challenge.rw_sr0036_01
end Mine
end

section
open PySem PySem.W PySem.Calls PyProof.Rows
namespace Mine
abbrev Keeps (h h' : Heap) : Prop := ∀ b o, h.get? b = some o → h'.get? b = some o
abbrev XTop (dp un : Nat) (gd : Option (List Code)) (cn : PySem.Str) (cs : Scope) (a : Addr) (ccd : Value) (cl : List (PySem.Str × Addr)) (L : Addr) (outer : List Env) : Around :=
  { handled := none, depth := dp, frames := some (envX cn cs L a ccd cl :: outer), guards := gd, units := un }
/-- what a call of the text's def f does: from any frame, in any heap above hs; own: what it may turn -/
def GT (prog : Program) (w : World) (p : Program) (loose : List PySem.Str) (mean : ExcName → Option Value) (mg mb : PySem.Str → Option Value) (n : Nat) (Pre : Heap → Prop) (own : List (Addr × Obj)) (f : Addr) (vs : List Value) (kw : List (PySem.Str × Value)) (Ret : Heap → Value → Heap → Prop) : Prop :=
  ∀ (dp un : Nat) (gd : Option (List Code)) (cn : PySem.Str) (cs : Scope) (a : Addr) (ccd : Value) (cl : List (PySem.Str × Addr)) (outer : List Env) (A₀ : Around) (base h₀ : Heap) (L : Addr) (m : PySem.Str → Option Value) (s : Shared) (Q E : Value → Shared → Prop),
    Pre s.heap → Below A₀ base outer h₀ → Fr h₀ L s.heap m → (Mine.hd.heap_39 w.params).In h₀ → News h₀ L s.heap own → Top p loose mean mg mb h₀ → cs.kind = .function → dp + n < recursionLimit → un + 8 * n < cLine →
    (∀ r h' tk', Keeps (hideAll s.heap (own.map (·.1))) h' → Ret s.heap r h' → Q r { s with heap := h', toks := tk' }) →
    wpAny (model prog w) (XTop dp un gd cn cs a ccd cl L outer) (call (.ref f) vs kw) Q E s
abbrev PT (prog : Program) (w : World) (p : Program) (loose : List PySem.Str) (mean : ExcName → Option Value) (mg mb : PySem.Str → Option Value) (n : Nat) (hs : Heap) (f : Addr) (vs : List Value) (kw : List (PySem.Str × Value)) (Ret : Value → Prop) : Prop :=
  GT prog w p loose mean mg mb n (Keeps hs) [] f vs kw (fun _ r _ => Ret r)

section
variable {prog : Program} {w : World} {A A₀ : Around} {s : Shared} {K : Frag} {L : Addr} {h₀ base : Heap} {m mg mb : PySem.Str → Option Value} {news : List (Addr × Obj)} {p : Program} {loose : List PySem.Str} {mean : ExcName → Option Value}
/-- enter a def that keeps no cell; what is not its own stays -/
theorem enterP {env : Env} {outer : List Env} {R : Result → Shared → Prop} {name qual : PySem.Str} {params : Arguments} {body : List Stmt} {scope : Scope} {dV kV doc pm cdv ct oc : Value} {an od : Option Addr} {osl : Array (Option Value)} {f : Addr} {args : Args} {binds : List (PySem.Str × Value)}
    (B : Below A₀ base outer h₀) (F : Fr h₀ L s.heap m) (X₀ : K.In h₀) (N : News h₀ L s.heap news) (T : Top p loose mean mg mb h₀) (hA : A.frames = some (env :: outer)) (hf : env.frame = some L) (hke : env.scope.kind = .function)
    (ho : K.lookup f = some ⟨oc, od, .func (fnOf name qual params body scope dV kV doc pm an cdv ct), osl⟩) (hcd : codeIn K cdv qual = true) (hroom : A.depth < recursionLimit)
    (hbind : BindsTo s (fnOf name qual params body scope dV kV doc pm an cdv ct) args binds) (hloc : ∀ y ∈ binds, scope.names.lookup y.1 = some .local)
    (h : ∀ g L' h₁, g = hideAll s.heap (news.map (·.1)) → Fr h₀ L g m → Fr g L' h₁ (fun y => binds.reverse.lookup y) → News g L' h₁ news → Below A base (env :: outer) g → K.In g → Top p loose mean mg mb g → (∀ p ∈ news, p.1 < L') →
      wpAny (model prog w) (A.deeper (envOf qual scope L' f cdv)) (execs body (envOf qual scope L' f cdv))
        (fun fl s' => LeaveK h₀ L m g R (match fl with | .ret v => v | _ => .none) s')
        (fun e s' => wpAny (model prog w) (A.deeper (envOf qual scope L' f cdv)) (leaving (envOf qual scope L' f cdv) e) (fun _ s'' => R (.error e) s'') (fun e' s'' => R (.error e') s'') s')
        { s with heap := h₁, toks := s.toks + binds.length })
    (hco : scope.isCoroutine = false) (hgen : scope.isGenerator = false) (hk : scope.kind = .function)
    (hcell : ∀ x ∈ scope.names, x.2 ≠ .cell) : codeAny (model prog w) A (.call (.ref f) args) R s := by
  have X := X₀.keeps F.keep
  obtain ⟨FG, BG, st, lv⟩ := groundX (R := R) B F N hA hf hke
  refine codeAny_call_def (fd := fnOf name qual params body scope dV kV doc pm an cdv ct) (body := body) (binds := binds) hroom (X _ _ ho) rfl (T.nolimit.keeps F.keep) (codeRec_of X hcd) rfl hbind hcell hloc (fun h₁ hns hk₁ => ?_) hco hgen hk
  have F₁ : Fr (hideAll s.heap (news.map (·.1))) s.heap.objs.size h₁ (fun y => binds.reverse.lookup y) := ⟨hns, fun b o e => hk₁ b o (of_hideAll _ e), Nat.le_of_eq (hideAll_size _ _)⟩
  have N₁ : News (hideAll s.heap (news.map (·.1))) s.heap.objs.size h₁ news := fun q hq => ⟨hk₁ _ _ (N q hq).1, Nat.ne_of_lt (Heap.lt_size (N q hq).1), hideAll_none _ (List.mem_map_of_mem hq)⟩
  exact wpAny_mono (h _ s.heap.objs.size h₁ rfl FG F₁ N₁ BG (X₀.keeps st) (T.keeps st) (fun q hq => Heap.lt_size (N q hq).1)) (fun fl s' hl => lv _ _ hl) fun _ _ y => y

theorem GT.up {n : Nat} {Pre Pre' : Heap → Prop} {own : List (Addr × Obj)} {f : Addr} {vs : List Value} {kw : List (PySem.Str × Value)} {Ret : Heap → Value → Heap → Prop} (C : GT prog w p loose mean mg mb n Pre own f vs kw Ret) (k : ∀ h, Pre' h → Pre h) : GT prog w p loose mean mg mb n Pre' own f vs kw Ret :=
  fun dp un gd cn cs a ccd cl outer A₀ base h₀ L m s Q E hk => C dp un gd cn cs a ccd cl outer A₀ base h₀ L m s Q E (k _ hk)
theorem PT.up {n : Nat} {hs hs' : Heap} {f : Addr} {vs : List Value} {kw : List (PySem.Str × Value)} {Ret : Value → Prop} (C : PT prog w p loose mean mg mb n hs f vs kw Ret) (k : Keeps hs hs') : PT prog w p loose mean mg mb n hs' f vs kw Ret :=
  GT.up C fun _ hk b o e => hk b o (k b o e)
/-- enter a def that keeps cells -/
theorem enterC {env : Env} {outer : List Env} {R : Result → Shared → Prop} {name qual : PySem.Str} {params : Arguments} {body : List Stmt} {scope : Scope} {dV kV doc pm cdv ct oc : Value} {an od : Option Addr} {osl : Array (Option Value)} {f : Addr} {args : Args} {binds : List (PySem.Str × Value)}
    (B : Below A₀ base outer h₀) (F : Fr h₀ L s.heap m) (X₀ : K.In h₀) (N : News h₀ L s.heap news) (T : Top p loose mean mg mb h₀) (hA : A.frames = some (env :: outer)) (hf : env.frame = some L) (hke : env.scope.kind = .function)
    (ho : K.lookup f = some ⟨oc, od, .func (fnOf name qual params body scope dV kV doc pm an cdv ct), osl⟩) (hcd : codeIn K cdv qual = true) (hroom : A.depth < recursionLimit)
    (hbind : BindsTo s (fnOf name qual params body scope dV kV doc pm an cdv ct) args binds) (hkind : (binds.all fun y => scope.names.lookup y.1 == some .local || scope.names.lookup y.1 == some .cell) = true)
    (hnd : ((cellsFrom 0 scope.names []).map (·.1)).Nodup)
    (h : ∀ g L' h₁ tk cells, g = hideAll s.heap (news.map (·.1)) → Fr h₀ L g m → Fr g L' h₁ (bindL (envOfC qual scope L' f cdv).kindOf binds fun _ => none) → News g L' h₁ (cells ++ news) →
      CellsAre (bindC (envOfC qual scope L' f cdv).kindOf binds fun _ => none) (cellsFrom (L' + 1) scope.names []) cells → Below A base (env :: outer) g → K.In g → Top p loose mean mg mb g → (∀ p ∈ news, p.1 < L') →
      wpAny (model prog w) (A.deeper (envOfC qual scope L' f cdv)) (execs body (envOfC qual scope L' f cdv))
        (fun fl s' => LeaveK h₀ L m g R (match fl with | .ret v => v | _ => .none) s')
        (fun e s' => wpAny (model prog w) (A.deeper (envOfC qual scope L' f cdv)) (leaving (envOfC qual scope L' f cdv) e) (fun _ s'' => R (.error e) s'') (fun e' s'' => R (.error e') s'') s')
        { s with heap := h₁, toks := tk })
    (hco : scope.isCoroutine = false) (hgen : scope.isGenerator = false) (hk : scope.kind = .function) : codeAny (model prog w) A (.call (.ref f) args) R s := by
  have X := X₀.keeps F.keep
  obtain ⟨FG, BG, st, lv⟩ := groundX (R := R) B F N hA hf hke
  refine codeAny_call_function (fd := fnOf name qual params body scope dV kV doc pm an cdv ct) hroom (X _ _ ho) rfl hco hgen rfl (codeRec_of X hcd) (hbind _ _ _ _ ?_)
  refine wpAny_newFunctionEnv_cells hk (kindsX hkind _) fun env' he s' x => ?_
  subst he
  refine ⟨(T.nolimit.keeps F.keep).keeps x.toInCall.keep, codeAny_func ?_⟩
  obtain ⟨h₁, tk, rfl, _⟩ := x.done
  have hk₁ := x.toInCall.keep
  obtain ⟨cells, NC, Y⟩ := Cl.news (h₀ := s.heap) (Nat.le_refl _) fun n c hm => ⟨x.cell n c (lookup_of_mem_nodup (cellsFrom_names scope.names 0 (s.heap.objs.size + 1) [] [] rfl ▸ hnd) hm), x.above n c hm⟩
  have F₁ : Fr (hideAll s.heap (news.map (·.1))) s.heap.objs.size h₁ (bindL (envOfC qual scope s.heap.objs.size f cdv).kindOf binds fun _ => none) := ⟨x.toInCall.ns, fun b o e => hk₁ b o (of_hideAll _ e), Nat.le_of_eq (hideAll_size _ _)⟩
  have N₁ : News (hideAll s.heap (news.map (·.1))) s.heap.objs.size h₁ (cells ++ news) := fun q hq => by
    rcases List.mem_append.mp hq with hq | hq
    · refine ⟨(NC q hq).1, (NC q hq).2.1, ?_⟩
      cases z : (hideAll s.heap (news.map (·.1))).get? q.1 with
      | none => rfl
      | some o => have := of_hideAll _ z; rw [(NC q hq).2.2] at this; cases this
    · exact ⟨hk₁ _ _ (N q hq).1, Nat.ne_of_lt (Heap.lt_size (N q hq).1), hideAll_none _ (List.mem_map_of_mem hq)⟩
  exact wpAny_mono (h _ s.heap.objs.size h₁ tk cells rfl FG F₁ N₁ Y BG (X₀.keeps st) (T.keeps st) (fun q hq => Heap.lt_size (N q hq).1)) (fun fl s' hl => lv _ _ hl) fun _ _ y => y

/-- enter a lambda that stands in the heap -/
theorem enterL {env : Env} {outer : List Env} {R : Result → Shared → Prop} {name qual : PySem.Str} {params : Arguments} {body : Expr} {scope : Scope} {cl : List (PySem.Str × Addr)} {pm ctv : Value} {c' : Addr} {f : Addr} {args : Args} {binds : List (PySem.Str × Value)}
    (B : Below A₀ base outer h₀) (F : Fr h₀ L s.heap m) (X₀ : K.In h₀) (T : Top p loose mean mg mb h₀) (hA : A.frames = some (env :: outer)) (hf : env.frame = some L) (hke : env.scope.kind = .function)
    (ho : s.heap.get? f = some (kla_obj name qual params body scope cl pm c' ctv)) (hcd : s.heap.CodeRec (.ref c') qual) (hroom : A.depth < recursionLimit)
    (hbind : bindArgs (kla_fn name qual params body scope cl pm (.ref c') ctv) args = pure binds) (hloc : ∀ y ∈ binds, scope.names.lookup y.1 = some .local)
    (h : ∀ g L' h₁, g = s.heap → Fr h₀ L g m → Fr g L' h₁ (fun y => binds.reverse.lookup y) → News g L' h₁ [] → Below A base (env :: outer) g → K.In g → Top p loose mean mg mb g →
      wpAny (model prog w) (A.deeper (envX qual scope L' f (.ref c') cl)) (eval body (envX qual scope L' f (.ref c') cl))
        (fun v s' => LeaveK h₀ L m g R v s')
        (fun e s' => wpAny (model prog w) (A.deeper (envX qual scope L' f (.ref c') cl)) (leaving (envX qual scope L' f (.ref c') cl) e) (fun _ s'' => R (.error e) s'') (fun e' s'' => R (.error e') s'') s')
        { s with heap := h₁, toks := s.toks + binds.length })
    (hco : scope.isCoroutine = false) (hgen : scope.isGenerator = false) (hk : scope.kind = .function)
    (hcell : ∀ x ∈ scope.names, x.2 ≠ .cell) : codeAny (model prog w) A (.call (.ref f) args) R s := by
  obtain ⟨FG, BG, st, lv⟩ := groundX (R := R) B F (News.nil (h₀ := h₀) (L := L)) hA hf hke
  refine kla_callFunE hroom ho rfl hco hgen rfl hcd ?_
  rw [hbind]
  refine wpAny_pure (wpAny_newFunctionEnv hcell hloc (fun h₁ hns hsb => ⟨((T.nolimit).keeps F.keep).fresh _ hsb, ?_⟩) hk)
  show codeAny _ _ (.expr body (envX qual scope s.heap.objs.size f (.ref c') cl)) _ _
  have hk₁ : ∀ b o, s.heap.get? b = some o → h₁.get? b = some o := fun b o e => hsb.extBut b o (Nat.ne_of_lt (Heap.lt_size e)) (Heap.get?_push_of_some _ e)
  exact kla_codeExpr (wpAny_mono (h _ s.heap.objs.size h₁ rfl FG ⟨hns, hk₁, Nat.le_refl _⟩ News.nil BG (X₀.keeps st) (T.keeps st)) (fun v s' hl => lv _ _ hl) fun _ _ y => y)

theorem keeps_news {h h' : Heap} (k : Keeps h h') (N : News h₀ L h news) : News h₀ L h' news := fun q hq => ⟨k _ _ (N q hq).1, (N q hq).2⟩
theorem keeps_fr {h h' : Heap} (k : Keeps h h') (F : Fr h₀ L h m) : Fr h₀ L h' m := ⟨F.ns.keeps k, fun b o e => k b o (F.keep b o e), F.above⟩

theorem leaveE {g : Heap} {L' : Addr} {m' : PySem.Str → Option Value} {news' : List (Addr × Obj)} {R : Result → Shared → Prop} {v : Value} {s' : Shared} (F' : Fr g L' s'.heap m') (N' : News g L' s'.heap news')
    (k : Keeps g s'.heap → News g L' s'.heap news' → R (.ok (.ret v)) s') : LeaveK h₀ L m g R v s' := ⟨L', m', news', F', N', fun _ _ => k F'.keep N'⟩
/-- a pure call, from a frame of the walk's -/
theorem PT.use {n dp un : Nat} {hs : Heap} {f : Addr} {vs : List Value} {kw : List (PySem.Str × Value)} {Ret : Value → Prop} {gd : Option (List Code)} {cn : PySem.Str} {cs : Scope} {a : Addr} {ccd : Value} {cl : List (PySem.Str × Addr)} {outer : List Env} {Q E : Value → Shared → Prop}
    (C : PT prog w p loose mean mg mb n hs f vs kw Ret) (k : Keeps hs s.heap) (B : Below A₀ base outer h₀) (F : Fr h₀ L s.heap m) (X : (Mine.hd.heap_39 w.params).In h₀) (N : News h₀ L s.heap news) (T : Top p loose mean mg mb h₀) (hk : cs.kind = .function) (hd : dp + n < recursionLimit) (hu : un + 8 * n < cLine)
    (h : ∀ r h' tk', Keeps s.heap h' → Fr h₀ L h' m → News h₀ L h' news → Ret r → Q r { s with heap := h', toks := tk' }) :
    wpAny (model prog w) (XTop dp un gd cn cs a ccd cl L outer) (call (.ref f) vs kw) Q E s :=
  C dp un gd cn cs a ccd cl outer A₀ base h₀ L m s Q E k B F X News.nil T hk hd hu fun r h' tk' k' hr => h r h' tk' k' (keeps_fr k' F) (keeps_news k' N) hr
end
section
variable {prog : Program} {w : World} {A₀ : Around} {s : Shared} {L : Addr} {h₀ base : Heap} {m mg mb : PySem.Str → Option Value} {p : Program} {loose : List PySem.Str} {mean : ExcName → Option Value}
theorem GT.use {n dp un : Nat} {Pre : Heap → Prop} {own led : List (Addr × Obj)} {f : Addr} {vs : List Value} {kw : List (PySem.Str × Value)} {Ret : Heap → Value → Heap → Prop} {gd : Option (List Code)} {cn : PySem.Str} {cs : Scope} {a : Addr} {ccd : Value} {cl : List (PySem.Str × Addr)} {outer : List Env} {Q E : Value → Shared → Prop}
    (C : GT prog w p loose mean mg mb n Pre own f vs kw Ret) (hp : Pre s.heap) (B : Below A₀ base outer h₀) (F : Fr h₀ L s.heap m) (X : (Mine.hd.heap_39 w.params).In h₀) (N : News h₀ L s.heap led) (T : Top p loose mean mg mb h₀) (ho : ∀ q ∈ own, q ∈ led) (hk : cs.kind = .function) (hd : dp + n < recursionLimit) (hu : un + 8 * n < cLine)
    (h : ∀ r h' tk', Keeps (hideAll s.heap (own.map (·.1))) h' → Fr h₀ L h' m → (∀ q ∈ led, q.1 ∉ own.map (·.1) → h'.get? q.1 = some q.2 ∧ q.1 ≠ L ∧ h₀.get? q.1 = none) → Ret s.heap r h' → Q r { s with heap := h', toks := tk' }) :
    wpAny (model prog w) (XTop dp un gd cn cs a ccd cl L outer) (call (.ref f) vs kw) Q E s :=
  C dp un gd cn cs a ccd cl outer A₀ base h₀ L m s Q E hp B F X (fun q hq => N q (ho q hq)) T hk hd hu fun r h' tk' k' hr => by
    have hnm : ∀ b o, h₀.get? b = some o → b ∉ own.map (·.1) := fun b o e hb => by
      obtain ⟨q, hq, rfl⟩ := List.mem_map.mp hb
      have := (N q (ho q hq)).2.2
      rw [e] at this; cases this
    have hL : L ∉ own.map (·.1) := fun hb => by
      obtain ⟨q, hq, e⟩ := List.mem_map.mp hb
      exact (N q (ho q hq)).2.1 e
    obtain ⟨oL, es, ep, e1, e2⟩ := F.ns
    exact h r h' tk' k' ⟨⟨oL, es, ep, k' _ _ (hideAll_get _ e1 hL), e2⟩, fun b o e => k' _ _ (hideAll_get _ (F.keep b o e) (hnm b o e)), F.above⟩
      (fun q hq hn => ⟨k' _ _ (hideAll_get _ (N q hq).1 hn), (N q hq).2⟩) hr
end
abbrev XTopH (hd : Option Value) (dp un : Nat) (gd : Option (List Code)) (cn : PySem.Str) (cs : Scope) (a : Addr) (ccd : Value) (cl : List (PySem.Str × Addr)) (L : Addr) (outer : List Env) : Around :=
  { handled := hd, depth := dp, frames := some (envX cn cs L a ccd cl :: outer), guards := gd, units := un }
/-- a call that turns nothing, wherever it stands (in a handler, too) -/
def GTH (prog : Program) (w : World) (p : Program) (loose : List PySem.Str) (mean : ExcName → Option Value) (mg mb : PySem.Str → Option Value) (n : Nat) (Pre : Heap → Prop) (f : Addr) (vs : List Value) (Ret : Heap → Value → Heap → Prop) : Prop :=
  ∀ (hd : Option Value) (dp un : Nat) (gd : Option (List Code)) (cn : PySem.Str) (cs : Scope) (a : Addr) (ccd : Value) (cl : List (PySem.Str × Addr)) (outer : List Env) (A₀ : Around) (base h₀ : Heap) (L : Addr) (m : PySem.Str → Option Value) (s : Shared) (Q E : Value → Shared → Prop),
    Pre s.heap → Below A₀ base outer h₀ → Fr h₀ L s.heap m → (Mine.hd.heap_39 w.params).In h₀ → Top p loose mean mg mb h₀ → cs.kind = .function → dp + n < recursionLimit → un + 8 * n < cLine →
    (∀ r h' tk', Keeps s.heap h' → Ret s.heap r h' → Q r { s with heap := h', toks := tk' }) →
    wpAny (model prog w) (XTopH hd dp un gd cn cs a ccd cl L outer) (call (.ref f) vs []) Q E s
theorem GTH.use {prog : Program} {w : World} {A₀ : Around} {s : Shared} {L : Addr} {h₀ base : Heap} {m mg mb : PySem.Str → Option Value} {p : Program} {loose : List PySem.Str} {mean : ExcName → Option Value}
    {n dp un : Nat} {hd : Option Value} {Pre : Heap → Prop} {led : List (Addr × Obj)} {f : Addr} {vs : List Value} {Ret : Heap → Value → Heap → Prop} {gd : Option (List Code)} {cn : PySem.Str} {cs : Scope} {a : Addr} {ccd : Value} {cl : List (PySem.Str × Addr)} {outer : List Env} {Q E : Value → Shared → Prop}
    (C : GTH prog w p loose mean mg mb n Pre f vs Ret) (hp : Pre s.heap) (B : Below A₀ base outer h₀) (F : Fr h₀ L s.heap m) (X : (Mine.hd.heap_39 w.params).In h₀) (N : News h₀ L s.heap led) (T : Top p loose mean mg mb h₀) (hk : cs.kind = .function) (hdp : dp + n < recursionLimit) (hu : un + 8 * n < cLine)
    (h : ∀ r h' tk', Keeps s.heap h' → Fr h₀ L h' m → News h₀ L h' led → Ret s.heap r h' → Q r { s with heap := h', toks := tk' }) :
    wpAny (model prog w) (XTopH hd dp un gd cn cs a ccd cl L outer) (call (.ref f) vs []) Q E s :=
  C hd dp un gd cn cs a ccd cl outer A₀ base h₀ L m s Q E hp B F X T hk hdp hu fun r h' tk' k' hr => h r h' tk' k' (keeps_fr k' F) (keeps_news k' N) hr
/-- where the walk is to halt -/
def Halt (P : Prop) : Prop := P
theorem Halt.go {P : Prop} (h : Halt P) : P := h
/-- a function object that stands (not one of the text's own) -/
def StandsFn (h : Heap) (k : Addr) : Prop := ∃ ob fd, h.get? k = some ob ∧ ob.data = .func fd
theorem StandsFn.keeps {h h' : Heap} {k : Addr} (x : StandsFn h k) (kk : Keeps h h') : StandsFn h' k := let ⟨ob, fd, e, d⟩ := x; ⟨ob, fd, kk _ _ e, d⟩
theorem callWith_fn {M : Model} {A : Around} {E : Value → Shared → Prop} {s : Shared} {env : Env} {pos : Pos} {k : Addr} {e : Expr} {rest : List Expr} {Q : Value → Shared → Prop}
    (h : wpAny M A (spliced (backTo pos (starEach (e :: rest) env))) (fun vs s₁ => StandsFn s₁.heap k ∧ wpAny M A (call (.ref k) ([] ++ vs)) Q E s₁) E s)
    (he : starEach (e :: rest) env = (false, eval e env) :: starEach rest env := by rfl) (hplain : (backTo pos (starEach rest env)).any (·.1) = false := by rfl) :
    wpAny M A (callWith pos (.ref k) [] (backTo pos (starEach (e :: rest) env)) []) Q E s := by
  rw [he] at h ⊢
  refine callWith_of (P := fun h => StandsFn h k) (by show ((false || (backTo pos (starEach rest env)).any (·.1)) || false) = false; rw [hplain]; rfl) (fun h hp => ?_) (evalArgs_plain h)
  obtain ⟨⟨c, d, dt, sl⟩, fd, e, hd⟩ := hp
  cases hd
  exact ⟨.frame, .inl rfl, (Looks.ld (part := none) e).andThen .now⟩
/-- a cell that stands -/
def CellAt (h : Heap) (c : Addr) (v : Value) : Prop := ∃ o, h.get? c = some o ∧ o.data = .cell (some v)
theorem CellAt.keeps {h h' : Heap} {c : Addr} {v : Value} (x : CellAt h c v) (kk : Keeps h h') : CellAt h' c v := let ⟨o, e, d⟩ := x; ⟨o, kk _ _ e, d⟩
theorem nameFG {M : Model} {A : Around} {E : Value → Shared → Prop} {s : Shared} {h₀ : Heap} {L a : Addr} {m : PySem.Str → Option Value} {cn : PySem.Str} {cs : Scope} {ccd : Value} {cl : List (PySem.Str × Addr)} {x : PySem.Str} {pos : Pos} {v : Value} {Q : Value → Shared → Prop} {c : Addr}
    (F : Fr h₀ L s.heap m) (hc : cl.lookup x = some c) (hv : CellAt h₀ c v) (h : Q v s)
    (hk : cs.kind = .function := by rfl) (hx : (envX cn cs L a ccd cl).kindOf x = some .free := by rfl) (hb : (x == ("__debug__" : PySem.Str)) = false := by decide) (hn : (x == ("__classdict__" : PySem.Str)) = false := by decide) :
    wpAny M A (eval (.Name x pos) (envX cn cs L a ccd cl)) Q E s := by
  obtain ⟨o, e, d⟩ := hv
  exact wpAny_Name (wpAny_loadName_free hk hx hc ⟨o, F.keep _ _ e, d⟩ h hn) hb
theorem fill : (Mine.hd.heap_39, PySem.Challenge.rw_sr0036_01) = (Mine.hd.heap_39, PySem.Challenge.rw_sr0036_01) := by
  k_fill
  w_top off
  k_with_none
  rfl
end Mine
end

section
open PySem PySem.Builtin PySem.Builtin.Str PySem.StrLaws
namespace Mine
theorem backTx : True := by
  k_with_none
  w_top off
  exact trivial
abbrev PS := PySem.Str
def occF (s sub : PS) (hi limit : Nat) (st : Array Nat × Nat) (i : Nat) : Array Nat × Nat :=
  if ((st.fst.size < limit ∧ st.snd ≤ i) ∧ i + sub.length ≤ hi) ∧ subAt s sub i = true then (st.fst.push i, i + sub.length) else st
theorem occ_fold (s sub : PS) (hi limit : Nat) : ∀ (l : List Nat) (st : Array Nat × Nat), (forIn l st (occBody s sub hi limit)).run = l.foldl (occF s sub hi limit) st
  | [], st => rfl
  | a :: l, st => by
    rw [List.forIn_cons, List.foldl_cons]
    unfold occBody occF
    split
    · exact occ_fold s sub hi limit l _
    · exact occ_fold s sub hi limit l _
theorem fold_none (s sub : PS) (hi limit : Nat) : ∀ (l : List Nat) (st : Array Nat × Nat), (∀ i ∈ l, ¬ At s sub hi i) → l.foldl (occF s sub hi limit) st = st
  | [], _, _ => rfl
  | a :: l, st, h => by
    rw [List.foldl_cons]
    have : occF s sub hi limit st a = st := by
      unfold occF
      rw [if_neg]
      intro hc
      exact h a (List.mem_cons_self ..) ⟨hc.1.2, hc.2⟩
    rw [this]
    exact fold_none s sub hi limit l st fun i hi' => h i (List.mem_cons_of_mem _ hi')
theorem occ_is (s sub : PS) (lo hi limit : Nat) : occurrences s sub lo hi limit = ((List.range' lo (hi + 1 - lo)).foldl (occF s sub hi limit) (#[], lo)).fst.toList := by
  rw [occ_eq, ← occ_fold]

def dots : PS := PySem.Str.ofString "..."
theorem dots_cps : dots.cps.toList = [46, 46, 46] := by decide +kernel
theorem dots_len : dots.length = 3 := by decide +kernel
def want (s : PS) : PS := dots ++ s ++ dots
theorem want_list (s : PS) : (want s).cps.toList = [46, 46, 46] ++ s.cps.toList ++ [46, 46, 46] := by
  unfold want
  rw [Str.cps_append, Str.cps_append, Array.toList_append, Array.toList_append, dots_cps]
theorem want_len (s : PS) : (want s).length = s.length + 6 := by
  unfold want
  rw [Str.length_append, Str.length_append, dots_len]; omega
theorem len_list (s : PS) : s.length = s.cps.toList.length := by simp [PySem.Str.length]
theorem at_want (s : PS) (h1 : 1 ≤ s.length) (hd : 46 ∉ s.cps.toList) (i : Nat) : At (want s) dots (want s).length i ↔ i = 0 ∨ i = 3 + s.length := by
  unfold At
  rw [subAt_eq, want_list, dots_cps, dots_len, want_len]
  rw [len_list] at h1 ⊢
  generalize s.cps.toList = S at *
  rw [beq_iff_eq]
  constructor
  · rintro ⟨a, b⟩
    have get : ∀ k, k < 3 → ([46, 46, 46] ++ S ++ [46, 46, 46])[i + k]? = some 46 := by
      intro k hk
      have := congrArg (·[k]?) b
      simp only [List.getElem?_take, List.getElem?_drop, if_pos hk] at this
      rw [this]
      have : k = 0 ∨ k = 1 ∨ k = 2 := by omega
      rcases this with rfl | rfl | rfl <;> rfl
    have inS : ∀ j, j < S.length → ([46, 46, 46] ++ S ++ [46, 46, 46])[3 + j]? ≠ some 46 := by
      intro j hj e
      rw [List.append_assoc, List.getElem?_append_right (by simp)] at e
      rw [List.getElem?_append_left (by simp; omega)] at e
      exact hd (List.mem_of_getElem? e)
    by_cases i0 : i = 0
    · exact .inl i0
    · refine .inr ?_
      apply Classical.byContradiction
      intro hn
      by_cases i3 : i < 3
      · have := get (3 - i) (by omega)
        rw [show i + (3 - i) = 3 + 0 by omega] at this
        exact inS 0 (by omega) this
      · have := get 0 (by omega)
        rw [show i + 0 = 3 + (i - 3) by omega] at this
        exact inS (i - 3) (by omega) this
  · rintro (rfl | rfl)
    · exact ⟨by omega, rfl⟩
    · refine ⟨by omega, ?_⟩
      rw [List.append_assoc, show 3 + S.length = ([46, 46, 46] : List Nat).length + S.length from rfl, List.drop_length_add_append, List.drop_left]
      rfl
theorem occ_want (s : PS) (h1 : 1 ≤ s.length) (hd : 46 ∉ s.cps.toList) : occurrences (want s) dots 0 (want s).length ((want s).length + 1) = [0, 3 + s.length] := by
  have hat := at_want s h1 hd
  have hl := want_len s
  rw [occ_is]
  have e : List.range' 0 ((want s).length + 1 - 0) = [0] ++ (List.range' 1 (2 + s.length) ++ ([3 + s.length] ++ List.range' (4 + s.length) 3)) := by
    rw [hl]
    have e1 : s.length + 6 + 1 - 0 = 1 + ((2 + s.length) + (1 + 3)) := by omega
    rw [e1, ← List.range'_append_1, ← List.range'_append_1, ← List.range'_append_1]
    congr 1
    congr 1
    · congr 1
      rw [show 0 + 1 + (2 + s.length) = 3 + s.length by omega, show (1 + 3 : Nat) = 3 + 1 from rfl, List.range'_succ, show 3 + s.length + 1 = 4 + s.length by omega]; rfl
  rw [e, List.foldl_append, List.foldl_append, List.foldl_append]
  have f0 : [0].foldl (occF (want s) dots (want s).length ((want s).length + 1)) (#[], 0) = (#[0], 3) := by
    rw [List.foldl_cons, List.foldl_nil]
    unfold occF
    have a := (hat 0).mpr (.inl rfl)
    rw [if_pos ⟨⟨⟨by simp, Nat.le_refl _⟩, a.1⟩, a.2⟩]
    rw [dots_len]; rfl
  rw [f0, fold_none (l := List.range' 1 (2 + s.length))]
  · have f1 : [3 + s.length].foldl (occF (want s) dots (want s).length ((want s).length + 1)) (#[0], 3) = (#[0, 3 + s.length], 3 + s.length + 3) := by
      rw [List.foldl_cons, List.foldl_nil]
      unfold occF
      have a := (hat (3 + s.length)).mpr (.inr rfl)
      rw [if_pos ⟨⟨⟨by simp; omega, by simp⟩, a.1⟩, a.2⟩]
      rw [dots_len]; rfl
    rw [f1, fold_none]
    intro i hi hc
    have := (hat i).mp hc
    have := List.mem_range'_1.mp hi
    omega
  · intro i hi hc
    have := (hat i).mp hc
    have := List.mem_range'_1.mp hi
    omega
theorem kind_dots (x : PS) : ¬ Builtin.Str.strKind x < Builtin.Str.strKind dots := by
  have : Builtin.Str.strKind dots = 1 := by decide +kernel
  rw [this]
  unfold Builtin.Str.strKind
  split
  · omega
  · split <;> omega
theorem strSub_eq (x : PS) (i j : Nat) (l : List Nat) (h : (x.cps.toList.drop i).take (j - i) = l) : strSub x i j = ⟨l.toArray⟩ := by
  refine Str.ext' (Array.toList_inj.mp ?_)
  rw [strSub_toList, h]
theorem split_want (s : PS) (h1 : 1 ≤ s.length) (hd : 46 ∉ s.cps.toList) : Txt.split (want s) dots = [PySem.Str.ofString "", s, PySem.Str.ofString ""] := by
  unfold Txt.split
  have hk : (decide ((want s).length < dots.length) || decide (Builtin.Str.strKind (want s) < Builtin.Str.strKind dots)) = false := by
    rw [decide_eq_false (kind_dots _), want_len, dots_len, decide_eq_false (by omega)]; rfl
  rw [hk, occ_want s h1 hd]
  simp only [Bool.false_eq_true, if_false, List.isEmpty_cons]
  rw [partsBetween_eq]
  have el : ∀ s : PS, s = ⟨s.cps.toList.toArray⟩ := fun s => by cases s; simp
  have en : PySem.Str.ofString "" = ⟨#[]⟩ := by decide +kernel
  show [strSub (want s) 0 0, strSub (want s) (0 + dots.length) (3 + s.length), strSub (want s) (3 + s.length + dots.length) (want s).length] = _
  rw [dots_len, want_len, en]
  congr 1
  · exact strSub_eq _ _ _ [] (by simp)
  · congr 1
    · refine (strSub_eq _ _ _ s.cps.toList ?_).trans (el s).symm
      rw [want_list, List.append_assoc]
      rw [show (0 + 3 : Nat) = ([46, 46, 46] : List Nat).length from rfl, List.drop_append_of_le_length (Nat.le_refl _)]
      simp [len_list]
    · congr 1
      exact strSub_eq _ _ _ [] (by
        rw [show 3 + s.length + 3 = s.length + 6 by omega, List.drop_eq_nil_of_le]
        · simp
        · rw [← len_list, want_len]; omega)
theorem want_in (s : PS) (h1 : 1 ≤ s.length) (hd : 46 ∉ s.cps.toList) : Txt.contains (want s) dots = true := by
  unfold Txt.contains
  rw [found_iff]
  have := (at_want s h1 hd 0).mpr (.inl rfl)
  exact ⟨0, this.1, this.2⟩

/-- where the empty text is found -/
theorem occ_empty (g : PS) (lo : Nat) (h : lo ≤ g.length) : ∃ r, occurrences g (PySem.Str.ofString "") lo g.length 1 = lo :: r := by
  have el : (PySem.Str.ofString "").length = 0 := by decide +kernel
  have ec : (PySem.Str.ofString "").cps.toList = [] := by decide +kernel
  have ha : At g (PySem.Str.ofString "") g.length lo := by
    refine ⟨by rw [el]; omega, ?_⟩
    rw [subAt_eq, el, ec]; simp
  rcases occ_head_from g (PySem.Str.ofString "") lo 1 (Nat.le_refl 1) with ⟨_, hn⟩ | ⟨i, r, h0, hlo, _, hn⟩
  · exact absurd ha (hn lo (Nat.le_refl _))
  · have : i = lo := by
      apply Classical.byContradiction
      intro hne
      exact hn lo (Nat.le_refl _) (by omega) ha
    exact ⟨r, by rw [h0, this]⟩
theorem gives_find4 (x y : PS) (i : Int) (t u v v' : Tok) : Gives («str.find» ⟨[.str x t, .str y u, .int i v, .int (x.length : Int) v'], []⟩) (.int (match occurrences x y (fromIndex x.length i) x.length 1 with | k :: _ => (k : Int) | [] => -1)) := by
  show Gives (match occurrences x y (fromIndex x.length i) (min (fromIndex x.length (x.length : Int)) x.length) 1 with | k :: _ => retInt k | [] => (do rule "str.find.not-found"; retInt (-1))) _
  have e : min (fromIndex x.length (x.length : Int)) x.length = x.length := by
    unfold fromIndex
    rw [if_neg (by omega)]
    omega
  rw [e]
  cases occurrences x y (fromIndex x.length i) x.length 1 with
  | nil => exact .rule (.of_eq rfl)
  | cons k _ => exact .of_eq rfl
section
variable {prog : Program} {w : World} {A : Around} {E : Value → Shared → Prop} {s : Shared} {x y : PS} {t u v v' : Tok} {i : Int} {Q : Value → Shared → Prop}
theorem find4_empty (h0 : 0 ≤ i) (h1 : i ≤ x.length) (hq : Q (.int i s.toks) { s with toks := s.toks + 1 }) : wpAny (model prog w) A (call (.builtin "str.find") [.str x t, .str (PySem.Str.ofString "") u, .int i v, .int (x.length : Int) v']) Q E s := by
  have e : fromIndex x.length i = i.toNat := by
    unfold fromIndex
    rw [if_neg (by omega)]
    omega
  have g := gives_find4 x (PySem.Str.ofString "") i t u v v'
  rw [e] at g
  obtain ⟨r, hr⟩ := occ_empty x i.toNat (by omega)
  rw [hr] at g
  have e2 : ((i.toNat : Nat) : Int) = i := Int.toNat_of_nonneg h0
  dsimp only at g
  rw [e2] at g
  exact call_gives F.slot_str_find (typeIs_str _ _ _) F.entry_str_find (F.args_str_find_4 _ _ _ _) g hq
theorem find4_zero (hi : i = 0) (h1 : Txt.contains x y = false → Q (.int (-1) s.toks) { s with toks := s.toks + 1 })
    (h2 : ∀ k : Nat, Txt.contains x y = true → k + y.length ≤ x.length → Q (.int (k : Int) s.toks) { s with toks := s.toks + 1 }) : wpAny (model prog w) A (call (.builtin "str.find") [.str x t, .str y u, .int i v, .int (x.length : Int) v']) Q E s := by
  subst hi
  have e : fromIndex x.length 0 = 0 := by
    unfold fromIndex
    simp
  have g := gives_find4 x y 0 t u v v'
  rw [e] at g
  have hc : Txt.contains x y = !(occurrences x y 0 x.length 1).isEmpty := rfl
  rcases occ_head_from x y 0 1 (Nat.le_refl 1) with ⟨h0, _⟩ | ⟨k, r, h0, _, ha, _⟩
  · rw [h0] at g hc
    exact call_gives F.slot_str_find (typeIs_str _ _ _) F.entry_str_find (F.args_str_find_4 _ _ _ _) g (h1 hc)
  · rw [h0] at g hc
    exact call_gives F.slot_str_find (typeIs_str _ _ _) F.entry_str_find (F.args_str_find_4 _ _ _ _) g (h2 k hc ha.1)
theorem notin_want (q : PS) (h1 : 1 ≤ q.length) (hd : 46 ∉ q.cps.toList) (h : Q (.bool false) s) : wpAny (model prog w) A (compareOp .NotIn (.str (PySem.Str.ofString "...") u) (.str (want q) t)) Q E s :=
  SB.notContains (by
    have : Txt.contains (want q) (PySem.Str.ofString "...") = true := want_in q h1 hd
    rw [this]; exact h)
end
end Mine
end

section
open PySem PySem.W PySem.Calls PyProof.Rows
namespace Mine
theorem backEm : True := by
  k_with_none
  w_top off
  exact trivial
section
variable {prog : Program} {w : World} {A : Around} {E : Value → Shared → Prop} {s : Shared} {h₀ : Heap} {L : Addr} {m : PySem.Str → Option Value} {news : List (Addr × Obj)} {x : PySem.Str} {t u : Tok} {Q : Value → Shared → Prop}
theorem split_rule (hF : Fr h₀ L s.heap m) (hN : News h₀ L s.heap news) (h1 : 1 ≤ x.length) (hd : 46 ∉ x.cps.toList) (hsz : x.length ≤ 10)
    (h : ∀ D t1 t2 t3 h' k, Fr h₀ L h' m → News h₀ L h' ((D, listOf [.str (PySem.Str.ofString "") t1, .str x t2, .str (PySem.Str.ofString "") t3].toArray 0) :: news) → (∀ p ∈ news, p.1 < D) → Q (.ref D) { s with heap := h', toks := k }) :
    wpAny (model prog w) A (call (.builtin "str.split") [.str (want x) t, .str (PySem.Str.ofString "...") u]) Q E s :=
  KSpl.split1 hF hN (by decide +kernel) (fun D l h' k e _ F N lt => by
    have e2 := e.trans (split_want x h1 hd)
    obtain ⟨t1, l1, rfl, e3⟩ := KSpl.cons_of e2
    obtain ⟨t2, l2, rfl, e4⟩ := KSpl.cons_of e3
    obtain ⟨t3, l3, rfl, e5⟩ := KSpl.cons_of e4
    have e6 := KSpl.nil_of e5
    subst e6
    exact h D t1 t2 t3 h' k F N lt) (by rw [want_len, sizeLine_eq]; omega)
end
section
variable {prog : Program} {w : World} {p : Program} {loose : List PySem.Str} {mean : ExcName → Option Value} {mg mb : PySem.Str → Option Value}
theorem em (hs₀ : Heap) (s g : PySem.Str) (t u : Tok) (h1 : 1 ≤ s.length) (h2 : s.length ≤ 10) (hg : g.length ≤ 10) (hd : 46 ∉ s.cps.toList) :
    PT prog w p loose mean mg mb 2 hs₀ 39 [.str (want s) t, .str g u] [] (fun r => r = .bool (Txt.contains g s)) := by
  k_with_none
  k_with "compareOp NotIn str str" => ((k_here; refine notin_want _ (by assumption) (by assumption) ?_))
  k_with "call builtin:str.split" => ((k_here; (refine split_rule (by k_asm) (by k_asm) (by assumption) (by assumption) (by assumption) ?_); intro D' t1 t2 t3 h' k' F' N' l1; (try k_lt l1)))
  k_with "call builtin:str.find" => ((k_here; (with_reducible show wpAny _ _ (call (Value.builtin "str.find") [Value.str _ _, Value.str _ _, Value.int _ _, Value.int _ _]) _ _ _); first
  | (refine find4_empty ?h0 ?h1 ?_; (case h0 => omega); (case h1 => omega))
  | (refine find4_zero ?h0 ?way1 ?way2; (case h0 => rfl); (case' way1 => intro hc); (case' way2 => intro k hc hk))))
  unfold PT GT
  intro dp un gd cn cs a ccd cl outer A₀ base h₀ L m s Q E hks B F X N T hk hdp hun hret
  refine wpAny_call ?_
  k_dflt (refine' enterP ?k1 ?k2 ?k3 ?k4 ?k5 ?kA ?kF ?kK ?k6 ?k7 ?k8 ?k9 ?kB ?_ ?c2 ?c3 ?c4 ?c5; (case kA => exact rfl); (case kF => exact rfl); (case kK => assumption); (case k1 => k_asm); (case k2 => k_asm); (case k3 => k_asm); (case k4 => k_asm); (case k5 => k_asm); (case k6 => k_is); (case k7 => k_is); (case k8 => ktr_room); (case k9 => exact BindsTo.of_eq rfl); (case c5 => decide); (case kB => exact locs rfl); (case c2 => exact rfl); (case c3 => exact rfl); (case c4 => exact rfl); k_whole; intro g' L' h' hgq FG' F' N' B' X' T' l1; (try dsimp only); (try k_lift B'); (try k_fold))
  clear F N X T B hks
  k_steps
  all_goals (
    (refine' leaveE ?k1 ?k2 ?_; (case k1 => k_asm); (case k2 => k_asm))
    (intro kk _)
    (dsimp only)
    (refine hret _ _ _ (fun b o e => kk b o (hgq ▸ e)) ?_)
    (dsimp only)
    exact congrArg Value.bool (Eq.symm (by assumption)))
end
end Mine
end

section
open PySem PySem.W PySem.Calls PyProof.Rows
namespace Mine
theorem backBi : True := by
  k_with_none
  w_top off
  exact trivial
theorem getD_mem {ns : List Int} {n : Nat} (h : n < ns.length) : ns.getD n 0 ∈ ns := by
  rw [List.getD_eq_getElem?_getD, List.getElem?_eq_getElem h]
  exact List.getElem_mem h
theorem mid_lt {ns : List Int} {lo hi : Int} (h0 : 0 ≤ lo) (h1 : lo < hi) (h2 : hi ≤ (ns.length : Int)) : ((lo + hi).fdiv 2).toNat < ns.length := by
  rw [Int.fdiv_eq_ediv_of_nonneg _ (by omega)]
  omega
def BI (f : Int → Bool) (ns : List Int) (lo hi : Int) : Prop := (∀ i : Nat, (i : Int) < lo → ∀ v, ns[i]? = some v → f v = false) ∧ (∀ i : Nat, hi ≤ (i : Int) → ∀ v, ns[i]? = some v → f v = true)
theorem fdiv_mid {lo hi : Int} (h0 : 0 ≤ lo) (h1 : lo < hi) : lo ≤ (lo + hi).fdiv 2 ∧ (lo + hi).fdiv 2 < hi := by
  rw [Int.fdiv_eq_ediv_of_nonneg _ (by omega)]
  omega
theorem getD_at {ns : List Int} {i : Nat} {v : Int} (h : ns[i]? = some v) : ns.getD i 0 = v := by
  rw [List.getD_eq_getElem?_getD, h]; rfl
theorem at_getD {ns : List Int} {i : Nat} (h : i < ns.length) : ns[i]? = some (ns.getD i 0) := by
  rw [List.getD_eq_getElem?_getD, List.getElem?_eq_getElem h]; rfl
abbrev Mono (f : Int → Bool) (ns : List Int) : Prop := ∀ i j : Nat, i ≤ j → ∀ v v', ns[i]? = some v → ns[j]? = some v' → f v = true → f v' = true
theorem bi_lo {f : Int → Bool} {ns : List Int} {lo hi : Int} (mono : Mono f ns) (h0 : 0 ≤ lo) (h1 : lo < hi) (h2 : hi ≤ (ns.length : Int)) (I : BI f ns lo hi) (hf : f (ns.getD ((lo + hi).fdiv 2).toNat 0) = false) :
    0 ≤ (lo + hi).fdiv 2 + 1 ∧ (lo + hi).fdiv 2 + 1 ≤ hi ∧ hi ≤ (ns.length : Int) ∧ BI f ns ((lo + hi).fdiv 2 + 1) hi := by
  have m := fdiv_mid h0 h1
  generalize (lo + hi).fdiv 2 = mid at *
  refine ⟨by omega, by omega, h2, fun i hi' v hv => ?_, I.2⟩
  cases hfv : f v with
  | false => rfl
  | true =>
    have := mono i mid.toNat (by omega) v _ hv (at_getD (by omega)) hfv
    rw [hf] at this; cases this
theorem bi_hi {f : Int → Bool} {ns : List Int} {lo hi : Int} (mono : Mono f ns) (h0 : 0 ≤ lo) (h1 : lo < hi) (h2 : hi ≤ (ns.length : Int)) (I : BI f ns lo hi) (hf : f (ns.getD ((lo + hi).fdiv 2).toNat 0) = true) :
    0 ≤ lo ∧ lo ≤ (lo + hi).fdiv 2 ∧ (lo + hi).fdiv 2 ≤ (ns.length : Int) ∧ BI f ns lo ((lo + hi).fdiv 2) := by
  have m := fdiv_mid h0 h1
  generalize (lo + hi).fdiv 2 = mid at *
  refine ⟨h0, by omega, by omega, I.1, fun i hi' v hv => ?_⟩
  exact mono mid.toNat i (by omega) _ v (at_getD (by omega)) hv hf
theorem ms_lo {lo hi : Int} (h0 : 0 ≤ lo) (h1 : lo < hi) : (hi - ((lo + hi).fdiv 2 + 1)).toNat < (hi - lo).toNat := by
  have m := fdiv_mid h0 h1
  omega
theorem ms_hi {lo hi : Int} (h0 : 0 ≤ lo) (h1 : lo < hi) : ((lo + hi).fdiv 2 - lo).toNat < (hi - lo).toNat := by
  have m := fdiv_mid h0 h1
  omega
theorem bi_end {f : Int → Bool} {ns : List Int} {lo hi : Int} {t : Tok} (h0 : 0 ≤ lo) (h1 : lo ≤ hi) (h2 : hi ≤ (ns.length : Int)) (I : BI f ns lo hi) (hn : ¬ lo < hi) : ∃ c t', Value.int lo t = Value.int c t' ∧ 0 ≤ c ∧ c ≤ (ns.length : Int) ∧ BI f ns c c := by
  have : lo = hi := by omega
  subst this
  exact ⟨lo, t, rfl, h0, h2, I⟩
theorem b2i_lt {b : Bool} (h : b2i b < b2i true) : b = false := by cases b <;> first | rfl | (exact absurd h (by decide))
theorem b2i_nlt {b : Bool} (h : ¬ b2i b < b2i true) : b = true := by cases b <;> first | rfl | (exact absurd (by decide) h)
theorem b2i_lt' {b : Bool} (h : b2i false < b2i b) : b = true := by cases b <;> first | rfl | (exact absurd h (by decide))
theorem b2i_nlt' {b : Bool} (h : ¬ b2i false < b2i b) : b = false := by cases b <;> first | rfl | (exact absurd (by decide) h)
section
variable {prog : Program} {w : World} {p : Program} {loose : List PySem.Str} {mean : ExcName → Option Value} {mg mb : PySem.Str → Option Value}
theorem bisl (hs₀ : Heap) (l k : Addr) (vs : List Value) (ns : List Int) (f : Int → Bool)
    (hl : hs₀.IsList l vs.toArray) (hi : IntsAre vs ns) (hlen : ns.length ≤ 20)
    (hmono : Mono f ns)
    (hfn : StandsFn hs₀ k)
    (hkey : ∀ i ∈ ns, ∀ t, PT prog w p loose mean mg mb 5 hs₀ k [.int i t] [] (fun r => r = .bool (f i))) :
    PT prog w p loose mean mg mb 6 hs₀ 32 [.ref l, .bool true] [(PySem.Str.ofString "key", .ref k)] (fun r => ∃ c t, r = .int c t ∧ 0 ≤ c ∧ c ≤ ns.length ∧ BI f ns c c) := by
  k_with_none
  k_with "callWith" => ((k_here; (with_reducible show wpAny _ _ (callWith _ (Value.ref _) _ _ _) _ _ _); k_dflt (refine' callWith_fn ?_; k_whole)))
  k_with "And" => (((with_reducible show StandsFn _ _ ∧ _); refine ⟨StandsFn.keeps (by assumption) (Fr.keep (by k_asm)), ?_⟩; try dsimp only [List.nil_append, List.cons_append]))
  unfold PT GT
  intro dp un gd cn cs a ccd cl outer A₀ base h₀ L m s Q E hks B F X N T hk hdp hun hret
  refine wpAny_call ?_
  k_dflt (refine' enterP ?k1 ?k2 ?k3 ?k4 ?k5 ?kA ?kF ?kK ?k6 ?k7 ?k8 ?k9 ?kB ?_ ?c2 ?c3 ?c4 ?c5; (case kA => exact rfl); (case kF => exact rfl); (case kK => assumption); (case k1 => k_asm); (case k2 => k_asm); (case k3 => k_asm); (case k4 => k_asm); (case k5 => k_asm); (case k6 => k_is); (case k7 => k_is); (case k8 => ktr_room); (case k9 => first | exact binds_K (by k_in) rfl (by k_is) rfl rfl rfl | exact BindsTo.of_eq rfl); (case c5 => decide); (case kB => exact locs rfl); (case c2 => exact rfl); (case c3 => exact rfl); (case c4 => exact rfl); k_whole; intro g' L' h' hgq FG' F' N' B' X' T' l1; (try dsimp only); (try k_lift B'); (try k_fold))
  clear F N X T B
  have hg : g' = s.heap := hgq
  have hlg : g'.IsList l vs.toArray := stays_list (by rw [hg]; exact hks) hl
  have hfg : StandsFn g' k := hfn.keeps (by rw [hg]; exact hks)
  have hkg : ∀ i ∈ ns, ∀ t, PT prog w p loose mean mg mb 5 g' k [.int i t] [] (fun r => r = .bool (f i)) := fun i hi t => PT.up (hkey i hi t) (by rw [hg]; exact hks)
  k_with "exec While Compare cons nil" => k_while (fun script lo hi => 0 ≤ lo ∧ lo ≤ hi ∧ hi ≤ (script.length : Int) ∧ BI f script lo hi) (fun script lo hi => (hi - lo).toNat) "lo" "hi"
  k_with "call ref" => ((k_dflt (refine' PT.use (hkg _ ?hm _) ?k1 ?k2 ?k3 ?k4 ?k5 ?k6 rfl ?k7 ?k8 ?_; (case hm => exact getD_mem (mid_lt (by assumption) (by assumption) (by assumption))); (case k1 => exact Fr.keep (by k_asm)); (case k2 => k_asm); (case k3 => k_asm); (case k4 => k_asm); (case k5 => k_asm); (case k6 => k_asm); (case k7 => ktr_room); (case k8 => ktr_units); k_whole)); (intro r9 h9 tk9 kk9 F9 N9 hr9); subst hr9)
  k_with "state" => first | exact bi_lo hmono (by assumption) (by assumption) (by assumption) (by assumption) (b2i_lt (by assumption)) | exact bi_hi hmono (by assumption) (by assumption) (by assumption) (by assumption) (b2i_nlt (by assumption))
  k_with "measure" => first | exact ms_lo (by assumption) (by assumption) | exact ms_hi (by assumption) (by assumption)
  k_steps
  all_goals (
    (refine' leaveE ?k1 ?k2 ?_; (case k1 => k_asm); (case k2 => k_asm))
    (intro kk _)
    (dsimp only)
    (refine hret _ _ _ (fun b o e => kk b o (hgq ▸ e)) ?_)
    (dsimp only))
  all_goals exact bi_end (by assumption) (by assumption) (by assumption) (by assumption) (by assumption)
theorem bisr (hs₀ : Heap) (l k : Addr) (vs : List Value) (ns : List Int) (f : Int → Bool)
    (hl : hs₀.IsList l vs.toArray) (hi : IntsAre vs ns) (hlen : ns.length ≤ 20)
    (hmono : Mono f ns)
    (hfn : StandsFn hs₀ k)
    (hkey : ∀ i ∈ ns, ∀ t, PT prog w p loose mean mg mb 5 hs₀ k [.int i t] [] (fun r => r = .bool (f i))) :
    PT prog w p loose mean mg mb 6 hs₀ 23 [.ref l, .bool false] [(PySem.Str.ofString "key", .ref k)] (fun r => ∃ c t, r = .int c t ∧ 0 ≤ c ∧ c ≤ ns.length ∧ BI f ns c c) := by
  k_with_none
  k_with "callWith" => ((k_here; (with_reducible show wpAny _ _ (callWith _ (Value.ref _) _ _ _) _ _ _); k_dflt (refine' callWith_fn ?_; k_whole)))
  k_with "And" => (((with_reducible show StandsFn _ _ ∧ _); refine ⟨StandsFn.keeps (by assumption) (Fr.keep (by k_asm)), ?_⟩; try dsimp only [List.nil_append, List.cons_append]))
  unfold PT GT
  intro dp un gd cn cs a ccd cl outer A₀ base h₀ L m s Q E hks B F X N T hk hdp hun hret
  refine wpAny_call ?_
  k_dflt (refine' enterP ?k1 ?k2 ?k3 ?k4 ?k5 ?kA ?kF ?kK ?k6 ?k7 ?k8 ?k9 ?kB ?_ ?c2 ?c3 ?c4 ?c5; (case kA => exact rfl); (case kF => exact rfl); (case kK => assumption); (case k1 => k_asm); (case k2 => k_asm); (case k3 => k_asm); (case k4 => k_asm); (case k5 => k_asm); (case k6 => k_is); (case k7 => k_is); (case k8 => ktr_room); (case k9 => first | exact binds_K (by k_in) rfl (by k_is) rfl rfl rfl | exact BindsTo.of_eq rfl); (case c5 => decide); (case kB => exact locs rfl); (case c2 => exact rfl); (case c3 => exact rfl); (case c4 => exact rfl); k_whole; intro g' L' h' hgq FG' F' N' B' X' T' l1; (try dsimp only); (try k_lift B'); (try k_fold))
  clear F N X T B
  have hg : g' = s.heap := hgq
  have hlg : g'.IsList l vs.toArray := stays_list (by rw [hg]; exact hks) hl
  have hfg : StandsFn g' k := hfn.keeps (by rw [hg]; exact hks)
  have hkg : ∀ i ∈ ns, ∀ t, PT prog w p loose mean mg mb 5 g' k [.int i t] [] (fun r => r = .bool (f i)) := fun i hi t => PT.up (hkey i hi t) (by rw [hg]; exact hks)
  k_with "exec While Compare cons nil" => k_while (fun script lo hi => 0 ≤ lo ∧ lo ≤ hi ∧ hi ≤ (script.length : Int) ∧ BI f script lo hi) (fun script lo hi => (hi - lo).toNat) "lo" "hi"
  k_with "call ref" => ((k_dflt (refine' PT.use (hkg _ ?hm _) ?k1 ?k2 ?k3 ?k4 ?k5 ?k6 rfl ?k7 ?k8 ?_; (case hm => exact getD_mem (mid_lt (by assumption) (by assumption) (by assumption))); (case k1 => exact Fr.keep (by k_asm)); (case k2 => k_asm); (case k3 => k_asm); (case k4 => k_asm); (case k5 => k_asm); (case k6 => k_asm); (case k7 => ktr_room); (case k8 => ktr_units); k_whole)); (intro r9 h9 tk9 kk9 F9 N9 hr9); subst hr9)
  k_with "state" => first | exact bi_lo hmono (by assumption) (by assumption) (by assumption) (by assumption) (b2i_nlt' (by assumption)) | exact bi_hi hmono (by assumption) (by assumption) (by assumption) (by assumption) (b2i_lt' (by assumption))
  k_with "measure" => first | exact ms_lo (by assumption) (by assumption) | exact ms_hi (by assumption) (by assumption)
  k_steps
  all_goals (
    (refine' leaveE ?k1 ?k2 ?_; (case k1 => k_asm); (case k2 => k_asm))
    (intro kk _)
    (dsimp only)
    (refine hret _ _ _ (fun b o e => kk b o (hgq ▸ e)) ?_)
    (dsimp only))
  all_goals exact bi_end (by assumption) (by assumption) (by assumption) (by assumption) (by assumption)
end
end Mine
end

section
open PySem PySem.Builtin PySem.Builtin.Str PySem.StrLaws
namespace Mine
theorem backPl : True := by
  k_with_none
  w_top off
  exact trivial
/-- the stretch of n signs from b on begins at an earlier place, too -/
def occB (X : List Nat) (b n : Nat) : Bool := (List.range b).any fun p => (X.drop p).take n == (X.drop b).take n
theorem occB_iff {X : List Nat} {b n : Nat} : occB X b n = true ↔ ∃ p, p < b ∧ (X.drop p).take n = (X.drop b).take n := by
  simp [occB, List.any_eq_true]
theorem occB_mono {X : List Nat} {b n m : Nat} (h : occB X b n = true) (hm : m ≤ n) : occB X b m = true := by
  obtain ⟨p, hp, e⟩ := occB_iff.mp h
  refine occB_iff.mpr ⟨p, hp, ?_⟩
  have := congrArg (List.take m) e
  simpa [List.take_take, Nat.min_eq_left hm] using this
def mostN (X : List Nat) (b : Nat) : Nat → Nat
  | 0 => 0
  | n + 1 => if occB X b (n + 1) = true then n + 1 else mostN X b n
def most (X : List Nat) (b : Nat) : Nat := mostN X b (X.length - b)
theorem mostN_le (X : List Nat) (b : Nat) : ∀ n, mostN X b n ≤ n
  | 0 => Nat.le_refl _
  | n + 1 => by
    unfold mostN
    split
    · exact Nat.le_refl _
    · exact Nat.le_succ_of_le (mostN_le X b n)
theorem mostN_occ (X : List Nat) (b : Nat) : ∀ n, mostN X b n ≠ 0 → occB X b (mostN X b n) = true
  | 0, h => absurd rfl h
  | n + 1, h => by
    unfold mostN at h ⊢
    split
    · assumption
    · rename_i hc; rw [if_neg hc] at h; exact mostN_occ X b n h
theorem mostN_max (X : List Nat) (b : Nat) : ∀ n m, m ≤ n → occB X b m = true → m ≤ mostN X b n
  | 0, m, h, _ => by have : m = 0 := by omega
                     subst this; exact Nat.zero_le _
  | n + 1, m, h, ho => by
    unfold mostN
    split
    · exact h
    · rename_i hc
      by_cases e : m = n + 1
      · subst e; exact absurd ho hc
      · exact mostN_max X b n m (by omega) ho
theorem most_le (X : List Nat) (b : Nat) : most X b ≤ X.length - b := mostN_le X b _
theorem most_occ {X : List Nat} {b : Nat} (h : most X b ≠ 0) : occB X b (most X b) = true := mostN_occ X b _ h
theorem most_max {X : List Nat} {b m : Nat} (h : m ≤ X.length - b) (ho : occB X b m = true) : m ≤ most X b := mostN_max X b _ m h ho
theorem most_of {X : List Nat} {b c : Nat} (hc : c ≤ X.length - b) (h1 : ∀ n, 1 ≤ n → n ≤ c → occB X b n = true) (h2 : ∀ n, c < n → n ≤ X.length - b → occB X b n = false) : c = most X b := by
  have a : most X b ≤ c := by
    apply Classical.byContradiction
    intro hn
    have hp : most X b ≠ 0 := by omega
    have := most_occ hp
    rw [h2 _ (by omega) (most_le X b)] at this
    cases this
  have d : c ≤ most X b := by
    by_cases c0 : c = 0
    · omega
    · exact most_max hc (h1 c (by omega) (Nat.le_refl _))
  omega

/-- texts as lists -/
theorem sliceN (x : PS) (a b : Nat) (hab : a ≤ b) (hb : b ≤ x.length) : (Txt.slice x (some (a : Int)) (some (b : Int))).cps.toList = (x.cps.toList.drop a).take (b - a) := by
  have e := sliced_plain x hab hb
  unfold Txt.slice
  split
  · rename_i hc
    have hl : (strSliceIndices (some (a : Int)) (some (b : Int)) 1 x.length).length = x.length := by simpa using hc
    rw [strSliceIndices_plain hab hb] at hl
    have hl' : b - a = x.length := by simpa using hl
    have ha : a = 0 := by omega
    subst ha
    rw [hl', len_list, List.drop_zero, List.take_length]
  · show (List.filterMap _ _).toArray.toList = _
    rw [e]
theorem prefN (x : PS) (b : Nat) (hb : b ≤ x.length) : (Txt.slice x none (some (b : Int))).cps.toList = x.cps.toList.take b := by
  have e : Txt.slice x none (some (b : Int)) = Txt.slice x (some ((0 : Nat) : Int)) (some (b : Int)) := by unfold Txt.slice; rw [sliceIdx_none_lo]; rfl
  rw [e, sliceN x 0 b (Nat.zero_le _) hb]
  rfl
theorem sliceN_len (x : PS) (a b : Nat) (hab : a ≤ b) (hb : b ≤ x.length) : (Txt.slice x (some (a : Int)) (some (b : Int))).length = b - a := by
  rw [len_list, sliceN x a b hab hb, List.length_take, List.length_drop, ← len_list]
  exact Nat.min_eq_left (Nat.sub_le_sub_right hb a)
theorem prefN_len (x : PS) (b : Nat) (hb : b ≤ x.length) : (Txt.slice x none (some (b : Int))).length = b := by
  rw [len_list, prefN x b hb, List.length_take, ← len_list]
  exact Nat.min_eq_left hb
theorem slice_ss (x : PS) (i j : Int) (h0 : 0 ≤ i) (h1 : i ≤ j) (h2 : j ≤ x.length) : (Txt.slice x (some i) (some j)).cps.toList = (x.cps.toList.drop i.toNat).take (j.toNat - i.toNat) := by
  obtain ⟨a, rfl⟩ := Int.eq_ofNat_of_zero_le h0
  obtain ⟨b, rfl⟩ := Int.eq_ofNat_of_zero_le (Int.le_trans h0 h1)
  exact sliceN x a b (Int.ofNat_le.mp h1) (Int.ofNat_le.mp h2)
theorem slice_ns (x : PS) (j : Int) (h1 : 0 ≤ j) (h2 : j ≤ x.length) : (Txt.slice x none (some j)).cps.toList = x.cps.toList.take j.toNat := by
  obtain ⟨b, rfl⟩ := Int.eq_ofNat_of_zero_le h1
  exact prefN x b (Int.ofNat_le.mp h2)
theorem slice_ss_len (x : PS) (i j : Int) (h0 : 0 ≤ i) (h1 : i ≤ j) (h2 : j ≤ x.length) : (Txt.slice x (some i) (some j)).length = j.toNat - i.toNat := by
  obtain ⟨a, rfl⟩ := Int.eq_ofNat_of_zero_le h0
  obtain ⟨b, rfl⟩ := Int.eq_ofNat_of_zero_le (Int.le_trans h0 h1)
  exact sliceN_len x a b (Int.ofNat_le.mp h1) (Int.ofNat_le.mp h2)
theorem slice_ns_len (x : PS) (j : Int) (h1 : 0 ≤ j) (h2 : j ≤ x.length) : (Txt.slice x none (some j)).length = j.toNat := by
  obtain ⟨b, rfl⟩ := Int.eq_ofNat_of_zero_le h1
  exact prefN_len x b (Int.ofNat_le.mp h2)
theorem slice_no {x : PS} {i j : Int} (h0 : 0 ≤ i) (h1 : i ≤ j) (h2 : j ≤ x.length) (hd : 46 ∉ x.cps.toList) : 46 ∉ (Txt.slice x (some i) (some j)).cps.toList := by
  rw [slice_ss x i j h0 h1 h2]
  exact fun h => hd (List.mem_of_mem_drop (List.mem_of_mem_take h))
theorem contains_iff (g s : PS) : Txt.contains g s = true ↔ ∃ i, i + s.length ≤ g.length ∧ (g.cps.toList.drop i).take s.length = s.cps.toList := by
  unfold Txt.contains
  rw [found_iff]
  constructor
  · rintro ⟨i, a, h⟩; rw [subAt_eq, beq_iff_eq] at h; exact ⟨i, a, h⟩
  · rintro ⟨i, a, h⟩; exact ⟨i, a, by rw [subAt_eq, beq_iff_eq]; exact h⟩
theorem cast_sub1 (b n : Nat) (h : 1 ≤ n) : (b : Int) + (n : Int) - 1 = ((b + n - 1 : Nat) : Int) := by omega
theorem contains_most (x : PS) (b n : Nat) (hn : 1 ≤ n) (hb : b + n ≤ x.length) :
    Txt.contains (Txt.slice x none (some ((b : Int) + (n : Int) - 1))) (Txt.slice x (some (b : Int)) (some ((b : Int) + (n : Int)))) = occB x.cps.toList b n := by
  have hb1 : b + n - 1 ≤ x.length := Nat.le_trans (Nat.sub_le _ _) hb
  rw [cast_sub1 b n hn, ← Int.natCast_add]
  have e1 := prefN x (b + n - 1) hb1
  have e2 := sliceN x b (b + n) (Nat.le_add_right _ _) hb
  have l1 := prefN_len x (b + n - 1) hb1
  have l2 := sliceN_len x b (b + n) (Nat.le_add_right _ _) hb
  rw [Nat.add_sub_cancel_left] at e2 l2
  rw [Bool.eq_iff_iff, contains_iff, occB_iff, l1, l2, e1, e2]
  constructor
  · rintro ⟨i, a, h⟩
    refine ⟨i, by omega, ?_⟩
    rw [← h, List.drop_take, List.take_take, Nat.min_eq_left (by omega)]
  · rintro ⟨i, a, h⟩
    refine ⟨i, by omega, ?_⟩
    rw [← h, List.drop_take, List.take_take, Nat.min_eq_left (by omega)]
def lf1 (x : PS) (b i : Int) : Bool := !(Txt.contains (Txt.slice x none (some (b + i - 1))) (Txt.slice x (some b) (some (b + i))))
theorem lf1_eq (x : PS) (b n : Nat) (hn : 1 ≤ n) (hb : b + n ≤ x.length) : lf1 x b n = !(occB x.cps.toList b n) := by
  unfold lf1
  rw [contains_most x b n hn hb]
theorem rangeKs_get {a : Int} {n i : Nat} {v : Int} (h : (PySem.W.rangeKs a n)[i]? = some v) : i < n ∧ v = a + i := by
  unfold PySem.W.rangeKs at h
  rw [List.getElem?_map] at h
  by_cases hi : i < n
  · rw [List.getElem?_range hi] at h
    exact ⟨hi, (Option.some.inj h).symm⟩
  · rw [List.getElem?_eq_none (by simpa using hi)] at h
    cases h
theorem rangeKs_at {a : Int} {n i : Nat} (h : i < n) : (PySem.W.rangeKs a n)[i]? = some (a + i) := by
  unfold PySem.W.rangeKs
  rw [List.getElem?_map, List.getElem?_range h]; rfl
theorem most_mono (x : PS) (b : Int) (h0 : 0 ≤ b) (h1 : b < x.length) : Mono (lf1 x b) (PySem.W.rangeKs 1 ((x.length : Int) - b + 1 - 1).toNat) := by
  obtain ⟨b, rfl⟩ := Int.eq_ofNat_of_zero_le h0
  intro i j hij v v' hv hv' hf
  obtain ⟨hi, rfl⟩ := rangeKs_get hv
  obtain ⟨hj, rfl⟩ := rangeKs_get hv'
  have e1 : (1 + (i : Int)) = ((1 + i : Nat) : Int) := by omega
  have e2 : (1 + (j : Int)) = ((1 + j : Nat) : Int) := by omega
  rw [e1, lf1_eq x b (1 + i) (by omega) (by omega), Bool.not_eq_true'] at hf
  rw [e2, lf1_eq x b (1 + j) (by omega) (by omega), Bool.not_eq_true']
  cases h : occB x.cps.toList b (1 + j) with
  | false => rfl
  | true => rw [occB_mono h (by omega)] at hf; cases hf
theorem most_end (x : PS) (b c : Int) (h0 : 0 ≤ b) (h1 : b < x.length) (hc0 : 0 ≤ c) (hc : c ≤ ((PySem.W.rangeKs 1 ((x.length : Int) - b + 1 - 1).toNat).length : Int)) (I : BI (lf1 x b) (PySem.W.rangeKs 1 ((x.length : Int) - b + 1 - 1).toNat) c c) :
    c = ((most x.cps.toList b.toNat : Nat) : Int) := by
  obtain ⟨b, rfl⟩ := Int.eq_ofNat_of_zero_le h0
  obtain ⟨c, rfl⟩ := Int.eq_ofNat_of_zero_le hc0
  rw [PySem.W.rangeKs_length] at hc
  have eb : ((b : Nat) : Int).toNat = b := by omega
  rw [eb]
  have hl := len_list x
  have := most_of (X := x.cps.toList) (b := b) (c := c) (by omega) (fun n hn hnc => ?_) (fun n hn hnl => ?_)
  · omega
  · have := I.1 (n - 1) (by omega) _ (rangeKs_at (by omega))
    rw [show (1 + ((n - 1 : Nat) : Int)) = (n : Int) by omega, lf1_eq x b n hn (by omega)] at this
    simpa using this
  · have := I.2 (n - 1) (by omega) _ (rangeKs_at (by omega))
    rw [show (1 + ((n - 1 : Nat) : Int)) = (n : Int) by omega, lf1_eq x b n (by omega) (by omega)] at this
    simpa using this
def first (X : List Nat) (b n : Nat) : Nat := ((List.range b).find? fun p => (X.drop p).take n == (X.drop b).take n).getD b
theorem find_range {q : Nat → Bool} : ∀ {b : Nat}, (((List.range b).find? q = none ∧ ∀ p, p < b → q p = false) ∨ ∃ p, (List.range b).find? q = some p ∧ p < b ∧ q p = true ∧ ∀ k, k < p → q k = false) := by
  intro b
  induction b with
  | zero => exact .inl ⟨rfl, fun p h => absurd h (Nat.not_lt_zero _)⟩
  | succ b ih =>
    rw [List.range_succ, List.find?_append]
    rcases ih with ⟨e, hn⟩ | ⟨p, e, hp, hq, hn⟩
    · rw [e]
      cases hb : q b with
      | true => exact .inr ⟨b, by simp [hb], Nat.lt_succ_self _, hb, hn⟩
      | false =>
        refine .inl ⟨by simp [hb], fun p hp => ?_⟩
        by_cases h : p = b
        · rw [h]; exact hb
        · exact hn p (by omega)
    · exact .inr ⟨p, by rw [e]; rfl, by omega, hq, hn⟩
theorem first_spec (X : List Nat) (b n : Nat) : first X b n ≤ b ∧ (X.drop (first X b n)).take n = (X.drop b).take n ∧ (∀ k, k < first X b n → (X.drop k).take n ≠ (X.drop b).take n) ∧ (first X b n < b ↔ occB X b n = true) := by
  unfold first
  rcases find_range (q := fun p => (X.drop p).take n == (X.drop b).take n) (b := b) with ⟨e, hn⟩ | ⟨p, e, hp, hq, hn⟩
  · rw [e]
    refine ⟨Nat.le_refl _, rfl, fun k hk => by simpa using hn k hk, fun h => absurd h (Nat.lt_irrefl _), fun h => ?_⟩
    obtain ⟨p, hp, h⟩ := occB_iff.mp h
    have := hn p hp
    simp [h] at this
  · rw [e]
    exact ⟨Nat.le_of_lt hp, by simpa using hq, fun k hk => by simpa using hn k hk, fun _ => occB_iff.mpr ⟨p, hp, by simpa using hq⟩, fun _ => hp⟩
def lf2 (x : PS) (b n i : Int) : Bool := Txt.contains (Txt.slice x none (some i)) (Txt.slice x (some b) (some (b + n)))
theorem lf2_iff (x : PS) (b n i : Nat) (hb : b + n ≤ x.length) (hi : i < b + n) :
    lf2 x b n i = true ↔ first x.cps.toList b n + n ≤ i := by
  unfold lf2
  have hi2 : i ≤ x.length := Nat.le_trans (Nat.le_of_lt hi) hb
  rw [← Int.natCast_add]
  have e1 := prefN x i hi2
  have e2 := sliceN x b (b + n) (Nat.le_add_right _ _) hb
  have l1 := prefN_len x i hi2
  have l2 := sliceN_len x b (b + n) (Nat.le_add_right _ _) hb
  rw [Nat.add_sub_cancel_left] at e2 l2
  rw [contains_iff, l1, l2, e1, e2]
  obtain ⟨f1, f2, f3, f4⟩ := first_spec x.cps.toList b n
  constructor
  · rintro ⟨k, a, h⟩
    rw [List.drop_take, List.take_take, Nat.min_eq_left (by omega)] at h
    apply Classical.byContradiction
    intro hc
    exact f3 k (by omega) h
  · intro h
    refine ⟨first x.cps.toList b n, h, ?_⟩
    rw [List.drop_take, List.take_take, Nat.min_eq_left (by omega), f2]
theorem front_mono (x : PS) (b n : Int) (h0 : 0 ≤ b) (h1 : 0 ≤ n) (h2 : b + n ≤ x.length) : Mono (lf2 x b n) (PySem.W.rangeKs 0 (b + n - 0).toNat) := by
  obtain ⟨b, rfl⟩ := Int.eq_ofNat_of_zero_le h0
  obtain ⟨n, rfl⟩ := Int.eq_ofNat_of_zero_le h1
  intro i j hij v v' hv hv' hf
  obtain ⟨hi, rfl⟩ := rangeKs_get hv
  obtain ⟨hj, rfl⟩ := rangeKs_get hv'
  rw [Int.zero_add] at hf ⊢
  rw [lf2_iff x b n _ (by omega) (by omega)] at hf ⊢
  omega
theorem front_end (x : PS) (b n c : Int) (h0 : 0 ≤ b) (h1 : 1 ≤ n) (h2 : b + n ≤ x.length) (ho : occB x.cps.toList b.toNat n.toNat = true) (hc0 : 0 ≤ c) (hc : c ≤ ((PySem.W.rangeKs 0 (b + n - 0).toNat).length : Int))
    (I : BI (lf2 x b n) (PySem.W.rangeKs 0 (b + n - 0).toNat) c c) : c = ((first x.cps.toList b.toNat n.toNat : Nat) : Int) + n := by
  obtain ⟨b, rfl⟩ := Int.eq_ofNat_of_zero_le h0
  obtain ⟨n, rfl⟩ := Int.eq_ofNat_of_zero_le (show (0 : Int) ≤ n by omega)
  obtain ⟨c, rfl⟩ := Int.eq_ofNat_of_zero_le hc0
  have eb : ((b : Nat) : Int).toNat = b := by omega
  have en : ((n : Nat) : Int).toNat = n := by omega
  rw [eb, en] at *
  obtain ⟨f1, f2, f3, f4⟩ := first_spec x.cps.toList b n
  have hp := f4.mpr ho
  have a : c ≤ first x.cps.toList b n + n := by
    apply Classical.byContradiction
    intro hlt
    have := I.1 (first x.cps.toList b n + n) (by omega) _ (rangeKs_at (by omega))
    rw [Int.zero_add] at this
    have h := (lf2_iff x b n (first x.cps.toList b n + n) (by omega) (by omega)).mpr (Nat.le_refl _)
    rw [this] at h; cases h
  have d : first x.cps.toList b n + n ≤ c := by
    by_cases hcl : c < b + n
    · have := I.2 c (by omega) _ (rangeKs_at (by omega))
      rw [Int.zero_add, lf2_iff x b n _ (by omega) hcl] at this
      exact this
    · omega
  omega
theorem find_firstN (x : PS) (b n : Nat) (h2 : b + n ≤ x.length) : Txt.find x (Txt.slice x (some (b : Int)) (some ((b : Int) + (n : Int)))) = ((first x.cps.toList b n : Nat) : Int) := by
  rw [← Int.natCast_add]
  have e2 := sliceN x b (b + n) (Nat.le_add_right _ _) h2
  have l2 := sliceN_len x b (b + n) (Nat.le_add_right _ _) h2
  rw [Nat.add_sub_cancel_left] at e2 l2
  obtain ⟨f1, f2, f3, f4⟩ := first_spec x.cps.toList b n
  have hat : ∀ i, At x (Txt.slice x (some (b : Int)) (some ((b + n : Nat) : Int))) x.length i ↔ i + n ≤ x.length ∧ (x.cps.toList.drop i).take n = (x.cps.toList.drop b).take n := by
    intro i
    unfold At
    rw [subAt_eq, l2, e2, beq_iff_eq]
  unfold Txt.find
  rcases occ_head_from x (Txt.slice x (some (b : Int)) (some ((b + n : Nat) : Int))) 0 1 (Nat.le_refl 1) with ⟨_, hn⟩ | ⟨k, r, e, _, hk, hn⟩
  · exact absurd ((hat b).mpr ⟨h2, rfl⟩) (hn b (Nat.zero_le _))
  · rw [e]
    have h3 := (hat k).mp hk
    have h4 : ¬ k < first x.cps.toList b n := fun h => f3 k h h3.2
    have h5 : ¬ first x.cps.toList b n < k := fun h => hn _ (Nat.zero_le _) h ((hat _).mpr ⟨Nat.le_trans (Nat.add_le_add_right f1 n) h2, f2⟩)
    have h6 : k = first x.cps.toList b n := Nat.le_antisymm (Nat.le_of_not_lt h5) (Nat.le_of_not_lt h4)
    show (k : Int) = _
    rw [h6]
theorem find_first (x : PS) (b n : Int) (h0 : 0 ≤ b) (h1 : 1 ≤ n) (h2 : b + n ≤ x.length) : Txt.find x (Txt.slice x (some b) (some (b + n))) = ((first x.cps.toList b.toNat n.toNat : Nat) : Int) := by
  obtain ⟨b, rfl⟩ := Int.eq_ofNat_of_zero_le h0
  obtain ⟨n, rfl⟩ := Int.eq_ofNat_of_zero_le (Int.le_trans (by decide) h1)
  exact find_firstN x b n (Int.ofNat_le.mp (by rw [Int.natCast_add]; exact h2))
/-- one reply on, and the places where the greedy parse stands -/
def nxt (X : List Nat) (b : Nat) : Nat := b + max (most X b) 1
def it (X : List Nat) : Nat → Nat
  | 0 => 0
  | k + 1 => nxt X (it X k)
theorem nxt_gt (X : List Nat) (b : Nat) : b < nxt X b := by unfold nxt; omega
theorem nxt_le {X : List Nat} {b : Nat} (h : b < X.length) : nxt X b ≤ X.length := by
  have := most_le X b
  unfold nxt; omega
theorem it_ge (X : List Nat) : ∀ k, k ≤ it X k
  | 0 => Nat.le_refl _
  | k + 1 => by have := it_ge X k; have := nxt_gt X (it X k); show k + 1 ≤ nxt X (it X k); omega
end Mine
end

section
open PySem PySem.W PySem.Calls PyProof.Rows
namespace Mine
theorem backMost : True := by
  k_with_none
  w_top off
  exact trivial
theorem codeHd_hide {h : Heap} {c P : Addr} (C : CodeHd h c P) : CodeHd (hideAll h [P]) c P := by
  obtain ⟨o, vs, file, tf, flags, tg, inF, text, tt, e, r1, r2, r3, r4, r5, r6, r7, r8, hne⟩ := C
  exact ⟨o, vs, file, tf, flags, tg, inF, text, tt, hideAll_get _ e (by simpa using hne), r1, r2, r3, r4, r5, r6, r7, r8, hne⟩
theorem codeRec_hide {h : Heap} {c P : Addr} {q : PySem.Str} (C : h.CodeRec (.ref c) q) (hc : c ≠ P) : (hideAll h [P]).CodeRec (.ref c) q := by
  obtain ⟨c', o, vs, t, e, ho, hd, hv⟩ := C
  cases e
  refine ⟨c, o, vs, t, rfl, hideAll_get _ ho ?_, hd, hv⟩
  exact fun e => hc (List.mem_singleton.mp e)
theorem neA {a b : Nat} (h : b < a) : a ≠ b := Nat.ne_of_gt h
/-- a table of code: nothing made yet, or the one lambda -/
def TabOk (P : Addr) (l c : Int) (q : PySem.Str) (ps : Array Value) (h : Heap) : Prop := ps = #[] ∨ ∃ c', c' ≠ P ∧ ps = #[rawInt l, rawInt c, Value.ref c'] ∧ h.CodeRec (.ref c') q
theorem TabOk.keeps {P : Addr} {l c : Int} {q : PySem.Str} {ps : Array Value} {h h' : Heap} (x : TabOk P l c q ps h) (k : Keeps h h') : TabOk P l c q ps h' := x.imp id fun ⟨c', n, e, r⟩ => ⟨c', n, e, r.keeps k⟩
theorem TabOk.hide {P : Addr} {l c : Int} {q : PySem.Str} {ps : Array Value} {h : Heap} (x : TabOk P l c q ps h) : TabOk P l c q ps (hideAll h [P]) := x.imp id fun ⟨c', n, e, r⟩ => ⟨c', n, e, codeRec_hide r n⟩
/-- a lambda made, be its code made already or not -/
theorem lamBoth {M : Model} {A : Around} {E : Value → Shared → Prop} {s : Shared} {h₀ : Heap} {L a c P : Addr} {m mg mb : PySem.Str → Option Value} {cn : PySem.Str} {cs : Scope} {ccd : Value} {cl : List (PySem.Str × Addr)} {news : List (Addr × Obj)} {g : Obj → List (Addr × Obj)}
    {p : Program} {loose : List PySem.Str} {mean : ExcName → Option Value} {name qual : PySem.Str} {params : Arguments} {body : Expr} {scope : Scope} {ps : Array Value} {pos : Pos} {firstLine : Nat} {clos : List (PySem.Str × Addr)} {Q : Value → Shared → Prop}
    (F : Fr h₀ L s.heap m) (N : News h₀ L s.heap news) (T : Top p loose mean mg mb h₀) (C : CodeHd h₀ c P) (hcd : ccd = .ref c) (U : UpdF P (tabObj ps) news g) (hT : TabOk P (pos.line : Int) (pos.col : Int) qual ps h₀) (hcl : closureFor scope (envX cn cs L a ccd cl) = pure clos)
    (h : ∀ f c' ctv h' tk, Fr h₀ L h' m → News h₀ L h' ((f, kla_obj name qual params body scope clos ((mg "__name__").getD .none) c' ctv) :: g (tabObj #[rawInt pos.line, rawInt pos.col, .ref c'])) → c' ≠ P → h'.CodeRec (.ref c') qual → (∀ q ∈ news, q.1 < f) → Q (.ref f) { s with heap := h', toks := tk }) :
    wpAny M A (makeFunction name qual params (.expr body) scope (envX cn cs L a ccd cl) [] [] [] pos firstLine) Q E s := by
  obtain ⟨own, rest, hn, hgr, h1, h2⟩ := U.split
  have hm : (P, tabObj ps) ∈ news := by rw [hn]; exact List.mem_append_right _ (.head _)
  rcases hT with rfl | ⟨c₀, hne, rfl, hr⟩
  · refine kla_nest F N T C hcd U True.intro rfl hcl fun f c' oc vs t ctv h' tk F' N' hd hv l1 l2 => ?_
    refine h f c' ctv h' tk F' (fun q hq => N' q ?_) (Nat.ne_of_gt (l1 _ hm)) (codeRec_news N' (.tail _ (.head _)) hd hv) (fun q hq => Nat.lt_trans (l1 q hq) l2)
    rcases List.mem_cons.mp hq with rfl | hq
    · exact .head _
    · exact .tail _ (.tail _ (show q ∈ _ by simpa using hq))
  · refine kla_hit (c' := c₀) F N T C hcd hm (by kn_triples) (by kn_hit) hcl fun f ctv h' tk F' N' l1 => ?_
    exact h f c₀ ctv h' tk F' (by rw [hgr, ← hn]; exact N') hne (hr.keeps F'.keep) l1
def qualM : PySem.Str := PySem.Str.ofString "_law_most" ++ PySem.Str.ofString ".<locals>." ++ PySem.Str.ofString "<lambda>"
section
variable {prog : Program} {w : World} {p : Program} {loose : List PySem.Str} {mean : ExcName → Option Value} {mg mb : PySem.Str → Option Value}
theorem most_all (ps₀ : Array Value) (x : PySem.Str) (b : Int) (t1 t2 : Tok) (hx : x.length ≤ 10) (h0 : 0 ≤ b) (h1 : b < x.length) (hno : 46 ∉ x.cps.toList) :
    GT prog w p loose mean mg mb 8 (fun h => CodeHd h 96 92 ∧ TabOk 92 ((116 : Nat) : Int) ((40 : Nat) : Int) qualM ps₀ h) [(92, tabObj ps₀)] 97 [.str x t1, .int b t2] [] (fun _ r h => (∃ t, r = .int ((most x.cps.toList b.toNat : Nat) : Int) t) ∧ ∃ ps, h.get? 92 = some (tabObj ps) ∧ TabOk 92 ((116 : Nat) : Int) ((40 : Nat) : Int) qualM ps h) := by
  k_with_none
  k_with "callWith" => ((k_here; (with_reducible show wpAny _ _ (callWith _ (Value.ref _) _ _ _) _ _ _); k_dflt (refine' callWith_fn ?_; k_whole)))
  k_with "And" => (((with_reducible show StandsFn _ _ ∧ _); refine ⟨StandsFn.keeps (by assumption) (Fr.keep (by k_asm)), ?_⟩; try dsimp only [List.nil_append, List.cons_append]))
  k_with "eval Name" => ((k_here; kc_free; k_dflt (refine' nameFG ?F ?c ?v ?_ ?a ?b; (case a => rfl); (case b => rfl); (case F => k_asm); (case c => rfl); (case v => assumption); k_whole)))
  k_with "eval Lambda" => (k_here; kn_here; k_dflt (refine' kla_eval ?zd0 ?_; (case zd0 => exact rfl)); k_dflt (refine' lamBoth ?zF ?zN ?zT ?zC ?zcd ?zU ?ztb ?zcl ?_; (case zF => k_asm); (case zN => k_asm); (case zT => k_asm); (case zcd => exact rfl); (case zC => kn_code); (case zU => k_updF); (case ztb => exact hT); (case zcl => exact rfl); k_whole); intro fC cC ctC hC1 tkC F' N' nC rC l1; (try dsimp only at N'); (try k_lt l1))
  unfold GT
  intro dp un gd cn cs a ccd cl outer A₀ base h₀ L m s Q E hks B F X N T hk hdp hun hret
  refine wpAny_call ?_
  k_dflt (refine' enterC ?k1 ?k2 ?k3 ?k4 ?k5 ?kA ?kF ?kK ?k6 ?k7 ?k8 ?k9 ?kB ?kD ?_ ?c2 ?c3 ?c4; (case kA => exact rfl); (case kF => exact rfl); (case kK => assumption); (case k1 => k_asm); (case k2 => k_asm); (case k3 => k_asm); (case k4 => k_asm); (case k5 => k_asm); (case k6 => k_is); (case k7 => k_is); (case k8 => ktr_room); (case k9 => exact BindsTo.of_eq rfl); (case kB => exact rfl); (case kD => decide +kernel); (case c2 => exact rfl); (case c3 => exact rfl); (case c4 => exact rfl); k_whole; intro g' L' h' tk' cells' hgq FG' F' N' Y' B' X' T' l1; (try k_lt l1); k_cells Y'; (try simp only [List.cons_append, List.nil_append] at N'); (try dsimp only); (try k_lift B'); (try k_fold))
  clear F N X T B
  have hC : CodeHd g' 96 92 := by rw [hgq]; exact codeHd_hide hks.1
  have hT := hgq ▸ hks.2.hide
  k_steps
  refine' PT.use (bisl _ _ _ _ _ (lf1 x b) ?hl ?hi ?hlen ?hmono ?hfn ?hkey) (fun _ _ e => e) ?k2 ?k3 ?k4 ?k5 ?k6 rfl ?k7 ?k8 ?_
  case k2 => k_asm
  case k3 => k_asm
  case k4 => k_asm
  case k5 => k_asm
  case k6 => k_asm
  case k7 => ktr_room
  case k8 => ktr_units
  case hl => exact News.isList (by k_asm) (by k_mem)
  case hi => assumption
  case hfn => exact ⟨_, _, (News.get (by k_asm) (by k_mem)), rfl⟩
  case hlen => rw [rangeKs_length]; omega
  case hmono => exact most_mono x b h0 h1
  case hkey =>
    intro i hi t
    have hir := mem_rangeKs hi
    unfold PT GT
    intro dp2 un2 gd2 cn2 cs2 a2 ccd2 cl2 outer2 A2 base2 hp2 L2 m2 s2 Q2 E2 hks2 B2 F2 X2 N2 T2 hk2 hdp2 hun2 hret2
    refine wpAny_call ?_
    k_dflt (refine' enterL ?k1 ?k2 ?k3 ?k5 ?kA ?kF ?kK ?k6 ?k7 ?k8 ?k9 ?kB ?_ ?c2 ?c3 ?c4 ?c5; (case kA => exact rfl); (case kF => exact rfl); (case kK => assumption); (case k1 => k_asm); (case k2 => k_asm); (case k3 => k_asm); (case k5 => k_asm); (case k6 => exact hks2 _ _ (News.get (by k_asm) (by k_mem))); (case k7 => exact Heap.CodeRec.keeps rC hks2); (case k8 => ktr_room); (case k9 => exact rfl); (case c5 => decide); (case kB => exact locs rfl); (case c2 => exact rfl); (case c3 => exact rfl); (case c4 => exact rfl); k_whole; intro g3 L3 h3 hgq3 FG3 F3 N3 B3 X3 T3; (try dsimp only); (try k_lift B3); (try k_fold))
    have hcT : CellAt g3 (L' + 1) (.str x t1) := by rw [hgq3]; exact ⟨_, hks2 _ _ (News.get (by k_asm) (by k_mem)), by assumption⟩
    have hcB : CellAt g3 (L' + 1 + 1) (.int b t2) := by rw [hgq3]; exact ⟨_, hks2 _ _ (News.get (by k_asm) (by k_mem)), by assumption⟩
    clear F2 X2 N2 T2 B2
    have i1 : 0 ≤ b := h0
    have i2 : b ≤ b + i := by omega
    have i3 : b + i ≤ x.length := by omega
    k_with "call ref" => ((k_dflt (refine' PT.use (em _ (Txt.slice x (some b) (some (b + i))) (Txt.slice x none (some (b + i - 1))) _ _ ?e1 ?e2 ?e3 ?e4) (fun _ _ e => e) ?k2 ?k3 ?k4 ?k5 ?k6 rfl ?k7 ?k8 ?_; (case e1 => (rw [slice_ss_len x _ _ i1 i2 i3]; omega)); (case e2 => (rw [slice_ss_len x _ _ i1 i2 i3]; omega)); (case e3 => (rw [slice_ns_len x _ (by omega) (by omega)]; omega)); (case e4 => exact slice_no i1 i2 i3 hno); (case k2 => k_asm); (case k3 => k_asm); (case k4 => k_asm); (case k5 => k_asm); (case k6 => k_asm); (case k7 => ktr_room); (case k8 => ktr_units); k_whole)); (intro r9 h9 tk9 kk9 F9 N9 hr9); subst hr9)
    k_steps
    all_goals (
      (refine' leaveE ?k1 ?k2 ?_; (case k1 => k_asm); (case k2 => k_asm))
      (intro kk _)
      (dsimp only)
      (refine hret2 _ _ _ (fun b o e => kk b o (hgq3 ▸ e)) ?_)
      (dsimp only)
      exact rfl)
  (intro r9 h9 tk9 kk9 F9 N9 hr9)
  obtain ⟨c9, t9, hr9, hc0, hcl, hI⟩ := hr9
  subst hr9
  have hm := most_end x b c9 h0 h1 hc0 hcl hI
  subst hm
  k_steps
  all_goals (
    (refine' leaveE ?k1 ?k2 ?_; (case k1 => k_asm); (case k2 => k_asm))
    (intro kk nn)
    (dsimp only)
    (refine hret _ _ _ (fun b o e => kk b o (hgq ▸ e)) ⟨⟨_, rfl⟩, _, News.get nn (by k_mem), ?_⟩))
  exact .inr ⟨_, nC, rfl, rC.keeps kk9⟩
end
end Mine
end

section
open PySem PySem.W PySem.Calls PyProof.Rows
namespace Mine
theorem backFront : True := by
  k_with_none
  w_top off
  exact trivial
def qualF : PySem.Str := PySem.Str.ofString "_law_front" ++ PySem.Str.ofString ".<locals>." ++ PySem.Str.ofString "<lambda>"
section
variable {prog : Program} {w : World} {p : Program} {loose : List PySem.Str} {mean : ExcName → Option Value} {mg mb : PySem.Str → Option Value}
theorem front_all (ps₀ : Array Value) (x : PySem.Str) (b n : Int) (t1 t2 t3 : Tok) (hx : x.length ≤ 10) (h0 : 0 ≤ b) (h1 : 1 ≤ n) (h2 : b + n ≤ x.length) (ho : occB x.cps.toList b.toNat n.toNat = true) (hno : 46 ∉ x.cps.toList) :
    GT prog w p loose mean mg mb 8 (fun h => CodeHd h 103 99 ∧ TabOk 99 ((119 : Nat) : Int) ((62 : Nat) : Int) qualF ps₀ h) [(99, tabObj ps₀)] 104 [.str x t1, .int b t2, .int n t3] [] (fun _ r h => (∃ t, r = .int (((first x.cps.toList b.toNat n.toNat : Nat) : Int) + n) t) ∧ ∃ ps, h.get? 99 = some (tabObj ps) ∧ TabOk 99 ((119 : Nat) : Int) ((62 : Nat) : Int) qualF ps h) := by
  k_with_none
  k_with "callWith" => ((k_here; (with_reducible show wpAny _ _ (callWith _ (Value.ref _) _ _ _) _ _ _); k_dflt (refine' callWith_fn ?_; k_whole)))
  k_with "And" => (((with_reducible show StandsFn _ _ ∧ _); refine ⟨StandsFn.keeps (by assumption) (Fr.keep (by k_asm)), ?_⟩; try dsimp only [List.nil_append, List.cons_append]))
  k_with "eval Name" => ((k_here; kc_free; k_dflt (refine' nameFG ?F ?c ?v ?_ ?a ?b; (case a => rfl); (case b => rfl); (case F => k_asm); (case c => rfl); (case v => assumption); k_whole)))
  k_with "eval Lambda" => (k_here; kn_here; k_dflt (refine' kla_eval ?zd0 ?_; (case zd0 => exact rfl)); k_dflt (refine' lamBoth ?zF ?zN ?zT ?zC ?zcd ?zU ?ztb ?zcl ?_; (case zF => k_asm); (case zN => k_asm); (case zT => k_asm); (case zcd => exact rfl); (case zC => kn_code); (case zU => k_updF); (case ztb => exact hT); (case zcl => exact rfl); k_whole); intro fC cC ctC hC1 tkC F' N' nC rC l1; (try dsimp only at N'); (try k_lt l1))
  unfold GT
  intro dp un gd cn cs a ccd cl outer A₀ base h₀ L m s Q E hks B F X N T hk hdp hun hret
  refine wpAny_call ?_
  k_dflt (refine' enterC ?k1 ?k2 ?k3 ?k4 ?k5 ?kA ?kF ?kK ?k6 ?k7 ?k8 ?k9 ?kB ?kD ?_ ?c2 ?c3 ?c4; (case kA => exact rfl); (case kF => exact rfl); (case kK => assumption); (case k1 => k_asm); (case k2 => k_asm); (case k3 => k_asm); (case k4 => k_asm); (case k5 => k_asm); (case k6 => k_is); (case k7 => k_is); (case k8 => ktr_room); (case k9 => exact BindsTo.of_eq rfl); (case kB => exact rfl); (case kD => decide +kernel); (case c2 => exact rfl); (case c3 => exact rfl); (case c4 => exact rfl); k_whole; intro g' L' h' tk' cells' hgq FG' F' N' Y' B' X' T' l1; (try k_lt l1); k_cells Y'; (try simp only [List.cons_append, List.nil_append] at N'); (try dsimp only); (try k_lift B'); (try k_fold))
  clear F N X T B
  have hC : CodeHd g' 103 99 := by rw [hgq]; exact codeHd_hide hks.1
  have hT := hgq ▸ hks.2.hide
  k_steps
  refine' PT.use (bisr _ _ _ _ _ (lf2 x b n) ?hl ?hi ?hlen ?hmono ?hfn ?hkey) (fun _ _ e => e) ?k2 ?k3 ?k4 ?k5 ?k6 rfl ?k7 ?k8 ?_
  case k2 => k_asm
  case k3 => k_asm
  case k4 => k_asm
  case k5 => k_asm
  case k6 => k_asm
  case k7 => ktr_room
  case k8 => ktr_units
  case hl => exact News.isList (by k_asm) (by k_mem)
  case hi => assumption
  case hfn => exact ⟨_, _, (News.get (by k_asm) (by k_mem)), rfl⟩
  case hlen => rw [rangeKs_length]; omega
  case hmono => exact front_mono x b n h0 (by omega) h2
  case hkey =>
    intro i hi t
    have hir := mem_rangeKs hi
    unfold PT GT
    intro dp2 un2 gd2 cn2 cs2 a2 ccd2 cl2 outer2 A2 base2 hp2 L2 m2 s2 Q2 E2 hks2 B2 F2 X2 N2 T2 hk2 hdp2 hun2 hret2
    refine wpAny_call ?_
    k_dflt (refine' enterL ?k1 ?k2 ?k3 ?k5 ?kA ?kF ?kK ?k6 ?k7 ?k8 ?k9 ?kB ?_ ?c2 ?c3 ?c4 ?c5; (case kA => exact rfl); (case kF => exact rfl); (case kK => assumption); (case k1 => k_asm); (case k2 => k_asm); (case k3 => k_asm); (case k5 => k_asm); (case k6 => exact hks2 _ _ (News.get (by k_asm) (by k_mem))); (case k7 => exact Heap.CodeRec.keeps rC hks2); (case k8 => ktr_room); (case k9 => exact rfl); (case c5 => decide); (case kB => exact locs rfl); (case c2 => exact rfl); (case c3 => exact rfl); (case c4 => exact rfl); k_whole; intro g3 L3 h3 hgq3 FG3 F3 N3 B3 X3 T3; (try dsimp only); (try k_lift B3); (try k_fold))
    have hcT : CellAt g3 (L' + 1) (.str x t1) := by rw [hgq3]; exact ⟨_, hks2 _ _ (News.get (by k_asm) (by k_mem)), by assumption⟩
    have hcB : ∃ t9, CellAt g3 (L' + 1 + 1) (.str (want (Txt.slice x (some b) (some (b + n)))) t9) := by rw [hgq3]; exact ⟨_, _, hks2 _ _ (News.get (by k_asm) (by k_mem)), by assumption⟩
    obtain ⟨t9, hcB⟩ := hcB
    clear F2 X2 N2 T2 B2
    have i1 : 0 ≤ b := h0
    have i2 : b ≤ b + n := by omega
    have i3 : b + n ≤ x.length := h2
    k_with "call ref" => ((k_dflt (refine' PT.use (em _ (Txt.slice x (some b) (some (b + n))) (Txt.slice x none (some i)) _ _ ?e1 ?e2 ?e3 ?e4) (fun _ _ e => e) ?k2 ?k3 ?k4 ?k5 ?k6 rfl ?k7 ?k8 ?_; (case e1 => (rw [slice_ss_len x _ _ i1 i2 i3]; omega)); (case e2 => (rw [slice_ss_len x _ _ i1 i2 i3]; omega)); (case e3 => (rw [slice_ns_len x _ (by omega) (by omega)]; omega)); (case e4 => exact slice_no i1 i2 i3 hno); (case k2 => k_asm); (case k3 => k_asm); (case k4 => k_asm); (case k5 => k_asm); (case k6 => k_asm); (case k7 => ktr_room); (case k8 => ktr_units); k_whole)); (intro r9 h9 tk9 kk9 F9 N9 hr9); subst hr9)
    k_steps
    all_goals (
      (refine' leaveE ?k1 ?k2 ?_; (case k1 => k_asm); (case k2 => k_asm))
      (intro kk _)
      (dsimp only)
      (refine hret2 _ _ _ (fun b o e => kk b o (hgq3 ▸ e)) ?_)
      (dsimp only)
      exact rfl)
  (intro r9 h9 tk9 kk9 F9 N9 hr9)
  obtain ⟨c9, t9, hr9, hc0, hcl, hI⟩ := hr9
  subst hr9
  have hm := front_end x b n c9 h0 h1 h2 ho hc0 hcl hI
  subst hm
  k_steps
  all_goals (
    (refine' leaveE ?k1 ?k2 ?_; (case k1 => k_asm); (case k2 => k_asm))
    (intro kk nn)
    (dsimp only)
    (refine hret _ _ _ (fun b o e => kk b o (hgq ▸ e)) ⟨⟨_, rfl⟩, _, News.get nn (by k_mem), ?_⟩))
  exact .inr ⟨_, nC, rfl, rC.keeps kk9⟩
end
end Mine
end

section
open PySem PySem.Builtin PySem.Builtin.Str
namespace Mine
theorem backMul : True := by
  k_with_none
  w_top off
  exact trivial
section
variable {prog : Program} {w : World} {A : Around} {E : Value → Shared → Prop} {s : Shared} {x : PS} {t u : Tok} {Q : Value → Shared → Prop}
theorem mul_int_str {n : Int} (hok : MulOk x n) (h : ∀ t' k, Q (.str (Txt.mul x n) t') { s with toks := k }) : wpAny (model prog w) A (binaryOp .Mult (.int n u) (.str x t)) Q E s := by
  refine lm_binaryOp_repeat_right (T := "str") (U := "int") (by decide) (fun s' => typeIs_int s' n u) (typeIs_str s x t) F.fills_int_mul noFill_str_mul F.slot_int_mul lm_noRepeat_int repeat_str F.slot_int_index.lookup
    (call_gives F.slot_int_mul (typeIs_int s n u) F.entry_int_mul (F.args_int_mul_2 _ _) (AutoIntG3.int___mul___int_str_0 n u x t)
      ⟨rfl, typeIs_str s x t, call_gives F.slot_str_mul (typeIs_str s x t) F.entry_str_mul (F.args_str_mul_2 _ _) (gives_str_mul x n t u hok.1 hok.2.1 hok.2.2) ?_⟩)
  unfold Txt.mul at h
  by_cases h1 : n < 1
  · rw [if_pos h1]; have h' := h s.toks (s.toks + 1); rw [if_pos h1] at h'; exact ⟨by decide, h'⟩
  · rw [if_neg h1]; refine post_val_or_made (fun hc => fits_reps (hok.2.2 h1 (by simpa using hc))) fun t' k => ?_
    have h' := h t' k; rw [if_neg h1] at h'; exact h'
end
theorem mul_len3 (x : PS) (h : x.length = 1) : (Txt.mul x 3).length = 3 := by
  have := PyProof.Rows.len_mul x 3
  rw [h] at this
  simp at this
  omega
end Mine
end

section
open PySem PySem.Builtin PySem.Builtin.Str PySem.StrLaws
namespace Mine
theorem backSm : True := by
  k_with_none
  w_top off
  exact trivial
abbrev Alph (X : List Nat) : Prop := ∀ c ∈ X, c = 97 ∨ c = 98 ∨ c = 34
theorem Alph.no {X : List Nat} (h : Alph X) : 46 ∉ X := fun hm => by rcases h 46 hm with h | h | h <;> cases h
theorem item_at (x : PS) (i : Nat) (h : i < x.length) : Txt.item x (i : Int) = ⟨#[x.cps.toList.getD i 0]⟩ := by
  have h' : i < x.cps.size := h
  unfold Txt.item Txt.charAt
  rw [StrLawsIdx_seq i x.length h]
  simp [h']
where
  StrLawsIdx_seq (i n : Nat) (h : i < n) : seqIndex? (i : Int) n = some i := by
    have := StrLaws.seqIndex_nonneg (i := (i : Int)) (n := n) (by omega) (by omega)
    rw [this]; rfl
theorem getD_alph {X : List Nat} (h : Alph X) {i : Nat} (hi : i < X.length) : X.getD i 0 = 97 ∨ X.getD i 0 = 98 ∨ X.getD i 0 = 34 := by
  refine h _ ?_
  rw [List.getD_eq_getElem?_getD, List.getElem?_eq_getElem hi]
  exact List.getElem_mem hi
def litR (c : Nat) : PS := PySem.Str.ofString "257 \"" ++ Txt.replace ⟨#[c]⟩ (PySem.Str.ofString "\"") (PySem.Str.ofString "\"\"") ++ PySem.Str.ofString "\""
def cpyR (mk : PS) (port : Int) : PS := PySem.Str.ofString "229 (" ++ Txt.mul mk 3 ++ PySem.Str.ofString (toString port) ++ mk ++ PySem.Str.ofString ")"
def rep (x mk : PS) (b : Nat) : PS := if most x.cps.toList b = 0 then litR (x.cps.toList.getD b 0) else cpyR mk (16 * (first x.cps.toList b (most x.cps.toList b) : Nat) + (most x.cps.toList b : Nat))
theorem lit_len {x : PS} (h : Alph x.cps.toList) {i : Nat} (hi : i < x.length) : (Txt.replace (Txt.item x (i : Int)) (PySem.Str.ofString "\"") (PySem.Str.ofString "\"\"")).length ≤ 8 := by
  rw [item_at x i hi]
  rcases getD_alph h (i := i) (by rw [← len_list]; exact hi) with e | e | e <;> rw [e] <;> decide +kernel
theorem mulOk3 {mk : PS} (h : mk.length = 1) : MulOk mk 3 := PyProof.Rows.mulOk_of 1 3 (by omega) (by omega) (by decide) (by decide) (by decide)
theorem rep_lit {x : PS} (mk : PS) {b : Nat} (hb : b < x.length) (h : ((most x.cps.toList b : Nat) : Int) = 0) : PySem.Str.ofString "257 \"" ++ Txt.replace (Txt.item x (b : Int)) (PySem.Str.ofString "\"") (PySem.Str.ofString "\"\"") ++ PySem.Str.ofString "\"" = rep x mk b := by
  unfold rep litR
  rw [if_pos (by omega), item_at x b hb]
theorem rep_cpy {x : PS} (mk : PS) {b : Nat} (h : ((most x.cps.toList b : Nat) : Int) ≠ 0) : PySem.Str.ofString "229 (" ++ Txt.mul mk 3 ++ PySem.Str.ofString (toString (16 * ((first x.cps.toList b (most x.cps.toList b) : Nat) : Int) + ((most x.cps.toList b : Nat) : Int))) ++ mk ++ PySem.Str.ofString ")" = rep x mk b := by
  unfold rep cpyR
  rw [if_neg (by omega)]
theorem nxt_int (X : List Nat) (b : Nat) : ((b : Nat) : Int) + (if 1 > ((most X b : Nat) : Int) then 1 else ((most X b : Nat) : Int)) = ((nxt X b : Nat) : Int) := by
  unfold nxt
  split <;> omega
theorem drop_it (X : List Nat) (k : Nat) : List.drop 1 ((List.range (k + 1)).map fun i => ((it X i : Nat) : Int)) = (List.range k).map fun i => ((it X (i + 1) : Nat) : Int) := by
  rw [List.range_succ_eq_map, List.map_cons, List.drop_succ_cons, List.drop_zero, List.map_map]
  rfl
section
variable {prog : Program} {w : World} {A : Around} {E : Value → Shared → Prop} {s : Shared} {t : Tok} {Q : Value → Shared → Prop}
theorem str_rule {n m : Int} (e : n = m) (h0 : 0 ≤ m) (h1 : m < 1000) (h : (PySem.Str.ofString (toString m)).length ≤ 10 → Q (.str (PySem.Str.ofString (toString m)) s.toks) { s with toks := s.toks + 1 }) :
    wpAny (model prog w) A (call (.type "str") [.int n t]) Q E s := by
  subst e
  exact P.str_of_int (Nat.lt_of_le_of_lt (Nat.log2_le_self _) (by omega)) (h (PySem.W.KT.len_num h0 (by omega)))
end
end Mine
end

local macro_rules | `(tactic| size_fits) => `(tactic| first | with_reducible assumption | (rw [PySem.sizeLine_eq]; omega))
local macro_rules | `(tactic| kmk_size) => `(tactic| assumption)
local macro_rules | `(tactic| k_room) => `(tactic| ktr_room)
local macro_rules | `(tactic| k_units) => `(tactic| ktr_units)
local macro_rules | `(tactic| k_all) => `(tactic| assumption)

section
open PySem PySem.W PySem.Calls PyProof.Rows
namespace Mine
theorem backTalk : True := by
  k_with_none
  w_top off
  exact trivial
abbrev TM (ps : Array Value) (h : Heap) : Prop := TabOk 92 ((116 : Nat) : Int) ((40 : Nat) : Int) qualM ps h
abbrev TF (ps : Array Value) (h : Heap) : Prop := TabOk 99 ((119 : Nat) : Int) ((62 : Nat) : Int) qualF ps h
structure TS where
  k : Nat
  vr : List Value
  ve : List Value
  te : Tok
  psM : Array Value
  psF : Array Value
  recs : List (Addr × Obj)
abbrev TLed (x : PySem.Str) (aE aR : Addr) (c : TS) : List (Addr × Obj) := (aE, listOf (c.ve ++ [Value.int ((it x.cps.toList c.k : Nat) : Int) c.te]).toArray c.k) :: (aR, listOf c.vr.toArray c.k) :: (99, tabObj c.psF) :: (92, tabObj c.psM) :: c.recs
abbrev TFa (g : Heap) (L aE aR : Addr) (c : TS) : Prop := (∀ q ∈ c.recs, q.1 ≠ aE ∧ q.1 ≠ aR ∧ q.1 ≠ 99 ∧ q.1 ≠ 92) ∧ ∀ h m, Fr g L h m → News g L h c.recs → TM c.psM h ∧ TF c.psF h
abbrev tStored : List PySem.Str := [PySem.Str.ofString "begin", PySem.Str.ofString "size", PySem.Str.ofString "port"]
def TSp (x mk : PySem.Str) (c : TS) : Prop :=
  StrsAre c.vr ((List.range c.k).map fun i => rep x mk (it x.cps.toList i)) ∧ IntsAre (c.ve ++ [.int ((it x.cps.toList c.k : Nat) : Int) c.te]) ((List.range (c.k + 1)).map fun i => ((it x.cps.toList i : Nat) : Int)) ∧ it x.cps.toList c.k ≤ x.length
section
variable {prog : Program} {w : World} {A : Around} {E : Value → Shared → Prop} {s : Shared}
theorem item_last {value slice : PySem.Expr} {l : Addr} {vs : List Value} {n : Nat} {u : Tok} {v : Value} {h₀ : Heap} {L : Addr} {news : List (Addr × Obj)} {Q : Value → Shared → Prop} (N : News h₀ L s.heap news) (hm : (l, listOf (vs ++ [v]).toArray n) ∈ news) (h : Q v s)
    (hs : subscripted slice false (.ref l) (.int (-1) u) = operate [.ref l, .int (-1) u] (getItem (.ref l) (.int (-1) u)) := by with_unfolding_all rfl) :
    wpAny (model prog w) A (subscriptTail value slice (.ref l) (.int (-1) u)) Q E s := by
  have hl : s.heap.IsList l (vs ++ [v]).toArray := ⟨_, (N _ hm).1, rfl, n, rfl⟩
  exact kde_neg (j := vs.length) hl (by decide) (by decide) (by rw [PyProof.Rows.seqIndex?_neg_one (by simp)]; simp) (by simp) h hs
end
section
variable {prog : Program} {w : World} {A : Around} {E : Value → Shared → Prop} {Q : Flow → Shared → Prop} {s : Shared} {env : Env} {g : Heap} {L : Addr}
theorem talk_while (x mk : PySem.Str) {aE aR : Addr} {te : Tok} {test : Expr} {body : List Stmt} {pos : Pos} {m₀ : PySem.Str → Option Value} (F : Fr g L s.heap m₀) (N : News g L s.heap [(aE, listOf [Value.int 0 te].toArray 0), (aR, listOf ([] : List Value).toArray 0), (99, tabObj #[]), (92, tabObj #[])])
    (turn : ∀ (c : TS) (u : PySem.Str → Option Value) h tk, TFa g L aE aR c → TSp x mk c → Fr g L h (kstB (fun z => if tStored.contains z then u z else m₀ z) []) → News g L h (TLed x aE aR c) →
      wpAny (model prog w) A (isTrue test env (eval test env)) (fun b s₂ =>
        if b = true then wpAny (model prog w) A (execs body env) (KswPost g L s (TLed x aE aR) (fun _ => []) (TFa g L aE aR) tStored m₀ (TSp x mk) (fun c => x.length - it x.cps.toList c.k) Q c) E s₂ else Q .next s₂) E { s with heap := h, toks := tk })
    (hE : PassesOwn (model prog w) A env E := by passes_own) :
    wpAny (model prog w) A (exec (.While test body [] pos) env) Q E s :=
  ksw_while (σ := TS) (TLed x aE aR) (fun _ => []) (TFa g L aE aR) tStored (TSp x mk) (fun c => x.length - it x.cps.toList c.k) ⟨0, [], [], te, #[], #[], []⟩ F N
    ⟨(fun _ h => nomatch h), fun _ _ _ _ => ⟨Or.inl rfl, Or.inl rfl⟩⟩ (fun _ h => nomatch h) ⟨StrsAre.nil, IntsAre.cons 0 te IntsAre.nil, Nat.zero_le _⟩ turn hE
theorem codeHd_hide2 {h : Heap} {c P P' : Addr} (C : CodeHd h c P) (hc : c ≠ P') : CodeHd (hideAll h [P', P]) c P ∧ CodeHd (hideAll h [P, P']) c P := by
  obtain ⟨o, vs, file, tf, flags, tg, inF, text, tt, e, r1, r2, r3, r4, r5, r6, r7, r8, hne⟩ := C
  exact ⟨⟨o, vs, file, tf, flags, tg, inF, text, tt, hideAll_get _ e (by simpa using ⟨hc, hne⟩), r1, r2, r3, r4, r5, r6, r7, r8, hne⟩, ⟨o, vs, file, tf, flags, tg, inF, text, tt, hideAll_get _ e (by simpa using ⟨hne, hc⟩), r1, r2, r3, r4, r5, r6, r7, r8, hne⟩⟩
theorem tab_led {P : Addr} {l cc : Int} {q : PySem.Str} {ps : Array Value} {h : Heap} {m : PySem.Str → Option Value} (F : Fr g L h m) (hT : TabOk P l cc q ps h) :
    ∃ recs, News g L h recs ∧ (∀ e ∈ recs, ∃ vs x t, e.2.data = .fields vs ∧ vs[1]? = some (.str x t)) ∧ ∀ h' m', Fr g L h' m' → News g L h' recs → TabOk P l cc q ps h' := by
  rcases hT with rfl | ⟨c', hne, e, c'', o, vs, t, e2, ho, hd, hv⟩
  · exact ⟨[], News.nil, (fun _ h => nomatch h), fun _ _ _ _ => .inl rfl⟩
  · cases e2
    cases hg : g.get? c' with
    | some o' =>
      have := F.keep _ _ hg
      rw [ho] at this; cases this
      exact ⟨[], News.nil, (fun _ h => nomatch h), fun _ _ F' _ => .inr ⟨c', hne, e, c', o, vs, t, rfl, F'.keep _ _ hg, hd, hv⟩⟩
    | none =>
      refine ⟨[(c', o)], fun p hp => ?_, fun e' he' => ?_, fun _ _ _ N' => .inr ⟨c', hne, e, c', o, vs, t, rfl, (N' _ (.head _)).1, hd, hv⟩⟩
      · obtain rfl := List.mem_singleton.mp hp
        refine ⟨ho, fun hL => ?_, hg⟩
        obtain ⟨oL, es, ep, e1, e3, _⟩ := F.ns
        have hL' : c' = L := hL
        rw [← hL', ho] at e1; cases e1
        rw [hd] at e3; cases e3
      · obtain rfl := List.mem_singleton.mp he'
        exact ⟨vs, q, t, hd, hv⟩
theorem tab_noStr {P : Addr} {l cc : Int} {q x : PySem.Str} {t : Tok} {ps : Array Value} {h : Heap} (hT : TabOk P l cc q ps h) : ps[1]? ≠ some (.str x t) := by
  rcases hT with rfl | ⟨c', _, rfl, _⟩
  · simp
  · simp [rawInt]
/-- the ledger behind a call that turned one of the two tables -/
theorem talk_recs {h : Heap} {m : PySem.Str → Option Value} {aE aR : Addr} {iE iR : Array Value} {nE nR : Nat} {psM psF : Array Value} {recs : List (Addr × Obj)} (F : Fr g L h m)
    (N : News g L h ((aE, listOf iE nE) :: (aR, listOf iR nR) :: (99, tabObj psF) :: (92, tabObj psM) :: recs)) (hM : TM psM h) (hF : TF psF h) :
    ∃ recs', News g L h ((aE, listOf iE nE) :: (aR, listOf iR nR) :: (99, tabObj psF) :: (92, tabObj psM) :: recs') ∧ (∀ q ∈ recs', q.1 ≠ aE) ∧ (∀ q ∈ recs', q.1 ≠ aR) ∧ (∀ q ∈ recs', q.1 ≠ 99) ∧ (∀ q ∈ recs', q.1 ≠ 92) ∧ ∀ h m, Fr g L h m → News g L h recs' → TM psM h ∧ TF psF h := by
  obtain ⟨r1, N1, k1, t1⟩ := tab_led F hM
  obtain ⟨r2, N2, k2, t2⟩ := tab_led F hF
  have hkey : ∀ q ∈ r1 ++ r2, h.get? q.1 = some q.2 ∧ ∃ vs x t, q.2.data = .fields vs ∧ vs[1]? = some (.str x t) := fun q hq => by
    rcases List.mem_append.mp hq with hq | hq
    · exact ⟨(N1 q hq).1, k1 q hq⟩
    · exact ⟨(N2 q hq).1, k2 q hq⟩
  refine ⟨r1 ++ r2, fun q hq => ?_, fun q hq e => ?_, fun q hq e => ?_, fun q hq e => ?_, fun q hq e => ?_, fun h' m' F' N' => ⟨t1 _ _ F' fun p hp => N' p (List.mem_append_left _ hp), t2 _ _ F' fun p hp => N' p (List.mem_append_right _ hp)⟩⟩
  · rcases List.mem_cons.mp hq with rfl | hq
    · exact N _ (.head _)
    rcases List.mem_cons.mp hq with rfl | hq
    · exact N _ (.tail _ (.head _))
    rcases List.mem_cons.mp hq with rfl | hq
    · exact N _ (.tail _ (.tail _ (.head _)))
    rcases List.mem_cons.mp hq with rfl | hq
    · exact N _ (.tail _ (.tail _ (.tail _ (.head _))))
    rcases List.mem_append.mp hq with hq | hq
    · exact N1 q hq
    · exact N2 q hq
  · obtain ⟨a, vs, x, t, d, _⟩ := hkey q hq
    have := (N _ (.head _)).1
    rw [e] at a; rw [show h.get? aE = _ from this] at a; rw [← Option.some.inj a] at d; cases d
  · obtain ⟨a, vs, x, t, d, _⟩ := hkey q hq
    have := (N _ (.tail _ (.head _))).1
    rw [e] at a; rw [show h.get? aR = _ from this] at a; rw [← Option.some.inj a] at d; cases d
  · obtain ⟨a, vs, x, t, d, v⟩ := hkey q hq
    have := (N _ (.tail _ (.tail _ (.head _)))).1
    rw [e] at a; rw [show h.get? 99 = _ from this] at a; rw [← Option.some.inj a] at d; cases d
    exact tab_noStr hF v
  · obtain ⟨a, vs, x, t, d, v⟩ := hkey q hq
    have := (N _ (.tail _ (.tail _ (.tail _ (.head _))))).1
    rw [e] at a; rw [show h.get? 92 = _ from this] at a; rw [← Option.some.inj a] at d; cases d
    exact tab_noStr hM v
theorem tst {z : PySem.Str} (h : tStored.contains z = false) : z ≠ PySem.Str.ofString "begin" ∧ z ≠ PySem.Str.ofString "size" ∧ z ≠ PySem.Str.ofString "port" := by
  simpa only [tStored, List.contains_cons, List.contains_nil, Bool.or_false, Bool.or_eq_false_iff, beq_eq_false_iff_ne, ne_eq] using h
theorem strs_snoc {vs : List Value} {xs : List PySem.Str} {x : PySem.Str} {t : Tok} (h : StrsAre vs xs) : StrsAre (vs ++ [.str x t]) (xs ++ [x]) := by
  induction h with
  | nil => exact .cons _ _ .nil
  | cons n t h ih => exact .cons _ _ ih
theorem ints_snoc {vs : List Value} {xs : List Int} {x : Int} {t : Tok} (h : IntsAre vs xs) : IntsAre (vs ++ [.int x t]) (xs ++ [x]) := by
  induction h with
  | nil => exact .cons _ _ .nil
  | cons n t h ih => exact .cons _ _ ih
theorem talk_end {x mk : PySem.Str} {c : TS} {h : Heap} {tk : Nat} {m' m₀ : PySem.Str → Option Value} {aE aR : Addr} {e : Int} {te' tr : Tok} {r : PySem.Str} {psM psF : Array Value} {recs : List (Addr × Obj)} (F : Fr g L h m')
    (N : News g L h ((aE, listOf ((c.ve ++ [Value.int ((it x.cps.toList c.k : Nat) : Int) c.te]).toArray.push (.int e te')) (c.k + 1)) :: (aR, listOf (c.vr.toArray.push (.str r tr)) (c.k + 1)) :: (99, tabObj psF) :: (92, tabObj psM) :: recs))
    (he : e = ((nxt x.cps.toList (it x.cps.toList c.k) : Nat) : Int)) (hr : r = rep x mk (it x.cps.toList c.k)) (o1 : ∀ q ∈ recs, q.1 ≠ aE) (o2 : ∀ q ∈ recs, q.1 ≠ aR) (o3 : ∀ q ∈ recs, q.1 ≠ 99) (o4 : ∀ q ∈ recs, q.1 ≠ 92)
    (tab : ∀ h m, Fr g L h m → News g L h recs → TM psM h ∧ TF psF h) (hlt : it x.cps.toList c.k < x.length)
    (hsr : StrsAre c.vr ((List.range c.k).map fun i => rep x mk (it x.cps.toList i))) (hse : IntsAre (c.ve ++ [.int ((it x.cps.toList c.k : Nat) : Int) c.te]) ((List.range (c.k + 1)).map fun i => ((it x.cps.toList i : Nat) : Int)))
    (hst : ∀ z, (∀ p ∈ ([] : List (PySem.Str × Value)), z ≠ p.1) → tStored.contains z = false → m' z = m₀ z) :
    KswEnd g L s (TLed x aE aR) (fun _ => []) (TFa g L aE aR) tStored m₀ (TSp x mk) (fun c => x.length - it x.cps.toList c.k) c { s with heap := h, toks := tk } := by
  subst he hr
  have hl := len_list x
  have hle := nxt_le (X := x.cps.toList) (b := it x.cps.toList c.k) (by omega)
  have hgt := nxt_gt x.cps.toList (it x.cps.toList c.k)
  refine ksw_end ⟨c.k + 1, c.vr ++ [.str (rep x mk (it x.cps.toList c.k)) tr], c.ve ++ [.int ((it x.cps.toList c.k : Nat) : Int) c.te], te', psM, psF, recs⟩ F N ?_ ⟨fun q hq => ⟨o1 q hq, o2 q hq, o3 q hq, o4 q hq⟩, tab⟩ (fun _ hp => (nomatch hp)) hst ⟨?_, ?_, ?_⟩ ?_
  · intro p hp
    rw [List.push_toArray, List.push_toArray]
    exact hp
  · show StrsAre (c.vr ++ _) ((List.range (c.k + 1)).map _)
    rw [List.range_succ, List.map_append]
    exact strs_snoc hsr
  · show IntsAre (c.ve ++ [_] ++ [_]) ((List.range (c.k + 1 + 1)).map _)
    rw [List.range_succ (n := c.k + 1), List.map_append]
    exact ints_snoc hse
  · show nxt x.cps.toList (it x.cps.toList c.k) ≤ x.length
    omega
  · show x.length - nxt x.cps.toList (it x.cps.toList c.k) < x.length - it x.cps.toList c.k
    omega
/-- what _law_talk hands back -/
def TalkRet (x mk : PySem.Str) (h0 : Heap) (r : Value) (h : Heap) : Prop :=
  ∃ (at' a1 a2 : Addr) (v1 v2 : List Value) (n1 n2 k : Nat) (psM psF : Array Value), r = .ref at' ∧ h.get? at' = some { cls := .type "tuple", data := .seq [.ref a1, .ref a2].toArray } ∧ h.get? a1 = some (listOf v1.toArray n1) ∧ h.get? a2 = some (listOf v2.toArray n2) ∧
    h0.get? at' = none ∧ h0.get? a1 = none ∧ h0.get? a2 = none ∧ a1 < a2 ∧ a2 < at' ∧ it x.cps.toList k = x.length ∧ k ≤ x.length ∧
    StrsAre v1 ((List.range k).map fun i => rep x mk (it x.cps.toList i)) ∧ IntsAre v2 ((List.range k).map fun i => ((it x.cps.toList (i + 1) : Nat) : Int)) ∧ h.get? 92 = some (tabObj psM) ∧ h.get? 99 = some (tabObj psF)
theorem talk_ret {x mk : PySem.Str} {c : TS} {h0 h : Heap} {aE aR a2 at' : Addr} {ws : List Value} (hg : g = hideAll h0 [99, 92]) (N : News g L h ((at', { cls := .type "tuple", data := .seq [.ref aR, .ref a2].toArray }) :: (a2, listOf ws.toArray 0) :: TLed x aE aR c))
    (l1 : aR < a2) (l2 : a2 < at') (l3 : 99 < aR) (hI : IntsAre ws (List.drop 1 ((List.range (c.k + 1)).map fun i => ((it x.cps.toList i : Nat) : Int)))) (hn : ¬ ((it x.cps.toList c.k : Nat) : Int) < (x.length : Int)) (hle : it x.cps.toList c.k ≤ x.length)
    (hsr : StrsAre c.vr ((List.range c.k).map fun i => rep x mk (it x.cps.toList i))) : TalkRet x mk h0 (.ref at') h := by
  have fresh : ∀ a : Addr, @LT.lt Nat _ 99 a → g.get? a = none → h0.get? a = none := fun a ha e => by
    cases z : h0.get? a with
    | none => rfl
    | some o =>
      have := hideAll_get [99, 92] z (by
        simp only [List.mem_cons, List.not_mem_nil, or_false]
        rintro (rfl | rfl) <;> exact absurd ha (by decide))
      rw [hg, this] at e; cases e
  rw [drop_it] at hI
  have hk := it_ge x.cps.toList c.k
  exact ⟨at', aR, a2, c.vr, ws, c.k, 0, c.k, c.psM, c.psF, rfl, (N _ (.head _)).1, (N _ (.tail _ (.tail _ (.tail _ (.head _))))).1, (N _ (.tail _ (.head _))).1,
    fresh _ (Nat.lt_trans l3 (Nat.lt_trans l1 l2)) (N _ (.head _)).2.2, fresh _ l3 (N _ (.tail _ (.tail _ (.tail _ (.head _))))).2.2, fresh _ (Nat.lt_trans l3 l1) (N _ (.tail _ (.head _))).2.2, l1, l2, by omega, by omega, hsr, hI,
    (N _ (.tail _ (.tail _ (.tail _ (.tail _ (.tail _ (.head _))))))).1, (N _ (.tail _ (.tail _ (.tail _ (.tail _ (.head _)))))).1⟩
theorem news_tail4 {h : Heap} {a b c d : Addr × Obj} {r : List (Addr × Obj)} (N : News g L h (a :: b :: c :: d :: r)) : News g L h r := fun q hq => N q (.tail _ (.tail _ (.tail _ (.tail _ hq))))
theorem talk_afterM {h h' : Heap} {m : PySem.Str → Option Value} {aE aR : Addr} {iE iR : Array Value} {nE nR : Nat} {psM psF ps : Array Value} {recs : List (Addr × Obj)} (F : Fr g L h' m)
    (nn : ∀ q ∈ ((aE, listOf iE nE) :: (aR, listOf iR nR) :: (99, tabObj psF) :: (92, tabObj psM) :: recs), q.1 ∉ ([(92, tabObj psM)] : List (Addr × Obj)).map (·.1) → h'.get? q.1 = some q.2 ∧ q.1 ≠ L ∧ g.get? q.1 = none)
    (N : News g L h ((aE, listOf iE nE) :: (aR, listOf iR nR) :: (99, tabObj psF) :: (92, tabObj psM) :: recs)) (hps : h'.get? 92 = some (tabObj ps)) (hM : TM ps h') (htab : ∀ h m, Fr g L h m → News g L h recs → TM psM h ∧ TF psF h) (o4 : ∀ q ∈ recs, q.1 ≠ 92) (h1 : aE ≠ 92) (h2 : aR ≠ 92) :
    ∃ recs', News g L h' ((aE, listOf iE nE) :: (aR, listOf iR nR) :: (99, tabObj psF) :: (92, tabObj ps) :: recs') ∧ (∀ q ∈ recs', q.1 ≠ aE) ∧ (∀ q ∈ recs', q.1 ≠ aR) ∧ (∀ q ∈ recs', q.1 ≠ 99) ∧ (∀ q ∈ recs', q.1 ≠ 92) ∧ ∀ h m, Fr g L h m → News g L h recs' → TM ps h ∧ TF psF h := by
  have n1 : ∀ a : Addr, a ≠ 92 → a ∉ ([(92, tabObj psM)] : List (Addr × Obj)).map (·.1) := fun a ha e => ha (List.mem_singleton.mp e)
  have hF : TF psF h' := (htab _ _ F fun q hq => nn q (.tail _ (.tail _ (.tail _ (.tail _ hq)))) (n1 _ (o4 q hq))).2
  refine talk_recs (recs := []) F (fun q hq => ?_) hM hF
  rcases List.mem_cons.mp hq with rfl | hq
  · exact nn _ (.head _) (n1 _ h1)
  rcases List.mem_cons.mp hq with rfl | hq
  · exact nn _ (.tail _ (.head _)) (n1 _ h2)
  rcases List.mem_cons.mp hq with rfl | hq
  · exact nn _ (.tail _ (.tail _ (.head _))) (n1 _ (show (99 : Addr) ≠ 92 by decide))
  rcases List.mem_cons.mp hq with rfl | hq
  · exact ⟨hps, (N _ (.tail _ (.tail _ (.tail _ (.head _))))).2⟩
  · exact nomatch hq
theorem talk_afterF {h h' : Heap} {m : PySem.Str → Option Value} {aE aR : Addr} {iE iR : Array Value} {nE nR : Nat} {psM psF ps : Array Value} {recs : List (Addr × Obj)} (F : Fr g L h' m)
    (nn : ∀ q ∈ ((aE, listOf iE nE) :: (aR, listOf iR nR) :: (99, tabObj psF) :: (92, tabObj psM) :: recs), q.1 ∉ ([(99, tabObj psF)] : List (Addr × Obj)).map (·.1) → h'.get? q.1 = some q.2 ∧ q.1 ≠ L ∧ g.get? q.1 = none)
    (N : News g L h ((aE, listOf iE nE) :: (aR, listOf iR nR) :: (99, tabObj psF) :: (92, tabObj psM) :: recs)) (hps : h'.get? 99 = some (tabObj ps)) (hF : TF ps h') (htab : ∀ h m, Fr g L h m → News g L h recs → TM psM h ∧ TF psF h) (o4 : ∀ q ∈ recs, q.1 ≠ 99) (h1 : aE ≠ 99) (h2 : aR ≠ 99) :
    ∃ recs', News g L h' ((aE, listOf iE nE) :: (aR, listOf iR nR) :: (99, tabObj ps) :: (92, tabObj psM) :: recs') ∧ (∀ q ∈ recs', q.1 ≠ aE) ∧ (∀ q ∈ recs', q.1 ≠ aR) ∧ (∀ q ∈ recs', q.1 ≠ 99) ∧ (∀ q ∈ recs', q.1 ≠ 92) ∧ ∀ h m, Fr g L h m → News g L h recs' → TM psM h ∧ TF ps h := by
  have n1 : ∀ a : Addr, a ≠ 99 → a ∉ ([(99, tabObj psF)] : List (Addr × Obj)).map (·.1) := fun a ha e => ha (List.mem_singleton.mp e)
  have hM : TM psM h' := (htab _ _ F fun q hq => nn q (.tail _ (.tail _ (.tail _ (.tail _ hq)))) (n1 _ (o4 q hq))).1
  refine talk_recs (recs := []) F (fun q hq => ?_) hM hF
  rcases List.mem_cons.mp hq with rfl | hq
  · exact nn _ (.head _) (n1 _ h1)
  rcases List.mem_cons.mp hq with rfl | hq
  · exact nn _ (.tail _ (.head _)) (n1 _ h2)
  rcases List.mem_cons.mp hq with rfl | hq
  · exact ⟨hps, (N _ (.tail _ (.tail _ (.head _)))).2⟩
  rcases List.mem_cons.mp hq with rfl | hq
  · exact nn _ (.tail _ (.tail _ (.tail _ (.head _)))) (n1 _ (show (92 : Addr) ≠ 99 by decide))
  · exact nomatch hq
end
section
variable {prog : Program} {w : World} {p : Program} {loose : List PySem.Str} {mean : ExcName → Option Value} {mg mb : PySem.Str → Option Value}
theorem talk (x mk : PySem.Str) (t1 t2 : Tok) (hx : x.length ≤ 10) (hal : Alph x.cps.toList) (hmk : mk.length = 1) :
    GT prog w p loose mean mg mb 10 (fun h => CodeHd h 96 92 ∧ CodeHd h 103 99) [(99, tabObj #[]), (92, tabObj #[])] 111 [.str x t1, .str mk t2] [] (TalkRet x mk) := by
  k_with_none
  k_with "binaryOp Add str str" => ((k_here; (refine SB.add ?_ ?zzhsz; (case zzhsz => (simp only [PySem.Str.length_append]; rw [sizeLine_eq]; omega)); intro t' k')))
  k_with "binaryOp Mult int str" => ((k_here; (refine mul_int_str (by assumption) ?_); intro t' k'))
  k_with "exec While Compare cons nil" => (refine Halt.go ?_)
  k_with "subscriptTail" => ((k_here; (with_reducible show wpAny _ _ (subscriptTail _ _ (Value.ref _) (Value.int _ _)) _ _ _); k_dflt (refine' item_last ?zzN ?zzm ?_; (case zzN => k_asm); (case zzm => k_mem); k_whole)))
  have hno := hal.no
  have hmul := mulOk3 hmk
  have hmul3 := mul_len3 mk hmk
  unfold GT
  intro dp un gd cn cs a ccd cl outer A₀ base h₀ L m s Q E hks B F X N T hk hdp hun hret
  refine wpAny_call ?_
  k_dflt (refine' enterP ?k1 ?k2 ?k3 ?k4 ?k5 ?kA ?kF ?kK ?k6 ?k7 ?k8 ?k9 ?kB ?_ ?c2 ?c3 ?c4 ?c5; (case kA => exact rfl); (case kF => exact rfl); (case kK => assumption); (case k1 => k_asm); (case k2 => k_asm); (case k3 => k_asm); (case k4 => k_asm); (case k5 => k_asm); (case k6 => k_is); (case k7 => k_is); (case k8 => ktr_room); (case k9 => exact BindsTo.of_eq rfl); (case c5 => decide); (case kB => exact locs rfl); (case c2 => exact rfl); (case c3 => exact rfl); (case c4 => exact rfl); k_whole; intro g' L' h' hgq FG' F' N' B' X' T' l1; (try k_lt l1); (try dsimp only); (try k_lift B'); (try k_fold))
  clear F N X T B
  k_steps
  unfold Halt
  (rename Fr _ _ _ _ => F1)
  (rename News _ _ _ _ => N1)
  have hCM : CodeHd g' 96 92 := by rw [hgq]; exact (codeHd_hide2 hks.1 (by decide)).1
  have hCF : CodeHd g' 103 99 := by rw [hgq]; exact (codeHd_hide2 hks.2 (by decide)).2
  refine' talk_while x mk F1 N1 ?_
  intro c u hw tkw hfa hsp Fw Nw
  clear F1 N1
  obtain ⟨hoff, htab⟩ := hfa
  obtain ⟨hsr, hse, hsl⟩ := hsp
  have hzE : (c.ve ++ [Value.int ((it x.cps.toList c.k : Nat) : Int) c.te]).toArray.size ≤ sizeLine := by
    have := hse.length
    have := it_ge x.cps.toList c.k
    rw [List.size_toArray, sizeLine_eq]
    simp only [List.length_map, List.length_range] at *
    omega
  have hzR : c.vr.toArray.size ≤ sizeLine := by
    have := hsr.length
    have := it_ge x.cps.toList c.k
    rw [List.size_toArray, sizeLine_eq]
    simp only [List.length_map, List.length_range] at *
    omega
  have hL1 : (PySem.Str.ofString "257 \"").length = 5 := by decide
  have hL2 : (PySem.Str.ofString "\"").length = 1 := by decide
  have hL3 : (PySem.Str.ofString "229 (").length = 5 := by decide
  have hL4 : (PySem.Str.ofString ")").length = 1 := by decide
  have hml := most_le x.cps.toList (it x.cps.toList c.k)
  have hxl := len_list x
  k_with "call ref" => ((k_dflt (refine' GT.use (most_all c.psM x _ _ _ hx ?e1 ?e2 hno) ?e3 ?k2 ?k3 ?k4 ?k5 ?k6 ?e4 rfl ?k7 ?k8 ?_; (case e1 => omega); (case e2 => assumption); (case e3 => exact ⟨CodeHd.keeps hCM (Fr.keep (by k_asm)), (htab _ _ (by k_asm) (news_tail4 (by k_asm))).1⟩); (case k2 => k_asm); (case k3 => k_asm); (case k4 => k_asm); (case k5 => k_asm); (case k6 => k_asm); (case k7 => ktr_room); (case k8 => ktr_units); (case e4 => (intro q hq; obtain rfl := List.mem_singleton.mp hq; k_mem)); k_whole)); (intro r9 h9 tk9 kk9 F9 nn9 hr9); obtain ⟨⟨t9, hr9⟩, ps9, hps9, hT9⟩ := hr9; simp only [Int.toNat_natCast] at hr9; subst hr9; (have hitl : it x.cps.toList c.k < x.length := by omega); (have hlit0 := lit_len hal hitl); obtain ⟨recs1, N1, o1, o2, o3, o4, tab1⟩ := talk_afterM F9 nn9 (by k_asm) hps9 hT9 htab (fun q hq => (hoff q hq).2.2.2) (neA (by omega)) (neA (by omega)))
  k_with "call ref" => ((k_dflt (refine' GT.use (front_all c.psF x _ _ _ _ _ hx ?e1 ?e2 ?e5 ?e6 hno) ?e3 ?k2 ?k3 ?k4 ?k5 ?k6 ?e4 rfl ?k7 ?k8 ?_; (case e1 => omega); (case e2 => omega); (case e5 => omega); (case e6 => (simp only [Int.toNat_natCast]; exact most_occ (by omega))); (case e3 => exact ⟨CodeHd.keeps hCF (Fr.keep (by k_asm)), (tab1 _ _ (by k_asm) (news_tail4 (by k_asm))).2⟩); (case k2 => k_asm); (case k3 => k_asm); (case k4 => k_asm); (case k5 => k_asm); (case k6 => k_asm); (case k7 => ktr_room); (case k8 => ktr_units); (case e4 => (intro q hq; obtain rfl := List.mem_singleton.mp hq; k_mem)); k_whole)); (intro r8 h8 tk8 kk8 F8 nn8 hr8); obtain ⟨⟨t8, hr8⟩, ps8, hps8, hT8⟩ := hr8; simp only [Int.toNat_natCast] at hr8; subst hr8; (have hf1 := (first_spec x.cps.toList (it x.cps.toList c.k) (most x.cps.toList (it x.cps.toList c.k))).1); obtain ⟨recs2, N2, o5, o6, o7, o8, tab2⟩ := talk_afterF F8 nn8 (by k_asm) hps8 hT8 tab1 o3 (neA (by omega)) (neA (by omega)))
  k_with "call type:str" => ((refine str_rule (m := 16 * (first x.cps.toList (it x.cps.toList c.k) (most x.cps.toList (it x.cps.toList c.k)) : Nat) + (most x.cps.toList (it x.cps.toList c.k) : Nat)) ?q1 ?q2 ?q3 ?_; (case q1 => omega); (case q2 => omega); (case q3 => omega)); intro hdig)
  k_steps
  · refine' talk_end (c := c) ?k1 ?k2 ?k3 ?k4 ?k6 ?k7 ?k8 ?k9 ?k10 hitl hsr hse ?k5
    case k1 => k_asm
    case k2 => k_asm
    case k6 => exact o1
    case k7 => exact o2
    case k8 => exact o3
    case k9 => exact o4
    case k10 => exact tab1
    case k3 => exact nxt_int _ _
    case k4 => exact rep_lit mk hitl (by assumption)
    case k5 =>
      intro z _ h3
      obtain ⟨z1, z2, z3⟩ := tst h3
      simp only [kstB, if_neg z1, if_neg z2, if_neg z3, h3, Bool.false_eq_true, if_false]
  · refine' talk_end (c := c) ?k1 ?k2 ?k3 ?k4 ?k6 ?k7 ?k8 ?k9 ?k10 hitl hsr hse ?k5
    case k1 => k_asm
    case k2 => k_asm
    case k6 => exact o5
    case k7 => exact o6
    case k8 => exact o7
    case k9 => exact o8
    case k10 => exact tab2
    case k3 => exact nxt_int _ _
    case k4 =>
      try rw [Int.add_sub_cancel]
      exact rep_cpy mk (by assumption)
    case k5 =>
      intro z _ h3
      obtain ⟨z1, z2, z3⟩ := tst h3
      simp only [kstB, if_neg z1, if_neg z2, if_neg z3, h3, Bool.false_eq_true, if_false]
  · refine' leaveE ?k1 ?k2 ?_
    case k1 => k_asm
    case k2 => k_asm
    intro kk nn
    dsimp only
    refine hret _ _ _ (fun b o e => kk b o (hgq ▸ e)) (talk_ret hgq nn ?l1 ?l2 ?l3 (by assumption) (by assumption) hsl hsr)
    all_goals (refine ltN ?_; omega)
end
end Mine
end

section
open PySem PySem.Builtin PySem.Builtin.Str PySem.StrLaws
namespace Mine
theorem backRp : True := by
  k_with_none
  w_top off
  exact trivial
abbrev mkS (m : Nat) : PS := ⟨#[m]⟩
/-- the mark: none of a digit, a bracket, 2, 9, a blank -/
abbrev MarkOk (m : Nat) : Prop := m = 124 ∨ m = 33 ∨ m = 97 ∨ m = 34
def KL (m : Nat) (D : List Nat) : PS := ⟨([50, 50, 57, 32, 40, m, m, m] ++ D ++ [m, 41]).toArray⟩
theorem digs (p : Nat) : ∀ c ∈ (PySem.Str.ofString (toString ((p : Nat) : Int))).cps.toList, 48 ≤ c ∧ c ≤ 57 := by
  intro c hc
  rw [PySem.W.KIN.signs_num] at hc
  obtain ⟨ch, hch, e⟩ := List.mem_map.mp hc
  rw [← e]
  exact PyProof.Rows.digit_range (Nat.isDigit_of_mem_toDigits (by decide) (by decide) hch)
theorem str_eq {x : PS} {l : List Nat} (h : x.cps.toList = l) : x = ⟨l.toArray⟩ := Str.ext' (Array.toList_inj.mp (by rw [h]))
theorem mul3 (m : Nat) : Txt.mul (mkS m) 3 = ⟨#[m, m, m]⟩ := rfl
theorem cpy_KL (m : Nat) (p : Int) : cpyR (mkS m) p = KL m (PySem.Str.ofString (toString p)).cps.toList := by
  refine str_eq ?_
  unfold cpyR
  rw [mul3]
  simp only [Str.cps_append, Array.toList_append]
  rw [show (PySem.Str.ofString "229 (").cps.toList = [50, 50, 57, 32, 40] by decide +kernel, show (PySem.Str.ofString ")").cps.toList = [41] by decide +kernel]
  simp
theorem KL_list (m : Nat) (D : List Nat) : (KL m D).cps.toList = [50, 50, 57, 32, 40, m, m, m] ++ D ++ [m, 41] := rfl
theorem KL_len (m : Nat) (D : List Nat) : (KL m D).length = D.length + 10 := by rw [len_list, KL_list]; simp
theorem KL_pre (m : Nat) (D : List Nat) : Txt.slice (KL m D) none (some 3) = PySem.Str.ofString "229" := by
  have e := slice_ns (KL m D) 3 (by decide) (by rw [KL_len]; omega)
  rw [str_eq e, show PySem.Str.ofString "229" = ⟨#[50, 50, 57]⟩ by decide +kernel]
  rfl
theorem KL_at (m : Nat) (D : List Nat) (i : Nat) : (KL m D).cps.toList[i]? = if i < 8 then [50, 50, 57, 32, 40, m, m, m][i]? else if i < 8 + D.length then D[i - 8]? else [m, 41][i - (8 + D.length)]? := by
  rw [KL_list]
  split
  · rename_i h
    rw [List.append_assoc, List.getElem?_append_left (by simp; omega)]
  · rename_i h
    split
    · rename_i h2
      rw [List.getElem?_append_left (by simp; omega), List.getElem?_append_right (by simp; omega)]
      rfl
    · rename_i h2
      rw [List.getElem?_append_right (by simp; omega)]
      simp only [List.length_append, List.length_cons, List.length_nil]
theorem KL_open (m : Nat) (D : List Nat) : Txt.find (KL m D) (PySem.Str.ofString "(") = 4 := by
  rw [show PySem.Str.ofString "(" = mkS 40 by decide +kernel]
  unfold Txt.find
  have at4 : At (KL m D) (mkS 40) (KL m D).length 4 := (subAt_one (KL m D) 40 4).mpr (by rw [KL_at]; rfl)
  rcases occ_head_from (KL m D) (mkS 40) 0 1 (Nat.le_refl 1) with ⟨_, hn⟩ | ⟨k, r, e, _, hk, hn⟩
  · exact absurd at4 (hn 4 (Nat.zero_le _))
  · rw [e]
    have h4 : ¬ 4 < k := fun h => hn 4 (Nat.zero_le _) h at4
    have hk' := (subAt_one (KL m D) 40 k).mp hk
    rw [KL_at, if_pos (by omega)] at hk'
    have : k = 0 ∨ k = 1 ∨ k = 2 ∨ k = 3 ∨ k = 4 := by omega
    rcases this with rfl | rfl | rfl | rfl | rfl
    · exact absurd hk' (by simp)
    · exact absurd hk' (by simp)
    · exact absurd hk' (by simp)
    · exact absurd hk' (by simp)
    · rfl
theorem KL_close {m : Nat} {D : List Nat} (hm : MarkOk m) (hD : ∀ c ∈ D, 48 ≤ c ∧ c ≤ 57) : Txt.find3 (KL m D) (PySem.Str.ofString ")") 5 = ((D.length + 9 : Nat) : Int) := by
  rw [show PySem.Str.ofString ")" = mkS 41 by decide +kernel]
  have hf : fromIndex (KL m D).length 5 = 5 := by unfold fromIndex; rw [if_neg (by decide)]; rfl
  unfold Txt.find3
  rw [hf]
  have atE : At (KL m D) (mkS 41) (KL m D).length (D.length + 9) := (subAt_one (KL m D) 41 _).mpr (by
    rw [KL_at, if_neg (by omega), if_neg (by omega), show D.length + 9 - (8 + D.length) = 1 by omega]; rfl)
  rcases occ_head_from (KL m D) (mkS 41) 5 1 (Nat.le_refl 1) with ⟨_, hn⟩ | ⟨k, r, e, hlo, hk, hn⟩
  · exact absurd atE (hn _ (by omega))
  · rw [e]
    have h4 : ¬ D.length + 9 < k := fun h => hn _ (by omega) h atE
    have hk' := (subAt_one (KL m D) 41 k).mp hk
    rw [KL_at] at hk'
    show (k : Int) = _
    have hm41 : m ≠ 41 := by rcases hm with h | h | h | h <;> omega
    by_cases h8 : k < 8
    · rw [if_pos h8] at hk'
      have : k = 5 ∨ k = 6 ∨ k = 7 := by omega
      rcases this with rfl | rfl | rfl <;> exact absurd (by simpa using hk') hm41
    · rw [if_neg h8] at hk'
      by_cases h9 : k < 8 + D.length
      · rw [if_pos h9] at hk'
        have := hD 41 (List.mem_of_getElem? hk')
        omega
      · rw [if_neg h9] at hk'
        by_cases h10 : k = 8 + D.length
        · rw [h10, Nat.sub_self] at hk'
          exact absurd (by simpa using hk') hm41
        · omega
theorem KL_item5 (m : Nat) (D : List Nat) : Txt.item (KL m D) 5 = mkS m := by
  have := item_at (KL m D) 5 (by rw [KL_len]; omega)
  rw [show ((5 : Nat) : Int) = 5 from rfl] at this
  rw [this, List.getD_eq_getElem?_getD, KL_at]; rfl
theorem KL_itemR (m : Nat) (D : List Nat) : Txt.item (KL m D) (((D.length + 9 : Nat) : Int) - 1) = mkS m := by
  have := item_at (KL m D) (D.length + 8) (by rw [KL_len]; omega)
  rw [show ((D.length + 9 : Nat) : Int) - 1 = ((D.length + 8 : Nat) : Int) by omega, this, List.getD_eq_getElem?_getD, KL_at, if_neg (by omega), if_neg (by omega), show D.length + 8 - (8 + D.length) = 0 by omega]
  rfl
def mid (m : Nat) (D : List Nat) : PS := ⟨([m, m, m] ++ D ++ [m]).toArray⟩
theorem mid_list (m : Nat) (D : List Nat) : (mid m D).cps.toList = [m, m, m] ++ D ++ [m] := rfl
theorem mid_len (m : Nat) (D : List Nat) : (mid m D).length = D.length + 4 := by rw [len_list, mid_list]; simp
theorem KL_mid (m : Nat) (D : List Nat) : Txt.slice (KL m D) (some 5) (some ((D.length + 9 : Nat) : Int)) = mid m D := by
  have e := slice_ss (KL m D) 5 ((D.length + 9 : Nat) : Int) (by decide) (by omega) (by rw [KL_len]; omega)
  refine (str_eq e).trans ?_
  unfold mid
  congr 2
  rw [KL_list, show ((5 : Int)).toNat = 5 from rfl, Int.toNat_natCast, show D.length + 9 - 5 = ([m, m, m] ++ D ++ [m]).length by simp]
  show List.take _ ([m, m, m] ++ D ++ [m, 41]) = _
  rw [show [m, m, m] ++ D ++ [m, 41] = ([m, m, m] ++ D ++ [m]) ++ [41] by simp, List.take_left]
theorem mid_at (m : Nat) (D : List Nat) (i : Nat) : (mid m D).cps.toList[i]? = if i < 3 then some m else if i < 3 + D.length then D[i - 3]? else if i = 3 + D.length then some m else none := by
  rw [mid_list]
  split
  · rename_i h
    rw [List.append_assoc, List.getElem?_append_left (by simp; omega)]
    have : i = 0 ∨ i = 1 ∨ i = 2 := by omega
    rcases this with rfl | rfl | rfl <;> rfl
  · rename_i h
    split
    · rename_i h2
      rw [List.getElem?_append_left (by simp; omega), List.getElem?_append_right (by simp; omega)]
      rfl
    · rename_i h2
      rw [List.getElem?_append_right (by simp; omega)]
      simp only [List.length_append, List.length_cons, List.length_nil]
      split
      · rename_i h3; subst h3; simp
      · rename_i h3
        rw [List.getElem?_eq_none (by simp; omega)]
theorem mid_At {m : Nat} {D : List Nat} (hm : m ∉ D) (i : Nat) : At (mid m D) (mkS m) (mid m D).length i ↔ i < 3 ∨ i = 3 + D.length := by
  unfold At
  rw [subAt_one, mid_at]
  split
  · rename_i h; simp [h]
  · rename_i h
    split
    · rename_i h2
      constructor
      · intro e; exact absurd (List.mem_of_getElem? e) hm
      · intro e; omega
    · rename_i h2
      split
      · rename_i h3; simp [h3]
      · rename_i h3; constructor
        · intro e; cases e
        · intro e; omega
theorem mid_occ {m : Nat} {D : List Nat} (hm : m ∉ D) : occurrences (mid m D) (mkS m) 0 (mid m D).length ((mid m D).length + 1) = [0, 1, 2, 3 + D.length] := by
  have hat := mid_At hm
  have hl := mid_len m D
  have one : (mkS m).length = 1 := rfl
  rw [occ_is]
  have e : List.range' 0 ((mid m D).length + 1 - 0) = [0, 1, 2] ++ (List.range' 3 D.length ++ ([3 + D.length] ++ List.range' (4 + D.length) 1)) := by
    rw [hl, show D.length + 4 + 1 - 0 = 3 + (D.length + (1 + 1)) by omega, ← List.range'_append_1, ← List.range'_append_1]
    congr 1
    congr 1
    rw [show (1 + 1 : Nat) = 1 + 1 from rfl, List.range'_succ, show 0 + 3 + D.length = 3 + D.length by omega, show 3 + D.length + 1 = 4 + D.length by omega]; rfl
  rw [e, List.foldl_append, List.foldl_append, List.foldl_append]
  have step : ∀ (st : Array Nat × Nat) (i : Nat), (i < 3 ∨ i = 3 + D.length) → st.fst.size ≤ i → st.snd ≤ i → occF (mid m D) (mkS m) (mid m D).length ((mid m D).length + 1) st i = (st.fst.push i, i + 1) := fun st i hi h1 h2 => by
    unfold occF
    have a := (hat i).mpr hi
    have b := a.1
    rw [one] at b
    rw [if_pos ⟨⟨⟨by omega, h2⟩, a.1⟩, a.2⟩, one]
  have f0 : [0, 1, 2].foldl (occF (mid m D) (mkS m) (mid m D).length ((mid m D).length + 1)) (#[], 0) = (#[0, 1, 2], 3) := by
    simp only [List.foldl_cons, List.foldl_nil]
    rw [step (#[], 0) 0 (.inl (by decide)) (by decide) (by decide), step _ 1 (.inl (by decide)) (by decide) (by decide), step _ 2 (.inl (by decide)) (by decide) (by decide)]
    rfl
  rw [f0, fold_none (l := List.range' 3 D.length)]
  · have f1 : [3 + D.length].foldl (occF (mid m D) (mkS m) (mid m D).length ((mid m D).length + 1)) (#[0, 1, 2], 3) = (#[0, 1, 2, 3 + D.length], 3 + D.length + 1) := by
      simp only [List.foldl_cons, List.foldl_nil]
      rw [step _ _ (.inr rfl) (by simp) (by simp)]
      rfl
    rw [f1, fold_none]
    intro i hi hc
    have := (hat i).mp hc
    have := List.mem_range'_1.mp hi
    omega
  · intro i hi hc
    have := (hat i).mp hc
    have := List.mem_range'_1.mp hi
    omega
theorem mid_split {m : Nat} {D : List Nat} (hm : MarkOk m) (hD : ∀ c ∈ D, 48 ≤ c ∧ c ≤ 57) : Txt.split (mid m D) (mkS m) = [PySem.Str.ofString "", PySem.Str.ofString "", PySem.Str.ofString "", ⟨D.toArray⟩, PySem.Str.ofString ""] := by
  have hn : m ∉ D := fun h => by have := hD m h; rcases hm with h | h | h | h <;> omega
  unfold Txt.split
  have k1 : Builtin.Str.strKind (mkS m) = 1 := by rcases hm with rfl | rfl | rfl | rfl <;> decide +kernel
  have hk : (decide ((mid m D).length < (mkS m).length) || decide (Builtin.Str.strKind (mid m D) < Builtin.Str.strKind (mkS m))) = false := by
    rw [k1, mid_len, decide_eq_false (by show ¬ D.length + 4 < 1; omega), Bool.false_or]
    apply decide_eq_false
    unfold Builtin.Str.strKind
    split
    · omega
    · split <;> omega
  rw [hk, mid_occ hn]
  simp only [Bool.false_eq_true, if_false, List.isEmpty_cons]
  rw [partsBetween_eq]
  have en : PySem.Str.ofString "" = ⟨#[]⟩ := by decide +kernel
  show [strSub (mid m D) 0 0, strSub (mid m D) 1 1, strSub (mid m D) 2 2, strSub (mid m D) 3 (3 + D.length), strSub (mid m D) (3 + D.length + 1) (mid m D).length] = _
  rw [en, mid_len]
  rw [strSub_eq (mid m D) 0 0 [] (by simp), strSub_eq (mid m D) 1 1 [] (by simp), strSub_eq (mid m D) 2 2 [] (by simp), strSub_eq (mid m D) (3 + D.length + 1) (D.length + 4) [] (by rw [show D.length + 4 - (3 + D.length + 1) = 0 by omega]; simp)]
  rw [strSub_eq (mid m D) 3 (3 + D.length) D (by
    rw [mid_list, List.append_assoc, show 3 + D.length - 3 = D.length by omega]
    show List.take D.length (D ++ [m]) = D
    rw [List.take_left])]
end Mine
end

section
open PySem PySem.W PySem.Calls PyProof.Rows
namespace Mine
theorem backP257 : True := by
  k_with_none
  w_top off
  exact trivial
section
variable {prog : Program} {w : World} {p : Program} {loose : List PySem.Str} {mean : ExcName → Option Value} {mg mb : PySem.Str → Option Value}
theorem p257a (hs₀ : Heap) (t : Tok) : PT prog w p loose mean mg mb 4 hs₀ 90 [.str (PySem.Str.ofString "257 \"a\"") t] [] (fun r => ∃ t', r = .str (PySem.Str.ofString "a") t') := by
  k_with_none
  unfold PT GT
  intro dp un gd cn cs a ccd cl outer A₀ base h₀ L m s Q E hks B F X N T hk hdp hun hret
  refine wpAny_call ?_
  k_dflt (refine' enterP ?k1 ?k2 ?k3 ?k4 ?k5 ?kA ?kF ?kK ?k6 ?k7 ?k8 ?k9 ?kB ?_ ?c2 ?c3 ?c4 ?c5; (case kA => exact rfl); (case kF => exact rfl); (case kK => assumption); (case k1 => k_asm); (case k2 => k_asm); (case k3 => k_asm); (case k4 => exact News.nil); (case k5 => k_asm); (case k6 => k_is); (case k7 => k_is); (case k8 => ktr_room); (case k9 => exact BindsTo.of_eq rfl); (case c5 => decide); (case kB => exact locs rfl); (case c2 => exact rfl); (case c3 => exact rfl); (case c4 => exact rfl); k_whole; intro g' L' h' hgq FG' F' N' B' X' T' l1; (try dsimp only); (try k_lift B'); (try k_fold))
  clear F N X T B
  k_steps
  all_goals first
    | law_absurd
    | ((refine' leaveE ?k1 ?k2 ?_; (case k1 => k_asm); (case k2 => k_asm)); (intro kk _); (dsimp only); (refine hret _ _ _ (fun b o e => kk b o (hgq ▸ e)) ⟨_, rfl⟩))
theorem p257b (hs₀ : Heap) (t : Tok) : PT prog w p loose mean mg mb 4 hs₀ 90 [.str (PySem.Str.ofString "257 \"b\"") t] [] (fun r => ∃ t', r = .str (PySem.Str.ofString "b") t') := by
  k_with_none
  unfold PT GT
  intro dp un gd cn cs a ccd cl outer A₀ base h₀ L m s Q E hks B F X N T hk hdp hun hret
  refine wpAny_call ?_
  k_dflt (refine' enterP ?k1 ?k2 ?k3 ?k4 ?k5 ?kA ?kF ?kK ?k6 ?k7 ?k8 ?k9 ?kB ?_ ?c2 ?c3 ?c4 ?c5; (case kA => exact rfl); (case kF => exact rfl); (case kK => assumption); (case k1 => k_asm); (case k2 => k_asm); (case k3 => k_asm); (case k4 => exact News.nil); (case k5 => k_asm); (case k6 => k_is); (case k7 => k_is); (case k8 => ktr_room); (case k9 => exact BindsTo.of_eq rfl); (case c5 => decide); (case kB => exact locs rfl); (case c2 => exact rfl); (case c3 => exact rfl); (case c4 => exact rfl); k_whole; intro g' L' h' hgq FG' F' N' B' X' T' l1; (try dsimp only); (try k_lift B'); (try k_fold))
  clear F N X T B
  k_steps
  all_goals first
    | law_absurd
    | ((refine' leaveE ?k1 ?k2 ?_; (case k1 => k_asm); (case k2 => k_asm)); (intro kk _); (dsimp only); (refine hret _ _ _ (fun b o e => kk b o (hgq ▸ e)) ⟨_, rfl⟩))
theorem p257q (hs₀ : Heap) (t : Tok) : PT prog w p loose mean mg mb 4 hs₀ 90 [.str (PySem.Str.ofString "257 \"\"\"\"") t] [] (fun r => ∃ t', r = .str (PySem.Str.ofString "\"") t') := by
  k_with_none
  unfold PT GT
  intro dp un gd cn cs a ccd cl outer A₀ base h₀ L m s Q E hks B F X N T hk hdp hun hret
  refine wpAny_call ?_
  k_dflt (refine' enterP ?k1 ?k2 ?k3 ?k4 ?k5 ?kA ?kF ?kK ?k6 ?k7 ?k8 ?k9 ?kB ?_ ?c2 ?c3 ?c4 ?c5; (case kA => exact rfl); (case kF => exact rfl); (case kK => assumption); (case k1 => k_asm); (case k2 => k_asm); (case k3 => k_asm); (case k4 => exact News.nil); (case k5 => k_asm); (case k6 => k_is); (case k7 => k_is); (case k8 => ktr_room); (case k9 => exact BindsTo.of_eq rfl); (case c5 => decide); (case kB => exact locs rfl); (case c2 => exact rfl); (case c3 => exact rfl); (case c4 => exact rfl); k_whole; intro g' L' h' hgq FG' F' N' B' X' T' l1; (try dsimp only); (try k_lift B'); (try k_fold))
  clear F N X T B
  k_steps
  all_goals first
    | law_absurd
    | ((refine' leaveE ?k1 ?k2 ?_; (case k1 => k_asm); (case k2 => k_asm)); (intro kk _); (dsimp only); (refine hret _ _ _ (fun b o e => kk b o (hgq ▸ e)) ⟨_, rfl⟩))
theorem p257 (hs₀ : Heap) (c : Nat) (t : Tok) (hc : c = 97 ∨ c = 98 ∨ c = 34) : PT prog w p loose mean mg mb 4 hs₀ 90 [.str (litR c) t] [] (fun r => ∃ t', r = .str ⟨#[c]⟩ t') := by
  rcases hc with rfl | rfl | rfl
  · rw [show litR 97 = PySem.Str.ofString "257 \"a\"" by decide +kernel, show (⟨#[97]⟩ : PySem.Str) = PySem.Str.ofString "a" by decide +kernel]; exact p257a hs₀ t
  · rw [show litR 98 = PySem.Str.ofString "257 \"b\"" by decide +kernel, show (⟨#[98]⟩ : PySem.Str) = PySem.Str.ofString "b" by decide +kernel]; exact p257b hs₀ t
  · rw [show litR 34 = PySem.Str.ofString "257 \"\"\"\"" by decide +kernel, show (⟨#[34]⟩ : PySem.Str) = PySem.Str.ofString "\"" by decide +kernel]; exact p257q hs₀ t
end
end Mine
end

section
open PySem PySem.W PySem.Calls PyProof.Rows
namespace Mine
theorem backP229 : True := by
  k_with_none
  w_top off
  exact trivial
section
variable {prog : Program} {w : World} {p : Program} {loose : List PySem.Str} {mean : ExcName → Option Value} {mg mb : PySem.Str → Option Value}
theorem ne_rule {A : Around} {E : Value → Shared → Prop} {s : Shared} {x y : PySem.Str} {t u : Tok} {Q : Value → Shared → Prop} (e : x = y) (h : Q (.bool false) s) : wpAny (model prog w) A (compareOp .NotEq (.str x t) (.str y u)) Q E s := by
  subst e
  exact PyProof.Rows.ne_str (by simpa using h)
theorem find_rule {A : Around} {E : Value → Shared → Prop} {s : Shared} {x y : PySem.Str} {t u : Tok} {k : Int} {Q : Value → Shared → Prop} (e : Txt.find x y = k) (h : Q (.int k s.toks) { s with toks := s.toks + 1 }) : wpAny (model prog w) A (call (.builtin "str.find") [.str x t, .str y u]) Q E s := by
  subst e
  exact SC.find h
theorem find3_rule {A : Around} {E : Value → Shared → Prop} {s : Shared} {x y : PySem.Str} {t u v : Tok} {i k : Int} {Q : Value → Shared → Prop} (e : Txt.find3 x y 5 = k) (hi : i = 5) (h : Q (.int k s.toks) { s with toks := s.toks + 1 }) : wpAny (model prog w) A (call (.builtin "str.find") [.str x t, .str y u, .int i v]) Q E s := by
  subst e hi
  exact SC.find3 h
theorem split5_rule {A : Around} {E : Value → Shared → Prop} {s : Shared} {h₀ : Heap} {L : Addr} {m : PySem.Str → Option Value} {news : List (Addr × Obj)} {x y a b c d e' : PySem.Str} {t u : Tok} {Q : Value → Shared → Prop} (hF : Fr h₀ L s.heap m) (hN : News h₀ L s.heap news) (e : Txt.split x y = [a, b, c, d, e']) (hy : (y.length == 0) = false) (hsz : x.length ≤ 1000)
    (h : ∀ D t1 t2 t3 t4 t5 h' k, Fr h₀ L h' m → News h₀ L h' ((D, listOf [.str a t1, .str b t2, .str c t3, .str d t4, .str e' t5].toArray 0) :: news) → (∀ p ∈ news, p.1 < D) → Q (.ref D) { s with heap := h', toks := k }) :
    wpAny (model prog w) A (call (.builtin "str.split") [.str x t, .str y u]) Q E s :=
  KSpl.split1 hF hN hy (fun D l h' k e1 _ F N lt => by
    have e2 := e1.trans e
    obtain ⟨t1, l1, rfl, e3⟩ := KSpl.cons_of e2
    obtain ⟨t2, l2, rfl, e4⟩ := KSpl.cons_of e3
    obtain ⟨t3, l3, rfl, e5⟩ := KSpl.cons_of e4
    obtain ⟨t4, l4, rfl, e6⟩ := KSpl.cons_of e5
    obtain ⟨t5, l5, rfl, e7⟩ := KSpl.cons_of e6
    have e8 := KSpl.nil_of e7
    subst e8
    exact h D t1 t2 t3 t4 t5 h' k F N lt) (by rw [sizeLine_eq]; omega)
end
section
variable {prog : Program} {w : World} {p : Program} {loose : List PySem.Str} {mean : ExcName → Option Value} {mg mb : PySem.Str → Option Value}
theorem p229 (mk : Nat) (port : Nat) (t tp tq : Tok) (peer : Addr) (hm : MarkOk mk) (hp : port < 1000) :
    GTH prog w p loose mean mg mb 4 (fun h => IsTup h peer #[.str (PySem.Str.ofString "host") tp, .int 21 tq]) 83 [.str (KL mk (PySem.Str.ofString (toString (port : Int))).cps.toList) t, .ref peer] (fun h0 r h => ∃ a t1 t2, r = .ref a ∧ h0.get? a = none ∧ h.get? a = some { cls := .type "tuple", data := .seq [.str (PySem.Str.ofString "host") t1, .int (port : Int) t2].toArray }) := by
  k_with_none
  k_with "compareOp NotEq str str" => ((k_here; k_extra "my ne"))
  k_with "call builtin:str.find" => ((k_here; first | refine find_rule (by with_reducible assumption) ?_ | k_dflt (refine find3_rule (by with_reducible assumption) rfl ?_)))
  k_with "call builtin:str.split" => ((k_here; k_extra "my split"))
  unfold GTH
  intro hd dp un gd cn cs a ccd cl outer A₀ base h₀ L m s Q E hks B F X T hk hdp hun hret
  refine wpAny_call ?_
  k_dflt (refine' enterP ?k1 ?k2 ?k3 ?k4 ?k5 ?kA ?kF ?kK ?k6 ?k7 ?k8 ?k9 ?kB ?_ ?c2 ?c3 ?c4 ?c5; (case kA => exact rfl); (case kF => exact rfl); (case kK => assumption); (case k1 => k_asm); (case k2 => k_asm); (case k3 => k_asm); (case k4 => exact News.nil); (case k5 => k_asm); (case k6 => k_is); (case k7 => k_is); (case k8 => ktr_room); (case k9 => exact BindsTo.of_eq rfl); (case c5 => decide); (case kB => exact locs rfl); (case c2 => exact rfl); (case c3 => exact rfl); (case c4 => exact rfl); k_whole; intro g' L' h' hgq FG' F' N' B' X' T' l1; (try dsimp only); (try k_lift B'); (try k_fold))
  clear F X T B
  have hg : g' = s.heap := hgq
  have hpe : IsTup g' peer #[.str (PySem.Str.ofString "host") tp, .int 21 tq] := by rw [hg]; exact hks
  have hD := digs port
  have q1 := KL_pre mk (PySem.Str.ofString (toString (port : Int))).cps.toList
  have q2 := KL_open mk (PySem.Str.ofString (toString (port : Int))).cps.toList
  have q3 := KL_close hm hD
  have q4 := KL_item5 mk (PySem.Str.ofString (toString (port : Int))).cps.toList
  have q5 := KL_itemR mk (PySem.Str.ofString (toString (port : Int))).cps.toList
  have q6 := mid_split hm hD
  rw [← KL_mid, ← q4, show (⟨(PySem.Str.ofString (toString (port : Int))).cps.toList.toArray⟩ : PySem.Str) = PySem.Str.ofString (toString (port : Int)) by rw [Array.toArray_toList]] at q6
  have q7 := KL_len mk (PySem.Str.ofString (toString (port : Int))).cps.toList
  have q8 : (PySem.Str.ofString (toString (port : Int))).cps.toList.length ≤ 10 := by rw [← len_list]; exact PySem.W.KT.len_num (by omega) (by omega)
  have q9 : (Txt.slice (KL mk (PySem.Str.ofString (toString (port : Int))).cps.toList) (some 5) (some (((PySem.Str.ofString (toString (port : Int))).cps.toList.length + 9 : Nat) : Int))).length ≤ 1000 := by rw [KL_mid, mid_len]; omega
  have q10 : (0 : Int) ≤ port := by omega
  have q11 : (port : Int) < 10 ^ 10 := by omega
  generalize hKK : KL mk (PySem.Str.ofString (toString (port : Int))).cps.toList = KK at *
  generalize hDn : (PySem.Str.ofString (toString (port : Int))).cps.toList.length = dn at *
  have qi : Txt.item KK 5 = Txt.item KK (((dn + 9 : Nat) : Int) - 1) := q4.trans q5.symm
  k_with "my ne" => first | (k_dflt (refine ne_rule q1 ?_)) | (k_dflt (refine ne_rule qi ?_))
  k_with "my split" => ((k_dflt (refine split5_rule (by k_asm) (by k_asm) q6 rfl q9 ?_)); intro D1 t1 t2 t3 t4 t5 h1 k1 F1 N1 l1)
  k_steps
  · exfalso
    omega
  · refine' leaveE ?k1 ?k2 ?_
    case k1 => k_asm
    case k2 => k_asm
    intro kk nn
    dsimp only
    refine hret _ _ _ (fun b o e => kk b o (hgq ▸ e)) ⟨_, _, _, rfl, ?_, News.get nn (.head _)⟩
    have := News.fresh nn (.head _)
    rwa [hg] at this
end
end Mine
end

section
open PySem PySem.W PySem.Calls PyProof.Rows PyProof.V PySem.Spec
namespace Mine
theorem backLp : True := by
  k_with_none
  w_top off
  exact trivial
section
variable {prog : Program} {w : World} {A : Around} {E : Value → Shared → Prop} {s : Shared} {env : Env} {h₀ : Heap} {x : PySem.Str} {body : List Stmt} {Q : Flow → Shared → Prop}
/-- a loop over any list of values; what it keeps is a word of the turn's number -/
theorem iterV {l : Addr} {vs : List Value} {m₀ : PySem.Str → Option Value} {news : List (Addr × Obj)} (J : Nat → (PySem.Str → Option Value) → List (Addr × Obj) → Prop)
    (hh : A.handled = none) (hl : s.heap.IsList l vs.toArray) (hlL : l ≠ env.locals) (F : Fr h₀ env.locals s.heap m₀) (N : News h₀ env.locals s.heap news) (hj : J 0 m₀ news)
    (hoff : ∀ i m nx, J i m nx → ∀ p ∈ nx, h₀.get? p.1 = none → p.1 ≠ l)
    (turn : ∀ i v m₁ news₁ h tk own, vs[i]? = some v → OwnOff own (news₁.map (·.1)) → J i m₁ news₁ → Fr h₀ env.locals h (fun y => if y = x then some v else m₁ y) → News h₀ env.locals h (news₁ ++ own) →
      wpAny (model prog w) A (execs body env) (InvPostG h₀ env.locals (J (i + 1)) own { s with heap := h, toks := tk } Q) E { s with heap := h, toks := tk })
    (done : ∀ m₁ news₁ h tk, J vs.length m₁ news₁ → Fr h₀ env.locals h m₁ → News h₀ env.locals h news₁ → Q .next { s with heap := h, toks := tk }) :
    wpAny (model prog w) A (pyIter (.ref l)) (fun it s₂ => LoopAtV prog w A h₀ env x body Q E it s₂) E s := by
  obtain ⟨ol, hol, hlr⟩ := id hl
  have hlt : l < s.heap.objs.size := Heap.lt_size hol
  have hne : l ≠ s.heap.objs.size := Nat.ne_of_lt hlt
  refine wpAny_pyIter_list hl ?_
  have W := Walks.list (prog := prog) (w := w) hh s.heap.objs.size l hne vs.toArray
  have hlen : vs.toArray.size = vs.length := by simp
  rw [hlen] at W
  refine ⟨_, _, _, vs.length, _, _, m₀, news, J, rfl, W, ?_, ?_, ?_, ⟨⟨_, Heap.get?_push_size _ rfl, rfl, rfl⟩, hl.at fun o e => Heap.get?_push_of_some _ e⟩, F.push _, (fun p hp => ⟨Heap.get?_push_of_some _ (N p hp).1, (N p hp).2⟩), hj, ?_, ?_⟩
  · intro hm
    rcases List.mem_cons.mp hm with e | hm
    · exact absurd F.ns.lt (e ▸ Nat.lt_irrefl _)
    · exact hlL (List.mem_singleton.mp hm).symm
  · intro b hb
    rw [List.mem_singleton.mp hb]
    exact next_is_new F
  · intro p hp hI
    exact absurd (Heap.lt_size (N p hp).1) ((List.mem_singleton.mp hI) ▸ Nat.lt_irrefl _)
  · rintro i v m₁ news₁ s₁ own ⟨hh', tk', rfl⟩ hin hP hJ hoffw hown _ hfp hst F₁ N₁
    have hI0 : h₀.get? s.heap.objs.size = none := next_is_new F
    obtain ⟨⟨oI, hoI, _⟩, _⟩ := id hst
    have hIown : (s.heap.objs.size, oI) ∈ own := hfp _ (List.mem_cons.mpr (.inl rfl)) hI0 _ hoI
    have hsep : OwnOff own (news₁.map (·.1)) := by
      intro p hp b hb e
      obtain ⟨q, hq, rfl⟩ := List.mem_map.mp hb
      rcases List.mem_cons.mp (hown p hp) with h1 | h1
      · exact hoffw q hq (List.mem_singleton.mpr (e ▸ h1))
      · exact hoff i m₁ news₁ hJ q hq (N₁ q (List.mem_append.mpr (.inr hq))).2.2 (e ▸ List.mem_singleton.mp h1)
    have hv : vs[i]? = some v := by simpa using hP
    have N₂ : News h₀ env.locals hh' (news₁ ++ own) := fun p hp => N₁ p ((List.mem_append.mp hp).elim (fun h => List.mem_append.mpr (.inr h)) fun h => List.mem_append.mpr (.inl h))
    refine wpAny_mono (turn i v m₁ news₁ hh' tk' own hv hsep hJ F₁ N₂) (fun f s₂ p => ?_) fun _ _ e => e
    have fin : InvEndG h₀ env.locals (J (i + 1)) own { s with heap := hh', toks := tk' } s₂ → LoopStepU h₀ env.locals [s.heap.objs.size] own (J (i + 1)) { s with heap := hh', toks := tk' } .next s₂ := by
      rintro ⟨h', tk, m', news', nx, e, F', N', hn, ho, ha, hm⟩
      refine ⟨rfl, h', tk, m', nx, e, F', fun p hp => N' p ((List.mem_append.mp hp).elim (ho p) (hn p)), fun p hp hq => ?_, hm⟩
      exact ha _ hIown p.1 (List.mem_map.mpr ⟨p, hp, rfl⟩) (List.mem_singleton.mp hq).symm
    cases f with
    | ret v => exact .ret p
    | brk => exact .brk p
    | next => exact .next (fin p)
    | cont => exact .cont (fin p)
  · rintro h' tk m' news' F' N' _ hJ
    exact done m' news' h' tk hJ F' N'
/-- a loop over a range by ones, whatever walk of it is at hand -/
theorem iterR {r : Addr} {a₀ b₀ : Int} {t₀ u₀ v₀ : Tok} {n : Nat} {fp : List Addr} {St : Nat → Heap → Prop} {m₀ : PySem.Str → Option Value} {news : List (Addr × Obj)} (J : Nat → (PySem.Str → Option Value) → List (Addr × Obj) → Prop)
    (hr : IsRange s.heap r a₀ b₀ 1 t₀ u₀ v₀) (hsmall : Builtin.Range.small a₀ b₀ 1 = true) (hn : Builtin.Range.rangeSize a₀ b₀ 1 = (n : Int))
    (W : Walks prog w A s.heap.objs.size (s.heap.objs.size :: fp) [s.heap.objs.size] n (fun i v => i < n ∧ ∃ t, v = .int (a₀ + i) t) St)
    (hst0 : St 0 (s.heap.push { cls := .type "range_iterator", data := .fields #[rawInt a₀, rawInt (n : Int), rawInt 1] })) (hsto : ∀ i h, St i h → ∃ o, h.get? s.heap.objs.size = some o) (hfp : env.locals ∉ fp)
    (F : Fr h₀ env.locals s.heap m₀) (N : News h₀ env.locals s.heap news) (hj : J 0 m₀ news)
    (hoff : ∀ i m nx, J i m nx → ∀ p ∈ nx, h₀.get? p.1 = none → p.1 ∉ fp)
    (turn : ∀ i t m₁ news₁ h tk own, i < n → OwnOff own (news₁.map (·.1)) → (∀ b ∈ fp, h₀.get? b = none → ∀ o, h.get? b = some o → (b, o) ∈ own) → St (i + 1) h → J i m₁ news₁ → Fr h₀ env.locals h (fun y => if y = x then some (.int (a₀ + i) t) else m₁ y) → News h₀ env.locals h (news₁ ++ own) →
      wpAny (model prog w) A (execs body env) (InvPostG h₀ env.locals (J (i + 1)) own { s with heap := h, toks := tk } Q) E { s with heap := h, toks := tk })
    (done : ∀ m₁ news₁ h tk, J n m₁ news₁ → Fr h₀ env.locals h m₁ → News h₀ env.locals h news₁ → Q .next { s with heap := h, toks := tk }) :
    wpAny (model prog w) A (pyIter (.ref r)) (fun it s₂ => LoopAtV prog w A h₀ env x body Q E it s₂) E s := by
  refine wpAny_pyIter_range hr hsmall ?_
  have hI0 : h₀.get? s.heap.objs.size = none := next_is_new F
  refine ⟨_, _, _, n, _, _, m₀, news, J, rfl, W, ?_, ?_, ?_, (by rw [hn]; exact hst0), F.push _, (fun p hp => ⟨Heap.get?_push_of_some _ (N p hp).1, (N p hp).2⟩), hj, ?_, ?_⟩
  · intro hm
    rcases List.mem_cons.mp hm with e | hm
    · exact absurd F.ns.lt (e ▸ Nat.lt_irrefl _)
    · exact hfp hm
  · intro b hb
    rw [List.mem_singleton.mp hb]
    exact hI0
  · intro p hp hI
    exact absurd (Heap.lt_size (N p hp).1) ((List.mem_singleton.mp hI) ▸ Nat.lt_irrefl _)
  · rintro i v m₁ news₁ s₁ own ⟨hh', tk', rfl⟩ hin ⟨hi, t, rfl⟩ hJ hoffw hown _ hfpo hst F₁ N₁
    obtain ⟨oI, hoI⟩ := hsto _ _ hst
    have hIown : (s.heap.objs.size, oI) ∈ own := hfpo _ (List.mem_cons.mpr (.inl rfl)) hI0 _ hoI
    have hsep : OwnOff own (news₁.map (·.1)) := by
      intro p hp b hb e
      obtain ⟨q, hq, rfl⟩ := List.mem_map.mp hb
      rcases List.mem_cons.mp (hown p hp) with h1 | h1
      · exact hoffw q hq (List.mem_singleton.mpr (e ▸ h1))
      · exact hoff i m₁ news₁ hJ q hq (N₁ q (List.mem_append.mpr (.inr hq))).2.2 (e ▸ h1)
    have N₂ : News h₀ env.locals hh' (news₁ ++ own) := fun p hp => N₁ p ((List.mem_append.mp hp).elim (fun h => List.mem_append.mpr (.inr h)) fun h => List.mem_append.mpr (.inl h))
    refine wpAny_mono (turn i t m₁ news₁ hh' tk' own hi hsep (fun b hb => hfpo b (List.mem_cons_of_mem _ hb)) hst hJ F₁ N₂) (fun f s₂ p => ?_) fun _ _ e => e
    have fin : InvEndG h₀ env.locals (J (i + 1)) own { s with heap := hh', toks := tk' } s₂ → LoopStepU h₀ env.locals [s.heap.objs.size] own (J (i + 1)) { s with heap := hh', toks := tk' } .next s₂ := by
      rintro ⟨h', tk, m', news', nx, e, F', N', hn, ho, ha, hm⟩
      refine ⟨rfl, h', tk, m', nx, e, F', fun p hp => N' p ((List.mem_append.mp hp).elim (ho p) (hn p)), fun p hp hq => ?_, hm⟩
      exact ha _ hIown p.1 (List.mem_map.mpr ⟨p, hp, rfl⟩) (List.mem_singleton.mp hq).symm
    cases f with
    | ret v => exact .ret p
    | brk => exact .brk p
    | next => exact .next (fin p)
    | cont => exact .cont (fin p)
  · rintro h' tk m' news' F' N' _ hJ
    exact done m' news' h' tk hJ F' N'
end
end Mine
end

section
open PySem
namespace Mine
theorem backDet : True := by
  k_with_none
  w_top off
  exact trivial
/-- the one step of a run whose stack is empty -/
def Nxt (M : Model) (Γ : Ctx) (p : Pos) (t : Sem Fin) (s : Shared) (e : End) (s' : Shared) : Prop :=
  match t with
  | .pure (.done f) => e = .ret (.ok f) ∧ s' = s
  | .raise x => e = .ret (.error x) ∧ s' = s
  | .pure (.again c) => Runs M (Γ.goto c) p (M.den c) [] s e s'
  | .rule _ k => Runs M Γ p (k ()) [] s e s'
  | .at p' k => Runs M Γ p' (k ()) [] s e s'
  | .load a _ k => ∃ o, s.heap.get? a = some o ∧ Runs M Γ p (k o) [] s e s'
  | .update a _ f k => Runs M Γ p (k ()) [] { s with heap := s.heap.update a f } e s'
  | .loadIfAlive a k => Runs M Γ p (k (s.heap.get? a)) [] s e s'
  | .point _ k => Runs M Γ p (k ()) [] s e s'
  | .alloc o k => Runs M Γ p (k s.heap.objs.size) [] { s with heap := s.heap.push o } e s'
  | .fresh k => Runs M Γ p (k s.toks) [] { s with toks := s.toks + 1 } e s'
  | .ask k => Runs M Γ p (k ⟨M.prog, M.w.params⟩) [] s e s'
  | .choose src n k => Runs M Γ p (k (M.w.draws src (s.drawn.get src) % n)) [] { s with drawn := s.drawn.bump src } e s'
  | .os q _ k => Runs M Γ p (k (Os.step s.os q).2) [] { s with os := (Os.step s.os q).1 } e s'
  | .handled own k => Runs M Γ p (k (if own then Γ.own else Γ.handled)) [] s e s'
  | .genState g k => ∃ st, s.gens[g]? = some st ∧ Runs M Γ p (k st.seen) [] s e s'
  | .stack k => Runs M Γ p (k ((Γ.code, p) :: Γ.below)) [] s e s'
  | .thread k => Runs M Γ p (k 0) [] s e s'
  | .newGen c k => Runs M Γ p (k s.gens.size) [] { s with gens := s.gens.push (.fresh c) } e s'
  | .call c h g l k => (∃ r s₁, Runs M (Γ.enter c h p) p (M.den c) [] s (.ret r) s₁ ∧ Runs M Γ p (k r) [] s₁ e s') ∨
      ∃ v g₀ l₀ k₀ c₀ p₀ fs, Runs M (Γ.enter c h p) p (M.den c) [] s (.susp v g₀ l₀ k₀ c₀ p₀ fs) s' ∧ e = .susp v g₀ l₀ k₀ c₀ p₀ (fs ++ [.ret k h g l Γ.code p []])
  | .yield v g l k => e = .susp v g l k Γ.code p [] ∧ s' = s
  | .resume g r _ k => ∃ res s₁, Wakes M Γ p g r s res s₁ ∧ Runs M Γ p (k res) [] s₁ e s'
  | _ => False
/-- the one step of a run above a frame -/
def Seg (M : Model) (Γ : Ctx) (p : Pos) (t : Sem Fin) (F : Frame) (fs : List Frame) (s : Shared) (e : End) (s' : Shared) : Prop :=
  ∃ e₀ s₁, Runs M (Γ.over (F :: fs)) p t [] s e₀ s₁ ∧
    match e₀ with
    | .ret r => (match F with
      | .ret k _ _ _ c₁ p₁ _ => Runs M (Γ.goto c₁) p₁ (k r) fs s₁ e s'
      | .gen g k _ c₁ p₁ => Runs M (Γ.goto c₁) p₁ (k (End.ret r).result) fs (s₁.setGen g .finished) e s')
    | .susp v g₀ l₀ k₀ c₀ p₀ fs₀ => (match splitAtGen (F :: fs) with
      | none => e = .susp v g₀ l₀ k₀ c₀ p₀ (fs₀ ++ F :: fs) ∧ s' = s₁
      | some (pre, (g, k, c₁, p₁), rest) => Runs M (Γ.goto c₁) p₁ (k (.yielded v)) rest (s₁.setGen g (End.susp v g₀ l₀ k₀ c₀ p₀ (fs₀ ++ pre)).genState) e s')
def Nx (M : Model) (Γ : Ctx) (p : Pos) (t : Sem Fin) (fs : List Frame) (s : Shared) (e : End) (s' : Shared) : Prop :=
  match fs with
  | [] => Nxt M Γ p t s e s'
  | F :: fs => Seg M Γ p t F fs s e s'
theorem nxs {M : Model} {Γ : Ctx} {p : Pos} {t : Sem Fin} {fs : List Frame} {s s' : Shared} {e : End} (h : Runs M Γ p t fs s e s') : Nx M Γ p t fs s e s' := by
  induction h using Runs.casesOn with
  | done => exact ⟨rfl, rfl⟩
  | raise => exact ⟨rfl, rfl⟩
  | again _ h => exact h
  | rule h => exact h
  | «at» h => exact h
  | load ho h => exact ⟨_, ho, h⟩
  | update _ h => exact h
  | loadIfAlive h => exact h
  | point h => exact h
  | alloc h => exact h
  | fresh h => exact h
  | ask h => exact h
  | choose _ h => exact h
  | os h => exact h
  | handled h => exact h
  | genState hg h => exact ⟨_, hg, h⟩
  | stack h => exact h
  | thread h => exact h
  | newGen h => exact h
  | call h h' => exact .inl ⟨_, _, h, h'⟩
  | callSusp h => exact .inr ⟨_, _, _, _, _, _, _, h, rfl⟩
  | yield => exact ⟨rfl, rfl⟩
  | resumeFresh hg h hq h' => exact (PySem.Sem.runs_resume_iff M _ (l := [])).mp (Runs.resumeFresh hg h hq h')
  | resumeSuspended hg h hq h' => exact (PySem.Sem.runs_resume_iff M _ (l := [])).mp (Runs.resumeSuspended hg h hq h')
  | resumeJustStarted hg hv h => exact (PySem.Sem.runs_resume_iff M _ (l := [])).mp (Runs.resumeJustStarted hg hv h)
  | resumeThrowFresh hg h => exact (PySem.Sem.runs_resume_iff M _ (l := [])).mp (Runs.resumeThrowFresh hg h)
  | resumeRunning hg h => exact (PySem.Sem.runs_resume_iff M _ (l := [])).mp (Runs.resumeRunning hg h)
  | resumeFinished hg h => exact (PySem.Sem.runs_resume_iff M _ (l := [])).mp (Runs.resumeFinished hg h)
  | segRet h h' => exact ⟨_, _, h, h'⟩
  | segGen h h' => exact ⟨_, _, h, h'⟩
  | segSuspOut hs h => exact ⟨_, _, h, by rw [hs]; exact ⟨rfl, rfl⟩⟩
  | segSuspGen hs h hq h' => exact ⟨_, _, h, by rw [hs]; exact h'⟩
theorem wakes_js {M : Model} {Γ : Ctx} {p : Pos} {g : Nat} {c : Code} {v : Value} {s s₁ : Shared} {res : GenResult} (hg : s.gens[g]? = some (.fresh c)) (hv : v ≠ .none) (hw : Wakes M Γ p g (.send v) s res s₁) : res = .justStarted ∧ s₁ = s := by
  unfold Wakes at hw
  rw [hg] at hw
  cases v with
  | none => exact absurd rfl hv
  | _ => exact hw
/-- a run has one end -/
theorem runs_one {M : Model} {Γ : Ctx} {p : Pos} {t : Sem Fin} {fs : List Frame} {s s₁ : Shared} {e₁ : End} (h : Runs M Γ p t fs s e₁ s₁) :
    ∀ {e₂ : End} {s₂ : Shared}, Runs M Γ p t fs s e₂ s₂ → e₁ = e₂ ∧ s₁ = s₂ := by
  induction h with
  | done => intro e₂ s₂ h₂; have := nxs h₂; exact ⟨this.1.symm, this.2.symm⟩
  | raise => intro e₂ s₂ h₂; have := nxs h₂; exact ⟨this.1.symm, this.2.symm⟩
  | again _ _ ih => exact fun h₂ => ih (nxs h₂)
  | rule _ ih => exact fun h₂ => ih (nxs h₂)
  | «at» _ ih => exact fun h₂ => ih (nxs h₂)
  | load ho _ ih =>
    intro e₂ s₂ h₂
    obtain ⟨o, ho', h⟩ := nxs h₂
    rw [ho] at ho'; cases ho'; exact ih h
  | update _ _ ih => exact fun h₂ => ih (nxs h₂)
  | loadIfAlive _ ih => exact fun h₂ => ih (nxs h₂)
  | point _ ih => exact fun h₂ => ih (nxs h₂)
  | alloc _ ih => exact fun h₂ => ih (nxs h₂)
  | fresh _ ih => exact fun h₂ => ih (nxs h₂)
  | ask _ ih => exact fun h₂ => ih (nxs h₂)
  | choose _ _ ih => exact fun h₂ => ih (nxs h₂)
  | os _ ih => exact fun h₂ => ih (nxs h₂)
  | handled _ ih => exact fun h₂ => ih (nxs h₂)
  | genState hg _ ih =>
    intro e₂ s₂ h₂
    obtain ⟨o, hg', h⟩ := nxs h₂
    rw [hg] at hg'; cases hg'; exact ih h
  | stack _ ih => exact fun h₂ => ih (nxs h₂)
  | thread _ ih => exact fun h₂ => ih (nxs h₂)
  | newGen _ ih => exact fun h₂ => ih (nxs h₂)
  | call _ _ ih1 ih2 =>
    intro e₂ s₂ h₂
    rcases nxs h₂ with ⟨r, s₁, h, h'⟩ | ⟨_, _, _, _, _, _, _, h, _⟩
    · obtain ⟨q, rfl⟩ := ih1 h
      cases q
      exact ih2 h'
    · have := (ih1 h).1; cases this
  | callSusp _ ih1 =>
    intro e₂ s₂ h₂
    rcases nxs h₂ with ⟨r, s₁, h, h'⟩ | ⟨_, _, _, _, _, _, _, h, rfl⟩
    · have := (ih1 h).1; cases this
    · obtain ⟨q, rfl⟩ := ih1 h
      cases q
      exact ⟨rfl, rfl⟩
  | yield => intro e₂ s₂ h₂; have := nxs h₂; exact ⟨this.1.symm, this.2.symm⟩
  | resumeFresh hg _ _ _ ih1 ih2 =>
    intro e₂ s₂ h₂
    obtain ⟨res, s₁, hw, h'⟩ := nxs h₂
    unfold Wakes at hw
    rw [hg] at hw
    obtain ⟨e₁, t₁, h, _, rfl, rfl⟩ := hw
    obtain ⟨rfl, rfl⟩ := ih1 h
    exact ih2 h'
  | resumeSuspended hg _ _ _ ih1 ih2 =>
    intro e₂ s₂ h₂
    obtain ⟨res, s₁, hw, h'⟩ := nxs h₂
    unfold Wakes at hw
    rw [hg] at hw
    obtain ⟨e₁, t₁, h, _, rfl, rfl⟩ := hw
    obtain ⟨rfl, rfl⟩ := ih1 h
    exact ih2 h'
  | resumeJustStarted hg hv _ ih =>
    intro e₂ s₂ h₂
    obtain ⟨res, s₁, hw, h'⟩ := nxs h₂
    obtain ⟨rfl, rfl⟩ := wakes_js hg hv hw
    exact ih h'
  | resumeThrowFresh hg _ ih =>
    intro e₂ s₂ h₂
    obtain ⟨res, s₁, hw, h'⟩ := nxs h₂
    unfold Wakes at hw
    rw [hg] at hw
    obtain ⟨rfl, rfl⟩ := hw
    exact ih h'
  | resumeRunning hg _ ih =>
    intro e₂ s₂ h₂
    obtain ⟨res, s₁, hw, h'⟩ := nxs h₂
    unfold Wakes at hw
    rw [hg] at hw
    obtain ⟨rfl, rfl⟩ := hw
    exact ih h'
  | resumeFinished hg _ ih =>
    intro e₂ s₂ h₂
    obtain ⟨res, s₁, hw, h'⟩ := nxs h₂
    unfold Wakes at hw
    rw [hg] at hw
    obtain ⟨rfl, rfl⟩ := hw
    exact ih h'
  | segRet _ _ ih1 ih2 =>
    intro e₂ s₂ h₂
    obtain ⟨e₀, t₁, h, h'⟩ := nxs h₂
    obtain ⟨rfl, rfl⟩ := ih1 h
    exact ih2 h'
  | segGen _ _ ih1 ih2 =>
    intro e₂ s₂ h₂
    obtain ⟨e₀, t₁, h, h'⟩ := nxs h₂
    obtain ⟨rfl, rfl⟩ := ih1 h
    exact ih2 h'
  | segSuspOut hs _ ih1 =>
    intro e₂ s₂ h₂
    obtain ⟨e₀, t₁, h, h'⟩ := nxs h₂
    obtain ⟨rfl, rfl⟩ := ih1 h
    rw [hs] at h'
    exact ⟨h'.1.symm, h'.2.symm⟩
  | segSuspGen hs _ _ _ ih1 ih2 =>
    intro e₂ s₂ h₂
    obtain ⟨e₀, t₁, h, h'⟩ := nxs h₂
    obtain ⟨rfl, rfl⟩ := ih1 h
    rw [hs] at h'
    exact ih2 h'
theorem wakes_one {M : Model} {Γ : Ctx} {p : Pos} {g : Nat} {r : Resume} {s s₁ s₂ : Shared} {x₁ x₂ : GenResult} (h₁ : Wakes M Γ p g r s x₁ s₁) (h₂ : Wakes M Γ p g r s x₂ s₂) : x₁ = x₂ ∧ s₁ = s₂ := by
  unfold Wakes at h₁ h₂
  split at h₁
  · exact h₁.elim
  · rename_i c hg
    rw [hg] at h₂
    dsimp only at h₂
    cases r with
    | throw x => exact ⟨h₁.1.trans h₂.1.symm, h₁.2.trans h₂.2.symm⟩
    | send v =>
      cases v with
      | none =>
        obtain ⟨e₁, t₁, r₁, _, rfl, rfl⟩ := h₁
        obtain ⟨e₂, t₂, r₂, _, rfl, rfl⟩ := h₂
        obtain ⟨rfl, rfl⟩ := runs_one r₁ r₂
        exact ⟨rfl, rfl⟩
      | _ => exact ⟨h₁.1.trans h₂.1.symm, h₁.2.trans h₂.2.symm⟩
  · rename_i k₀ l₀ c₀ p₀ fs cl hg
    rw [hg] at h₂
    obtain ⟨e₁, t₁, r₁, _, rfl, rfl⟩ := h₁
    obtain ⟨e₂, t₂, r₂, _, rfl, rfl⟩ := h₂
    obtain ⟨rfl, rfl⟩ := runs_one r₁ r₂
    exact ⟨rfl, rfl⟩
  · rename_i hg
    rw [hg] at h₂
    exact ⟨h₁.1.trans h₂.1.symm, h₁.2.trans h₂.2.symm⟩
  · rename_i hg
    rw [hg] at h₂
    exact ⟨h₁.1.trans h₂.1.symm, h₁.2.trans h₂.2.symm⟩
theorem wp_and {α : Type} (M : Model) (Γ : Ctx) (t : Sem α) {Q Q' : α → Pos → Shared → Prop} {E E' : Value → Pos → Shared → Prop} (p : Pos) (s : Shared) :
    Sem.wp M Γ t Q E p s → Sem.wp M Γ t Q' E' p s → Sem.wp M Γ t (fun a p s => Q a p s ∧ Q' a p s) (fun e p s => E e p s ∧ E' e p s) p s := by
  induction t generalizing p s with
  | pure x => exact fun a b => ⟨a, b⟩
  | raise v => exact fun a b => ⟨a, b⟩
  | unsupported | finish | yield | fork | await | register => exact fun a _ => a
  | rule _ k ih | «at» _ k ih | alloc _ k ih | loadIfAlive _ k ih | point _ k ih | fresh k ih | ask k ih | os _ _ k ih | handled _ k ih | newGen _ k ih | stack k ih | thread k ih => exact ih _ _ _
  | load a _ k ih => exact fun ⟨o, ho, h⟩ ⟨o', ho', h'⟩ => by rw [ho] at ho'; cases ho'; exact ⟨o, ho, ih _ _ _ h h'⟩
  | genState a k ih => exact fun ⟨o, ho, h⟩ ⟨o', ho', h'⟩ => by rw [ho] at ho'; cases ho'; exact ⟨o, ho, ih _ _ _ h h'⟩
  | update a _ f k ih => exact fun ⟨ha, h⟩ ⟨_, h'⟩ => ⟨ha, ih _ _ _ h h'⟩
  | choose _ _ k ih => exact fun ⟨ha, h⟩ ⟨_, h'⟩ => ⟨ha, ih _ _ _ h h'⟩
  | call c hd g l k ih =>
    rintro ⟨r, s₁, hr, h⟩ ⟨r', s₁', hr', h'⟩
    obtain ⟨q, rfl⟩ := runs_one hr hr'
    cases q
    exact ⟨r, s₁, hr, ih _ _ _ h h'⟩
  | resume g r l k ih =>
    rintro ⟨r, s₁, hr, h⟩ ⟨r', s₁', hr', h'⟩
    obtain ⟨rfl, rfl⟩ := wakes_one hr hr'
    exact ⟨r, s₁, hr, ih _ _ _ h h'⟩
theorem wpAny_both {α : Type} {M : Model} {A : Around} {t : Sem α} {Q Q' : α → Shared → Prop} {E E' : Value → Shared → Prop} {s : Shared} (h : wpAny M A t Q E s) (h' : wpAny M A t Q' E' s) :
    wpAny M A t (fun a s => Q a s ∧ Q' a s) (fun e s => E e s ∧ E' e s) s := fun Γ p hΓ => wp_and M Γ t p s (h Γ p hΓ) (h' Γ p hΓ)
end Mine
end

section
open PySem PySem.Calls PySem.Spec PyProof.Rows
namespace Mine
theorem backSafe : True := by
  k_with_none
  w_top off
  exact trivial
/-- a tree that calls nothing and whose writes keep a word about the heap -/
def Safe (I : Heap → Prop) {α : Type} : Sem α → Prop
  | .pure _ | .raise _ | .unsupported _ | .finish _ | .yield .. | .fork .. | .await .. | .register .. => True
  | .rule _ k => ∀ x, Safe I (k x)
  | .at _ k => ∀ x, Safe I (k x)
  | .load _ _ k => ∀ x, Safe I (k x)
  | .update a _ f k => (∀ h, I h → I (h.update a f)) ∧ ∀ x, Safe I (k x)
  | .alloc o k => (∀ h, I h → I (h.push o)) ∧ ∀ x, Safe I (k x)
  | .loadIfAlive _ k => ∀ x, Safe I (k x)
  | .point _ k => ∀ x, Safe I (k x)
  | .fresh k => ∀ x, Safe I (k x)
  | .ask k => ∀ x, Safe I (k x)
  | .choose _ _ k => ∀ x, Safe I (k x)
  | .os _ _ k => ∀ x, Safe I (k x)
  | .handled _ k => ∀ x, Safe I (k x)
  | .newGen _ k => ∀ x, Safe I (k x)
  | .genState _ k => ∀ x, Safe I (k x)
  | .stack k => ∀ x, Safe I (k x)
  | .thread k => ∀ x, Safe I (k x)
  | .call .. | .resume .. => False
theorem safe_bind {I : Heap → Prop} {α β : Type} {m : Sem α} {f : α → Sem β} (hm : Safe I m) (hf : ∀ a, Safe I (f a)) : Safe I (m >>= f) := by
  show Safe I (Sem.bind m f)
  induction m with
  | pure a => exact hf a
  | raise | unsupported | finish | yield | fork | await | register => trivial
  | call | resume => exact hm.elim
  | update a p g k ih => exact ⟨hm.1, fun x => ih x (hm.2 x)⟩
  | alloc o k ih => exact ⟨hm.1, fun x => ih x (hm.2 x)⟩
  | rule _ k ih | «at» _ k ih | loadIfAlive _ k ih | point _ k ih | fresh k ih | ask k ih | os _ _ k ih | handled _ k ih | newGen _ k ih | stack k ih | thread k ih | load _ _ k ih | genState _ k ih | choose _ _ k ih => exact fun x => ih x (hm x)
theorem safe_map {I : Heap → Prop} {α β : Type} {m : Sem α} {f : α → β} (hm : Safe I m) : Safe I (f <$> m) := safe_bind hm fun _ => trivial
theorem wp_safe {I : Heap → Prop} {α : Type} (M : Model) (Γ : PySem.Ctx) (t : Sem α) {Q : α → Pos → Shared → Prop} {E : Value → Pos → Shared → Prop} (p : Pos) (s : Shared) :
    Safe I t → I s.heap → Sem.wp M Γ t Q E p s → Sem.wp M Γ t (fun a p s => Q a p s ∧ I s.heap) E p s := by
  induction t generalizing p s with
  | pure x => exact fun _ b c => ⟨c, b⟩
  | raise v => exact fun _ _ c => c
  | unsupported | finish | yield | fork | await | register => exact fun _ _ c => c
  | rule _ k ih | «at» _ k ih | loadIfAlive _ k ih | point _ k ih | fresh k ih | ask k ih | os _ _ k ih | handled _ k ih | newGen _ k ih | stack k ih | thread k ih => exact fun a b c => ih _ _ _ (a _) b c
  | alloc o k ih => exact fun a b c => ih _ _ _ (a.2 _) (a.1 _ b) c
  | load a _ k ih => exact fun a b ⟨o, ho, h⟩ => ⟨o, ho, ih _ _ _ (a _) b h⟩
  | genState a k ih => exact fun a b ⟨o, ho, h⟩ => ⟨o, ho, ih _ _ _ (a _) b h⟩
  | update a _ f k ih => exact fun a b ⟨ha, h⟩ => ⟨ha, ih _ _ _ (a.2 _) (a.1 _ b) h⟩
  | choose _ _ k ih => exact fun a b ⟨ha, h⟩ => ⟨ha, ih _ _ _ (a _) b h⟩
  | call | resume => exact fun a _ _ => a.elim
theorem wpAny_safe {I : Heap → Prop} {α : Type} {M : Model} {A : Around} {t : Sem α} {Q : α → Shared → Prop} {E : Value → Shared → Prop} {s : Shared} (h : wpAny M A t Q E s) (a : Safe I t) (b : I s.heap) :
    wpAny M A t (fun x s => Q x s ∧ I s.heap) E s := fun Γ p hΓ => wp_safe M Γ t p s a b (h Γ p hΓ)
/-- an exception's record whose context is none -/
def C2 (e : Addr) (h : Heap) : Prop := ∃ o vs, h.get? e = some o ∧ o.data = .fields vs ∧ vs[2]? = some .none
theorem C2.push {e : Addr} {h : Heap} (x : C2 e h) (o : Obj) : C2 e (h.push o) := let ⟨p, vs, a, b⟩ := x; ⟨p, vs, Heap.get?_push_of_some _ a, b⟩
theorem C2.keeps {e : Addr} {h h' : Heap} (x : C2 e h) (k : ∀ b o, h.get? b = some o → h'.get? b = some o) : C2 e h' := let ⟨p, vs, a, b⟩ := x; ⟨p, vs, k _ _ a, b⟩
theorem C2.made {e : Addr} {h h' : Heap} {cls : Value} {vs : List Value} (x : Heap.MadeExcOf h h' e cls vs) : C2 e h' := by
  obtain ⟨t, he, _⟩ := x.there
  exact ⟨_, _, he, rfl, rfl⟩
theorem C2.slots {e a : Addr} {h : Heap} {f : Obj → Obj} (x : C2 e h) (hd : ∀ o, (f o).data = o.data) : C2 e (h.update a f) := by
  obtain ⟨o, vs, ho, hv, h2⟩ := x
  by_cases q : a = e
  · subst q
    exact ⟨_, vs, Heap.get?_update_self f ho (Obj.isFreed_of_fields ((hd o).trans hv)), (hd o).trans hv, h2⟩
  · exact ⟨o, vs, (Heap.get?_update_other _ _ q).trans ho, hv, h2⟩
theorem C2.field {e a : Addr} {h : Heap} {i : Nat} {v : Value} (hi : i ≠ 2) (x : C2 e h) : C2 e (h.update a (Obj.mapFields (·.setIfInBounds i v))) := by
  obtain ⟨o, vs, ho, hv, h2⟩ := x
  by_cases q : a = e
  · subst q
    have hd := Obj.data_mapFields hv (·.setIfInBounds i v)
    exact ⟨_, _, Heap.get?_update_self _ ho (Obj.isFreed_of_fields hd), hd, (Array.getElem?_setIfInBounds_ne hi).trans h2⟩
  · exact ⟨o, vs, (Heap.get?_update_other _ _ q).trans ho, hv, h2⟩
section
variable {e : Addr}
theorem safe_load {I : Heap → Prop} {a : Addr} : Safe I (load a) := fun _ => trivial
theorem safe_loadPart {I : Heap → Prop} {a : Addr} {p : Option Value} : Safe I (loadPart a p) := fun _ => trivial
theorem safe_field {I : Heap → Prop} {v : Value} {i : Nat} : Safe I (field v i) := by
  unfold field fieldsOf
  repeat' (first | exact trivial | exact safe_load | refine safe_bind ?_ ?_ | (intro _) | split | (dsimp only))
theorem safe_setField {v x : Value} {i : Nat} (hi : i ≠ 2) : Safe (C2 e) (setField v i x) := by
  unfold setField
  repeat' (first | exact trivial | exact safe_load | (exact ⟨fun _ h => C2.field hi h, fun _ => trivial⟩) | refine safe_bind ?_ ?_ | (intro _) | split | (dsimp only))
theorem safe_stack {I : Heap → Prop} : Safe I stack := fun _ => trivial
theorem safe_newEntry {a b c d g : Value} {pl : List Value} : Safe (C2 e) (EntryCells.newEntry a b c d g pl) := by
  unfold EntryCells.newEntry newFields newObj newObjAsIs
  repeat' (first | exact trivial | (exact ⟨fun _ h => C2.push h _, fun _ => trivial⟩) | refine safe_bind ?_ ?_ | (intro _) | split | (dsimp only))
theorem safe_entryPlaceOf {I : Heap → Prop} {f : Addr} {b : Bool} : Safe I (entryPlaceOf f b) := by
  unfold entryPlaceOf
  repeat' (first | exact trivial | exact safe_stack | refine safe_bind ?_ ?_ | (intro _) | split | (dsimp only))
theorem safe_behind {I : Heap → Prop} {env : Env} {l : List Env} : Safe I (behindIsImport env l) := by
  unfold behindIsImport
  repeat' (first | exact trivial | exact safe_field | refine safe_bind ?_ ?_ | (intro _) | split | (dsimp only))
theorem safe_kept {I : Heap → Prop} {env : Env} {b : Bool} {l : List Env} : Safe I (keptBack env b l) := by
  unfold keptBack underTheClaimsCaller
  repeat' (first | exact trivial | exact safe_stack | refine safe_bind ?_ ?_ | (intro _) | split | (dsimp only))
theorem safe_ready : ∀ {l : List Env}, Safe (C2 e) (readyFrames l)
  | [] => trivial
  | env :: outer => by
    unfold readyFrames
    repeat' (first | exact trivial | exact safe_load | exact safe_behind | exact safe_kept | exact safe_ready | (exact ⟨fun _ h => C2.slots h fun _ => rfl, fun _ => trivial⟩) | refine safe_bind ?_ ?_ | (intro _) | split | (dsimp only))
theorem safe_frameOf {env : Env} : Safe (C2 e) (PySem.frameOf env) := by
  unfold PySem.frameOf frameObject frameEnvs
  repeat' (first | exact trivial | exact safe_stack | exact safe_ready | refine safe_bind ?_ ?_ | (intro _) | split | (dsimp only))
theorem safe_noteFrame {v : Value} {env : Env} : Safe (C2 e) (noteFrame v env) := by
  unfold noteFrame
  repeat' (first | exact trivial | exact safe_field | exact safe_frameOf | exact safe_entryPlaceOf | exact safe_newEntry | (exact safe_setField (by decide)) | refine safe_bind ?_ ?_ | (intro _) | split | (dsimp only))
theorem safe_setFlight {v : Value} {o : Option Addr} : Safe (C2 e) (setFlight v o) := by
  unfold setFlight
  repeat' (first | exact trivial | exact safe_field | (exact safe_setField (by decide)) | refine safe_bind ?_ ?_ | (intro _) | split | (dsimp only))
theorem safe_leaving {v : Value} {env : Env} : Safe (C2 e) (leaving env v) := safe_bind safe_noteFrame fun _ => safe_setFlight
end
end Mine
end

section
open PySem PySem.Calls PySem.Spec PyProof.Rows
namespace Mine
theorem backHnd : True := by
  k_with_none
  w_top off
  exact trivial
theorem entry_unchain : entryFor table "proto.unchain" = some Builtin.«proto.unchain» := entryFor_of_tree (by kernel_rfl)
theorem C2.lt {e : Addr} {h : Heap} (x : C2 e h) : e < h.objs.size := let ⟨_, _, a, _⟩ := x; Heap.lt_size a
section
variable {prog : Program} {w : World} {A : Around} {E : Value → Shared → Prop} {s : Shared} {e : Addr}
/-- a raise in a handler whose exception has no context -/
theorem raise_in {α : Type} {a : Addr} {o : Obj} {vs : Array Value} {Q : α → Shared → Prop} (hh : A.handled = some (.ref e)) (c : C2 e s.heap) (hne : e ≠ a) (ha : s.heap.get? a = some o) (hd : o.data = .fields vs) (hz : 2 < vs.size)
    (h : E (.ref a) { s with heap := s.heap.update a (Obj.mapFields (·.setIfInBounds 2 (.ref e))) }) : wpAny (model prog w) A (raiseNew (.ref a) : Sem α) Q E s := by
  unfold raiseNew
  refine wpAny_bind (wpAny_handled ?_)
  rw [hh]
  dsimp only
  rw [if_pos (show ((Value.ref e != Value.ref a) = true) by simp [hne])]
  obtain ⟨oe, ve, he, hde, h2⟩ := c
  refine wpAny_bind (wpAny_holding (wpAny_runValue (codeAny_builtin entry_unchain ?_)))
  unfold Builtin.«proto.unchain»
  dsimp only
  refine wpAny_bind (wpAny_field he hde h2 ?_)
  rw [if_pos (by rfl)]
  refine wpAny_bind (wpAny_pure ?_)
  refine wpAny_pure ?_
  dsimp only
  refine wpAny_bind ?_
  refine wpAny_mono (wpAny_setField (E := E) (Q := fun _ s' => s' = { s with heap := s.heap.update a (Obj.mapFields (·.setIfInBounds 2 (.ref e))) }) ha hd hz rfl) (fun _ s' q => ?_) fun _ _ x => x
  subst q
  exact wpAny_throw h
theorem pyNext_range_endH {it : Addr} {x left step : Int} {Q : Option Value → Shared → Prop} (hh : A.handled = some (.ref e)) (c : C2 e s.heap) (hit : IsRangeIter s.heap it x left step) (hleft : left ≤ 0)
    (hQ : ∀ h', Heap.ExtBut it s.heap h' → Q none { s with heap := h' }) : wpAny (model prog w) A (pyNext (.ref it)) Q E s := by
  have hT : s.TypeIs (.ref it) "range_iterator" := ⟨_, hit, rfl⟩
  unfold pyNext
  refine wpAny_bind (wpAny_attempt (wpAny_callSpecial?_slot (name := Str.ofString "__next__") hT F.slot_range_iterator_next
    (wpAny_call_entry F.slot_range_iterator_next hT F.entry_range_iterator_next ?_ (F.args_range_iterator_next_1 _))))
  show wpAny _ _ (field (.ref it) 0 >>= _) _ _ s
  refine wpAny_bind (wpAny_field hit rfl (x := rawInt x) rfl ?_)
  show wpAny _ _ (field (.ref it) 1 >>= _) _ _ s
  refine wpAny_bind (wpAny_field hit rfl (x := rawInt left) rfl ?_)
  show wpAny _ _ (field (.ref it) 2 >>= _) _ _ s
  refine wpAny_bind (wpAny_field hit rfl (x := rawInt step) rfl ?_)
  show wpAny _ _ (if left ≤ 0 then _ else _) _ _ s
  rw [if_pos hleft]
  refine wpAny_bind (wpAny_rule ?_)
  refine wpAny_bind ?_
  show wpAny _ _ (newExc (.type "StopIteration") [] >>= _) _ _ _
  refine wpAny_bind ?_
  simp only [newExc, newTuple]
  refine wpAny_bind (wpAny_newObj_type ?_ (by size_fits))
  refine wpAny_bind (m := firstArgMember _ _) (wpAny_of_eq (a := Value.none) (by first | rfl | (simp only [firstArgMember]; rfl)) ?_)
  refine wpAny_newObj_type ?_ (by size_fits)
  have hl := c.lt
  refine raise_in hh ((c.push _).push _) ?_ (Heap.get?_push_size _ rfl) rfl (by rw [Array.size_append]; exact Nat.lt_of_lt_of_le (show 2 < 6 by decide) (Nat.le_add_right 6 _)) ?_
  · refine Nat.ne_of_lt (Nat.lt_trans hl ?_)
    show s.heap.objs.size < (s.heap.push _).objs.size
    simp [Heap.push]
  · refine wpAny_bind (wpAny_isInstance (T := "StopIteration") (b := true) ⟨_, Heap.get?_update_self _ (Heap.get?_push_size _ rfl) rfl, rfl⟩ isSubtype_stop ?_)
    refine wpAny_pure (hQ _ fun b o hb q => ?_)
    have q2 := Heap.get?_push_of_some { cls := Value.type "tuple", data := Data.seq [].toArray } q
    have q3 := Heap.get?_push_of_some { cls := Value.type "StopIteration", data := Data.fields (#[Value.ref s.heap.objs.size, Value.none, Value.none, Value.none, Value.bool false, Value.none] ++ ownMembersOf (.type "StopIteration") []) } q2
    refine (Heap.get?_update_other _ _ ?_).trans q3
    exact Nat.ne_of_gt (Heap.lt_size q2)
theorem pyNext_tuple_endH {it t : Addr} {i : Nat} {items} {Q : Option Value → Shared → Prop} (hh : A.handled = some (.ref e)) (c : C2 e s.heap)
    (hit : s.heap.IsTupleIter it t i) (ht : s.heap.IsTuple t items) (hx : items[i]? = none)
    (hQ : ∀ h', Heap.ExtBut it s.heap h' → Q none { s with heap := h' }) : wpAny (model prog w) A (pyNext (.ref it)) Q E s := by
  obtain ⟨o, ho, hc, hd⟩ := id hit
  obtain ⟨ol, hol, _, nl, hdl⟩ := ht
  unfold pyNext
  refine wpAny_bind (wpAny_attempt (wpAny_callSpecial?_slot (name := Str.ofString "__next__") hit.typeIs F.slot_tuple_iterator_next
    (wpAny_call_entry F.slot_tuple_iterator_next hit.typeIs F.entry_tuple_iterator_next ?_ (F.args_tuple_iterator_next_1 _))))
  show wpAny _ _ (field (.ref it) 0 >>= _) _ _ s
  refine wpAny_bind (wpAny_field ho hd (x := .ref t) rfl ?_)
  show wpAny _ _ (if (Value.ref t == Value.none) = true then _ else _) _ _ s
  rw [if_neg (show ¬ ((Value.ref t == Value.none) = true) from Bool.false_ne_true)]
  show wpAny _ _ (field (.ref it) 1 >>= _) _ _ s
  refine wpAny_bind (wpAny_field ho hd (x := .int i 0) rfl ?_)
  show wpAny _ _ (seqItems? (.ref t) >>= _) _ _ s
  refine wpAny_bind (wpAny_seqItems hol hdl ?_)
  simp only [Int.toNat_natCast, hx]
  refine wpAny_bind (wpAny_rule (wpAny_bind (wpAny_setField ho hd (by simp) ?_)))
  show wpAny _ _ (newExc (.type "StopIteration") [] >>= _) _ _ _
  refine wpAny_bind ?_
  simp only [newExc, newTuple]
  refine wpAny_bind (wpAny_newObj_type ?_ (by size_fits))
  refine wpAny_bind (m := firstArgMember _ _) (wpAny_of_eq (a := Value.none) (by first | rfl | (simp only [firstArgMember]; rfl)) ?_)
  refine wpAny_newObj_type ?_ (by size_fits)
  have c' : C2 e (s.heap.update it (Obj.mapFields (·.setIfInBounds 0 Value.none))) := C2.field (by decide) c
  have hl := c'.lt
  refine raise_in hh ((c'.push _).push _) ?_ (Heap.get?_push_size _ rfl) rfl (by rw [Array.size_append]; exact Nat.lt_of_lt_of_le (show 2 < 6 by decide) (Nat.le_add_right 6 _)) ?_
  · refine Nat.ne_of_lt (Nat.lt_trans hl ?_)
    simp [Heap.push]
  · refine wpAny_bind (wpAny_isInstance (T := "StopIteration") (b := true) ⟨_, Heap.get?_update_self _ (Heap.get?_push_size _ rfl) rfl, rfl⟩ isSubtype_stop ?_)
    refine wpAny_pure (hQ _ fun b o hb q => ?_)
    have q1 := (Heap.get?_update_other s.heap (Obj.mapFields (·.setIfInBounds 0 Value.none)) (Ne.symm hb)).trans q
    have q2 := Heap.get?_push_of_some { cls := Value.type "tuple", data := Data.seq [].toArray } q1
    refine (Heap.get?_update_other _ _ ?_).trans (Heap.get?_push_of_some _ q2)
    exact Nat.ne_of_gt (Heap.lt_size q2)
theorem unpackItems_tupleH {t : Addr} {items : Array Value} {Q : List Value → Shared → Prop} (hh : A.handled = some (.ref e)) (c : C2 e s.heap) (ht : s.heap.IsTuple t items)
    (hQ : ∀ h', Heap.ExtBut s.heap.objs.size s.heap h' → Q items.toList { s with heap := h' }) : wpAny (model prog w) A (unpackItems (.ref t) items.size none) Q E s := by
  have hlt : t ≠ s.heap.objs.size := by obtain ⟨o, ho, _⟩ := ht; exact Nat.ne_of_lt (Heap.lt_size ho)
  have hle : e ≠ s.heap.objs.size := Nat.ne_of_lt c.lt
  unfold unpackItems
  refine wpAny_bind ?_
  unfold notIterableAtAll
  refine wpAny_bind (wpAny_specialOf ht.typeIs F.slot_tuple_iter.lookup ?_)
  refine wpAny_pure ?_
  simp only [Bool.false_eq_true, if_false]
  refine wpAny_bind (wpAny_holding (wpAny_pyIter_tuple ht ?_))
  refine wpAny_bind (wpAny_holding (wpAny_draw_tuple hlt items.size 0 _ _ ⟨_, Heap.get?_push_size _ rfl, rfl, rfl⟩ (ht.push _) (by omega) fun h₁ hit₁ hs₁ => ?_))
  have hall : List.take items.size (List.drop 0 items.toList) = items.toList := by
    rw [List.drop_zero]; exact List.take_of_length_le (by simp)
  rw [hall]
  rw [if_neg (by simp)]
  have ht₁ : h₁.IsTuple t items := (ht.push _).extBut hs₁.extBut hlt
  have c₁ : C2 e h₁ := by
    obtain ⟨o, vs, ho, hd, h2⟩ := c
    exact ⟨o, vs, hs₁.extBut _ _ hle (Heap.get?_push_of_some _ ho), hd, h2⟩
  refine wpAny_bind (wpAny_holding (pyNext_tuple_endH hh c₁ hit₁ ht₁ (by simp) fun h₂ he₂ => ?_))
  simp only [Option.isSome_none, Bool.false_eq_true, if_false]
  exact wpAny_pure (hQ h₂ fun b o hb q => he₂ b o hb (hs₁.extBut b o hb (Heap.get?_push_of_some _ q)))
theorem unpack_tupleH {t : Addr} {items : Array Value} {targets : List (Bool × (Value → Sem Unit))} {Q : Unit → Shared → Prop} (hh : A.handled = some (.ref e)) (c : C2 e s.heap) (ht : s.heap.IsTuple t items)
    (hn : targets.length = items.size) (hstar : targets.findIdx? (·.1) = none)
    (h : ∀ h', Heap.ExtBut s.heap.objs.size s.heap h' → wpAny (model prog w) A (assignInOrder (targets.map (·.2)) items.toList) Q E { s with heap := h' }) :
    wpAny (model prog w) A (unpack (.ref t) targets) Q E s := by
  unfold unpack
  rw [hn, hstar]
  exact wpAny_bind (wpAny_holding (unpackItems_tupleH hh c ht h))
theorem assign_TupleH {env : Env} {elts : List Expr} {x1} {pos : Pos} {t : Addr} {items : Array Value} {Q : Unit → Shared → Prop} (hh : A.handled = some (.ref e)) (c : C2 e s.heap) (ht : s.heap.IsTuple t items)
    (hn : (assignEach elts env).length = items.size) (hstar : (assignEach elts env).findIdx? (·.1) = none)
    (h : ∀ h', Heap.ExtBut s.heap.objs.size s.heap h' → wpAny (model prog w) A (assignInOrder ((assignEach elts env).map (·.2)) items.toList) Q E { s with heap := h' }) :
    wpAny (model prog w) A (assign (.Tuple elts x1 pos) env (.ref t)) Q E s := by
  rw [arm_assign_Tuple]
  exact wpAny_bind (wpAny_standAt (unpack_tupleH hh c ht hn hstar h))
end
end Mine
end

section
open PySem PySem.W PySem.Calls PyProof.Rows
namespace Mine
theorem backLph : True := by
  k_with_none
  w_top off
  exact trivial
/-- a walk of a range in a handler -/
theorem walks_rangeH {prog : Program} {w : World} {A : Around} {e : Addr} (hh : A.handled = some (.ref e)) (I : Addr) (hI : e ≠ I) (a : Int) (n : Nat) :
    Walks prog w A I (I :: [e]) [I] n (fun i v => i < n ∧ ∃ t, v = .int (a + i) t) (fun i h => IsRangeIter h I (a + (i : Nat)) ((n : Int) - (i : Nat)) 1 ∧ C2 e h) where
  sub := fun b hb => by rw [List.mem_singleton.mp hb]; exact .head _
  frame := fun _ _ _ st hk => by
    obtain ⟨st, o, vs, h1, h2, h3⟩ := st
    exact ⟨hk I (.head _) _ st, o, vs, hk e (.tail _ (.head _)) _ h1, h2, h3⟩
  item := fun i s Q E hi st hQ => by
    obtain ⟨st, c⟩ := st
    refine wpAny_pyNext_range_item st (by omega) fun h' hit' hs' => ?_
    refine hQ _ h' _ ⟨hi, _, rfl⟩ ⟨?_, ?_⟩ fun b o hb q => hs'.extBut b o (fun h => hb (by simp [h])) q
    · have e1 : a + ((i + 1 : Nat) : Int) = a + (i : Int) + 1 := by push_cast; rw [Int.add_assoc]
      have e2 : (n : Int) - ((i + 1 : Nat) : Int) = (n : Int) - (i : Int) - 1 := by push_cast; omega
      rw [e1, e2]; exact hit'
    · obtain ⟨o, vs, h1, h2, h3⟩ := c
      exact ⟨o, vs, hs'.extBut _ _ hI h1, h2, h3⟩
  done := fun s Q E st hQ => pyNext_range_endH hh st.2 st.1 (by omega) fun h' he' => hQ h' s.toks fun b o hb q => he' b o (fun h => hb (by simp [h])) q
  self := fun _ _ _ _ st hQ => wpAny_pyIter_rangeiter st.1 hQ
section
variable {prog : Program} {w : World} {A : Around} {E : Value → Shared → Prop} {s : Shared} {env : Env} {x : PySem.Str} {body : List Stmt} {Q : Flow → Shared → Prop}
/-- a loop over a list whose turns may change anything the invariant allows -/
theorem forT {px pos : Pos} {iter : Expr} {l : Addr} {vs : List Value} (Inv : Nat → Addr → Shared → Prop) (hh : A.handled = none)
    (hlist : ∀ i I s', Inv i I s' → s'.heap.IsListIter I l i ∧ s'.heap.IsList l vs.toArray)
    (start : wpAny (model prog w) A (eval iter env) (fun xv s₁ => xv = .ref l ∧ s₁.heap.IsList l vs.toArray ∧
      ∀ h', h'.IsListIter s₁.heap.objs.size l 0 → h'.IsList l vs.toArray → (∀ b o, s₁.heap.get? b = some o → h'.get? b = some o) → h'.objs.size = s₁.heap.objs.size + 1 → Inv 0 s₁.heap.objs.size { s₁ with heap := h' }) E s)
    (turn : ∀ i v I s₁ h', vs[i]? = some v → Inv i I s₁ → Heap.SameBut I s₁.heap h' → h'.IsListIter I l (i + 1) →
      wpAny (model prog w) A (storeName env x v) (fun _ s₂ => wpAny (model prog w) A (execs body env) (fun f s₃ => match f with
        | .next | .cont => Inv (i + 1) I s₃
        | .brk => False
        | .ret v => Q (.ret v) s₃) E s₂) E { s₁ with heap := h' })
    (done : ∀ I s₁ h', Inv vs.length I s₁ → Heap.ExtBut I s₁.heap h' → Q .next { s₁ with heap := h' })
    (hs : ∀ x, foldedSetIterable iter env x = pure x := by intro _; rfl)
    (hE : PassesOwn (model prog w) A env E := by passes_own) :
    wpAny (model prog w) A (exec (.For (.Name x px) iter body [] pos) env) Q E s := by
  refine wpAny_For (wpAny_mono start (fun xv s₁ h₁ => ?_) fun _ _ e => e) hs
  obtain ⟨rfl, hl, h0⟩ := h₁
  refine wpAny_pyIter_list hl ?_
  have hl' := id hl
  obtain ⟨ol, hol, hlr⟩ := hl'
  refine codeAny_forLoop (fun n s' => ∃ i, n = vs.length - i ∧ i ≤ vs.length ∧ Inv i s₁.heap.objs.size s') (fun n s' => ?_) vs.length ⟨0, rfl, Nat.zero_le _, h0 _ ⟨_, Heap.get?_push_size _ rfl, rfl, rfl⟩ (hl.at fun o e => Heap.get?_push_of_some _ e) (fun b o e => Heap.get?_push_of_some _ e) (by simp [Heap.push])⟩
  rintro ⟨i, rfl, hi, hI⟩
  obtain ⟨hit, hil⟩ := hlist _ _ _ hI
  cases hv : vs[i]? with
  | none =>
    have hle : vs.length ≤ i := by
      rcases Nat.lt_or_ge i vs.length with q | q
      · rw [List.getElem?_eq_getElem q] at hv; cases hv
      · exact q
    obtain rfl : i = vs.length := Nat.le_antisymm hi hle
    refine wpAny_pyNext_list_end hh hit hil (by simpa using hv) fun h' he' => ?_
    exact wpAny_pure (done _ _ _ hI he')
  | some v =>
    have hlt : i < vs.length := by
      rcases Nat.lt_or_ge i vs.length with q | q
      · exact q
      · rw [List.getElem?_eq_none q] at hv; cases hv
    refine wpAny_pyNext_list_item hit hil (x := v) (by simpa using hv) fun h' hit' hs' => ?_
    refine wpAny_assign_Name ?_
    have t := turn i v _ s' h' hv hI hs' hit'
    refine wpAny_mono (wpAny_passesOwn hE (wpAny_mono t (fun _ s₂ h₂ => wpAny_passesOwn hE h₂) fun _ _ e => e)) (fun _ s₂ h₂ => wpAny_mono h₂ (fun f s₃ h₃ => ?_) fun _ _ e => e) fun _ _ e => e
    cases f with
    | next => exact ⟨_, by omega, i + 1, rfl, hlt, h₃⟩
    | cont => exact ⟨_, by omega, i + 1, rfl, hlt, h₃⟩
    | brk => exact h₃.elim
    | ret v => exact h₃
end
end Mine
end

section
open PySem PySem.W PySem.Spec PySem.Calls PyProof.Rows
namespace Mine
theorem backCgt : True := by
  k_with_none
  w_top off
  exact trivial
section
variable {M : Model} {A : Around} {E : Value → Shared → Prop} {s' : Shared} {base g h : Heap} {outer : List Env} {L a e : Addr} {m : PySem.Str → Option Value} {name : PySem.Str} {scope : Scope} {cd : Value} {Q : Unit → Shared → Prop} {news : List (Addr × Obj)}
/-- a new exception leaves its frame: its context stays none -/
theorem leave_raiseC {cls : Value} {vs : List Value} (K : Below A base outer g) (hx : Heap.MadeExcOf h s'.heap e cls vs) (F : Fr g L h m) (N : News g L h news)
    (hQ : ∀ h' t, RaisedS base g outer e cls t vs news h' → C2 e h' → g.UpToSlots h' → Q () { s' with heap := h' }) (hk : scope.kind = .function := by rfl) :
    wpAny M (A.deeper (envOf name scope L a cd)) (leaving (envOf name scope L a cd) (.ref e)) Q E s' := by
  refine wpAny_mono (wpAny_safe (leave_raiseS (Q := fun _ s'' => ∃ h' t, s'' = { s' with heap := h' } ∧ RaisedS base g outer e cls t vs news h' ∧ g.UpToSlots h') K hx F N (fun h' t r _ u => ⟨h', t, rfl, r, u⟩) hk) safe_leaving (C2.made hx)) (fun _ s'' x => ?_) fun _ _ x => x
  obtain ⟨⟨h', t, rfl, r, u⟩, c⟩ := x
  exact hQ h' t r c u
end
section
variable {prog : Program} {w : World} {A₀ : Around} {E : Value → Shared → Prop} {s' : Shared} {base g g₀ G : Heap} {outer : List Env} {L a e t C : Addr} {m : PySem.Str → Option Value} {name : PySem.Str} {scope : Scope} {cd : Value}
  {vs : List Value} {b₀ : Stmt} {suite : List Stmt} {pos np : Pos} {rest : List ExceptHandler} {Q : Flow → Shared → Prop} {news : List (Addr × Obj)} {KF : Frag}
  {p : Program} {loose : List PySem.Str} {mean : ExcName → Option Value} {mg mb : PySem.Str → Option Value} {x : PySem.Str}
/-- an own exception is caught: the suite begins on turned ground, and the exception has no context -/
theorem caughtC (R : RaisedS base G (envOf name scope L a cd :: outer) e (.ref C) t vs news s'.heap) (c : C2 e s'.heap) (F : Fr g L G m) (K : Below A₀ base outer g) (hsm : G.UpToSlots s'.heap) (XB : KF.In base) (TB : Top p loose mean mg mb base)
    (D : KtsDicts (outer.filterMap (·.frame)) g) (T0 : KtsTurn (outer.filterMap (·.frame)) g₀ g)
    (ex : nsIn KF mainGlobals x = some (some (.ref C))) (q : ktsIn KF C "BaseException" = true)
    (k : ∀ h' g' oe, KtsTurn (outer.filterMap (·.frame)) g₀ g' → Fr g' L h' m → News g' L h' ((e, oe) :: news) → (∀ q ∈ news, q.1 ≠ e) → C2 e h' → Below A₀ base outer g' → KF.In g' → Top p loose mean mg mb g' → KtsDicts (outer.filterMap (·.frame)) g' →
      wpAny (model prog w) ((A₀.deeper (envOf name scope L a cd)).mark (some (.ref e))) (execs (b₀ :: suite) (envOf name scope L a cd)) Q E { s' with heap := h' })
    (hk : scope.kind = .function := by rfl) (hx : (envOf name scope L a cd).kindOf x = some .globalImplicit := by rfl) (hd : (x == ("__debug__" : PySem.Str)) = false := by decide)
    (hE : PassesOwnAt (model prog w) ((A₀.deeper (envOf name scope L a cd)).mark (some (.ref e))) (A₀.deeper (envOf name scope L a cd)) (envOf name scope L a cd) E := by passes_own) :
    wpAny (model prog w) (A₀.deeper (envOf name scope L a cd)) (noteFrame (.ref e) (envOf name scope L a cd))
      (fun _ s₂ => wpAny (model prog w) (A₀.deeper (envOf name scope L a cd)) (setFlight (.ref e) none) (fun _ s₃ =>
        wpAny (model prog w) (A₀.deeper (envOf name scope L a cd)) (handleBy (.ref e) (envOf name scope L a cd) (.ExceptHandler (some (.Name x np)) none (b₀ :: suite) pos :: rest)) Q E s₃) E s₂) E s' := by
  obtain ⟨⟨B, hB, hBG, hl, hfl, hnew⟩, htup⟩ := R
  have hL : B.get? L = none := by
    obtain ⟨_, ⟨L', _, hf, hn', _⟩, _⟩ := hfl.2.2.1
    obtain rfl : L = L' := Option.some.inj hf
    exact hn'
  refine wpAny_mono (wpAny_safe (wpAny_looks_onW (Q := fun _ s'' => ∃ h', s'' = { s' with heap := h' } ∧ Heap.HeldW B (envOf name scope L a cd :: outer) e (.ref C) (.ref t) L h' ∧ s'.heap.UpToSlots h') (Around.frames_deeper K.stack) rfl hfl fun h' y z => ⟨h', rfl, y, z⟩) safe_noteFrame c) (fun _ s'' y => ?_) fun _ _ y => y
  obtain ⟨⟨h₄, rfl, held₄, sm₄⟩, c₄⟩ := y
  refine wpAny_mono (wpAny_safe (wpAny_landsW (Q := fun _ s'' => ∃ h', s'' = { s' with heap := h' } ∧ Heap.FlyingW B (envOf name scope L a cd :: outer) e (.ref C) (.ref t) h' ∧ h₄.UpToSlots h') held₄ fun h' y z => ⟨h', rfl, y, z⟩) safe_setFlight c₄) (fun _ s'' y => ?_) fun _ _ y => y
  obtain ⟨⟨h₅, rfl, fly₅, sm₅⟩, c₅⟩ := y
  have up₅ := hsm.trans (sm₄.trans sm₅)
  obtain ⟨g₅, T₅, F₅, K₅⟩ := kts_ground K F hBG fly₅.1 up₅
  have X₅ : KF.In g₅ := XB.keeps K₅.stays
  have P₅ : TopRead p loose mg mb g₅ := topRead_of (TB.keeps K₅.stays)
  obtain ⟨ob, hob, hobc⟩ := fly₅.there
  obtain ⟨nm, q', N, bs, bm, hdct, sn, sub, ab, col, dd, k0, k1, k2, k3, k5, newId, hC, hbase, hbT⟩ := kts_cls X₅ q
  have hC₅ := F₅.keep _ _ hC
  refine wpAny_handleBy_cons (codeAny_handlers_test (name_K F₅ X₅ P₅ ex ?_ hk hx hd)) (by intro q; cases q)
  refine wpAny_excMatches_sub_self hC₅ hob hobc hbase (codeAny_handlers_suite ?_)
  refine wpAny_mono (wpAny_safe (lands_againW (Q := fun _ s'' => ∃ h', s'' = { s' with heap := h' } ∧ Heap.FlyingW B (envOf name scope L a cd :: outer) e (.ref C) (.ref t) h' ∧ h₅.UpToSlots h') fly₅ fun h' y z => ⟨h', rfl, y, z⟩) safe_setFlight c₅) (fun _ s'' y => ?_) fun _ _ y => y
  obtain ⟨⟨h₆, rfl, fly₆, sm₆⟩, c₆⟩ := y
  have up₆ := up₅.trans sm₆
  obtain ⟨g₆, T₆, F₆, K₆⟩ := kts_ground K F hBG fly₆.1 up₆
  obtain ⟨oe, ws, hoe, hoec, hoed, hoe0⟩ := fly₆.first
  have ne₆ : g₆.get? e = none := T₆.none_ _ (kts_fresh F hBG fly₆.2.1 fun o ho m => by
    obtain ⟨_, o', ho', hd⟩ := K.frames.mem m
    rw [ho] at ho'
    cases ho'
    obtain ⟨sl, hs⟩ := up₆ _ _ (F.keep _ _ ho) hd
    rw [hoe] at hs
    cases hs
    exact hd _ hoed)
  have Nl : News g₆ L h₆ news := fun q hq => ⟨fly₆.1 _ _ (hl q hq).1, (fun z => by have := (hl q hq).1; rw [z, hL] at this; cases this), T₆.none_ _ (kts_none F.keep (hl q hq).2.1)⟩
  exact wpAny_passesOwnAt hE (k h₆ g₆ oe (T0.trans T₆) F₆ (News.more F₆ Nl hoe (fun es n q => by rw [hoed] at q; cases q) ne₆) (fun q hq z => by have := (hl q hq).1; rw [z, fly₆.2.1] at this; cases this) c₆ K₆ (XB.keeps K₆.stays) (TB.keeps K₆.stays) (D.turn T₆))
end
end Mine
end

section
open PySem PySem.W PySem.Calls PyProof.Rows
namespace Mine
theorem backP257R : True := by
  k_with_none
  w_top off
  exact trivial
section
variable {prog : Program} {w : World} {p : Program} {loose : List PySem.Str} {mean : ExcName → Option Value} {mg mb : PySem.Str → Option Value}
theorem ne_rule2 {A : Around} {E : Value → Shared → Prop} {s : Shared} {x y : PySem.Str} {t u : Tok} {Q : Value → Shared → Prop} (e : x = PySem.Str.ofString "229") (hy : y = PySem.Str.ofString "257") (h : Q (.bool true) s) : wpAny (model prog w) A (compareOp .NotEq (.str x t) (.str y u)) Q E s := by
  subst e hy
  exact PyProof.Rows.ne_str (by rw [show (PySem.Str.ofString "229" != PySem.Str.ofString "257") = true by decide +kernel]; exact h)
theorem p257r (mk : Nat) (D : List Nat) (t : Tok) (hz : (KL mk D).length ≤ sizeLine) {dp un : Nat} {gd : Option (List Code)} {cn : PySem.Str} {cs : Scope} {a : Addr} {ccd : Value} {outer : List Env} {A₀ : Around} {base h₀ : Heap} {L : Addr} {m : PySem.Str → Option Value} {news : List (Addr × Obj)} {s : Shared} {Q E : Value → Shared → Prop}
    (B : Below A₀ base outer h₀) (F : Fr h₀ L s.heap m) (X : (Mine.hd.heap_39 w.params).In h₀) (N : News h₀ L s.heap news) (T : Top p loose mean mg mb h₀) (hk : cs.kind = .function) (hdp : dp + 4 < recursionLimit)
    (hE : ∀ e t1 vs h' tk, RaisedS base (hideAll s.heap (news.map (·.1))) (envOf cn cs L a ccd :: outer) e (.ref 62) t1 vs news h' → C2 e h' → (hideAll s.heap (news.map (·.1))).UpToSlots h' → Fr h₀ L (hideAll s.heap (news.map (·.1))) m → E (.ref e) { s with heap := h', toks := tk }) :
    wpAny (model prog w) (XTop dp un gd cn cs a ccd [] L outer) (call (.ref 90) [.str (KL mk D) t] []) Q E s := by
  k_with_none
  k_with "compareOp NotEq str str" => ((k_here; k_extra "my ne"))
  k_with "leaving ref" => ((refine Halt.go ?_))
  refine wpAny_call ?_
  k_dflt (refine' enterP ?k1 ?k2 ?k3 ?k4 ?k5 ?kA ?kF ?kK ?k6 ?k7 ?k8 ?k9 ?kB ?_ ?c2 ?c3 ?c4 ?c5; (case kA => exact rfl); (case kF => exact rfl); (case kK => assumption); (case k1 => k_asm); (case k2 => k_asm); (case k3 => k_asm); (case k4 => k_asm); (case k5 => k_asm); (case k6 => k_is); (case k7 => k_is); (case k8 => ktr_room); (case k9 => exact BindsTo.of_eq rfl); (case c5 => decide); (case kB => exact locs rfl); (case c2 => exact rfl); (case c3 => exact rfl); (case c4 => exact rfl); k_whole; intro g' L' h' hgq FG' F' N' B' X' T' l1; (try dsimp only); (try k_lift B'); (try k_fold))
  clear F X T B N
  have q1 := KL_pre mk D
  generalize hKK : KL mk D = KK at *
  k_with "my ne" => (k_dflt (refine ne_rule2 q1 rfl ?_))
  k_steps
  unfold Halt
  (rename Heap.MadeExcOf _ _ _ _ _ => M1)
  (rename Below _ _ (_ :: _) _ => B1)
  (rename Fr g' L' _ _ => F1)
  (rename News g' L' _ _ => N1)
  k_dflt (refine' leave_raiseC B1 M1 F1 N1 ?_ ?kk; (case kk => exact rfl); k_whole; intro h9 t9 r9 c9 u9)
  subst hgq
  exact hE _ _ _ _ _ r9 c9 u9 FG'
end
end Mine
end

section
open PySem PySem.W PySem.Calls PyProof.Rows
namespace Mine
theorem backRead : True := by
  k_with_none
  w_top off
  exact trivial
def portN (X : List Nat) (b : Nat) : Nat := 16 * first X b (most X b) + most X b
abbrev tupO (t1 t2 : Tok) (port : Nat) : Obj := { cls := .type "tuple", data := .seq [.str (PySem.Str.ofString "host") t1, .int (port : Int) t2].toArray }
def ToldV (X : List Nat) (tups : List (Addr × Obj)) (i : Nat) (v : Value) : Prop :=
  if most X (it X i) = 0 then ∃ t, v = .str (mkS (X.getD (it X i) 0)) t else ∃ a t1 t2, v = .ref a ∧ (a, tupO t1 t2 (portN X (it X i))) ∈ tups
def Told (X : List Nat) (tups : List (Addr × Obj)) (vt : List Value) (k : Nat) : Prop := vt.length = k ∧ ∀ i v, vt[i]? = some v → ToldV X tups i v
abbrev rStored : List PySem.Str := [PySem.Str.ofString "reply", PySem.Str.ofString "text", PySem.Str.ofString "place", PySem.Str.ofString "size", PySem.Str.ofString "k"]
theorem strs_get {vs : List Value} {xs : List PySem.Str} (h : StrsAre vs xs) : ∀ {i : Nat} {v : Value}, vs[i]? = some v → ∃ y t, v = .str y t ∧ xs[i]? = some y := by
  induction h with
  | nil => intro i v h; simp at h
  | cons n t h ih =>
    intro i v hv
    cases i with
    | zero => cases hv; exact ⟨n, t, rfl, rfl⟩
    | succ i => exact ih hv
theorem rep_at {x mk : PySem.Str} {vs : List Value} {K i : Nat} {v : Value} (h : StrsAre vs ((List.range K).map fun i => rep x mk (it x.cps.toList i))) (hv : vs[i]? = some v) : i < K ∧ ∃ t, v = .str (rep x mk (it x.cps.toList i)) t := by
  obtain ⟨y, t, rfl, hy⟩ := strs_get h hv
  rw [List.getElem?_map] at hy
  by_cases hi : i < K
  · rw [List.getElem?_range hi] at hy
    cases hy
    exact ⟨hi, t, rfl⟩
  · rw [List.getElem?_eq_none (by simpa using hi)] at hy
    cases hy
theorem it_lt {X : List Nat} {K i : Nat} (hi : i < K) (hK : it X K = X.length) : it X i < X.length := by
  have mono : ∀ n, it X i + 1 ≤ it X (i + 1 + n) := by
    intro n
    induction n with
    | zero => exact nxt_gt X (it X i)
    | succ n ih => have := nxt_gt X (it X (i + 1 + n)); exact Nat.le_trans ih (Nat.le_of_lt this)
  have := mono (K - (i + 1))
  rw [show i + 1 + (K - (i + 1)) = K by omega, hK] at this
  exact this
theorem map_two {m : PySem.Str → Option Value} {v1 v2 : Value} (h1 : m (PySem.Str.ofString "text") = some v1) (h2 : m (PySem.Str.ofString "told") = some v2) :
    ∃ u : PySem.Str → Option Value, m = fun z => if z = PySem.Str.ofString "text" then some v1 else if z = PySem.Str.ofString "told" then some v2 else u z := by
  refine ⟨m, ?_⟩
  funext z
  by_cases q : z = PySem.Str.ofString "text"
  · rw [if_pos q, q, h1]
  by_cases q2 : z = PySem.Str.ofString "told"
  · rw [if_neg q, if_pos q2, q2, h2]
  rw [if_neg q, if_neg q2]
section
variable {prog : Program} {w : World} {A : Around} {E : Value → Shared → Prop} {s : Shared}
theorem item_lastP {value slice : PySem.Expr} {l : Addr} {vs : List Value} {n : Nat} {u : Tok} {v : Value} {h₀ : Heap} {L : Addr} {news : List (Addr × Obj)} {Q : Value → Shared → Prop} (N : News h₀ L s.heap news) (hm : (l, listOf (vs.toArray.push v) n) ∈ news) (h : Q v s)
    (hs : subscripted slice false (.ref l) (.int (-1) u) = operate [.ref l, .int (-1) u] (getItem (.ref l) (.int (-1) u)) := by with_unfolding_all rfl) :
    wpAny (model prog w) A (subscriptTail value slice (.ref l) (.int (-1) u)) Q E s := by
  rw [List.push_toArray] at hm
  exact item_last N hm h hs
end
theorem strs_len {vs : List Value} {xs : List PySem.Str} (h : StrsAre vs xs) : vs.length = xs.length := by
  induction h with
  | nil => rfl
  | cons n t h ih => simp [ih]
theorem told_snoc {X : List Nat} {rs rs' : List (Addr × Obj)} {vt : List Value} {i : Nat} {v : Value} (h : Told X rs vt i) (hs : ∀ q ∈ rs, q ∈ rs') (hv : ToldV X rs' i v) : Told X rs' (vt ++ [v]) (i + 1) := by
  refine ⟨by rw [List.length_append, h.1]; rfl, fun j u hj => ?_⟩
  rcases Nat.lt_trichotomy j vt.length with q | q | q
  · rw [List.getElem?_append_left q] at hj
    have := h.2 j u hj
    unfold ToldV at this ⊢
    split
    · rename_i z
      rw [if_pos z] at this
      exact this
    · rename_i z
      rw [if_neg z] at this
      obtain ⟨a, t1, t2, e, m⟩ := this
      exact ⟨a, t1, t2, e, hs _ m⟩
  · subst q
    rw [List.getElem?_append_right (Nat.le_refl _), Nat.sub_self] at hj
    cases hj
    rw [h.1]
    exact hv
  · rw [List.getElem?_eq_none (by simp; omega)] at hj
    cases hj
theorem take_one {X : List Nat} {b : Nat} (h : b < X.length) : X.take b ++ [X.getD b 0] = X.take (b + 1) := by
  rw [List.take_add_one, List.getD_eq_getElem?_getD, List.getElem?_eq_getElem h]
  rfl
theorem rst {z : PySem.Str} (h : rStored.contains z = false) : z ≠ PySem.Str.ofString "reply" ∧ z ≠ PySem.Str.ofString "text" ∧ z ≠ PySem.Str.ofString "place" ∧ z ≠ PySem.Str.ofString "size" ∧ z ≠ PySem.Str.ofString "k" := by
  simpa only [rStored, List.contains_cons, List.contains_nil, Bool.or_false, Bool.or_eq_false_iff, beq_eq_false_iff_ne, ne_eq] using h
theorem allLt_all {d : Addr} {l : List (Addr × Obj)} (h : AllLt d l) : ∀ p ∈ l, p.1 < d := by
  induction l with
  | nil => intro p hp; cases hp
  | cons a l ih =>
    intro p hp
    rcases List.mem_cons.mp hp with e | hp
    · rw [e]; exact h.1
    · exact ih h.2 p hp
theorem tup_led {g h : Heap} {L a : Addr} {items : Array Value} {led : List (Addr × Obj)} (N : News g L h led) (hm : (a, ({ cls := .type "tuple", data := .seq items } : Obj)) ∈ led) : IsTup h a items := ⟨_, (N _ hm).1, rfl, _, rfl⟩
theorem fresh_fr {g h : Heap} {L a : Addr} {m : PySem.Str → Option Value} (F : Fr g L h m) (hf : h.get? a = none) : g.get? a = none := kts_none F.keep hf
theorem fresh_ne {g h : Heap} {L a : Addr} {led : List (Addr × Obj)} (N : News g L h led) (hf : h.get? a = none) : ∀ q ∈ led, q.1 ≠ a := fun q hq e => by
  have := (N q hq).1
  rw [e, hf] at this
  cases this
theorem c2_obj {h : Heap} {e : Addr} {o : Obj} (c : C2 e h) (ho : h.get? e = some o) : ∃ vs, o.data = .fields vs ∧ vs[2]? = some .none := by
  obtain ⟨o', vs, h1, h2, h3⟩ := c
  rw [ho] at h1
  cases h1
  exact ⟨vs, h2, h3⟩
theorem c2_led {g h : Heap} {L e : Addr} {o : Obj} {led : List (Addr × Obj)} (N : News g L h led) (hm : (e, o) ∈ led) (c : ∃ vs, o.data = .fields vs ∧ vs[2]? = some .none) : C2 e h := let ⟨vs, h2, h3⟩ := c; ⟨o, vs, (N _ hm).1, h2, h3⟩
theorem keeps_ext {h h' : Heap} (x : Heap.ExtBut h.objs.size h h') : Keeps h h' := fun b o e => x b o (Nat.ne_of_lt (Heap.lt_size e)) e
/-- what stands before turn j of the loop over the copied places -/
def IJ (X : List Nat) (b : Nat) (aT : Addr) (oT : Obj) (rest : List (Addr × Obj)) (mF : PySem.Str → Option Value) (j : Nat) (m : PySem.Str → Option Value) (nx : List (Addr × Obj)) : Prop :=
  nx = (aT, oT) :: rest ∧ ∃ y t, y.cps.toList = X.take (b + j) ∧ m (PySem.Str.ofString "text") = some (.str y t) ∧ ∀ z, z ≠ PySem.Str.ofString "text" → z ≠ PySem.Str.ofString "k" → m z = mF z
theorem fr_name {g h : Heap} {L : Addr} {m : PySem.Str → Option Value} (F : Fr g L h m) : ∃ m', m' = m ∧ Fr g L h m' := ⟨m, rfl, F⟩
theorem map_one {m : PySem.Str → Option Value} {v1 : Value} (h1 : m (PySem.Str.ofString "text") = some v1) : ∃ u : PySem.Str → Option Value, m = fun z => if z = PySem.Str.ofString "text" then some v1 else u z := by
  refine ⟨m, ?_⟩
  funext z
  by_cases q : z = PySem.Str.ofString "text"
  · rw [if_pos q, q, h1]
  rw [if_neg q]
theorem take_getD {X : List Nat} {n k : Nat} (h : k < n) : (X.take n).getD k 0 = X.getD k 0 := by
  rw [List.getD_eq_getElem?_getD, List.getD_eq_getElem?_getD, List.getElem?_take_of_lt h]
theorem copy_one {X : List Nat} {f b n j : Nat} (e : (X.drop f).take n = (X.drop b).take n) (hj : j < n) : X.getD (f + j) 0 = X.getD (b + j) 0 := by
  have e2 : ((X.drop f).take n).getD j 0 = ((X.drop b).take n).getD j 0 := by rw [e]
  rw [take_getD hj, take_getD hj] at e2
  rw [List.getD_eq_getElem?_getD, List.getD_eq_getElem?_getD, List.getElem?_drop, List.getElem?_drop] at e2
  rw [List.getD_eq_getElem?_getD, List.getD_eq_getElem?_getD]
  exact e2
theorem rd_pack {g h : Heap} {L aT l : Addr} {t0 : Tok} {m : PySem.Str → Option Value} {news : List (Addr × Obj)} (F : Fr g L h m) (N : News g L h ((aT, listOf #[] 0) :: news)) (h1 : m (PySem.Str.ofString "told") = some (.ref aT)) (h2 : m (PySem.Str.ofString "text") = some (.str (PySem.Str.ofString "") t0)) (h3 : m (PySem.Str.ofString "replies") = some (.ref l)) (l1 : ∀ p ∈ news, p.1 < aT) :
    ∃ aT m₁ t0, Fr g L h m₁ ∧ m₁ (PySem.Str.ofString "told") = some (.ref aT) ∧ m₁ (PySem.Str.ofString "text") = some (.str (PySem.Str.ofString "") t0) ∧ m₁ (PySem.Str.ofString "replies") = some (.ref l) ∧ News g L h ((aT, listOf ([] : List Value).toArray 0) :: news) ∧ ∀ p ∈ news, p.1 < aT := ⟨aT, m, t0, F, h1, h2, h3, N, l1⟩
theorem fr_but {g h h' : Heap} {L I : Addr} {m : PySem.Str → Option Value} (F : Fr g L h m) (hI : g.get? I = none) (hn : I ≠ L) (hs : Heap.ExtBut I h h') : Fr g L h' m := by
  refine ⟨?_, fun b o e => hs b o (fun q => by rw [q, hI] at e; cases e) (F.keep b o e), F.above⟩
  obtain ⟨oL, es, ep, e1, e2⟩ := F.ns
  exact ⟨oL, es, ep, hs _ _ (Ne.symm hn) e1, e2⟩
theorem news_but {g h h' : Heap} {L I : Addr} {news : List (Addr × Obj)} (N : News g L h news) (hne : ∀ q ∈ news, q.1 ≠ I) (hs : Heap.ExtBut I h h') : News g L h' news := fun q hq => ⟨hs _ _ (hne q hq) (N q hq).1, (N q hq).2⟩
/-- what stands before turn i of the loop over the replies -/
def RInv (X : List Nat) (fs : List Addr) (A₁ : Around) (base : Heap) (outer : List Env) (K : Frag) (p : Program) (loose : List PySem.Str) (mean : ExcName → Option Value) (mg mb : PySem.Str → Option Value) (g₀ : Heap) (L aT l : Addr) (m₀ : PySem.Str → Option Value) (news : List (Addr × Obj)) (sB : Shared) (i : Nat) (I : Addr) (s' : Shared) : Prop :=
  ∃ (g h : Heap) (tk : Nat) (y : PySem.Str) (t : Tok) (vt : List Value) (rs : List (Addr × Obj)) (oI : Obj) (m : PySem.Str → Option Value),
    s' = { sB with heap := h, toks := tk } ∧ KtsTurn fs g₀ g ∧ Fr g L h m ∧ News g L h ((aT, listOf vt.toArray i) :: (I, oI) :: rs) ∧ (∀ q ∈ (I, oI) :: rs, q.1 ≠ aT) ∧ (∀ q ∈ rs, q.1 ≠ I) ∧ (∀ q ∈ news, q ∈ rs) ∧
    (oI.cls = .type "list_iterator" ∧ oI.data = .fields #[.ref l, .int i 0]) ∧ y.cps.toList = X.take (it X i) ∧ Told X rs vt i ∧ m (PySem.Str.ofString "text") = some (.str y t) ∧ (∀ z, rStored.contains z = false → m z = m₀ z) ∧
    Below A₁ base outer g ∧ K.In g ∧ Top p loose mean mg mb g ∧ KtsDicts fs g
theorem rinv_mk {X : List Nat} {fs : List Addr} {A₁ : Around} {base : Heap} {outer : List Env} {K : Frag} {p : Program} {loose : List PySem.Str} {mean : ExcName → Option Value} {mg mb : PySem.Str → Option Value} {g₀ g h : Heap} {L aT l I : Addr} {m₀ m : PySem.Str → Option Value} {news rs : List (Addr × Obj)} {sB : Shared} {i tk : Nat} {oI : Obj} {y : PySem.Str} {t : Tok} {vt : List Value}
    (T : KtsTurn fs g₀ g) (F : Fr g L h m) (N : News g L h ((aT, listOf vt.toArray i) :: (I, oI) :: rs)) (h1 : ∀ q ∈ (I, oI) :: rs, q.1 ≠ aT) (h2 : ∀ q ∈ rs, q.1 ≠ I) (h3 : ∀ q ∈ news, q ∈ rs) (h4 : oI.cls = .type "list_iterator") (h5 : oI.data = .fields #[.ref l, .int i 0])
    (B : Below A₁ base outer g) (X2 : K.In g) (P : Top p loose mean mg mb g) (D : KtsDicts fs g) (h6 : y.cps.toList = X.take (it X i)) (h7 : Told X rs vt i) (h8 : m (PySem.Str.ofString "text") = some (.str y t)) (h9 : ∀ z, rStored.contains z = false → m z = m₀ z) :
    RInv X fs A₁ base outer K p loose mean mg mb g₀ L aT l m₀ news sB i I { sB with heap := h, toks := tk } :=
  ⟨g, h, tk, y, t, vt, rs, oI, m, rfl, T, F, N, h1, h2, h3, ⟨h4, h5⟩, h6, h7, h8, h9, B, X2, P, D⟩
theorem fd16 {P f n : Nat} (e : 16 * f + n = P) (h : n ≤ 10) : (P : Int).fdiv 16 = (f : Int) := by
  rw [Int.fdiv_eq_ediv_of_nonneg _ (by decide)]
  omega
theorem fm16 {P f n : Nat} (e : 16 * f + n = P) (h : n ≤ 10) : (P : Int).fmod 16 = (n : Int) := by
  rw [Int.fmod_eq_emod_of_nonneg _ (by decide)]
  omega
theorem bj_lt {b j n l : Nat} (h : j < n) (hm : n ≤ l - b) : b + j < l := by omega
theorem fj_lt {f b j l : Nat} (h : f < b) (e : l = b + j) : (f : Int) + (j : Int) < (l : Int) := by omega
theorem port_lt {f b n l : Nat} (h1 : f ≤ b) (h2 : n ≤ l - b) (h3 : b < l) (h4 : l ≤ 10) : 16 * f + n < 1000 := by omega
theorem small_nn {f n : Nat} (h1 : f ≤ 10) (h2 : n ≤ 10) : Builtin.Range.small (f : Int) ((f : Int) + (n : Int)) 1 = true := small_one (by omega) (by omega) (by omega) (by omega)
theorem size_nn (f n : Nat) : Builtin.Range.rangeSize (f : Int) ((f : Int) + (n : Int)) 1 = (n : Int) := by
  rw [rangeSize_one]
  split <;> omega
theorem le_big {n : Nat} (h : n ≤ 10) : n ≤ 16777216 := Nat.le_trans h (by decide)
section
variable {prog : Program} {w : World} {p : Program} {loose : List PySem.Str} {mean : ExcName → Option Value} {mg mb : PySem.Str → Option Value}
theorem p229d (mk : Nat) (port : Nat) (D : List Nat) (t tp tq : Tok) (peer : Addr) (hm : MarkOk mk) (hp : port < 1000) (hD : (PySem.Str.ofString (toString (port : Int))).cps.toList = D) :
    GTH prog w p loose mean mg mb 4 (fun h => IsTup h peer #[.str (PySem.Str.ofString "host") tp, .int 21 tq]) 83 [.str (KL mk D) t, .ref peer] (fun h0 r h => ∃ a t1 t2, r = .ref a ∧ h0.get? a = none ∧ h.get? a = some { cls := .type "tuple", data := .seq [.str (PySem.Str.ofString "host") t1, .int (port : Int) t2].toArray }) := hD ▸ p229 mk port t tp tq peer hm hp
theorem read (x : PySem.Str) (mk : Nat) (l : Addr) (vs : List Value) (nl K : Nat) (hal : Alph x.cps.toList) (hx : x.length ≤ 10) (hmk : MarkOk mk) (hK : it x.cps.toList K = x.length)
    (hvs : StrsAre vs ((List.range K).map fun i => rep x (mkS mk) (it x.cps.toList i)))
    {dp un : Nat} {gd : Option (List Code)} {cn : PySem.Str} {cs : Scope} {a : Addr} {ccd : Value} {A₀ : Around} {base h₀ : Heap} {L : Addr} {m : PySem.Str → Option Value} {news : List (Addr × Obj)} {s : Shared} {Q E : Value → Shared → Prop}
    (B : Below A₀ base [] h₀) (F : Fr h₀ L s.heap m) (X : (Mine.hd.heap_39 w.params).In h₀) (N : News h₀ L s.heap news) (T : Top p loose mean mg mb h₀) (XB : (Mine.hd.heap_39 w.params).In base) (TB : Top p loose mean mg mb base)
    (hl : (l, listOf vs.toArray nl) ∈ news) (hk : cs.kind = .function) (hdp : dp + 8 < recursionLimit) (hun : un + 8 * 8 < cLine)
    (hret : ∀ at' aT y t vt rs h' tk', Fr h₀ L h' m → News h₀ L h' ((at', { cls := .type "tuple", data := .seq [.str y t, .ref aT].toArray }) :: (aT, listOf vt.toArray K) :: rs) → (∀ q ∈ news, q ∈ rs) → (∀ q ∈ rs, q.1 ≠ aT) → aT < at' → (∀ q ∈ rs, q.1 < at') → y.cps.toList = x.cps.toList → Told x.cps.toList rs vt K → Q (.ref at') { s with heap := h', toks := tk' }) :
    wpAny (model prog w) (XTop dp un gd cn cs a ccd [] L []) (call (.ref 118) [.ref l] []) Q E s := by
  k_with_none
  k_with "subscriptTail" => ((k_here; k_extra "my item"))
  k_with "binaryOp Add str str" => ((refine Halt.go ?_))
  k_with "exec For Name Name cons nil" => ((refine Halt.go ?_))
  refine wpAny_call ?_
  k_dflt (refine' code_defS0 ?k1 ?k2 ?k3 ?k4 ?k5 ?kA ?k6 ?k7 ?k8 ?k9 ?kB ?_ ?kH ?c2 ?c3 ?c4 ?c5; (case kA => exact rfl); (case kH => assumption); (case k1 => k_asm); (case k2 => k_asm); (case k3 => k_asm); (case k4 => k_asm); (case k5 => k_asm); (case k6 => k_is); (case k7 => k_is); (case k8 => ktr_room); (case k9 => exact BindsTo.of_eq rfl); (case c5 => decide); (case kB => exact locs rfl); (case c2 => exact rfl); (case c3 => exact rfl); (case c4 => exact rfl); k_whole; intro g' L' h' FG' F' N' B' X' T' D'; (try dsimp only); (try k_lift B'); (try k_fold))
  clear F N X T B
  k_steps
  unfold Halt
  (rename Fr g' _ _ _ => F1)
  (rename News g' _ _ _ => N1)
  (rename Below _ _ [_] _ => B1)
  (rename Frag.In _ g' => X1)
  (rename Top _ _ _ _ _ g' => T1)
  obtain ⟨aT, m₁, t0, F1, hm1, hm2, hm3, N1, l1⟩ := rd_pack F1 N1 rfl rfl rfl (by assumption)
  refine' forT (l := l) (vs := vs) (RInv x.cps.toList ([envOf cn cs L a ccd].filterMap (·.frame)) (XTop dp un gd cn cs a ccd [] L []) base [envOf cn cs L a ccd] (Mine.hd.heap_39 w.params) p loose mean mg mb g' L' aT l m₁ news s) rfl ?way1 ?way2 ?way3 ?way4
  case way1 =>
    rintro i I s' ⟨g, h, tk, y, t, vt, rs, oI, m', rfl, _, _, N2, _, _, hnr, ⟨hc, hd⟩, _⟩
    exact ⟨⟨oI, (N2 _ (.tail _ (.head _))).1, hc, hd⟩, _, (N2 _ (.tail _ (.tail _ (hnr _ hl)))).1, rfl, nl, rfl⟩
  case way2 =>
    k_dflt (refine ld F1 hm3 ?_)
    refine ⟨rfl, ⟨_, (N1 _ (.tail _ hl)).1, rfl, nl, rfl⟩, fun h1 hit hil hkp hsz => ?_⟩
    obtain ⟨oI, hoI, hc, hd⟩ := hit
    refine ⟨g', h1, _, PySem.Str.ofString "", _, [], news, oI, _, rfl, KtsTurn.refl, keeps_fr hkp F1, ?_, ?_, ?_, fun q hq => hq, ⟨hc, hd⟩, (by show _ = List.take 0 _; rw [List.take_zero]; decide +kernel), ⟨rfl, fun i v h => by simp at h⟩, hm2, fun _ _ => rfl, B1, X1, T1, D'⟩
    · intro q hq
      rcases List.mem_cons.mp hq with rfl | hq
      · exact ⟨hkp _ _ (N1 _ (.head _)).1, (N1 _ (.head _)).2⟩
      rcases List.mem_cons.mp hq with rfl | hq
      · refine ⟨hoI, fun e => ?_, next_is_new F1⟩
        have := F1.ns.lt
        rw [← show _ = L' from e] at this
        exact Nat.lt_irrefl _ this
      · exact ⟨hkp _ _ (N1 _ (.tail _ hq)).1, (N1 _ (.tail _ hq)).2⟩
    · intro q hq e
      rcases List.mem_cons.mp hq with rfl | hq
      · exact absurd (Heap.lt_size (N1 _ (.head _)).1) (by rw [← e]; exact Nat.lt_irrefl _)
      · exact absurd (l1 q hq) (by rw [e]; exact Nat.lt_irrefl _)
    · intro q hq e
      exact absurd (Heap.lt_size (N1 _ (.tail _ hq)).1) (by rw [e]; exact Nat.lt_irrefl _)
  case way4 =>
    rintro I s1 h1 ⟨g, h, tk, y, t, vt, rs, oI, m', rfl, T2, F2, N2, hoffT, hoffI, hnr, ⟨hc, hd⟩, hy, htold, hmt, hmz, B2, X2, P2, D2⟩ hsb
    have hIg := (N2 _ (.tail _ (.head _))).2
    have F3 := fr_but F2 hIg.2 hIg.1 hsb
    have N3 : News g L' h1 ((_, listOf vt.toArray vs.length) :: rs) := news_but (fun q hq => N2 q ((List.mem_cons.mp hq).elim (fun e => e ▸ .head _) fun hq => .tail _ (.tail _ hq))) (fun q hq e => by
      rcases List.mem_cons.mp hq with rfl | hq
      · exact hoffT _ (.head _) e.symm
      · exact hoffI q hq e) hsb
    have hto := (hmz (PySem.Str.ofString "told") (by decide +kernel)).trans hm1
    obtain ⟨u, hu⟩ := map_two hmt hto
    rw [hu] at F3
    have hoffR : ∀ q ∈ rs, q.1 ≠ aT := fun q hq => hoffT q (.tail _ hq)
    have hKl : vs.length = K := by rw [strs_len hvs, List.length_map, List.length_range]
    clear F1 N1 B1 X1 T1 D' hmz F2 N2 hoffT
    k_steps
    refine' leaveS0_ ?k1 ?k2 T2 ?_
    case k1 => k_asm
    case k2 => k_asm
    intro Fh Nh
    dsimp only
    rename_i hlt9
    refine hret _ _ _ _ _ rs _ _ Fh (hKl ▸ Nh) hnr hoffR hlt9.1 (allLt_all hlt9.2) ?_ (hKl ▸ htold)
    rw [hy, hKl, hK, len_list, List.take_length]
  case way3 =>
    rintro i v I s1 h1 hv ⟨g, h, tk, y, t, vt, rs, oI, m', rfl, T2, F2, N2, hoffT, hoffI, hnr, ⟨hc, hd⟩, hy, htold, hmt, hmz, B2, X2, P2, D2⟩ hsb hit
    obtain ⟨hiK, tv, rfl⟩ := rep_at hvs hv
    have hIg := (N2 _ (.tail _ (.head _))).2
    have F3 := fr_but F2 hIg.2 hIg.1 hsb.extBut
    obtain ⟨oJ, hJ, hcJ, hdJ⟩ := hit
    have N3 : News g L' h1 ((aT, listOf vt.toArray i) :: (I, oJ) :: rs) := news_set (pre := [(aT, listOf vt.toArray i)]) N2 (fun q hq => by rw [List.mem_singleton.mp hq]; exact (hoffT _ (.head _)).symm) hoffI hsb hJ
    have hoffT3 : ∀ q ∈ (I, oJ) :: rs, q.1 ≠ aT := fun q hq => by
      rcases List.mem_cons.mp hq with rfl | hq
      · exact hoffT (I, oI) (.head _)
      · exact hoffT q (.tail _ hq)
    have hto := (hmz (PySem.Str.ofString "told") (by decide +kernel)).trans hm1
    obtain ⟨u, hu⟩ := map_two hmt hto
    rw [hu] at F3
    have hlt := it_lt hiK hK
    have hxl := len_list x
    have hx10 : x.cps.toList.length ≤ 10 := hxl ▸ hx
    have hzT : vt.toArray.size ≤ sizeLine := by
      rw [List.size_toArray, htold.1, sizeLine_eq]
      exact le_big (Nat.le_trans (it_ge x.cps.toList i) (Nat.le_trans (Nat.le_of_lt hlt) hx10))
    have hyl : y.length = it x.cps.toList i := by rw [len_list, hy, List.length_take, Nat.min_eq_left (Nat.le_of_lt hlt)]
    have hadd : y.length + Str.length ⟨#[x.cps.toList.getD (it x.cps.toList i) 0]⟩ ≤ sizeLine := by
      rw [show Str.length ⟨#[x.cps.toList.getD (it x.cps.toList i) 0]⟩ = 1 from rfl, sizeLine_eq, hyl]
      exact le_big (Nat.le_trans hlt hx10)
    clear F1 N1 B1 X1 T1 D' F2 N2 hoffT hd hc
    refine stN F3 N3 (fun h4 F4 N4 => ?_) rfl rfl
    clear F3 N3
    by_cases hm0 : most x.cps.toList (it x.cps.toList i) = 0
    · rw [show rep x (mkS mk) (it x.cps.toList i) = litR (x.cps.toList.getD (it x.cps.toList i) 0) from if_pos hm0] at F4
      have hcc := getD_alph hal hlt
      k_with "my item" => ((with_reducible show wpAny _ _ (subscriptTail _ _ (Value.ref _) (Value.int _ _)) _ _ _); k_dflt (refine' item_lastP ?N ?m ?_; (case N => k_asm); (case m => k_mem); k_whole))
      k_with "call ref" => ((k_dflt (refine' PT.use (p257 _ _ _ hcc) (fun _ _ e => e) ?k2 ?k3 ?k4 ?k5 ?k6 rfl ?k7 ?k8 ?_; (case k2 => k_asm); (case k3 => k_asm); (case k4 => k_asm); (case k5 => k_asm); (case k6 => k_asm); (case k7 => ktr_room); (case k8 => ktr_units); k_whole)); (intro r9 h9 tk9 kk9 F9 N9 hr9); obtain ⟨t9, hr9⟩ := hr9; subst hr9)
      k_steps
      unfold Halt
      refine PyProof.Rows.add_str (fun t8 k8 => ?_) hadd
      k_steps
      show RInv _ _ _ _ _ _ _ _ _ _ _ _ _ _ _ _ _ _ _ _ _
      refine' rinv_mk (vt := vt ++ [.str ⟨#[x.cps.toList.getD (it x.cps.toList i) 0]⟩ t9]) T2 ?k1 ?k2 hoffT3 hoffI hnr hcJ hdJ B2 X2 P2 D2 ?way5 ?way6 ?way7 ?way8
      case k1 => k_asm
      case k2 =>
        rw [← List.push_toArray]
        k_asm
      case way7 => exact rfl
      case way5 =>
        have hn : it x.cps.toList (i + 1) = it x.cps.toList i + 1 := by
          show nxt _ _ = _
          unfold nxt
          rw [hm0]
          rfl
        rw [hn, ← take_one hlt, ← hy]
        exact Array.toList_append
      case way6 =>
        refine told_snoc htold (fun q hq => hq) ?_
        unfold ToldV
        rw [if_pos hm0]
        exact ⟨t9, rfl⟩
      case way8 =>
        intro z hz
        have hz2 := rst hz
        rw [if_neg hz2.2.1, if_neg hz2.1]
        exact (congrFun hu z).symm.trans (hmz z hz)
    · have hpe : rep x (mkS mk) (it x.cps.toList i) = KL mk (PySem.Str.ofString (toString ((portN x.cps.toList (it x.cps.toList i) : Nat) : Int))).cps.toList := by
        rw [← cpy_KL]
        exact if_neg hm0
      rw [hpe] at F4
      have hport : portN x.cps.toList (it x.cps.toList i) < 1000 := by
        exact port_lt (first_spec x.cps.toList (it x.cps.toList i) (most x.cps.toList (it x.cps.toList i))).1 (most_le x.cps.toList (it x.cps.toList i)) hlt hx10
      have hKKl : (KL mk (PySem.Str.ofString (toString ((portN x.cps.toList (it x.cps.toList i) : Nat) : Int))).cps.toList).length ≤ sizeLine := by
        rw [KL_len, ← len_list, sizeLine_eq]
        have := PySem.W.KT.len_num (n := ((portN x.cps.toList (it x.cps.toList i) : Nat) : Int)) (by omega) (by omega)
        omega
      generalize hPN : portN x.cps.toList (it x.cps.toList i) = PN at *
      generalize hDG : (PySem.Str.ofString (toString ((PN : Nat) : Int))).cps.toList = DG at *
      k_with "my item" => ((with_reducible show wpAny _ _ (subscriptTail _ _ (Value.ref aT) (Value.int _ _)) _ _ _); refine Halt.go ?_)
      k_with "call ref" => first
        | ((k_dflt (refine' GTH.use (p229d mk PN _ _ _ _ _ hmk hport hDG) ?k1 ?k2 ?k3 ?k4 ?k5 ?k6 rfl ?k7 ?k8 ?_; (case k2 => k_asm); (case k3 => k_asm); (case k4 => k_asm); (case k5 => k_asm); (case k6 => k_asm); (case k7 => ktr_room); (case k8 => ktr_units); (case k1 => exact tup_led (by k_asm) (.head _)); k_whole)); (intro r9 h9 tk9 kk9 F9 N9 hr9); obtain ⟨a9, t91, t92, hr9, hf9, ho9⟩ := hr9; subst hr9; (have hz9 := fresh_fr (by assumption) hf9); (have hne9 := fresh_ne (by assumption) hf9); (have N9 := News.more F9 N9 ho9 (fun _ _ q => nomatch q) hz9); (have d2 : a9 ≠ aT := (hne9 _ (.tail _ (.tail _ (.head _)))).symm))
        | ((k_dflt (refine' p257r mk DG _ hKKl ?k2 ?k3 ?k4 ?k5 ?k6 rfl ?k7 ?_; (case k2 => k_asm); (case k3 => k_asm); (case k4 => k_asm); (case k5 => k_asm); (case k6 => k_asm); (case k7 => ktr_room); k_whole)); refine Halt.go ?_)
      k_steps
      unfold Halt
      intro e5 t5 w5 h5 tk5 R5 c5 u5 F5
      k_dflt (refine' caughtC (C := 62) R5 c5 F5 B2 u5 XB TB D2 T2 ?ex ?q ?_; (case ex => k_is); (case q => kts_isx); k_whole)
      intro h6 g6 oe T6 F6 N6 hne6 c6 B6 X6 P6 D6
      (try k_lift B6)
      clear F4 N4 F5 R5 B2 X2 P2 D2 u5 T2
      have d1 : e5 ≠ aT := (hne6 _ (.head _)).symm
      have c7 := c2_obj c6 (N6 _ (.head _)).1
      k_steps
      unfold Halt
      (rename News g6 _ _ _ => N7)
      k_dflt (refine' item_lastP N7 (.tail _ (.tail _ (.tail _ (.head _)))) ?_; k_whole)
      k_steps
      (rename News g6 _ _ ((_, _) :: (a9, _) :: _) => N10)
      (rename Fr g6 _ _ _ => F10)
      k_dflt (refine' assign_TupleH rfl (c2_led N10 (.tail _ (.tail _ (.tail _ (.head _)))) c7) ⟨_, (N10 _ (.head _)).1, rfl, _, rfl⟩ rfl rfl ?_; k_whole)
      intro h11 x11
      have k11 := keeps_ext x11
      have F11 := keeps_fr k11 F10
      have N11 := keeps_news k11 N10
      k_steps
      (rename IsRange _ _ _ _ 1 _ _ _ => hr12)
      (rename Fr g6 _ _ _ => F12)
      (rename News g6 _ _ ((_, _) :: (a9, _) :: _) => N12)
      have hmle := most_le x.cps.toList (it x.cps.toList i)
      have hfs := first_spec x.cps.toList (it x.cps.toList i) (most x.cps.toList (it x.cps.toList i))
      have hflt := hfs.2.2.2.mpr (most_occ hm0)
      have hm10 := Nat.le_trans hmle (Nat.le_trans (Nat.sub_le _ _) hx10)
      rw [fd16 hPN hm10, fm16 hPN hm10] at hr12
      have hf10 := Nat.le_trans hfs.1 (Nat.le_trans (Nat.le_of_lt hlt) hx10)
      generalize hff : first x.cps.toList (it x.cps.toList i) (most x.cps.toList (it x.cps.toList i)) = ff at *
      have c12 := c2_led N12 (.tail _ (.tail _ (.tail _ (.head _)))) c7
      obtain ⟨m12, hm12, F12⟩ := fr_name F12
      refine' iterR (n := most x.cps.toList (it x.cps.toList i)) (fp := [e5]) (IJ x.cps.toList (it x.cps.toList i) aT (listOf (vt ++ [Value.ref a9]).toArray (i + 1)) ((a9, tupO t91 t92 PN) :: (I, oJ) :: rs) m12) hr12 ?way11 ?way12 (walks_rangeH rfl _ (Nat.ne_of_lt c12.lt) _ _) ?way13 ?way14 ?way15 F12 (news := (aT, listOf (vt ++ [Value.ref a9]).toArray (i + 1)) :: (a9, tupO t91 t92 PN) :: (I, oJ) :: rs) ?way16 ?way17 ?way18 ?way19 ?way20
      case way11 =>
        exact small_nn hf10 hm10
      case way12 => exact size_nn _ _
      case way13 =>
        refine ⟨?_, c12.push _⟩
        rw [show ((ff : Nat) : Int) + ((0 : Nat) : Int) = ff by simp, show ((most x.cps.toList (it x.cps.toList i) : Nat) : Int) - ((0 : Nat) : Int) = (most x.cps.toList (it x.cps.toList i) : Nat) by simp]
        exact Heap.get?_push_size _ rfl
      case way14 =>
        intro j h st
        exact ⟨_, st.1⟩
      case way15 =>
        intro hm
        exact (N12 _ (.tail _ (.tail _ (.tail _ (.head _))))).2.1 (List.mem_singleton.mp hm).symm
      case way16 =>
        intro q hq
        rcases List.mem_cons.mp hq with rfl | hq
        · exact N12 _ (.tail _ (.tail _ (.tail _ (.tail _ (.head _)))))
        rcases List.mem_cons.mp hq with rfl | hq
        · exact N12 _ (.tail _ (.head _))
        · exact N12 _ (.tail _ (.tail _ (.tail _ (.tail _ (.tail _ hq)))))
      case way17 => exact ⟨rfl, y, t, hy, (by rw [hm12]; rfl), fun _ _ _ => rfl⟩
      case way18 =>
        intro j m nx hj q hq _ hq5
        rw [hj.1] at hq
        have hq5 := List.mem_singleton.mp hq5
        rcases List.mem_cons.mp hq with rfl | hq
        · exact d1 hq5.symm
        rcases List.mem_cons.mp hq with rfl | hq
        · exact hne9 _ (.tail _ (.head _)) hq5.symm
        · exact hne6 _ (.tail _ hq) hq5
      case way19 =>
        intro j tj m13 nx13 h13 tk13 own13 hj hown hkp st13 hJ F13 N13
        obtain ⟨hnx, y2, t2, hy2, hm2t, hm2z⟩ := hJ
        obtain ⟨u13, hu13⟩ := map_one hm2t
        rw [hu13] at F13
        subst hnx
        have hbj := bj_lt hj hmle
        have hy2l : y2.length = it x.cps.toList i + j := by rw [len_list, hy2, List.length_take, Nat.min_eq_left (Nat.le_of_lt hbj)]
        have q1 : (0 : Int) ≤ ((ff : Nat) : Int) + ((j : Nat) : Int) := Int.add_nonneg (Int.natCast_nonneg _) (Int.natCast_nonneg _)
        have q2 : ((ff : Nat) : Int) + ((j : Nat) : Int) < y2.length := fj_lt hflt hy2l
        have hitem : Txt.item y2 (((ff : Nat) : Int) + ((j : Nat) : Int)) = ⟨#[x.cps.toList.getD (it x.cps.toList i + j) 0]⟩ := by
          have e1 := item_at y2 (ff + j) (hy2l ▸ Nat.add_lt_add_right hflt j)
          rw [show (((ff + j : Nat)) : Int) = ((ff : Nat) : Int) + ((j : Nat) : Int) by push_cast; rfl] at e1
          rw [e1, hy2, take_getD (Nat.add_lt_add_right hflt j), copy_one hfs.2.1 hj]
        have hadd2 : y2.length + Str.length ⟨#[x.cps.toList.getD (it x.cps.toList i + j) 0]⟩ ≤ sizeLine := by
          rw [show Str.length ⟨#[x.cps.toList.getD (it x.cps.toList i + j) 0]⟩ = 1 from rfl, sizeLine_eq, hy2l]
          exact le_big (Nat.le_trans hbj hx10)
        clear F12 N12 hr12
        k_steps
        unfold Halt
        rw [hitem]
        refine PyProof.Rows.add_str (fun t8 k8 => ?_) hadd2
        k_steps
        refine' InvEndG.intro (nx := (aT, listOf (vt ++ [Value.ref a9]).toArray (i + 1)) :: (a9, tupO t91 t92 PN) :: (I, oJ) :: rs) ?k1 ?k2 ?way31 hown ?way33 ?way34
        case k1 => k_asm
        case k2 => k_asm
        case way31 =>
          refine ⟨rfl, y2 ++ ⟨#[x.cps.toList.getD (it x.cps.toList i + j) 0]⟩, t8, ?_, rfl, fun z h1 h2 => ?_⟩
          · rw [show it x.cps.toList i + (j + 1) = it x.cps.toList i + j + 1 from rfl, ← take_one hbj, ← hy2]
            exact Array.toList_append
          · show (if z = _ then _ else if z = _ then _ else _) = _
            rw [if_neg h1, if_neg h2]
            exact (congrFun hu13 z).symm.trans (hm2z z h1 h2)
        case way33 => exact fun q hq => List.mem_append.mpr (.inl hq)
        case way34 => exact fun q hq => List.mem_append.mpr (.inr hq)
      case way20 =>
        intro m13 nx13 h13 tk13 hJ F13 N13
        obtain ⟨hnx, y2, t2, hy2, hm2t, hm2z⟩ := hJ
        subst hnx
        clear F12 N12 hr12
        k_steps
        show RInv _ _ _ _ _ _ _ _ _ _ _ _ _ _ _ _ _ _ _ _ _
        refine' rinv_mk (vt := vt ++ [Value.ref a9]) (rs := (a9, tupO t91 t92 PN) :: rs) (y := y2) (t := t2) T6 F13 ?k2 ?way21 ?way22 ?way23 hcJ hdJ (by assumption) (by assumption) (by assumption) D6 ?way24 ?way25 hm2t ?way26
        case k2 =>
          intro q hq
          rcases List.mem_cons.mp hq with rfl | hq
          · exact N13 _ (.head _)
          rcases List.mem_cons.mp hq with rfl | hq
          · exact N13 _ (.tail _ (.tail _ (.head _)))
          rcases List.mem_cons.mp hq with rfl | hq
          · exact N13 _ (.tail _ (.head _))
          · exact N13 _ (.tail _ (.tail _ (.tail _ hq)))
        case way21 =>
          intro q hq
          rcases List.mem_cons.mp hq with rfl | hq
          · exact hoffT3 _ (.head _)
          rcases List.mem_cons.mp hq with rfl | hq
          · exact d2
          · exact hoffT3 _ (.tail _ hq)
        case way22 =>
          intro q hq
          rcases List.mem_cons.mp hq with rfl | hq
          · exact (hne9 _ (.tail _ (.tail _ (.tail _ (.head _))))).symm
          · exact hoffI q hq
        case way23 => exact fun q hq => .tail _ (hnr q hq)
        case way24 =>
          rw [hy2]
          show _ = List.take (nxt _ _) _
          unfold nxt
          rw [Nat.max_eq_left (Nat.pos_of_ne_zero hm0)]
        case way25 =>
          refine told_snoc htold (fun q hq => .tail _ hq) ?_
          unfold ToldV
          rw [if_neg hm0, hPN]
          exact ⟨a9, t91, t92, rfl, .head _⟩
        case way26 =>
          intro z hz
          have hz2 := rst hz
          rw [hm2z z hz2.2.1 hz2.2.2.2.2, hm12]
          show (if z = _ then _ else if z = _ then _ else if z = _ then _ else _) = _
          rw [if_neg hz2.2.2.2.1, if_neg hz2.2.2.1, if_neg hz2.1]
          exact (congrFun hu z).symm.trans (hmz z hz)
end
end Mine
end

section
open PySem PySem.W PySem.Calls PyProof.Rows
namespace Mine
theorem backFp : True := by
  k_with_none
  w_top off
  exact trivial
theorem occ_later {X : List Nat} {b d n : Nat} (h : occB X b (d + n) = true) : occB X (b + d) n = true := by
  obtain ⟨p, hp, ho⟩ := occB_iff.mp h
  refine occB_iff.mpr ⟨p + d, Nat.add_lt_add_right hp d, ?_⟩
  have e2 : ((X.drop p).take (d + n)).drop d = ((X.drop b).take (d + n)).drop d := by rw [ho]
  rw [List.drop_take, List.drop_take, List.drop_drop, List.drop_drop, Nat.add_sub_cancel_left] at e2
  exact e2
theorem nxt_mono {X : List Nat} {b b' : Nat} (h : b ≤ b') (hb : b' < X.length) : nxt X b ≤ nxt X b' := by
  obtain ⟨d, rfl⟩ := Nat.le.dest h
  rcases Nat.lt_or_ge d (most X b) with q | q
  · obtain ⟨n, hn⟩ := Nat.le.dest (Nat.le_of_lt q)
    have hm : most X b ≠ 0 := Nat.ne_of_gt (Nat.lt_of_le_of_lt (Nat.zero_le _) q)
    have h2 := occ_later (hn ▸ most_occ hm)
    have hle := most_le X b
    have h3 := most_max (X := X) (b := b + d) (m := n) (by omega) h2
    unfold nxt
    omega
  · have := nxt_gt X (b + d)
    unfold nxt at this ⊢
    omega
theorem len_nodup {l : List Nat} : ∀ {n : Nat}, l.Nodup → (∀ q ∈ l, q < n) → l.length ≤ n := by
  intro n
  induction n generalizing l with
  | zero =>
    intro _ h
    cases l with
    | nil => exact Nat.le_refl _
    | cons a l => exact absurd (h a (.head _)) (Nat.not_lt_zero _)
  | succ n ih =>
    intro hn h
    by_cases q : n ∈ l
    · have := ih (hn.erase n) (fun r hr => by
        have := hn.mem_erase_iff.mp hr
        have := h r this.2
        omega)
      rw [List.length_erase_of_mem q] at this
      omega
    · have := ih hn (fun r hr => by
        have h1 := h r hr
        have : r ≠ n := fun e => q (e ▸ hr)
        omega)
      omega
/-- a stop that a piece from b may reach -/
def okStop (X : List Nat) (b s : Nat) : Bool := s == b + 1 || occB X b (s - b)
theorem okStop_iff {X : List Nat} {b s : Nat} (h1 : b < s) (h2 : s ≤ X.length) : okStop X b s = true ↔ s ≤ nxt X b := by
  unfold okStop
  rw [Bool.or_eq_true, beq_iff_eq]
  constructor
  · rintro (rfl | h)
    · exact nxt_gt X b
    · have := most_max (by omega) h
      unfold nxt; omega
  · intro h
    by_cases q : s = b + 1
    · exact .inl q
    · refine .inr (occB_mono (most_occ (X := X) (b := b) ?_) ?_)
      · unfold nxt at h; omega
      · unfold nxt at h; omega
end Mine
end

section
open PySem PySem.W PySem.Calls PyProof.Rows
namespace Mine
theorem backFar : True := by
  k_with_none
  w_top off
  exact trivial
structure FS where
  k : Nat
  aP : Addr
  vp : List Value
  np : Nat
  vf : List Value
  ps : List Nat
abbrev FLed (aF : Addr) (c : FS) : List (Addr × Obj) := (aF, listOf c.vf.toArray c.k) :: (c.aP, listOf c.vp.toArray c.np) :: []
abbrev fStored : List PySem.Str := [PySem.Str.ofString "stops", PySem.Str.ofString "begin", PySem.Str.ofString "stop"]
def FSp (x : PySem.Str) (c : FS) : Prop :=
  IntsAre c.vf ((List.range c.k).map fun i => ((it x.cps.toList (i + 1) : Nat) : Int)) ∧ IntsAre c.vp (c.ps.map fun q => ((q : Nat) : Int)) ∧ c.ps.Nodup ∧ (∀ q ∈ c.ps, q ≤ it x.cps.toList c.k) ∧ it x.cps.toList c.k ∈ c.ps ∧ it x.cps.toList c.k ≤ x.length
theorem far_pack {g h : Heap} {L aP aF : Addr} {x : PySem.Str} {t0 t1 : Tok} {m : PySem.Str → Option Value} (F : Fr g L h m) (N : News g L h [(aF, listOf #[] 0), (aP, listOf #[Value.int 0 t0] 0)]) (h1 : m (PySem.Str.ofString "text") = some (.str x t1)) (h2 : m (PySem.Str.ofString "far") = some (.ref aF)) (h3 : m (PySem.Str.ofString "places") = some (.ref aP)) (l1 : aP < aF) :
    ∃ aF aP m₁ t0, Fr g L h m₁ ∧ m₁ (PySem.Str.ofString "text") = some (.str x t1) ∧ m₁ (PySem.Str.ofString "far") = some (.ref aF) ∧ m₁ (PySem.Str.ofString "places") = some (.ref aP) ∧ News g L h [(aF, listOf ([] : List Value).toArray 0), (aP, listOf [Value.int 0 t0].toArray 0)] ∧ @LT.lt Nat _ aP aF := ⟨aF, aP, m, t0, F, h1, h2, h3, N, l1⟩
theorem map_far {m₁ u : PySem.Str → Option Value} {v v1 v2 : Value} (h1 : m₁ (PySem.Str.ofString "text") = some v1) (h2 : m₁ (PySem.Str.ofString "far") = some v2) :
    ∃ u2 : PySem.Str → Option Value, (kstB (fun z => if fStored.contains z then u z else m₁ z) [(PySem.Str.ofString "places", v)]) = fun z => if z = PySem.Str.ofString "text" then some v1 else if z = PySem.Str.ofString "far" then some v2 else if z = PySem.Str.ofString "places" then some v else u2 z := by
  refine ⟨fun z => if fStored.contains z then u z else m₁ z, ?_⟩
  funext z
  by_cases q : z = PySem.Str.ofString "text"
  · subst q
    rw [if_pos rfl]
    exact h1
  rw [if_neg q]
  by_cases q2 : z = PySem.Str.ofString "far"
  · subst q2
    rw [if_pos rfl]
    exact h2
  rw [if_neg q2]
  rfl
theorem fst {z : PySem.Str} (h : fStored.contains z = false) : z ≠ PySem.Str.ofString "stops" ∧ z ≠ PySem.Str.ofString "begin" ∧ z ≠ PySem.Str.ofString "stop" := by
  simpa only [fStored, List.contains_cons, List.contains_nil, Bool.or_false, Bool.or_eq_false_iff, beq_eq_false_iff_ne, ne_eq] using h
theorem stops_pack {g h : Heap} {L aP aF aS : Addr} {x : PySem.Str} {t1 : Tok} {rest : List (Addr × Obj)} {m : PySem.Str → Option Value} (F : Fr g L h m) (N : News g L h ((aS, listOf #[] 0) :: rest)) (h1 : m (PySem.Str.ofString "stops") = some (.ref aS)) (h2 : m (PySem.Str.ofString "text") = some (.str x t1)) (h3 : m (PySem.Str.ofString "far") = some (.ref aF)) (h4 : m (PySem.Str.ofString "places") = some (.ref aP)) (l1 : @LT.lt Nat _ aF aS ∧ @LT.lt Nat _ aP aS) :
    ∃ aS' m', aS' = aS ∧ m' = m ∧ m' (PySem.Str.ofString "stops") = some (.ref aS') ∧ m' (PySem.Str.ofString "text") = some (.str x t1) ∧ m' (PySem.Str.ofString "far") = some (.ref aF) ∧ m' (PySem.Str.ofString "places") = some (.ref aP) ∧ Fr g L h m' ∧ News g L h ((aS', listOf ([] : List Value).toArray 0) :: rest) ∧ (@LT.lt Nat _ aF aS' ∧ @LT.lt Nat _ aP aS') := ⟨aS, m, rfl, rfl, h1, h2, h3, h4, F, N, l1⟩
theorem ints_at {vs : List Value} {ns : List Nat} (h : IntsAre vs (ns.map fun q => ((q : Nat) : Int))) {i : Nat} {v : Value} (hv : vs[i]? = some v) : ∃ b t, ns[i]? = some b ∧ v = .int ((b : Nat) : Int) t := by
  induction ns generalizing vs i with
  | nil =>
    cases h
    simp at hv
  | cons n ns ih =>
    rw [List.map_cons] at h
    cases h with
    | cons _ t h =>
      cases i with
      | zero => cases hv; exact ⟨n, t, rfl, rfl⟩
      | succ i => exact ih h hv
theorem map_st {m : PySem.Str → Option Value} {v1 v2 : Value} (h1 : m (PySem.Str.ofString "text") = some v1) (h2 : m (PySem.Str.ofString "stops") = some v2) :
    ∃ u2 : PySem.Str → Option Value, m = fun z => if z = PySem.Str.ofString "text" then some v1 else if z = PySem.Str.ofString "stops" then some v2 else u2 z := by
  refine ⟨m, ?_⟩
  funext z
  by_cases q : z = PySem.Str.ofString "text"
  · rw [if_pos q, q, h1]
  by_cases q2 : z = PySem.Str.ofString "stops"
  · rw [if_neg q, if_pos q2, q2, h2]
  rw [if_neg q, if_neg q2]
/-- what stands before a turn of the two loops over the stops -/
def FJ (X : List Nat) (b' : Nat) (aS : Addr) (rest : List (Addr × Obj)) (Mp : (PySem.Str → Option Value) → Prop) (D : List Nat → Prop) (m : PySem.Str → Option Value) (nx : List (Addr × Obj)) : Prop :=
  ∃ vs ss, nx = (aS, listOf vs.toArray ss.length) :: rest ∧ IntsAre vs (ss.map fun q => ((q : Nat) : Int)) ∧ ss.Nodup ∧ (∀ q ∈ ss, q ≤ nxt X b') ∧ D ss ∧ Mp m
abbrev FJ2 (X : List Nat) (b' : Nat) (aS aF : Addr) (k : Nat) (vf : List Value) (ps : List Nat) (mF : PySem.Str → Option Value) (i : Nat) : (PySem.Str → Option Value) → List (Addr × Obj) → Prop :=
  FJ X b' aS [(aF, listOf vf.toArray k)] (fun m => m (PySem.Str.ofString "stops") = some (.ref aS) ∧ ∀ z, fStored.contains z = false → m z = mF z) (fun ss => ∀ j, j < i → ∀ b, ps[j]? = some b → b < X.length → nxt X b ∈ ss)
theorem walks_range1 {prog : Program} {w : World} {A : Around} (hh : A.handled = none) (I : Addr) (a : Int) (n : Nat) :
    Walks prog w A I [I] [I] n (fun i v => i < n ∧ ∃ t, v = .int (a + i) t) (fun i h => IsRangeIter h I (a + (i : Nat)) ((n : Int) - (i : Nat)) 1) where
  sub := fun _ hb => hb
  frame := fun _ _ _ st hk => hk I (by simp) _ st
  item := fun i s Q E hi st hQ => by
    refine wpAny_pyNext_range_item st (by omega) fun h' hit' hs' => ?_
    refine hQ _ h' _ ⟨hi, _, rfl⟩ ?_ fun b o hb e => hs'.extBut b o (fun h => hb (by simp [h])) e
    have e1 : a + ((i + 1 : Nat) : Int) = a + (i : Int) + 1 := by push_cast; rw [Int.add_assoc]
    have e2 : (n : Int) - ((i + 1 : Nat) : Int) = (n : Int) - (i : Int) - 1 := by push_cast; omega
    rw [e1, e2]; exact hit'
  done := fun s Q E st hQ => wpAny_pyNext_range_end hh st (by omega) fun h' he' => hQ h' s.toks fun b o hb e => he' b o (fun h => hb (by simp [h])) e
  self := fun _ _ _ _ st hQ => wpAny_pyIter_rangeiter st hQ
theorem any_mem {ps : List Nat} {n : Nat} : ((ps.map fun q => ((q : Nat) : Int)).any fun y => y == ((n : Nat) : Int)) = true ↔ n ∈ ps := by
  rw [List.any_eq_true]
  constructor
  · rintro ⟨y, hy, e⟩
    obtain ⟨q, hq, rfl⟩ := List.mem_map.mp hy
    rw [beq_iff_eq] at e
    rwa [show n = q by omega]
  · exact fun h => ⟨_, List.mem_map_of_mem h, by rw [beq_iff_eq]⟩
theorem any_not {ps : List Nat} {n : Nat} (h : ((ps.map fun q => ((q : Nat) : Int)).any fun y => y == ((n : Nat) : Int)) = false) : n ∉ ps := fun e => by
  rw [any_mem.mpr e] at h; cases h
theorem in_pack {g h : Heap} {L aS : Addr} {x : PySem.Str} {b : Int} {t1 tb : Tok} {m : PySem.Str → Option Value} (F : Fr g L h m) (h1 : m (PySem.Str.ofString "text") = some (.str x t1)) (h2 : m (PySem.Str.ofString "stops") = some (.ref aS)) (h3 : m (PySem.Str.ofString "begin") = some (.int b tb)) :
    ∃ m4, m4 = m ∧ Fr g L h m4 ∧ m4 (PySem.Str.ofString "text") = some (.str x t1) ∧ m4 (PySem.Str.ofString "stops") = some (.ref aS) ∧ m4 (PySem.Str.ofString "begin") = some (.int b tb) := ⟨m, rfl, F, h1, h2, h3⟩
theorem map_in {m : PySem.Str → Option Value} {v1 v2 v3 : Value} (h1 : m (PySem.Str.ofString "text") = some v1) (h2 : m (PySem.Str.ofString "stops") = some v2) (h3 : m (PySem.Str.ofString "begin") = some v3) :
    ∃ u2 : PySem.Str → Option Value, m = fun z => if z = PySem.Str.ofString "text" then some v1 else if z = PySem.Str.ofString "stops" then some v2 else if z = PySem.Str.ofString "begin" then some v3 else u2 z := by
  refine ⟨m, ?_⟩
  funext z
  by_cases q : z = PySem.Str.ofString "text"
  · rw [if_pos q, q, h1]
  by_cases q2 : z = PySem.Str.ofString "stops"
  · rw [if_neg q, if_pos q2, q2, h2]
  by_cases q3 : z = PySem.Str.ofString "begin"
  · rw [if_neg q, if_neg q2, if_pos q3, q3, h3]
  rw [if_neg q, if_neg q2, if_neg q3]
theorem map_sf {m : PySem.Str → Option Value} {v1 v2 : Value} (h1 : m (PySem.Str.ofString "far") = some v1) (h2 : m (PySem.Str.ofString "stops") = some v2) :
    ∃ u2 : PySem.Str → Option Value, m = fun z => if z = PySem.Str.ofString "far" then some v1 else if z = PySem.Str.ofString "stops" then some v2 else u2 z := by
  refine ⟨m, ?_⟩
  funext z
  by_cases q : z = PySem.Str.ofString "far"
  · rw [if_pos q, q, h1]
  by_cases q2 : z = PySem.Str.ofString "stops"
  · rw [if_neg q, if_pos q2, q2, h2]
  rw [if_neg q, if_neg q2]
abbrev FJ3 (X : List Nat) (b' : Nat) (aS : Addr) (rest : List (Addr × Obj)) (D : List Nat → Prop) (b : Nat) (m4 : PySem.Str → Option Value) (j : Nat) : (PySem.Str → Option Value) → List (Addr × Obj) → Prop :=
  FJ X b' aS rest (fun m => ∀ z, z ≠ PySem.Str.ofString "stop" → m z = m4 z) (fun ss => D ss ∧ ∀ s, b < s → s ≤ b + j → s ≤ nxt X b → s ∈ ss)
abbrev FD (X : List Nat) (i : Nat) (ps : List Nat) (ss : List Nat) : Prop := ∀ j, j < i → ∀ b, ps[j]? = some b → b < X.length → nxt X b ∈ ss
theorem in_ok {x : PySem.Str} {b j : Nat} {r : Bool} (hj : j < x.length - b) (h : (Builtin.Str.occurrences (Txt.slice x none (some ((b : Int) + 1 + (j : Int) - 1))) (Txt.slice x (some (b : Int)) (some ((b : Int) + 1 + (j : Int)))) 0 (Txt.slice x none (some ((b : Int) + 1 + (j : Int) - 1))).length 1).isEmpty = r) : occB x.cps.toList b (j + 1) = !r := by
  have := contains_most x b (j + 1) (by omega) (by omega)
  rw [← this, show (b : Int) + ((j + 1 : Nat) : Int) = (b : Int) + 1 + j by omega]
  unfold Txt.contains
  rw [h]
theorem fj3_skip {X : List Nat} {b' : Nat} {aS : Addr} {rest : List (Addr × Obj)} {i : Nat} {ps : List Nat} {b : Nat} {m4 m : PySem.Str → Option Value} {j : Nat} {vs : List Value} {ss : List Nat} (hvs : IntsAre vs (ss.map fun q => ((q : Nat) : Int))) (hnd : ss.Nodup) (hle : ∀ q ∈ ss, q ≤ nxt X b') (hD : FD X i ps ss) (hE : ∀ s, b < s → s ≤ b + j → s ≤ nxt X b → s ∈ ss)
    (hm : ∀ z, z ≠ PySem.Str.ofString "stop" → m z = m4 z) (h : b + 1 + j ≤ nxt X b → b + 1 + j ∈ ss) : FJ3 X b' aS rest (FD X i ps) b m4 (j + 1) m ((aS, listOf vs.toArray ss.length) :: rest) := by
  refine ⟨vs, ss, rfl, hvs, hnd, hle, ⟨hD, fun s h1 h2 h3 => ?_⟩, hm⟩
  by_cases q : s ≤ b + j
  · exact hE s h1 q h3
  · obtain rfl : s = b + 1 + j := by omega
    exact h h3
theorem fj3_app {X : List Nat} {b' : Nat} {aS : Addr} {rest : List (Addr × Obj)} {i : Nat} {ps : List Nat} {b : Nat} {m4 m : PySem.Str → Option Value} {j : Nat} {vs : List Value} {ss : List Nat} {tj : Tok} (hvs : IntsAre vs (ss.map fun q => ((q : Nat) : Int))) (hnd : ss.Nodup) (hle : ∀ q ∈ ss, q ≤ nxt X b') (hD : FD X i ps ss) (hE : ∀ s, b < s → s ≤ b + j → s ≤ nxt X b → s ∈ ss)
    (hm : ∀ z, z ≠ PySem.Str.ofString "stop" → m z = m4 z) (hn : b + 1 + j ∉ ss) (h1 : b + 1 + j ≤ nxt X b) (h2 : nxt X b ≤ nxt X b') : FJ3 X b' aS rest (FD X i ps) b m4 (j + 1) m ((aS, listOf (vs.toArray.push (.int ((b : Int) + 1 + (j : Int)) tj)) (ss.length + 1)) :: rest) := by
  refine ⟨vs ++ [.int ((b : Int) + 1 + (j : Int)) tj], ss ++ [b + 1 + j], ?_, ?_, ?_, ?_, ⟨?_, ?_⟩, hm⟩
  · rw [List.push_toArray, List.length_append]
    rfl
  · rw [List.map_append]
    show IntsAre _ (_ ++ [((b + 1 + j : Nat) : Int)])
    rw [show ((b + 1 + j : Nat) : Int) = (b : Int) + 1 + (j : Int) by omega]
    exact ksk_snoc hvs
  · rw [List.nodup_append]
    exact ⟨hnd, by simp, fun a ha c hc e => by rw [List.mem_singleton.mp hc] at e; exact hn (e ▸ ha)⟩
  · intro q hq
    rcases List.mem_append.mp hq with hq | hq
    · exact hle q hq
    · rw [List.mem_singleton.mp hq]
      omega
  · exact fun j hj b hb hx => List.mem_append_left _ (hD j hj b hb hx)
  · intro s a1 a2 a3
    by_cases q : s ≤ b + j
    · exact List.mem_append_left _ (hE s a1 q a3)
    · obtain rfl : s = b + 1 + j := by omega
      exact List.mem_append_right _ (.head _)
theorem nx_sub {a b : Addr × Obj} {o rs : List (Addr × Obj)} (h : ∀ q ∈ o, q ∈ rs) : ∀ p ∈ a :: b :: o, p ∈ a :: b :: rs := fun p hp => by
  rcases List.mem_cons.mp hp with rfl | hp
  · exact .head _
  rcases List.mem_cons.mp hp with rfl | hp
  · exact .tail _ (.head _)
  · exact .tail _ (.tail _ (h p hp))
section
variable {prog : Program} {w : World} {p : Program} {loose : List PySem.Str} {mean : ExcName → Option Value} {mg mb : PySem.Str → Option Value}
def FarRet (x : PySem.Str) (h0 : Heap) (r : Value) (h : Heap) : Prop := ∃ aF vf K, r = .ref aF ∧ h0.get? aF = none ∧ h.get? aF = some (listOf vf.toArray K) ∧ IntsAre vf ((List.range K).map fun i => ((it x.cps.toList (i + 1) : Nat) : Int)) ∧ it x.cps.toList K = x.length
theorem far (x : PySem.Str) (t1 : Tok) (hx : x.length ≤ 10) :
    GT prog w p loose mean mg mb 6 (fun _ => True) [] 125 [.str x t1] [] (FarRet x) := by
  k_with_none
  k_with "exec While Compare cons nil" => (refine Halt.go ?_)
  k_with "exec For Name Name cons nil" => ((refine Halt.go ?_))
  k_with "exec For Name Call cons nil" => ((refine Halt.go ?_))
  k_with "pyIter ref" => ((refine Halt.go ?_))
  unfold GT
  intro dp un gd cn cs a ccd cl outer A₀ base h₀ L m s Q E hks B F X N T hk hdp hun hret
  refine wpAny_call ?_
  k_dflt (refine' enterP ?k1 ?k2 ?k3 ?k4 ?k5 ?kA ?kF ?kK ?k6 ?k7 ?k8 ?k9 ?kB ?_ ?c2 ?c3 ?c4 ?c5; (case kA => exact rfl); (case kF => exact rfl); (case kK => assumption); (case k1 => k_asm); (case k2 => k_asm); (case k3 => k_asm); (case k4 => k_asm); (case k5 => k_asm); (case k6 => k_is); (case k7 => k_is); (case k8 => ktr_room); (case k9 => exact BindsTo.of_eq rfl); (case c5 => decide); (case kB => exact locs rfl); (case c2 => exact rfl); (case c3 => exact rfl); (case c4 => exact rfl); k_whole; intro g' L' h' hgq FG' F' N' B' X' T' l1; (try k_lt l1); (try dsimp only); (try k_lift B'); (try k_fold))
  clear F N X T B
  k_steps
  unfold Halt
  (rename Fr _ _ _ _ => F1)
  (rename News _ _ _ _ => N1)
  obtain ⟨aF, aP, m₁, t0, F1, hm1, hm2, hm3, N1, l1⟩ := far_pack F1 N1 rfl rfl rfl (by assumption)
  have hxl := len_list x
  refine' ksw_while (σ := FS) (FLed aF) (fun c => [(PySem.Str.ofString "places", Value.ref c.aP)]) (fun c => c.aP ≠ aF) fStored (FSp x) (fun c => x.length - it x.cps.toList c.k) ⟨0, aP, [.int 0 t0], 0, [], [0]⟩ F1 N1 (Nat.ne_of_lt l1) ?way2 ?way3 ?way4
  case way2 => exact fun q hq => by rw [List.mem_singleton.mp hq]; exact hm3
  case way3 => exact ⟨IntsAre.nil, IntsAre.cons 0 t0 IntsAre.nil, by simp, (fun q hq => by rw [List.mem_singleton.mp hq]; exact Nat.zero_le _), .head _, Nat.zero_le _⟩
  case way4 =>
    rintro ⟨k, aP, vp, np, vf, ps⟩ u h tk hne ⟨hvf, hvp, hnd, hle, hin, hkn⟩ Fw Nw
    dsimp only at hne hvf hvp hnd hle hin hkn Fw Nw
    clear F1 N1
    obtain ⟨u2, hu2⟩ := map_far hm1 hm2 (u := u) (v := Value.ref aP)
    rw [hu2] at Fw
    have hzF : vf.toArray.size ≤ sizeLine := by
      have := hvf.length
      have := it_ge x.cps.toList k
      rw [List.size_toArray, sizeLine_eq]
      simp only [List.length_map, List.length_range] at *
      omega
    change News g' L' h [(aF, listOf vf.toArray k), (aP, listOf vp.toArray np)] at Nw
    k_steps
    · rename ((List.map _ ps).any _) = true => hany
      have hK : it x.cps.toList k = x.length := Nat.le_antisymm hkn (hle _ (any_mem.mp hany))
      refine' leaveE ?k1 ?k2 ?_
      case k1 => k_asm
      case k2 => k_asm
      intro kk nn
      dsimp only
      refine hret _ _ _ (fun b o e => kk b o (hgq ▸ e)) ⟨aF, vf, k, rfl, ?_, (nn _ (.head _)).1, hvf, hK⟩
      have := (nn _ (.head _)).2.2
      rw [hgq] at this
      cases z : s.heap.get? aF with
      | none => rfl
      | some o => rw [hideAll_get _ z (by simp)] at this; cases this
    · unfold Halt
      (rename Fr g' _ _ _ => F2)
      (rename News g' _ _ _ => N2)
      have hlP : Heap.IsList _ aP vp.toArray := ⟨_, (N2 _ (.tail _ (.tail _ (.head _)))).1, rfl, np, rfl⟩
      obtain ⟨aS, m2, _, hs0, hs1, hs2, hs3, hs4, F2, N2, l2⟩ := stops_pack F2 N2 rfl rfl rfl rfl (by assumption)
      k_dflt (refine' For_invVF F2 ?k1 ?k2 ?_; (case k1 => exact rfl); (case k2 => exact rfl); k_whole)
      k_dflt (refine ld F2 hs4 ?_)
      refine' iterV (FJ2 x.cps.toList (it x.cps.toList k) aS aF k vf ps m2) rfl hlP (N2 _ (.tail _ (.tail _ (.head _)))).2.1 F2 (news := (aS, listOf ([] : List Value).toArray 0) :: [(aF, listOf vf.toArray k)]) ?way5 ?way6 ?way7 ?way8 ?way9
      case way5 => exact fun q hq => (List.mem_cons.mp hq).elim (fun e => e ▸ N2 _ (.head _)) fun hq => by rw [List.mem_singleton.mp hq]; exact N2 _ (.tail _ (.head _))
      case way6 => exact ⟨[], [], rfl, IntsAre.nil, List.nodup_nil, (fun _ h => nomatch h), (fun j hj => absurd hj (Nat.not_lt_zero _)), hs1, fun _ _ => rfl⟩
      case way7 =>
        rintro i m nx ⟨vs, ss, rfl, _⟩ q hq _
        rcases List.mem_cons.mp hq with rfl | hq
        · exact (Nat.ne_of_lt l2.2).symm
        · rw [List.mem_singleton.mp hq]
          exact hne.symm
      case way8 =>
        rintro i v m3 nx3 h3 tk3 own3 hv hown ⟨vs, ss, rfl, hvs, hnd3, hle3, hD3, hst3, hmz3⟩ F3 N3
        obtain ⟨b, tb, hb, rfl⟩ := ints_at hvp hv
        clear F2 N2
        obtain ⟨u3, hu3⟩ := map_st (v2 := Value.ref aS) ((hmz3 _ (by decide +kernel)).trans hs2) hst3
        rw [hu3] at F3
        have hbl := hle b (List.mem_of_getElem? hb)
        k_steps
        unfold Halt
        k_dflt (refine' For_invVF F3 ?k1 ?k2 ?_; (case k1 => exact rfl); (case k2 => exact rfl); k_whole)
        k_steps
        unfold Halt
        (rename IsRange _ _ _ _ 1 _ _ _ => hr4)
        (rename Fr g' _ _ _ => F4)
        (rename News g' _ _ _ => N4)
        rename ((List.map _ ps).any _) = false => hany
        have hnin := any_not hany
        have hlt : it x.cps.toList k < x.length := by
          rcases Nat.lt_or_ge (it x.cps.toList k) x.length with h | h
          · exact h
          · exact absurd (show x.length ∈ ps from (Nat.le_antisymm hkn h) ▸ hin) hnin
        have hbx : b < x.length := Nat.lt_of_le_of_lt hbl hlt
        obtain ⟨m4, hm4, F4, hm4t, hm4s, hm4b⟩ := in_pack F4 (x := x) (t1 := t1) (aS := aS) (b := (b : Int)) (tb := tb) rfl rfl rfl
        have hN4 : News g' L' _ ((aS, listOf vs.toArray ss.length) :: (aF, listOf vf.toArray k) :: own3) := N4
        refine' iterR (n := x.length - b) (fp := []) (FJ3 x.cps.toList (it x.cps.toList k) aS ((aF, listOf vf.toArray k) :: own3) (fun ss => ∀ j, j < i → ∀ b, ps[j]? = some b → b < x.cps.toList.length → nxt x.cps.toList b ∈ ss) b m4) hr4 ?way11 ?way12 (walks_range1 rfl _ _ _) ?way13 ?way14 ?way15 F4 hN4 ?way17 ?way18 ?way19 ?way20
        case way11 => exact small_one (by omega) (by omega) (by omega) (by omega)
        case way12 =>
          rw [rangeSize_one]
          split <;> omega
        case way13 =>
          rw [show ((b : Nat) : Int) + 1 + ((0 : Nat) : Int) = (b : Nat) + 1 by simp, show ((x.length - b : Nat) : Int) - ((0 : Nat) : Int) = (x.length - b : Nat) by simp]
          exact Heap.get?_push_size _ rfl
        case way14 => exact fun j h st => ⟨_, st⟩
        case way15 => exact fun h => nomatch h
        case way17 => exact ⟨vs, ss, rfl, hvs, hnd3, hle3, ⟨hD3, fun s h1 h2 => absurd h1 (by omega)⟩, fun _ _ => rfl⟩
        case way18 => exact fun _ _ _ _ _ _ _ h => nomatch h
        case way19 =>
          rintro j tj m5 nx5 h5 tk5 own5 hj hown5 hkp5 st5 ⟨vs5, ss5, rfl, hvs5, hnd5, hle5, ⟨hD5, hE5⟩, hm5⟩ F5 N5
          clear F4 N4 hr4 hN4
          obtain ⟨u5, hu5⟩ := map_in ((hm5 _ (by decide +kernel)).trans hm4t) ((hm5 _ (by decide +kernel)).trans hm4s) ((hm5 _ (by decide +kernel)).trans hm4b)
          rw [hu5] at F5
          change News g' L' h5 ((aS, listOf vs5.toArray ss5.length) :: (aF, listOf vf.toArray k) :: (own3 ++ own5)) at N5
          obtain ⟨rs, hr3, hr5, hrS, N5⟩ : ∃ rs, (∀ q ∈ own3, q ∈ rs) ∧ (∀ q ∈ own5, q ∈ rs) ∧ (∀ q ∈ rs, q.1 ≠ aS) ∧ News g' L' h5 ((aS, listOf vs5.toArray ss5.length) :: (aF, listOf vf.toArray k) :: rs) := by
            refine ⟨_, (fun q hq => List.mem_append_left _ hq), (fun q hq => List.mem_append_right _ hq), fun q hq => ?_, N5⟩
            rcases List.mem_append.mp hq with hq | hq
            · exact hown q hq _ (.head _)
            · exact hown5 q hq _ (.head _)
          change Fr g' L' _ _ at F5
          have hoS : ∀ q ∈ (aF, listOf vf.toArray k) :: rs, q.1 ≠ aS := by
            intro q hq
            rcases List.mem_cons.mp hq with rfl | hq
            · exact Nat.ne_of_lt l2.1
            · exact hrS q hq
          have hlS : Heap.IsList _ aS vs5.toArray := ⟨_, (N5 _ (.head _)).1, rfl, _, rfl⟩
          have hz5 : vs5.toArray.size ≤ sizeLine := by
            have e1 := hvs5.length
            rw [List.length_map] at e1
            have e2 := nxt_le (X := x.cps.toList) (b := it x.cps.toList k) (by omega)
            have e3 := len_nodup (n := x.length + 1) hnd5 (fun q hq => by have := hle5 q hq; omega)
            rw [List.size_toArray, sizeLine_eq]
            omega
          have hcast : ((b : Nat) : Int) + 1 + ((j : Nat) : Int) = ((b + 1 + j : Nat) : Int) := by omega
          have hnm := nxt_mono (X := x.cps.toList) hbl (by omega)
          have hmap : ∀ v z, z ≠ PySem.Str.ofString "stop" → (if z = PySem.Str.ofString "stop" then some v else (fun z => if z = PySem.Str.ofString "text" then some (Value.str x t1) else if z = PySem.Str.ofString "stops" then some (Value.ref aS) else if z = PySem.Str.ofString "begin" then some (Value.int ((b : Nat) : Int) tb) else u5 z) z) = m4 z := fun v z hz => by
            rw [if_neg hz]
            exact (congrFun hu5 z).symm.trans (hm5 z hz)
          k_steps
          · rename ((List.map _ ss5).any _) = true => hin5
            rw [hcast] at hin5
            refine' InvEndG.intro ?k1 ?k2 (fj3_skip hvs5 hnd5 hle5 hD5 hE5 (hmap _) fun _ => any_mem.mp hin5) hown5 (nx_sub hr3) fun q hq => .tail _ (.tail _ (hr5 q hq))
            case k1 => k_asm
            case k2 => k_asm
          · rename ((List.map _ ss5).any _) = false => hin5
            rename (_ : Int) = _ + 1 => hj1
            rw [hcast] at hin5
            refine' InvEndG.intro ?k1 ?k2 (fj3_app hvs5 hnd5 hle5 hD5 hE5 (hmap _) (any_not hin5) (by have := nxt_gt x.cps.toList b; omega) hnm) hown5 (nx_sub hr3) fun q hq => .tail _ (.tail _ (hr5 q hq))
            case k1 => k_asm
            case k2 => k_asm
          · rename (Builtin.Str.occurrences _ _ _ _ _).isEmpty = true => hoc
            rename (_ : Int) ≠ _ + 1 => hj1
            have hoc := in_ok hj hoc
            refine' InvEndG.intro ?k1 ?k2 (fj3_skip hvs5 hnd5 hle5 hD5 hE5 (hmap _) fun hs => ?_) hown5 (nx_sub hr3) fun q hq => .tail _ (.tail _ (hr5 q hq))
            case k1 => k_asm
            case k2 => k_asm
            have h9 := (okStop_iff (X := x.cps.toList) (b := b) (s := b + 1 + j) (by omega) (by omega)).mpr hs
            unfold okStop at h9
            rw [show b + 1 + j - b = j + 1 by omega, hoc, Bool.or_eq_true, beq_iff_eq] at h9
            rcases h9 with h9 | h9
            · omega
            · cases h9
          · rename (Builtin.Str.occurrences _ _ _ _ _).isEmpty = false => hoc
            rename ((List.map _ ss5).any _) = false => hin5
            rw [hcast] at hin5
            have hoc := in_ok hj hoc
            have h9 : b + 1 + j ≤ nxt x.cps.toList b := (okStop_iff (X := x.cps.toList) (b := b) (s := b + 1 + j) (by omega) (by omega)).mp (by
              unfold okStop
              rw [show b + 1 + j - b = j + 1 by omega, hoc]
              exact Bool.or_true _)
            refine' InvEndG.intro ?k1 ?k2 (fj3_app hvs5 hnd5 hle5 hD5 hE5 (hmap _) (any_not hin5) h9 hnm) hown5 (nx_sub hr3) fun q hq => .tail _ (.tail _ (hr5 q hq))
            case k1 => k_asm
            case k2 => k_asm
        case way20 =>
          rintro m5 nx5 h5 tk5 ⟨vs5, ss5, rfl, hvs5, hnd5, hle5, ⟨hD5, hE5⟩, hm5⟩ F5 N5
          clear F4 N4 hr4 hN4
          k_steps
          refine' InvEndG.intro (nx := [(aS, listOf vs5.toArray ss5.length), (aF, listOf vf.toArray k)]) ?k1 ?k2 ⟨vs5, ss5, rfl, hvs5, hnd5, hle5, ?way61, ?way62, ?way63⟩ hown (fun q hq => ?way64) fun q hq => ?way65
          case k1 => exact F5
          case k2 => exact N5
          case way64 =>
            rcases List.mem_cons.mp hq with rfl | hq
            · exact .head _
            · rw [List.mem_singleton.mp hq]
              exact .tail _ (.head _)
          case way65 => exact .tail _ (.tail _ hq)
          case way62 => exact (hm5 _ (by decide +kernel)).trans hm4s
          case way61 =>
            intro j hj b1 hb1 hx1
            by_cases q : j < i
            · exact hD5 j q b1 hb1 hx1
            · obtain rfl : j = i := by omega
              rw [hb] at hb1
              cases hb1
              have := nxt_le hx1
              exact hE5 _ (nxt_gt _ _) (by omega) (Nat.le_refl _)
          case way63 =>
            intro z hz
            obtain ⟨z1, z2, z3⟩ := fst hz
            rw [hm5 z z3, hm4]
            show (if z = _ then _ else _) = _
            rw [if_neg z2]
            exact (congrFun hu3 z).symm.trans (hmz3 z hz)
      case way9 =>
        rintro m3 nx3 h3 tk3 ⟨vs, ss, rfl, hvs, hnd3, hle3, hD3, hst3, hmz3⟩ F3 N3
        clear F2 N2
        rename ((List.map _ ps).any _) = false => hany
        have hnin := any_not hany
        have hlt : it x.cps.toList k < x.length := by
          rcases Nat.lt_or_ge (it x.cps.toList k) x.length with h | h
          · exact h
          · exact absurd (show x.length ∈ ps from (Nat.le_antisymm hkn h) ▸ hin) hnin
        obtain ⟨j, hj⟩ := List.getElem?_of_mem hin
        have hlen := hvp.length
        rw [List.length_map] at hlen
        have hjl := (List.getElem?_eq_some_iff.mp hj).1
        have hmem := hD3 j (by omega) _ hj (by omega)
        have hpos : 0 < ss.length := List.length_pos_of_mem hmem
        obtain ⟨u3, hu3⟩ := map_sf ((hmz3 _ (by decide +kernel)).trans hs3) hst3
        rw [hu3] at F3
        have hlS : Heap.IsList _ aS vs.toArray := ⟨_, (N3 _ (.head _)).1, rfl, _, rfl⟩
        k_steps
        rename (_ : Int) ∈ List.map _ ss => hM1
        rename ∀ a : Int, a ∈ List.map _ ss → a ≤ _ => hM2
        obtain ⟨q, hq, rfl⟩ := List.mem_map.mp hM1
        have hM2 := hM2 _ (List.mem_map_of_mem hmem)
        have hM3 := hle3 q hq
        have hqe : q = it x.cps.toList (k + 1) := by
          show q = nxt _ _
          omega
        subst hqe
        have hnl := nxt_le (X := x.cps.toList) (b := it x.cps.toList k) (by omega)
        have hng := nxt_gt x.cps.toList (it x.cps.toList k)
        (rename Fr g' L' _ _ => F9)
        (rename News g' L' _ _ => N9)
        obtain ⟨tM, N9⟩ : ∃ t, News g' L' _ [(aS, listOf vs.toArray ss.length), (aF, listOf (vf.toArray.push (.int ((it x.cps.toList (k + 1) : Nat) : Int) t)) (k + 1))] := ⟨_, N9⟩
        refine' ksw_end (c' := ⟨k + 1, aS, vs, ss.length, vf ++ [.int ((it x.cps.toList (k + 1) : Nat) : Int) tM], ss⟩) F9 N9 ?way71 ?way72 ?way73 ?way74 ⟨?way75, hvs, hnd3, hle3, hmem, by show nxt _ _ ≤ _; omega⟩ ?way77
        case way71 =>
          intro q hq
          rw [List.push_toArray]
          rcases List.mem_cons.mp hq with rfl | hq
          · exact .tail _ (.head _)
          · rw [List.mem_singleton.mp hq]
            exact .head _
        case way72 => exact (Nat.ne_of_lt l2.1).symm
        case way73 => exact fun q hq => by rw [List.mem_singleton.mp hq]; rfl
        case way74 =>
          intro z hz hst
          have hz1 : z ≠ PySem.Str.ofString "places" := hz _ (.head _)
          show (if z = _ then _ else _) = _
          rw [if_neg hz1]
          refine (congrFun hu3 z).symm.trans ((hmz3 z hst).trans ?_)
          rw [hs0]
          show (if z = _ then _ else _) = _
          rw [if_neg (fst hst).1]
          refine (congrFun hu2 z).symm.trans ?_
          simp only [kstB, if_neg hz1, hst, Bool.false_eq_true, if_false]
        case way75 =>
          rw [List.range_succ, List.map_append]
          exact ksk_snoc hvf
        case way77 =>
          show x.length - nxt x.cps.toList (it x.cps.toList k) < x.length - it x.cps.toList k
          omega
end
end Mine
end

section
open PySem PySem.W PySem.Calls PyProof.Rows
namespace Mine
theorem backLawP : True := by
  k_with_none
  w_top off
  exact trivial
def LawQ (g : Heap) (L : Addr) (s : Shared) (f : Flow) (s' : Shared) : Prop := f = .ret (.bool true) ∧ ∃ h' tk' m' news' ps qs, s' = { s with heap := h', toks := tk' } ∧ Fr g L h' m' ∧ News g L h' news' ∧ (99, tabObj ps) ∈ news' ∧ (92, tabObj qs) ∈ news'
theorem law_q {M : Model} {A : Around} {t : Sem Flow} {Q : Flow → Shared → Prop} {E : Value → Shared → Prop} {s : Shared} {g : Heap} {L : Addr} {m : PySem.Str → Option Value} {env : Env} (F : Fr g L s.heap m) (hE : PassesOwn M A env E) (hq : ∀ v s', LawQ g L s v s' → Q v s') (h : ∀ E : Value → Shared → Prop, PassesOwn M A env E → wpAny M A t (LawQ g L s) E s) : wpAny M A t Q E s :=
  wpAny_mono (h E hE) hq fun _ _ e => e
section
variable {M : Model} {A : Around} {E : Value → Shared → Prop} {s : Shared} {h₀ : Heap} {L : Addr} {m : PySem.Str → Option Value} {news : List (Addr × Obj)}
theorem newInts7 {a b c d e f g : Int} {ta tb tc td te tf tg : Tok} {Q : Value → Shared → Prop} (F : Fr h₀ L s.heap m) (N : News h₀ L s.heap news)
    (h : ∀ l vl h', Fr h₀ L h' m → News h₀ L h' ((l, listOf (List.toArray vl) 0) :: news) → (∀ p ∈ news, p.1 < l) → IntsAre vl [a, b, c, d, e, f, g] → Q (.ref l) { s with heap := h' }) :
    wpAny M A (newList [.int a ta, .int b tb, .int c tc, .int d td, .int e te, .int f tf, .int g tg]) Q E s :=
  newList_K F N (fun l h' F' N' l1 => h l _ h' F' N' l1 (.cons _ _ (.cons _ _ (.cons _ _ (.cons _ _ (.cons _ _ (.cons _ _ (.cons _ _ .nil)))))))) (Nat.le_of_ble_eq_true rfl)
theorem newInts1 {a : Int} {ta : Tok} {Q : Value → Shared → Prop} (F : Fr h₀ L s.heap m) (N : News h₀ L s.heap news)
    (h : ∀ l vl h', Fr h₀ L h' m → News h₀ L h' ((l, listOf (List.toArray vl) 0) :: news) → (∀ p ∈ news, p.1 < l) → IntsAre vl [a] → Q (.ref l) { s with heap := h' }) :
    wpAny M A (newList [.int a ta]) Q E s :=
  newList_K F N (fun l h' F' N' l1 => h l _ h' F' N' l1 (.cons _ _ .nil)) (Nat.le_of_ble_eq_true rfl)
theorem draws_ok {w : List Int} {ys : List Value} (h : IntsAre ys (List.map (fun a => a.fmod 12) (List.filter (fun _ => true) (List.take 10 w ++ List.drop (((List.take 10 w).length : Nat) : Int).toNat [0, 2, 0, 2, 0, 0, 1])))) : ∃ ds, IntsAre ys ds ∧ 7 ≤ ds.length ∧ ds.length ≤ 10 ∧ ∀ d ∈ ds, 0 ≤ d ∧ d < 12 := by
  refine ⟨_, h, ?_, ?_, ?_⟩
  · rw [List.filter_eq_self.mpr fun _ _ => rfl, List.length_map, List.length_append, List.length_drop, List.length_take, Int.toNat_natCast]
    simp only [List.length_cons, List.length_nil]
    omega
  · rw [List.filter_eq_self.mpr fun _ _ => rfl, List.length_map, List.length_append, List.length_drop, List.length_take, Int.toNat_natCast]
    simp only [List.length_cons, List.length_nil]
    omega
  · intro d hd
    obtain ⟨a, _, rfl⟩ := List.mem_map.mp hd
    exact ⟨fmod_lo a (by decide), fmod_hi a (by decide)⟩
theorem law_pack1 {g h : Heap} {L D : Addr} {ys : List Value} {n : Nat} {ds : List Int} {a1 a2 a3 a4 : Addr × Obj} {m : PySem.Str → Option Value} (F : Fr g L h m) (N : News g L h [(D, { cls := .type "list", data := .seq ys.toArray n }), a1, a2, a3, a4, (99, tabObj #[]), (92, tabObj #[])]) (hi : IntsAre ys ds) (hm : m (PySem.Str.ofString "draws") = some (.ref D)) :
    ∃ (D : Addr) (ys : List Value) (n : Nat) (u : PySem.Str → Option Value), Fr g L h (fun z => if z = PySem.Str.ofString "draws" then some (.ref D) else u z) ∧ News g L h [(D, listOf (List.toArray ys) n), (99, tabObj #[]), (92, tabObj #[])] ∧ IntsAre ys ds := by
  refine ⟨D, ys, n, m, ?_, ?_, hi⟩
  · have e : (fun z => if z = PySem.Str.ofString "draws" then some (Value.ref D) else m z) = m := by
      funext z
      by_cases q : z = PySem.Str.ofString "draws"
      · rw [if_pos q, q, hm]
      · rw [if_neg q]
    rw [e]
    exact F
  · intro q hq
    rcases List.mem_cons.mp hq with rfl | hq
    · exact N _ (.head _)
    · exact N _ (.tail _ (.tail _ (.tail _ (.tail _ (.tail _ hq)))))
end
theorem alph_join {l : List PySem.Str} (h : ∀ y ∈ l, Alph y.cps.toList) : Alph (Txt.join (PySem.Str.ofString "") l).cps.toList := by
  show Alph (Builtin.Str.glued (PySem.Str.ofString "") l).cps.toList
  rw [StrLaws.glued_eq_join]
  induction l with
  | nil => intro c hc; simp [PySem.Str.join, PySem.Str.empty] at hc
  | cons y l ih =>
    have ih := ih fun z hz => h z (.tail _ hz)
    have hy := h y (.head _)
    cases l with
    | nil => exact hy
    | cons z l =>
      intro c hc
      have e : (PySem.Str.join (PySem.Str.ofString "") (y :: z :: l)).cps.toList = y.cps.toList ++ (PySem.Str.ofString "").cps.toList ++ (PySem.Str.join (PySem.Str.ofString "") (z :: l)).cps.toList := by
        show (y ++ PySem.Str.ofString "" ++ PySem.Str.join (PySem.Str.ofString "") (z :: l)).cps.toList = _
        show ((y.cps ++ (PySem.Str.ofString "").cps) ++ (PySem.Str.join (PySem.Str.ofString "") (z :: l)).cps).toList = _
        rw [Array.toList_append, Array.toList_append]
      rw [e, List.mem_append, List.mem_append] at hc
      rcases hc with (hc | hc) | hc
      · exact hy c hc
      · rw [show (PySem.Str.ofString "").cps.toList = [] by decide +kernel] at hc
        cases hc
      · exact ih c hc
theorem fmod_cases3 (k : Int) : k.fmod 3 = ((0 : Nat) : Int) ∨ k.fmod 3 = ((1 : Nat) : Int) ∨ k.fmod 3 = ((2 : Nat) : Int) := by
  have h1 := fmod_lo k (n := 3) (by decide)
  have h2 := fmod_hi k (n := 3) (by decide)
  omega
theorem fmod_cases4 (k : Int) : k.fmod 4 = ((0 : Nat) : Int) ∨ k.fmod 4 = ((1 : Nat) : Int) ∨ k.fmod 4 = ((2 : Nat) : Int) ∨ k.fmod 4 = ((3 : Nat) : Int) := by
  have h1 := fmod_lo k (n := 4) (by decide)
  have h2 := fmod_hi k (n := 4) (by decide)
  omega
theorem sign_ok (k : Int) : Alph (Txt.item (PySem.Str.ofString "ab\"") (k.fmod 3)).cps.toList ∧ (Txt.item (PySem.Str.ofString "ab\"") (k.fmod 3)).length = 1 := by
  rcases fmod_cases3 k with e | e | e <;> rw [e, item_at _ _ (by decide +kernel)] <;> refine ⟨fun c hc => ?_, rfl⟩ <;> rw [List.mem_singleton.mp hc] <;> decide +kernel
theorem text_ok (ds : List Int) : Alph (Txt.join (PySem.Str.ofString "") (ds.map fun k => Txt.item (PySem.Str.ofString "ab\"") (k.fmod 3))).cps.toList := by
  refine alph_join fun y hy => ?_
  obtain ⟨k, _, rfl⟩ := List.mem_map.mp hy
  exact (sign_ok k).1
theorem mark_ok (k : Int) : ∃ c, MarkOk c ∧ Txt.item (PySem.Str.ofString "|!a\"") (k.fmod 4) = mkS c := by
  rcases fmod_cases4 k with e | e | e | e <;> rw [e, item_at _ _ (by decide +kernel)]
  · exact ⟨124, by decide, by decide +kernel⟩
  · exact ⟨33, by decide, by decide +kernel⟩
  · exact ⟨97, by decide, by decide +kernel⟩
  · exact ⟨34, by decide, by decide +kernel⟩
theorem talk_led {g h h' : Heap} {L : Addr} {m m' : PySem.Str → Option Value} {x mk : PySem.Str} {r : Value} (F : Fr g L h m) (F' : Fr g L h' m') (h99 : 99 ≠ L ∧ g.get? 99 = none) (h92 : 92 ≠ L ∧ g.get? 92 = none) (R : TalkRet x mk h r h') :
    ∃ (at' a1 a2 : Addr) (v1 v2 : List Value) (n1 n2 k : Nat) (psM psF : Array Value), r = .ref at' ∧ News g L h' [(at', { cls := .type "tuple", data := .seq [.ref a1, .ref a2].toArray }), (a1, listOf v1.toArray n1), (a2, listOf v2.toArray n2), (99, tabObj psF), (92, tabObj psM)] ∧ @LT.lt Nat _ a1 a2 ∧ @LT.lt Nat _ a2 at' ∧ it x.cps.toList k = x.length ∧ k ≤ x.length ∧
      StrsAre v1 ((List.range k).map fun i => rep x mk (it x.cps.toList i)) ∧ IntsAre v2 ((List.range k).map fun i => ((it x.cps.toList (i + 1) : Nat) : Int)) := by
  obtain ⟨at', a1, a2, v1, v2, n1, n2, k, psM, psF, e, q1, q2, q3, f1, f2, f3, l1, l2, hk, hk2, s1, s2, t1, t2⟩ := R
  have ne : ∀ {a : Addr}, h.get? a = none → a ≠ L := fun {a} hf e => by
    obtain ⟨oL, es, ep, e1, _⟩ := F.ns
    rw [← e, hf] at e1; cases e1
  refine ⟨at', a1, a2, v1, v2, n1, n2, k, psM, psF, e, fun q hq => ?_, l1, l2, hk, hk2, s1, s2⟩
  rcases List.mem_cons.mp hq with rfl | hq
  · exact ⟨q1, ne f1, fresh_fr F f1⟩
  rcases List.mem_cons.mp hq with rfl | hq
  · exact ⟨q2, ne f2, fresh_fr F f2⟩
  rcases List.mem_cons.mp hq with rfl | hq
  · exact ⟨q3, ne f3, fresh_fr F f3⟩
  rcases List.mem_cons.mp hq with rfl | hq
  · exact ⟨t2, h99⟩
  rcases List.mem_cons.mp hq with rfl | hq
  · exact ⟨t1, h92⟩
  · exact nomatch hq
theorem read_led {g h : Heap} {L : Addr} {a b n1 n2 n3 n4 n5 : Addr × Obj} {rs : List (Addr × Obj)} (N : News g L h (a :: b :: rs)) (hnr : ∀ q ∈ [n1, n2, n3, n4, n5], q ∈ rs) : News g L h (a :: b :: n3 :: n4 :: n5 :: rs) := by
  intro q hq
  rcases List.mem_cons.mp hq with rfl | hq
  · exact N _ (.head _)
  rcases List.mem_cons.mp hq with rfl | hq
  · exact N _ (.tail _ (.head _))
  rcases List.mem_cons.mp hq with rfl | hq
  · exact N _ (.tail _ (.tail _ (hnr _ (.tail _ (.tail _ (.head _))))))
  rcases List.mem_cons.mp hq with rfl | hq
  · exact N _ (.tail _ (.tail _ (hnr _ (.tail _ (.tail _ (.tail _ (.head _)))))))
  rcases List.mem_cons.mp hq with rfl | hq
  · exact N _ (.tail _ (.tail _ (hnr _ (.tail _ (.tail _ (.tail _ (.tail _ (.head _))))))))
  · exact N _ (.tail _ (.tail _ hq))
end Mine
end

section
open PySem PySem.W PySem.Calls PyProof.Rows
namespace Mine
theorem backLawZ : True := by
  k_with_none
  w_top off
  exact trivial
theorem AllObj.of : ∀ {ws : List (Addr × String)} {k : List (Addr × Obj) → Prop}, (∀ its, Objs ws its → k its) → AllObj ws k
  | [], _, h => h [] trivial
  | w :: _, _, h => fun o hc => AllObj.of fun its hi => h ((w.1, o) :: its) ⟨⟨rfl, hc⟩, hi⟩
section
variable {prog : Program} {w : World} {A : Around} {E : Value → Shared → Prop} {s : Shared} {env : Env} {h₀ : Heap} {target : Expr} {body : List Stmt} {Q : Flow → Shared → Prop}
theorem rest_inv {ws : List (Addr × String)} {keep : List (Addr × Obj)} {xs : List Itm} (J : Nat → (PySem.Str → Option Value) → List (Addr × Obj) → Prop)
    (turn : ∀ i a m news v h tk its, xs[i]? = some a → a.Is v h → J i m news → Objs ws its → Fr h₀ env.locals h m → News h₀ env.locals h (its ++ news) →
      wpAny (model prog w) A (assign target env v) (fun _ s₂ => wpAny (model prog w) A (execs body env) (UnrPostW h₀ env.locals { s with heap := h, toks := tk } its (fun m' n' => SubL keep n' ∧ J (i + 1) m' n') Q) E s₂) E { s with heap := h, toks := tk })
    (done : ∀ m news h tk, J xs.length m news → Fr h₀ env.locals h m → News h₀ env.locals h news → Q .next { s with heap := h, toks := tk }) :
    ∀ m news, J 0 m news → ItemsRest prog w A E h₀ env target body Q s ws keep xs m news := by
  have key : ∀ k i, i + k = xs.length → ∀ m news, J i m news → ItemsRest prog w A E h₀ env target body Q s ws keep (xs.drop i) m news := by
    intro k
    induction k with
    | zero =>
      intro i hi m news hj
      rw [List.drop_eq_nil_of_le (by omega)]
      have e : i = xs.length := by omega
      subst e
      exact fun h tk F N => done m news h tk hj F N
    | succ k ih =>
      intro i hi m news hj
      have hlt : i < xs.length := by omega
      rw [List.drop_eq_getElem_cons hlt]
      intro v h tk hv F
      refine AllObj.of fun its hi' N => ?_
      refine wpAny_mono (turn i _ m news v h tk its (List.getElem?_eq_getElem hlt) hv hj hi' F N) (fun _ s₂ h₂ => wpAny_mono h₂ (fun f s₃ p => ?_) fun _ _ e => e) fun _ _ e => e
      have fin : UnrEndW h₀ env.locals { s with heap := h, toks := tk } its (fun m' n' => SubL keep n' ∧ J (i + 1) m' n') s₃ → UnrEndW h₀ env.locals { s with heap := h, toks := tk } its (fun m' n' => SubL keep n' ∧ ItemsRest prog w A E h₀ env target body Q s ws keep (xs.drop (i + 1)) m' n') s₃ := by
        rintro ⟨h', tk', m', n', e, F', N', o, hk, r⟩
        exact ⟨h', tk', m', n', e, F', N', o, hk, ih (i + 1) (by omega) m' n' r⟩
      cases f with
      | ret v => exact p
      | brk => exact p
      | next => exact fin p
      | cont => exact fin p
  intro m news hj
  have := key xs.length 0 (by omega) m news hj
  rwa [List.drop_zero] at this
theorem zipItems_at {xs ys : List Value} {i : Nat} {a : Itm} (h : (zipItems xs ys)[i]? = some a) : ∃ x y, xs[i]? = some x ∧ ys[i]? = some y ∧ a = .pair (fun _ => x) y := by
  have hlt : i < (zipItems xs ys).length := (List.getElem?_eq_some_iff.mp h).1
  rw [zipItems_length] at hlt
  have h1 : xs[i]? = some xs[i] := List.getElem?_eq_getElem (by omega)
  have h2 : ys[i]? = some ys[i] := List.getElem?_eq_getElem (by omega)
  refine ⟨_, _, h1, h2, ?_⟩
  have := zipItems_get xs ys i h1 h2
  rw [this] at h
  exact (Option.some.inj h).symm
abbrev WS (I : Nat) : List Addr := [(I + 4 : Nat), (I + 2 : Nat), (I + 3 : Nat), I, (I + 1 : Nat)]
theorem lt_ws {a : Addr} {I : Nat} (h : @LT.lt Nat _ a I) : a ∉ WS I := by
  intro hm
  have l1 : ∀ k : Nat, a ≠ (I + k : Nat) := fun k => Nat.ne_of_lt (Nat.lt_of_lt_of_le h (Nat.le_add_right I k))
  simp only [WS, List.mem_cons, List.not_mem_nil, or_false] at hm
  rcases hm with e | e | e | e | e
  · exact l1 4 e
  · exact l1 2 e
  · exact l1 3 e
  · exact l1 0 e
  · exact l1 1 e
theorem gt_ws {a : Addr} {ws : List Addr} {its : List (Addr × Obj)} (hi : its.map (·.1) = ws) (h : ∀ q ∈ its, @LT.lt Nat _ q.1 a) : a ∉ ws := by
  intro hm
  rw [← hi] at hm
  obtain ⟨q, hq, e⟩ := List.mem_map.mp hm
  exact Nat.lt_irrefl _ (e ▸ h q hq)
/-- a loop over the pairs of two lists of the ledger -/
theorem zip_inv {elts : List Expr} {k : Nat} {pos : Pos} {l1 l2 : Addr} {lo1 lo2 : Obj} {xs ys : List Value} {n1 n2 : Nat} {m₀ : PySem.Str → Option Value} {news : List (Addr × Obj)} (J : Addr → Nat → (PySem.Str → Option Value) → List (Addr × Obj) → Prop)
    (hh : A.handled = none) (F : Fr h₀ env.locals s.heap m₀) (N : News h₀ env.locals s.heap news) (hm1 : (l1, lo1) ∈ news) (hc1 : lo1.cls = .type "list") (hd1 : lo1.data = .seq xs.toArray n1) (hm2 : (l2, lo2) ∈ news) (hc2 : lo2.cls = .type "list") (hd2 : lo2.data = .seq ys.toArray n2)
    (hlen : ys.length ≤ xs.length) (hj : ∀ I : Addr, (∀ p ∈ news, @LT.lt Nat _ p.1 I) → J I 0 m₀ news)
    (turn : ∀ I : Addr, (∀ p ∈ news, @LT.lt Nat _ p.1 I) → ∀ i x y m₁ news₁ T h tk its, xs[i]? = some x → ys[i]? = some y → IsTup h T #[x, y] → J I i m₁ news₁ → its.map (·.1) = WS I → Fr h₀ env.locals h m₁ → News h₀ env.locals h (its ++ news₁) →
      wpAny (model prog w) A (assign (.Tuple elts k pos) env (.ref T)) (fun _ s₂ => wpAny (model prog w) A (execs body env) (UnrPostW h₀ env.locals { s with heap := h, toks := tk } its (fun m' n' => SubL [(l1, lo1), (l2, lo2)] n' ∧ J I (i + 1) m' n') Q) E s₂) E { s with heap := h, toks := tk })
    (done : ∀ I m₁ news₁ h tk, J I ys.length m₁ news₁ → Fr h₀ env.locals h m₁ → News h₀ env.locals h news₁ → Q .next { s with heap := h, toks := tk }) :
    wpAny (model prog w) A (call (.type "zip") [.ref l1, .ref l2]) (fun xv s₁ => wpAny (model prog w) A (pyIter xv) (fun it s₂ => TurnsAt prog w A h₀ env (.Tuple elts k pos) body Q E it s₂) E s₁) E s := by
  refine ktu_zip hh F N hm1 hc1 hd1 hm2 hc2 hd2 fun I hI => ?_
  refine rest_inv (J I) (fun i a m n v h tk its ha hv hj' hi' F' N' => ?_) (fun m n h tk hj' F' N' => ?_) m₀ news (hj I hI)
  · obtain ⟨x, y, hx, hy, rfl⟩ := zipItems_at ha
    obtain ⟨T, t, rfl, hT⟩ := hv
    exact turn I hI i x y m n T h tk its hx hy hT hj' hi'.map F' N'
  · refine done I m n h tk ?_ F' N'
    rw [zipItems_length, Nat.min_eq_right hlen] at hj'
    exact hj'
end
abbrev dStored : List PySem.Str := [PySem.Str.ofString "begin", PySem.Str.ofString "end", PySem.Str.ofString "place"]
theorem dst {z : PySem.Str} (h : dStored.contains z = false) : z ≠ PySem.Str.ofString "begin" ∧ z ≠ PySem.Str.ofString "end" ∧ z ≠ PySem.Str.ofString "place" := by
  simpa only [dStored, List.contains_cons, List.contains_nil, Bool.or_false, Bool.or_eq_false_iff, beq_eq_false_iff_ne, ne_eq] using h
/-- what stands before turn i of the loop over the replies' ends -/
def DJ (X : List Nat) (aD : Addr) (base : List (Addr × Obj)) (mF : PySem.Str → Option Value) (I : Addr) (i : Nat) (m : PySem.Str → Option Value) (nx : List (Addr × Obj)) : Prop :=
  ∃ vd rd, nx = (aD, listOf (List.toArray vd) i) :: rd ∧ (∀ q ∈ base, q ∈ rd) ∧ (∀ q ∈ rd, q.1 ≠ aD) ∧ (∀ q ∈ rd, q.1 ∉ WS I) ∧ Told X rd vd i ∧ ∀ z, dStored.contains z = false → m z = mF z
theorem zip_pack {x y : PySem.Str} {t1 ty : Tok} {g h : Heap} {L u z aD at8 aT a2 : Addr} {us vz vt v2 : List Value} {K n2 : Nat} {o8 : Obj} {psF psM : Array Value} {rs : List (Addr × Obj)} {m : PySem.Str → Option Value} (F : Fr g L h m)
    (N : News g L h ((u, listOf us.toArray 0) :: (z, listOf vz.toArray 0) :: (aD, listOf #[] 0) :: (at8, o8) :: (aT, listOf vt.toArray K) :: (a2, listOf v2.toArray n2) :: (99, tabObj psF) :: (92, tabObj psM) :: rs))
    (q1 : @LT.lt Nat _ at8 aD ∧ @LT.lt Nat _ aT aD ∧ @LT.lt Nat _ a2 aD ∧ @LT.lt Nat _ 99 aD ∧ @LT.lt Nat _ 92 aD ∧ AllLt aD rs) (q2 : @LT.lt Nat _ aD z) (q3 : @LT.lt Nat _ aD u)
    (h1 : m (PySem.Str.ofString "text") = some (.str x t1)) (h2 : m (PySem.Str.ofString "due") = some (.ref aD)) (h3 : m (PySem.Str.ofString "told") = some (.ref aT)) (h4 : m (PySem.Str.ofString "ends") = some (.ref a2)) (h5 : m (PySem.Str.ofString "copied") = some (.str y ty)) :
    ∃ (aD : Addr) (base : List (Addr × Obj)) (m' : PySem.Str → Option Value) (t1 : Tok), m' (PySem.Str.ofString "text") = some (.str x t1) ∧ m' (PySem.Str.ofString "due") = some (.ref aD) ∧ m' (PySem.Str.ofString "told") = some (.ref aT) ∧ m' (PySem.Str.ofString "ends") = some (.ref a2) ∧ m' (PySem.Str.ofString "copied") = some (.str y ty) ∧ Fr g L h m' ∧ News g L h ((aD, listOf ([] : List Value).toArray 0) :: base) ∧ (∀ q ∈ base, q.1 ≠ aD) ∧ (u, listOf us.toArray 0) ∈ base ∧ (a2, listOf v2.toArray n2) ∈ base ∧ (aT, listOf vt.toArray K) ∈ base ∧ (99, tabObj psF) ∈ base ∧ (92, tabObj psM) ∈ base ∧ (∀ q ∈ rs, q ∈ base) := by
  obtain ⟨l1, l2, l3, l4, l5, l6⟩ := q1
  refine ⟨aD, (u, listOf us.toArray 0) :: (z, listOf vz.toArray 0) :: (at8, o8) :: (aT, listOf vt.toArray K) :: (a2, listOf v2.toArray n2) :: (99, tabObj psF) :: (92, tabObj psM) :: rs, m, t1, h1, h2, h3, h4, h5, F, fun q hq => ?_, fun q hq => ?_, .head _, .tail _ (.tail _ (.tail _ (.tail _ (.head _)))), .tail _ (.tail _ (.tail _ (.head _))), .tail _ (.tail _ (.tail _ (.tail _ (.tail _ (.head _))))), .tail _ (.tail _ (.tail _ (.tail _ (.tail _ (.tail _ (.head _)))))), fun q hq => .tail _ (.tail _ (.tail _ (.tail _ (.tail _ (.tail _ (.tail _ hq))))))⟩
  · rcases List.mem_cons.mp hq with rfl | hq
    · exact N _ (.tail _ (.tail _ (.head _)))
    rcases List.mem_cons.mp hq with rfl | hq
    · exact N _ (.head _)
    rcases List.mem_cons.mp hq with rfl | hq
    · exact N _ (.tail _ (.head _))
    · exact N _ (.tail _ (.tail _ (.tail _ hq)))
  · rcases List.mem_cons.mp hq with rfl | hq
    · exact (Nat.ne_of_lt q3).symm
    rcases List.mem_cons.mp hq with rfl | hq
    · exact (Nat.ne_of_lt q2).symm
    rcases List.mem_cons.mp hq with rfl | hq
    · exact Nat.ne_of_lt l1
    rcases List.mem_cons.mp hq with rfl | hq
    · exact Nat.ne_of_lt l2
    rcases List.mem_cons.mp hq with rfl | hq
    · exact Nat.ne_of_lt l3
    rcases List.mem_cons.mp hq with rfl | hq
    · exact Nat.ne_of_lt l4
    rcases List.mem_cons.mp hq with rfl | hq
    · exact Nat.ne_of_lt l5
    · exact Nat.ne_of_lt (allLt_all l6 q hq)
theorem zip_x {X : List Nat} {us : List Value} {K i : Nat} {v : Value} (hi : IntsAre us ([0] ++ List.map (fun i => ((it X (i + 1) : Nat) : Int)) (List.range K))) (hv : us[i]? = some v) : ∃ t, v = .int ((it X i : Nat) : Int) t := by
  obtain ⟨k, t, e, hk⟩ := IntsAre.at hi i v hv
  refine ⟨t, ?_⟩
  rw [e]
  cases i with
  | zero => cases hk; rfl
  | succ i =>
    rw [List.singleton_append, List.getElem?_cons_succ, List.getElem?_map] at hk
    by_cases hi : i < K
    · rw [List.getElem?_range hi] at hk
      cases hk; rfl
    · rw [List.getElem?_eq_none (by simpa using hi)] at hk
      cases hk
theorem zip_y {X : List Nat} {vs : List Value} {K i : Nat} {v : Value} (hi : IntsAre vs (List.map (fun i => ((it X (i + 1) : Nat) : Int)) (List.range K))) (hv : vs[i]? = some v) : i < K ∧ ∃ t, v = .int ((it X (i + 1) : Nat) : Int) t := by
  obtain ⟨k, t, e, hk⟩ := IntsAre.at hi i v hv
  rw [List.getElem?_map] at hk
  by_cases hi : i < K
  · rw [List.getElem?_range hi] at hk
    cases hk
    exact ⟨hi, t, e⟩
  · rw [List.getElem?_eq_none (by simpa using hi)] at hk
    cases hk
/-- where the piece of a turn begins first -/
theorem due_find {x : PySem.Str} {b : Nat} (hb : b < x.length) : Txt.find x (Txt.slice x (some (b : Int)) (some ((nxt x.cps.toList b : Nat) : Int))) = ((first x.cps.toList b (max (most x.cps.toList b) 1) : Nat) : Int) := by
  have hl := len_list x
  have hle := nxt_le (X := x.cps.toList) (b := b) (by omega)
  have := find_first x (b : Int) ((max (most x.cps.toList b) 1 : Nat) : Int) (by omega) (by omega) (by unfold nxt at hle; omega)
  rw [show (b : Int) + ((max (most x.cps.toList b) 1 : Nat) : Int) = ((nxt x.cps.toList b : Nat) : Int) by unfold nxt; omega] at this
  rw [this, Int.toNat_natCast, Int.toNat_natCast]
theorem due_lit {X : List Nat} {b : Nat} (hb : b < X.length) (h : first X b (max (most X b) 1) = b) : most X b = 0 := by
  apply Classical.byContradiction
  intro hne
  rw [Nat.max_eq_left (by omega)] at h
  have := (first_spec X b (most X b)).2.2.2.mpr (most_occ hne)
  omega
theorem due_cpy {X : List Nat} {b : Nat} (hb : b < X.length) (h : first X b (max (most X b) 1) ≠ b) : most X b ≠ 0 ∧ 16 * ((first X b (max (most X b) 1) : Nat) : Int) + ((nxt X b : Nat) : Int) - ((b : Nat) : Int) = ((portN X b : Nat) : Int) := by
  have h0 : most X b ≠ 0 := by
    intro e
    rw [e] at h
    have h1 := first_spec X b 1
    have h2 : first X b 1 < b := Nat.lt_of_le_of_ne h1.1 h
    have := most_max (X := X) (b := b) (m := 1) (by omega) (h1.2.2.2.mp h2)
    omega
  refine ⟨h0, ?_⟩
  unfold portN nxt
  rw [Nat.max_eq_left (by omega)]
  omega
theorem due_news {g h : Heap} {L aD : Addr} {oD : Obj} {its rd : List (Addr × Obj)} {I : Nat} (N : News g L h (its ++ (aD, oD) :: rd)) (hi : its.map (·.1) = WS I) (hD : @LT.lt Nat _ aD I) (ho : ∀ q ∈ rd, q.1 ≠ aD) :
    ∃ rs, (∀ q ∈ its, q ∈ rs) ∧ (∀ q ∈ rd, q ∈ rs) ∧ (∀ q ∈ rs, q.1 ≠ aD) ∧ News g L h ((aD, oD) :: rs) := by
  refine ⟨its ++ rd, fun q hq => List.mem_append_left _ hq, fun q hq => List.mem_append_right _ hq, fun q hq e => ?_, fun q hq => ?_⟩
  · rcases List.mem_append.mp hq with hq | hq
    · exact lt_ws hD (by rw [← hi, ← e]; exact List.mem_map_of_mem hq)
    · exact ho q hq e
  · rcases List.mem_cons.mp hq with rfl | hq
    · exact N _ (List.mem_append_right _ (.head _))
    rcases List.mem_append.mp hq with hq | hq
    · exact N _ (List.mem_append_left _ hq)
    · exact N _ (List.mem_append_right _ (.tail _ hq))
theorem due_end {X : List Nat} {g h' : Heap} {L aD : Addr} {m' mF : PySem.Str → Option Value} {vd : List Value} {v : Value} {i : Nat} {I : Nat} {its rd rd' rs' base : List (Addr × Obj)} {q1 q2 : Addr × Obj} {s : Shared} {tk : Nat} (F : Fr g L h' m') (N : News g L h' ((aD, listOf (vd.toArray.push v) (i + 1)) :: rs')) (hits : ∀ q ∈ its, q ∈ rs') (hrd : ∀ q ∈ rd', q ∈ rs') (hsub : ∀ q ∈ base, q ∈ rd') (hoD : ∀ q ∈ rd', q.1 ≠ aD) (hws : ∀ q ∈ rd', q.1 ∉ WS I)
    (hi : its.map (·.1) = WS I) (hD : @LT.lt Nat _ aD I) (hrr : ∀ q ∈ rd, q ∈ rd') (ht : Told X rd vd i) (hv : ToldV X rd' i v) (hm : ∀ z, dStored.contains z = false → m' z = mF z) (k1 : q1 ∈ base) (k2 : q2 ∈ base) :
    UnrEndW g L s its (fun m' n' => SubL [q1, q2] n' ∧ DJ X aD base mF I (i + 1) m' n') { s with heap := h', toks := tk } := by
  refine ⟨h', tk, m', (aD, listOf (vd.toArray.push v) (i + 1)) :: rd', rfl, F, fun q hq => ?_, fun p hp q hq e => ?_, ⟨.tail _ (hsub _ k1), .tail _ (hsub _ k2), trivial⟩, ⟨vd ++ [v], rd', by rw [List.push_toArray], hsub, hoD, hws, told_snoc ht hrr hv, hm⟩⟩
  · rcases List.mem_append.mp hq with hq | hq
    · exact N _ (.tail _ (hits q hq))
    rcases List.mem_cons.mp hq with rfl | hq
    · exact N _ (.head _)
    · exact N _ (.tail _ (hrd q hq))
  · have hqw : q.1 ∈ WS I := by rw [← hi]; exact List.mem_map_of_mem hq
    rcases List.mem_cons.mp hp with rfl | hp
    · exact lt_ws hD (by rw [show aD = q.1 from e]; exact hqw)
    · exact hws p hp (by rw [e]; exact hqw)
theorem map_td {m : PySem.Str → Option Value} {v1 v2 : Value} (h1 : m (PySem.Str.ofString "text") = some v1) (h2 : m (PySem.Str.ofString "due") = some v2) : ∃ u : PySem.Str → Option Value, m = fun z => if z = PySem.Str.ofString "text" then some v1 else if z = PySem.Str.ofString "due" then some v2 else u z := by
  refine ⟨m, ?_⟩
  funext z
  by_cases q : z = PySem.Str.ofString "text"
  · rw [if_pos q, q, h1]
  by_cases q2 : z = PySem.Str.ofString "due"
  · rw [if_neg q, if_pos q2, q2, h2]
  rw [if_neg q, if_neg q2]
end Mine
end

section
open PySem PySem.W PySem.Calls PyProof.Rows
namespace Mine
theorem backLawE : True := by
  k_with_none
  w_top off
  exact trivial
def toldD (X : List Nat) (i : Nat) : PyData := if most X (it X i) = 0 then .str (mkS (X.getD (it X i) 0)) else .tuple [.str (PySem.Str.ofString "host"), .int ((portN X (it X i) : Nat) : Int)]
theorem toldD_ok {X : List Nat} {i : Nat} (h : Alph X) (hi : it X i < X.length) : (toldD X i).canLay0 = true ∧ (toldD X i).depth ≤ 1 := by
  unfold toldD
  split
  · rcases getD_alph h hi with e | e | e <;> rw [e] <;> exact ⟨by decide +kernel, by decide +kernel⟩
  · have h1 : PyData.canLay0 (.str (PySem.Str.ofString "host")) = true := by decide +kernel
    constructor
    · simp only [PyData.canLay0, PyData.canLayAll0] at h1 ⊢
      rw [h1]
      rfl
    · simp [PyData.depth, PyData.depthAll]
theorem lay_all : ∀ {l : List PyData}, (∀ d ∈ l, d.canLay0 = true ∧ d.depth ≤ 1) → PyData.canLayAll0 l = true ∧ PyData.depthAll l ≤ 1 := by
  intro l
  induction l with
  | nil => intro _; simp [PyData.canLayAll0, PyData.depthAll]
  | cons d l ih =>
    intro h
    obtain ⟨a1, a2⟩ := h d (.head _)
    obtain ⟨b1, b2⟩ := ih fun e he => h e (.tail _ he)
    simp only [PyData.canLayAll0, PyData.depthAll, a1, b1, Bool.and_self, true_and]
    omega
theorem told_shaped {X : List Nat} {K : Nat} (h : Alph X) (hi : ∀ i, i < K → it X i < X.length) : SeqAt.shaped (.list ((List.range K).map (toldD X))) = true := by
  obtain ⟨a, b⟩ := lay_all (l := (List.range K).map (toldD X)) fun d hd => by
    obtain ⟨i, hm, rfl⟩ := List.mem_map.mp hd
    exact toldD_ok h (hi i (List.mem_range.mp hm))
  simp only [SeqAt.shaped, PyData.canLay0, PyData.depth, a, Bool.true_and]
  exact decide_eq_true (by omega)
theorem reads_range {h : Heap} : ∀ {vt : List Value} {f : Nat → PyData}, (∀ i v, vt[i]? = some v → ∃ as, Reads h v (f i) as) → ∃ as, ReadsAll h vt ((List.range vt.length).map f) as := by
  intro vt
  induction vt with
  | nil => intro f _; exact ⟨[], ReadsAll.nil⟩
  | cons v vt ih =>
    intro f hf
    obtain ⟨as, h1⟩ := hf 0 v rfl
    obtain ⟨bs, h2⟩ := ih (f := fun i => f (i + 1)) fun i u hu => hf (i + 1) u hu
    refine ⟨as ++ bs, ?_⟩
    rw [List.length_cons, List.range_succ_eq_map, List.map_cons, List.map_map]
    exact ReadsAll.cons h1 h2
theorem told_reads {X : List Nat} {g h : Heap} {L : Addr} {all rd : List (Addr × Obj)} {vt : List Value} {K : Nat} (N : News g L h all) (hs : ∀ q ∈ rd, q ∈ all) (T : Told X rd vt K) : ∃ as, ReadsAll h vt ((List.range K).map (toldD X)) as := by
  obtain ⟨rfl, hT⟩ := T
  refine reads_range fun i v hv => ?_
  have := hT i v hv
  unfold ToldV at this
  unfold toldD
  split at this
  · rename_i e
    obtain ⟨t, rfl⟩ := this
    rw [if_pos e]
    exact ⟨_, Reads.str _ _⟩
  · rename_i e
    obtain ⟨a, t1, t2, rfl, hm⟩ := this
    rw [if_neg e]
    exact ⟨_, reads_tuple_at (N _ (hs _ hm)).1 rfl rfl (ReadsAll.cons (Reads.str _ _) (ReadsAll.cons (Reads.int _ _) ReadsAll.nil))⟩
section
variable {prog : Program} {w : World} {A : Around} {E : Value → Shared → Prop} {s : Shared}
theorem told_eq {X : List Nat} {g : Heap} {L aT aD : Addr} {all rd rs : List (Addr × Obj)} {vt vd : List Value} {K : Nat} {Q : Value → Shared → Prop} (N : News g L s.heap all) (h1 : (aT, listOf vt.toArray K) ∈ all) (h2 : (aD, listOf vd.toArray K) ∈ all) (hs1 : ∀ q ∈ rs, q ∈ all) (hs2 : ∀ q ∈ rd, q ∈ all) (T1 : Told X rs vt K) (T2 : Told X rd vd K)
    (hal : Alph X) (hi : ∀ i, i < K → it X i < X.length) (hu : A.units + 64 < cLine) (h : Q (.bool true) s) : wpAny (model prog w) A (compareOp .Eq (.ref aT) (.ref aD)) Q E s := by
  obtain ⟨as, r1⟩ := told_reads N hs1 T1
  obtain ⟨bs, r2⟩ := told_reads N hs2 T2
  have sh := told_shaped hal hi
  refine eq_dataH (reads_list_at (N _ h1).1 rfl rfl r1) (reads_list_at (N _ h2).1 rfl rfl r2) sh sh hu ?_
  rw [PySem.SeqAt.eqv_refl _ (SeqAt.canLay_of_shaped sh)]
  exact h
theorem strs_same {x : PySem.Str} {t u : Tok} {Q : Value → Shared → Prop} (h : Q (.bool true) s) : wpAny (model prog w) A (compareOp .Eq (.str x t) (.str x u)) Q E s := by
  refine PyProof.Rows.eq_str ?_
  have e : (x == x) = true := by rw [beq_iff_eq]
  rw [e]
  exact h
theorem ints_eq {a b : Addr} {xs ys : List Value} {ns : List Int} {Q : Value → Shared → Prop} (ha : s.heap.IsList a xs.toArray) (hb : s.heap.IsList b ys.toArray) (hi : IntsAre xs ns) (hj : IntsAre ys ns) (hu : A.units + 64 < cLine) (h : Q (.bool true) s) : wpAny (model prog w) A (compareOp .Eq (.ref a) (.ref b)) Q E s :=
  ke_eq_ints ha hb hi hj hu (by rw [decide_eq_true rfl]; exact h)
end
theorem it_inj {X : List Nat} {K K' : Nat} (h : it X K = X.length) (h' : it X K' = X.length) : K' = K := by
  rcases Nat.lt_trichotomy K K' with q | q | q
  · have := it_lt q h'
    omega
  · exact q.symm
  · have := it_lt q h
    omega
theorem str_same {x y : PySem.Str} (h : y.cps.toList = x.cps.toList) : y = x := by
  obtain ⟨a⟩ := x
  obtain ⟨b⟩ := y
  congr 1
  exact Array.toList_inj.mp h
theorem far_led {g h h' : Heap} {L : Addr} {m : PySem.Str → Option Value} {x : PySem.Str} {r : Value} {K : Nat} {led : List (Addr × Obj)} (F : Fr g L h m) (nn : ∀ q ∈ led, q.1 ∉ ([] : List (Addr × Obj)).map (·.1) → h'.get? q.1 = some q.2 ∧ q.1 ≠ L ∧ g.get? q.1 = none) (hK : it x.cps.toList K = x.length) (R : FarRet x h r h') :
    ∃ (aF : Addr) (vf : List Value), r = .ref aF ∧ News g L h' ((aF, listOf vf.toArray K) :: led) ∧ IntsAre vf ((List.range K).map fun i => ((it x.cps.toList (i + 1) : Nat) : Int)) := by
  obtain ⟨aF, vf, K', e, f1, q1, hi, hK'⟩ := R
  have hl := len_list x
  have eK : K' = K := it_inj (hK.trans hl) (hK'.trans hl)
  subst eK
  refine ⟨aF, vf, e, fun q hq => ?_, hi⟩
  rcases List.mem_cons.mp hq with rfl | hq
  · refine ⟨q1, fun e => ?_, fresh_fr F f1⟩
    obtain ⟨oL, es, ep, e1, _⟩ := F.ns
    rw [← show aF = L from e, f1] at e1; cases e1
  · exact nn q hq (by simp)
theorem law_fin {g h' : Heap} {L : Addr} {m' : PySem.Str → Option Value} {news : List (Addr × Obj)} {ps qs : Array Value} {s : Shared} {tk : Nat} (F : Fr g L h' m') (N : News g L h' news) (m1 : (99, tabObj ps) ∈ news) (m2 : (92, tabObj qs) ∈ news) : LawQ g L s (.ret (.bool true)) { s with heap := h', toks := tk } :=
  ⟨rfl, h', tk, m', news, ps, qs, rfl, F, N, m1, m2⟩
theorem end_led {g h : Heap} {L : Addr} {a t e p1 p2 : Addr × Obj} {base rd : List (Addr × Obj)} (N : News g L h (a :: rd)) (hs : ∀ q ∈ base, q ∈ rd) (h1 : t ∈ base) (h2 : e ∈ base) (h3 : p1 ∈ base) (h4 : p2 ∈ base) : News g L h (a :: t :: e :: p1 :: p2 :: rd) := by
  intro q hq
  rcases List.mem_cons.mp hq with rfl | hq
  · exact N _ (.head _)
  rcases List.mem_cons.mp hq with rfl | hq
  · exact N _ (.tail _ (hs _ h1))
  rcases List.mem_cons.mp hq with rfl | hq
  · exact N _ (.tail _ (hs _ h2))
  rcases List.mem_cons.mp hq with rfl | hq
  · exact N _ (.tail _ (hs _ h3))
  rcases List.mem_cons.mp hq with rfl | hq
  · exact N _ (.tail _ (hs _ h4))
  · exact N _ (.tail _ hq)
theorem map_end {m : PySem.Str → Option Value} {v1 v2 v3 v4 v5 : Value} (h1 : m (PySem.Str.ofString "text") = some v1) (h2 : m (PySem.Str.ofString "due") = some v2) (h3 : m (PySem.Str.ofString "told") = some v3) (h4 : m (PySem.Str.ofString "ends") = some v4) (h5 : m (PySem.Str.ofString "copied") = some v5) :
    ∃ u : PySem.Str → Option Value, m = fun z => if z = PySem.Str.ofString "text" then some v1 else if z = PySem.Str.ofString "due" then some v2 else if z = PySem.Str.ofString "told" then some v3 else if z = PySem.Str.ofString "ends" then some v4 else if z = PySem.Str.ofString "copied" then some v5 else u z := by
  refine ⟨m, ?_⟩
  funext z
  by_cases q : z = PySem.Str.ofString "text"
  · rw [if_pos q, q, h1]
  by_cases q2 : z = PySem.Str.ofString "due"
  · rw [if_neg q, if_pos q2, q2, h2]
  by_cases q3 : z = PySem.Str.ofString "told"
  · rw [if_neg q, if_neg q2, if_pos q3, q3, h3]
  by_cases q4 : z = PySem.Str.ofString "ends"
  · rw [if_neg q, if_neg q2, if_neg q3, if_pos q4, q4, h4]
  by_cases q5 : z = PySem.Str.ofString "copied"
  · rw [if_neg q, if_neg q2, if_neg q3, if_neg q4, if_pos q5, q5, h5]
  rw [if_neg q, if_neg q2, if_neg q3, if_neg q4, if_neg q5]
theorem due_tup {X : List Nat} {g h' : Heap} {L aD T9 : Addr} {m' mF : PySem.Str → Option Value} {vd : List Value} {i : Nat} {I : Nat} {its rd rs' base : List (Addr × Obj)} {q1 q2 : Addr × Obj} {s : Shared} {tk : Nat} {ta tb : Tok} {port : Int} (F : Fr g L h' m')
    (N : News g L h' ((T9, { cls := .type "tuple", data := .seq #[.str (PySem.Str.ofString "host") ta, .int port tb] }) :: (aD, listOf (vd.toArray.push (.ref T9)) (i + 1)) :: rs')) (hport : port = ((portN X (it X i) : Nat) : Int)) (h0 : most X (it X i) ≠ 0) (lT : @LT.lt Nat _ aD T9 ∧ AllLt T9 rs')
    (hits : ∀ q ∈ its, q ∈ rs') (hrd : ∀ q ∈ rd, q ∈ rs') (hsub : ∀ q ∈ base, q ∈ rd) (hoD : ∀ q ∈ rd, q.1 ≠ aD) (hws : ∀ q ∈ rd, q.1 ∉ WS I)
    (hi : its.map (·.1) = WS I) (hD : @LT.lt Nat _ aD I) (ht : Told X rd vd i) (hm : ∀ z, dStored.contains z = false → m' z = mF z) (k1 : q1 ∈ base) (k2 : q2 ∈ base) :
    UnrEndW g L s its (fun m' n' => SubL [q1, q2] n' ∧ DJ X aD base mF I (i + 1) m' n') { s with heap := h', toks := tk } := by
  subst hport
  refine due_end (v := .ref T9) (rd := rd) (rd' := (T9, tupO ta tb (portN X (it X i))) :: rd) (rs' := (T9, tupO ta tb (portN X (it X i))) :: rs') F (fun q hq => ?_) (fun q hq => .tail _ (hits q hq)) (fun q hq => ?_) (fun q hq => .tail _ (hsub q hq)) (fun q hq => ?_) (fun q hq => ?_) hi hD (fun q hq => .tail _ hq) ht ?_ hm k1 k2
  · rcases List.mem_cons.mp hq with rfl | hq
    · exact N _ (.tail _ (.head _))
    rcases List.mem_cons.mp hq with rfl | hq
    · exact N _ (.head _)
    · exact N _ (.tail _ (.tail _ hq))
  · rcases List.mem_cons.mp hq with rfl | hq
    · exact .head _
    · exact .tail _ (hrd q hq)
  · rcases List.mem_cons.mp hq with rfl | hq
    · exact (Nat.ne_of_lt lT.1).symm
    · exact hoD q hq
  · rcases List.mem_cons.mp hq with rfl | hq
    · exact gt_ws hi fun q hq => allLt_all lT.2 q (hits q hq)
    · exact hws q hq
  · unfold ToldV
    rw [if_neg h0]
    exact ⟨T9, ta, tb, rfl, .head _⟩
end Mine
end

section
open PySem PySem.W PySem.Calls PyProof.Rows
namespace Mine
theorem backLaw : True := by
  k_with_none
  w_top off
  exact trivial
section
theorem law : PySem.Challenge.rw_sr0036_01.Holds := by
  k_with_none
  k_with "call builtin:str.join" => ((refine Halt.go ?_))
  k_with "newList" => ((k_here; k_dflt (refine' newInts7 ?zzk1 ?zzk2 ?_; (case zzk1 => k_asm); (case zzk2 => k_asm); k_whole); intro l' vl' h' F' N' l1 hI'; (try k_lt l1); (try k_sweep)))
  k_with "newList" => ((k_here; k_dflt (refine' newInts1 ?zzk1 ?zzk2 ?_; (case zzk1 => k_asm); (case zzk2 => k_asm); k_whole); intro l' vl' h' F' N' l1 hI'; (try k_lt l1); (try k_sweep)))
  k_with "call builtin:len" => ((k_here; (with_reducible show wpAny _ _ (call (Value.builtin _) [Value.ref _]) _ _ _); (k_dflt (refine' len_ints_fit (News.isList (by k_asm) (by k_mem)) (by assumption) ?zzk3 ?_; (case zzk3 => omega); k_whole))))
  k_with "subscriptTail" => ((k_here; (with_reducible show wpAny _ _ (subscriptTail _ (PySem.Expr.Slice _ _ none _) (Value.ref _) (Value.ref _)) _ _ _); (fail_if_success (with_reducible show wpAny _ _ (subscriptTail (PySem.Expr.Name _ _) _ _ _) _ _ _)); k_dflt (refine kba_turn (value' := PySem.Expr.Name (PySem.Str.ofString "_") ⟨0, 0, 0, 0⟩) (fun _ => rfl) ?_); k_dflt (refine' kmk_slice_ints ?zzF ?zzN ?zzl ?zzp ?zzq ?zzi ?zzm ?zzc ?_ ?zzs ?zzt ?zzz; (case zzF => k_asm); (case zzN => k_asm); (case zzl => kmk_list); (case zzp => exact IsPart.int _ _); (case zzq => exact IsPart.none); (case zzi => assumption); (case zzm => exact kmk_from (by assumption) (Int.natCast_nonneg _)); (case zzc => exact List.length_drop ..); (case zzs => with_unfolding_all rfl); (case zzt => kmk_pure); (case zzz => kmk_size)); intro D' ws' h' F' N' l1 hI' hC' hL'; (try k_lt l1); (try k_sweep)))
  k_with "eval ListComp" => ((refine Halt.go ?_))
  k_with "binaryOp Add ref ref" => ((k_here; (with_reducible show wpAny _ _ (binaryOp _ (Value.ref _) (Value.ref _)) _ _ _); k_dflt (refine' kmk_add_ints ?zzF ?zzN ?zza ?zzb ?zzi ?zzj ?_ ?zzz; (case zzF => k_asm); (case zzN => k_asm); (case zza => exact News.isList (by k_asm) (by k_mem)); (case zzb => exact News.isList (by k_asm) (by k_mem)); (case zzi => assumption); (case zzj => assumption); (case zzz => (rw [sizeLine_eq, List.length_map, List.length_range]; exact Nat.le_trans (Nat.add_le_add_left (Nat.le_trans hKx hx10) 1) (by decide)))); intro D' us' h' F' N' l1 hI'; (try k_lt l1); (try k_sweep)))
  k_with "exec For Tuple Call cons nil" => ((refine Halt.go ?_))
  k_with "call type:zip" => ((refine Halt.go ?_))
  k_with "newTuple" => ((k_here; k_dflt (refine' kup_newTuple ?zzF ?zzN ?_ ?zzz; (case zzF => k_asm); (case zzN => k_asm); (case zzz => kmk_size)); intro D' h' F' N' l1; (try k_lt l1)))
  k_with "UnrPostW" => ((refine Halt.go ?_))
  refine Mine.hd ?_
  k_go0
  dsimp only
  (rename Below _ _ _ _ => B0)
  (rename Frag.In _ (ghostOf _ _) => X0)
  (rename Top _ _ _ _ _ _ => T0)
  (rename Fr _ _ _ _ => F0)
  (rename News _ _ _ _ => N0)
  (rename Heap.IsList (ghostOf _ _) _ _ => l0)
  (rename CodeHd _ 103 _ => hc1)
  (rename CodeHd _ 96 _ => hc2)
  (rename IntsAre _ _ => hI0)
  (rename Ground _ _ _ _ _ _ _ _ _ => d1)
  (rename Heap.CodeRec _ _ _ => d2)
  (rename Dflts _ _ _ _ _ _ => d3)
  (rename TopE _ _ _ _ => d4)
  (rename TopW _ _ _ => d5)
  (rename Tables _ _ _ _ => d6)
  (rename TabsAt _ _ => d7)
  (rename _ ∧ _ => d8)
  refine law_q (env := envOf _ _ _ _ _) F0 (by passes_own) ?way1 fun E hE => ?way2
  case way2 =>
    clear d1 d2 d3 d4 d5 d6 d7
    (rename Flt.MathXP _ _ _ => e1)
    (rename LooseAre _ _ _ => e2)
    (rename Top Mine.hd.view_39 _ _ _ _ _ => e3)
    (rename Well _ _ _ _ => e4)
    (rename Reads _ _ _ _ => e5)
    (rename ReadsAll _ _ _ _ => e6)
    (rename ReadsAllW _ _ _ _ _ _ => e7)
    (rename Hook.says _ _ _ => e8)
    clear e1 e2 e3 e4 e5 e6 e7 e8
    generalize hg : ghostOf _ [((103 : Addr), (99 : Addr)), (96, 92)] = g at *
    generalize hp : topProg = p at T0
    generalize hlo : (_ ++ _ : List PySem.Str) = lo at T0
    clear hp hlo
    (try k_fold)
    k_steps
    unfold Halt
    have hc1' : CodeHd g 103 99 := hc1
    have hc2' : CodeHd g 96 92 := hc2
    (rename IntsAre _ (List.map (fun a : Int => Int.fmod a 12) _) => hds)
    (rename News g _ _ [_, _, _, _, _, _, _] => N1)
    (rename Fr g _ _ _ => F1)
    obtain ⟨ds, hds, hd1, hd2, hd3⟩ := draws_ok hds
    obtain ⟨D, ys, n, u, F1, N1, hds⟩ := law_pack1 F1 N1 hds rfl
    (repeat ((rename Heap.IsList _ _ _ => y1); clear y1))
    (repeat ((rename CarriedAll _ _ => y1); clear y1))
    (repeat ((rename Spec.Shape.has _ _ = true => y1); clear y1))
    (repeat ((rename _ ∧ (_ : Prop) => y1); clear y1))
    k_dflt (refine LCg.ListComp_U (F₀ := F1) (by with_unfolding_all rfl) (by decide) (by rfl) (by decide) (by rfl) ?_)
    k_dflt (refine ld F1 rfl ?_)
    have hdl := hds.length
    refine LCg.CompSrc.ledger rfl F1 N1 (.head _) (by rw [List.size_toArray, sizeLine_eq]; omega) fun g' => ?_
    refine' kct_list (fun k => Txt.item (PySem.Str.ofString "ab\"") (k.fmod 3)) hds (fun k' t' I' oI' C' oC' D' m' ys' h' tk' E' hk' hC' hx' F' N' off' ne' hM => ?way3) ?way4
    case way3 =>
      simp only [LCg.Off3, and_true] at off'
      obtain ⟨⟨o1, o2, o3⟩, ⟨o4, o5, o6⟩, o7, o8, o9⟩ := off'
      have hkb := hd3 k' hk'
      clear hM
      k_steps
      exact kct_el rfl rfl rfl
    case way4 =>
      intro ys2 hc2 hl2
      intro D2 h2 tk2 F2 N2 off2
      dsimp only
      k_steps
      unfold Halt
      refine KT.join_1 (g := fun k => Txt.item (PySem.Str.ofString "ab\"") (k.fmod 3)) (l := ds) (ys := ys2) (D := D2) ?way5 hc2 (fun a _ => (sign_ok a).2) (Nat.le_trans hd2 (by decide)) ?way6
      case way5 => exact ⟨_, (N2 _ (.head _)).1, rfl, _, rfl⟩
      intro t3 tk3 hxl
      have hal := text_ok ds
      obtain ⟨mk, hmk, hmke⟩ := mark_ok ds.sum
      generalize Txt.join (PySem.Str.ofString "") (ds.map fun k => Txt.item (PySem.Str.ofString "ab\"") (k.fmod 3)) = x at *
      have htalk : ∀ {w : World} {mean : ExcName → Option Value} {mg mb : PySem.Str → Option Value} (t1 t2 : Tok), GT (prog := PySem.Challenge.rw_sr0036_01.row.prog) (w := w) (p := p) (loose := lo) (mean := mean) (mg := mg) (mb := mb) 10 (fun h => CodeHd h 96 92 ∧ CodeHd h 103 99) [(99, tabObj #[]), (92, tabObj #[])] 111 [.str x t1, .str (Txt.item (PySem.Str.ofString "|!a\"") (ds.sum.fmod 4)) t2] [] (TalkRet x (mkS mk)) := fun t1 t2 => by
        rw [hmke]
        exact talk x (mkS mk) t1 t2 (by rw [hxl]; exact hd2) hal rfl
      have h99 := (N1 _ (.tail _ (.head _))).2
      have h92 := (N1 _ (.tail _ (.tail _ (.head _)))).2
      have hx10 : x.length ≤ 10 := by rw [hxl]; exact hd2
      k_with "call ref" => first
        | ((k_dflt (refine' GT.use (htalk _ _) ?e3 ?k2 ?k3 ?k4 ?k5 ?k6 ?e4 rfl ?k7 ?k8 ?_; (case e3 => exact ⟨CodeHd.keeps hc2' (Fr.keep (by k_asm)), CodeHd.keeps hc1' (Fr.keep (by k_asm))⟩); (case k2 => k_asm); (case k3 => k_asm); (case k4 => k_asm); (case k5 => k_asm); (case k6 => k_asm); (case k7 => ktr_room); (case k8 => ktr_units); (case e4 => (intro q hq; (rcases List.mem_cons.mp hq with rfl | hq); k_mem; (obtain rfl := List.mem_singleton.mp hq; k_mem))); k_whole)); (intro r9 h9 tk9 kk9 F9 nn9 hr9); obtain ⟨at9, a1, a2, v1, v2, n1, n2, K, psM, psF, hr9, N9, l91, l92, hK, hKx, hs1, hs2⟩ := talk_led (by k_asm) F9 h99 h92 hr9; subst hr9; clear nn9)
        | (k_dflt (refine' read x mk _ v1 n1 K hal hx10 hmk hK hs1 ?k2 ?k3 ?k4 ?k5 ?k6 X0 T0 ?e2 rfl ?k7 ?k8 ?_; (case k2 => k_asm); (case k3 => k_asm); (case k4 => k_asm); (case k5 => k_asm); (case k6 => k_asm); (case k7 => ktr_room); (case k8 => ktr_units); (case e2 => k_mem); k_whole); (intro at8 aT y t8 vt rs h8 tk8 F8 N8 hnr hoffT lT lA hy htold); (refine Halt.go ?_))
      k_steps
      unfold Halt
      have N10 := read_led N8 hnr
      clear N8
      k_steps
      unfold Halt
      (rename Fr g _ _ _ => F10)
      k_dflt (refine' For_turns F10 ?_ (hE := hE); k_whole)
      k_steps
      unfold Halt
      (rename Fr g _ _ _ => F11)
      (rename News g _ _ ((_, _) :: (_, _) :: (_, _) :: (at8, _) :: _) => N11)
      rename (_ ∧ _ ∧ _ ∧ _ ∧ _ ∧ AllLt _ rs) => q1
      rename (_ ∧ _ ∧ _ ∧ _ ∧ _ ∧ _ ∧ AllLt _ rs) => q2
      rename (_ ∧ _ ∧ _ ∧ _ ∧ _ ∧ _ ∧ _ ∧ AllLt _ rs) => q3
      rename IntsAre _ ([0] ++ _) => hus
      obtain ⟨aD, base, mF, t1, hF1, hF2, hF3, hF4, hF5, F11, N11, hoB, hb1, hb2, hb3, hb4, hb5, hb6⟩ := zip_pack (x := x) (y := y) F11 N11 q1 q2.1 q3.2.1 rfl rfl rfl rfl rfl
      have hxl2 := len_list x
      k_dflt (refine' zip_inv (DJ x.cps.toList aD base mF) rfl F11 N11 (.tail _ hb1) rfl rfl (.tail _ hb2) rfl rfl ?way31 ?way32 ?way33 ?way34)
      case way31 =>
        have e1 := hus.length
        have e2 := hs2.length
        simp only [List.length_append, List.length_map, List.length_range, List.length_cons, List.length_nil] at e1 e2
        omega
      case way32 => exact fun I hI => ⟨[], base, rfl, fun q hq => hq, hoB, (fun q hq => lt_ws (hI q (.tail _ hq))), ⟨rfl, fun i v h => by simp at h⟩, fun _ _ => rfl⟩
      case way33 =>
        rintro I hI i v w m1 nx1 T h12 tk12 its hv hw hT ⟨vd, rd, rfl, hsub, hoff, hws, htd, hmz⟩ hits F12 N12
        obtain ⟨tv, rfl⟩ := zip_x hus hv
        obtain ⟨hiK, tw, rfl⟩ := zip_y hs2 hw
        have hlt := it_lt hiK (hK.trans hxl2)
        obtain ⟨u12, hu12⟩ := map_td ((hmz _ (by decide +kernel)).trans hF1) ((hmz _ (by decide +kernel)).trans hF2)
        rw [hu12] at F12
        have hD := hI _ (.head _)
        obtain ⟨rs12, hr1, hr2, ho12, N12⟩ := due_news N12 hits hD hoff
        have hzD : vd.toArray.size ≤ sizeLine := by
          rw [List.size_toArray, htd.1, sizeLine_eq]
          exact le_big (Nat.le_trans (it_ge x.cps.toList i) (Nat.le_trans (Nat.le_of_lt hlt) (hxl2 ▸ hx10)))
        have hfd : Txt.find x (Txt.slice x (some ((it x.cps.toList i : Nat) : Int)) (some ((it x.cps.toList (i + 1) : Nat) : Int))) = _ := due_find (by omega)
        have hgt : it x.cps.toList i < it x.cps.toList (i + 1) := nxt_gt _ _
        have hle : it x.cps.toList (i + 1) ≤ x.cps.toList.length := nxt_le hlt
        clear F11 N11
        have hcp := due_cpy hlt
        have hdl := due_lit hlt
        rw [show nxt x.cps.toList (it x.cps.toList i) = it x.cps.toList (i + 1) from rfl] at hcp
        have hmap : ∀ v1 v2 v3 z, dStored.contains z = false → (if z = PySem.Str.ofString "place" then some v1 else if z = PySem.Str.ofString "end" then some v2 else if z = PySem.Str.ofString "begin" then some v3 else (fun z => if z = PySem.Str.ofString "text" then some (Value.str x t1) else if z = PySem.Str.ofString "due" then some (Value.ref aD) else u12 z) z) = mF z := fun v1 v2 v3 z hz => by
          obtain ⟨z1, z2, z3⟩ := dst hz
          rw [if_neg z3, if_neg z2, if_neg z1]
          exact (congrFun hu12 z).symm.trans (hmz z hz)
        k_steps
        · unfold Halt
          rename Txt.find _ _ = _ => hfe
          (rename Fr g _ _ _ => F13)
          (rename News g _ _ _ => N13)
          have h0 := hdl (by rw [hfd] at hfe; omega)
          rw [item_at x _ (hxl2 ▸ hlt)] at N13
          show UnrEndW _ _ _ _ _ _
          refine due_end F13 N13 hr1 hr2 hsub hoff hws hits hD (fun q hq => hq) htd ?_ (hmap _ _ _) hb1 hb2
          unfold ToldV
          rw [if_pos h0]
          exact ⟨_, rfl⟩
        · unfold Halt
          rename Txt.find _ _ ≠ _ => hfe
          (rename Fr g _ _ _ => F13)
          (rename News g _ _ _ => N13)
          rename (_ ∧ AllLt _ rs12) => lT
          have hcp2 := hcp fun e => hfe (by rw [hfd, e])
          show UnrEndW _ _ _ _ _ _
          exact due_tup F13 N13 (by rw [hfd]; exact hcp2.2) hcp2.1 lT hr1 hr2 hsub hoff hws hits hD htd (hmap _ _ _) hb1 hb2
      case way34 =>
        rintro I m1 nx1 h12 tk12 ⟨vd, rd, rfl, hsub, hoff, hws, htd, hmz⟩ F12 N12
        clear F11 N11
        have hKv : v2.length = K := by
          have := hs2.length
          rwa [List.length_map, List.length_range] at this
        rw [hKv] at htd N12
        have hyx := str_same hy
        subst hyx
        obtain ⟨u12, hu12⟩ := map_end ((hmz _ (by decide +kernel)).trans hF1) ((hmz _ (by decide +kernel)).trans hF2) ((hmz _ (by decide +kernel)).trans hF3) ((hmz _ (by decide +kernel)).trans hF4) ((hmz _ (by decide +kernel)).trans hF5)
        rw [hu12] at F12
        have N13 := end_led N12 hsub hb3 hb2 hb4 hb5
        clear N12
        k_with "compareOp Eq str str" => (k_dflt (refine strs_same ?_); refine Halt.go ?_)
        k_steps
        unfold Halt
        k_with "eval Name" => ((with_reducible show wpAny _ _ (eval (Expr.Name (PySem.Str.ofString "told") _) _) _ _ _); refine Halt.go ?_)
        k_with "eval Name" => ((with_reducible show wpAny _ _ (eval (Expr.Name (PySem.Str.ofString "ends") _) _) _ _ _); refine Halt.go ?_)
        k_steps
        unfold Halt
        k_dflt (refine ld F12 rfl ?_)
        k_dflt (refine ld F12 rfl ?_)
        k_dflt (refine told_eq N13 (.tail _ (.head _)) (.head _) (fun q hq => .tail _ (.tail _ (.tail _ (.tail _ (.tail _ (hsub _ (hb6 _ hq))))))) (fun q hq => .tail _ (.tail _ (.tail _ (.tail _ (.tail _ hq))))) htold htd hal (fun i hi => it_lt hi (hK.trans hxl2)) (by ktr_units) ?_)
        k_steps
        unfold Halt
        k_dflt (refine ld F12 rfl ?_)
        k_with "call ref" => (refine Halt.go ?_)
        k_steps
        unfold Halt
        k_dflt (refine' GT.use (far _ _ hx10) True.intro ?way51 ?way52 ?way53 ?way54 ?way55 ?way56 rfl ?way57 ?way58 ?way59)
        case way51 => k_asm
        case way52 => k_asm
        case way53 => k_asm
        case way54 => exact N13
        case way55 => k_asm
        case way56 => exact fun q hq => nomatch hq
        case way57 => ktr_room
        case way58 => ktr_units
        intro r9 h9 tk9 kk9 F9 nn9 hr9
        obtain ⟨aF, vf, hr9, N9, hif⟩ := far_led F12 nn9 hK hr9
        subst hr9
        k_dflt (refine ints_eq (News.isList N9 (.tail _ (.tail _ (.tail _ (.head _))))) (News.isList N9 (.head _)) hs2 hif (by ktr_units) ?_)
        k_steps
        exact law_fin F9 N9 (.tail _ (.tail _ (.tail _ (.tail _ (.head _))))) (.tail _ (.tail _ (.tail _ (.tail _ (.tail _ (.head _))))))
  case way1 =>
    rintro v s' ⟨rfl, h', tk', m', news', ps, qs, rfl, F', N', m9, m2⟩
    refine ⟨?_, GrownAt.of N' m9, GrownAt.of N' m2, trivial⟩
    k_steps
end
end Mine
end

open PySem PySem.W PyProof.Rows
set_option maxRecDepth 100000 in
set_option maxHeartbeats 8000000 in
theorem PySem.Challenge.cw_sr0036_01_holds : PySem.Challenge.rw_sr0036_01.Holds := by
  exact Mine.law
