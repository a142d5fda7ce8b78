import PyProof.Rows.All
import Wide.All
import OpenK.AllK
import Wide.FinOn
import PySem.Challenge.RW_gh0007_01
open PySem PySem.W PyProof.Rows
set_option Elab.async false
set_option maxRecDepth 100000
set_option maxHeartbeats 8000000
open_top hd for PySem.Challenge.rw_gh0007_01
section
set_option maxRecDepth 100000
open PySem PySem.W PyProof.Rows PySem.Spec PySem.Calls
namespace Mine
abbrev Led := List (Addr × Obj)

section
variable {prog : Program} {w : World} {A₀ A : Around} {s : Shared} {base h₀ : Heap} {outer : List Env} {L : Addr} {m : Str → Option Value} {env : Env} {news fr : Led}
  {R : Result → Shared → Prop} {name qual : Str} {params : Arguments} {body : List Stmt} {scope : Scope} {cl : List (Str × Addr)} {dV kV doc pm cdv ct : Value} {an : Option Addr} {fo : Obj} {f : Addr} {args : Args} {binds : List (Str × Value)}

theorem news_left {h : Heap} (N : News h₀ L h (news ++ fr)) : News h₀ L h news := fun p hp => N p (List.mem_append_left _ hp)
theorem news_right {h : Heap} (N : News h₀ L h (news ++ fr)) : News h₀ L h fr := fun p hp => N p (List.mem_append_right _ hp)
theorem news_both {h : Heap} (N : News h₀ L h news) (N' : News h₀ L h fr) : News h₀ L h (news ++ fr) := fun p hp => (List.mem_append.mp hp).elim (N p) (N' p)

/-- the frozen part stands in the ground that the callee is given -/
theorem fr_ground (N : News h₀ L s.heap (news ++ fr)) (ap : ∀ p ∈ fr, ∀ q ∈ news, p.1 ≠ q.1) : ∀ p ∈ fr, (hideAll s.heap (news.map (·.1))).get? p.1 = some p.2 := fun p hp =>
  hideAll_get _ (N p (List.mem_append_right _ hp)).1 fun q => by
    obtain ⟨q', hq, e⟩ := List.mem_map.mp q
    exact ap p hp q' hq e.symm

/-- what the frozen part gives when the callee has left: it stands, and nothing that the callee made lies upon it -/
def Kept (h₀ : Heap) (L : Addr) (g : Heap) (fr : Led) (R : Result → Shared → Prop) : Result → Shared → Prop := fun r s' => News h₀ L s'.heap fr → (∀ p ∈ fr, g.get? p.1 = some p.2) → R r s'

theorem kept_leave {g : Heap} {v : Value} {s' : Shared} (N : News h₀ L s.heap fr) (hg : ∀ p ∈ fr, g.get? p.1 = some p.2)
    (lv : ∀ v s', LeaveK h₀ L m g (Kept h₀ L g fr R) v s' → Kept h₀ L g fr R (.ok (.ret v)) s') (hl : LeaveK h₀ L m g (Kept h₀ L g fr R) v s') : R (.ok (.ret v)) s' := by
  have hk : g.StaysIn s'.heap := let ⟨_, _, _, F', _, _⟩ := hl; F'.keep
  exact lv _ _ hl (fun p hp => ⟨hk _ _ (hg p hp), (N p hp).2⟩) hg

theorem callF_plain (B : Below A₀ base outer h₀) (F : Fr h₀ L s.heap m) (N : News h₀ L s.heap (news ++ fr)) (ap : ∀ p ∈ fr, ∀ q ∈ news, p.1 ≠ q.1) (hlim : h₀.NoLimit) (hA : A.frames = some (env :: outer)) (hf : env.frame = some L) (hke : env.scope.kind = .function)
    (ho : s.heap.get? f = some fo) (hd : fo.data = .func (fnX name qual params body scope cl dV kV doc pm an cdv ct)) (hcd : s.heap.CodeRec cdv qual) (hroom : A.depth < recursionLimit)
    (hbind : BindsTo s (fnX name qual params body scope cl dV kV doc pm an cdv ct) args binds) (hloc : ∀ y ∈ binds, scope.names.lookup y.1 = some .local)
    (h : ∀ g L' h₁, Fr h₀ L g m → Fr g L' h₁ (fun y => binds.reverse.lookup y) → News g L' h₁ news → Below A base (env :: outer) g → h₀.StaysIn g → (∀ p ∈ fr, g.get? p.1 = some p.2) → (∀ p ∈ news, p.1 < L') →
      wpAny (model prog w) (A.deeper (envX qual scope L' f cdv cl)) (execs body (envX qual scope L' f cdv cl))
        (fun fl s' => LeaveK h₀ L m g (Kept h₀ L g fr R) (match fl with | .ret v => v | _ => .none) s')
        (fun e s' => wpAny (model prog w) (A.deeper (envX qual scope L' f cdv cl)) (leaving (envX qual scope L' f cdv cl) e) (fun _ s'' => R (.error e) s'') (fun e' s'' => R (.error e') s'') s')
        { s with heap := h₁, toks := s.toks + binds.length })
    (hcell : ∀ x ∈ scope.names, x.2 ≠ .cell) (hco : scope.isCoroutine = false := by rfl) (hgen : scope.isGenerator = false := by rfl) (hk : scope.kind = .function := by rfl) : codeAny (model prog w) A (.call (.ref f) args) R s := by
  have hg := fr_ground N ap
  have N₁ := news_left N
  obtain ⟨FG, BG, st, lv⟩ := groundX (R := Kept h₀ L (hideAll s.heap (news.map (·.1))) fr R) B F N₁ hA hf hke
  refine codeAny_call_def (fd := fnX name qual params body scope cl dV kV doc pm an cdv ct) (body := body) (binds := binds) hroom ho hd (hlim.keeps F.keep) hcd rfl hbind hcell hloc (fun h₁ hns hk₁ => ?_) hco hgen hk
  refine wpAny_mono (h _ s.heap.objs.size h₁ FG ⟨hns, fun b o e => hk₁ b o (of_hideAll _ e), Nat.le_of_eq (hideAll_size _ _)⟩ (fun p hp => ?_) BG st hg (fun p hp => Heap.lt_size (N₁ p hp).1)) (fun fl s' hl => kept_leave (news_right N) hg lv hl) fun _ _ y => y
  exact ⟨hk₁ _ _ (N₁ p hp).1, Nat.ne_of_lt (Heap.lt_size (N₁ p hp).1), hideAll_none _ (List.mem_map_of_mem hp)⟩

theorem callF_cells (B : Below A₀ base outer h₀) (F : Fr h₀ L s.heap m) (N : News h₀ L s.heap (news ++ fr)) (ap : ∀ p ∈ fr, ∀ q ∈ news, p.1 ≠ q.1) (hlim : h₀.NoLimit) (hA : A.frames = some (env :: outer)) (hf : env.frame = some L) (hke : env.scope.kind = .function)
    (ho : s.heap.get? f = some fo) (hd : fo.data = .func (fnX name qual params body scope [] dV kV doc pm an cdv ct)) (hcd : s.heap.CodeRec cdv qual) (hroom : A.depth < recursionLimit)
    (hbind : BindsTo s (fnX name qual params body scope [] dV kV doc pm an cdv ct) args binds)
    (hkind : ∀ n, ∀ x ∈ binds, scope.names.lookup x.1 = some .local ∨ (scope.names.lookup x.1 = some .cell ∧ ((cellsFrom n scope.names []).lookup x.1).isSome = true))
    (hnd : ((cellsFrom 0 scope.names []).map (·.1)).Nodup)
    (h : ∀ g L' h₁ tk cells, Fr h₀ L g m → Fr g L' h₁ (bindL (envOfC qual scope L' f cdv).kindOf binds fun _ => none) → News g L' h₁ (cells ++ news) →
      CellsAre (bindC (envOfC qual scope L' f cdv).kindOf binds fun _ => none) (cellsFrom (L' + 1) scope.names []) cells → Below A base (env :: outer) g → h₀.StaysIn g → (∀ p ∈ fr, g.get? p.1 = some p.2) → (∀ p ∈ news, p.1 < L') →
      wpAny (model prog w) (A.deeper (envOfC qual scope L' f cdv)) (execs body (envOfC qual scope L' f cdv))
        (fun fl s' => LeaveK h₀ L m g (Kept h₀ L g fr R) (match fl with | .ret v => v | _ => .none) s')
        (fun e s' => wpAny (model prog w) (A.deeper (envOfC qual scope L' f cdv)) (leaving (envOfC qual scope L' f cdv) e) (fun _ s'' => R (.error e) s'') (fun e' s'' => R (.error e') s'') s')
        { s with heap := h₁, toks := tk })
    (hco : scope.isCoroutine = false := by rfl) (hgen : scope.isGenerator = false := by rfl) (hk : scope.kind = .function := by rfl) : codeAny (model prog w) A (.call (.ref f) args) R s := by
  have hg := fr_ground N ap
  have N₁ := news_left N
  obtain ⟨FG, BG, st, lv⟩ := groundX (R := Kept h₀ L (hideAll s.heap (news.map (·.1))) fr R) B F N₁ hA hf hke
  refine codeAny_call_function hroom ho hd hco hgen rfl hcd (hbind _ _ _ _ ?_)
  refine wpAny_newFunctionEnv_cells hk (hkind _) fun env' he s' x => ?_
  subst he
  refine ⟨(hlim.keeps F.keep).keeps x.toInCall.keep, codeAny_func ?_⟩
  obtain ⟨h₁, tk, rfl, _⟩ := x.done
  have hk₁ := x.toInCall.keep
  obtain ⟨cells, NC, Y⟩ := Cl.news (h₀ := s.heap) (Nat.le_refl _) fun n c hm => ⟨x.cell n c (lookup_of_mem_nodup (cellsFrom_names scope.names 0 (s.heap.objs.size + 1) [] [] rfl ▸ hnd) hm), x.above n c hm⟩
  refine wpAny_mono (h _ s.heap.objs.size h₁ tk cells FG ⟨x.toInCall.ns, fun b o e => hk₁ b o (of_hideAll _ e), Nat.le_of_eq (hideAll_size _ _)⟩ (fun p hp => ?_) Y BG st hg (fun p hp => Heap.lt_size (N₁ p hp).1)) (fun fl s' hl => kept_leave (news_right N) hg lv hl) fun _ _ y => y
  rcases List.mem_append.mp hp with hp | hp
  · refine ⟨(NC p hp).1, (NC p hp).2.1, ?_⟩
    cases q : (hideAll s.heap (news.map (·.1))).get? p.1 with
    | none => rfl
    | some o => have := of_hideAll _ q; rw [(NC p hp).2.2] at this; cases this
  · exact ⟨hk₁ _ _ (N₁ p hp).1, Nat.ne_of_lt (Heap.lt_size (N₁ p hp).1), hideAll_none _ (List.mem_map_of_mem hp)⟩
end

/-- the call of f upon vs: it reads what Rd says of the frozen part, it holds the ledger l, gives r back and leaves l' in l's place -/
def Does (prog : Program) (w : World) (K : Frag) (p : Program) (loose : List Str) (mean : ExcName → Option Value) (mg mb : Str → Option Value) (tabs : List (Addr × Addr)) (f : Addr) (vs : List Value) (need : Nat) (Rd : Led → Prop) (l : Led) (Post : Value → Led → Prop) : Prop :=
  ∀ (dp un : Nat) (gd : Option (List Code)) (cn : Str) (cs : Scope) (a : Addr) (ccd : Value) (cl : List (Str × Addr)) (outer : List Env) (A₀ : Around) (base h₀ : Heap) (L : Addr) (m : Str → Option Value) (fr : Led) (s : Shared)
    (Q E : Value → Shared → Prop),
    Below A₀ base outer h₀ → Fr h₀ L s.heap m → K.In h₀ → News h₀ L s.heap (l ++ fr) → (∀ p ∈ fr, ∀ q ∈ l, p.1 ≠ q.1) → Rd fr → Top p loose mean mg mb h₀ → CodeAll tabs h₀ → cs.kind = .function → dp + need < recursionLimit → un + 8 * need < cLine →
    (∀ r l' h' tk', Fr h₀ L h' m → News h₀ L h' (l' ++ fr) → (∀ q ∈ l', ∀ p ∈ fr, p.1 ≠ q.1) → Post r l' → Q r { s with heap := h', toks := tk' }) →
    wpAny (model prog w) (ktrTop dp un gd cn cs L a ccd cl outer) (call (.ref f) vs) Q E s

theorem codeAll_keeps {h h' : Heap} (k : h.StaysIn h') : ∀ {tabs : List (Addr × Addr)}, CodeAll tabs h → CodeAll tabs h'
  | [], _ => trivial
  | _ :: _, x => ⟨x.1.keeps k, codeAll_keeps k x.2⟩

section
variable {h₀ g h : Heap} {L L' : Addr} {fr l : Led}
/-- what the callee made lies upon nothing that was frozen -/
theorem apart_of (N : News g L' h l) (hg : ∀ p ∈ fr, g.get? p.1 = some p.2) : ∀ q ∈ l, ∀ p ∈ fr, p.1 ≠ q.1 := fun q hq p hp e => by
  have := (N q hq).2.2
  rw [← e, hg p hp] at this
  cases this
end
section
variable {prog : Program} {w : World} {A A₀ : Around} {s : Shared} {K : Frag} {L : Addr} {h₀ base : Heap} {m mg mb : Str → Option Value} {news fr : Led} {p : Program} {loose : List Str} {mean : ExcName → Option Value}

theorem codeF_def {env : Env} {outer : List Env} {R : Result → Shared → Prop} {name qual : Str} {params : Arguments} {body : List Stmt} {scope : Scope} {dV kV doc pm cdv ct oc : Value} {an od : Option Addr} {osl : Array (Option Value)} {f : Addr} {args : Args} {binds : List (Str × Value)}
    (B : Below A₀ base outer h₀) (F : Fr h₀ L s.heap m) (X₀ : K.In h₀) (N : News h₀ L s.heap (news ++ fr)) (ap : ∀ p ∈ fr, ∀ q ∈ news, p.1 ≠ q.1) (T : Top p loose mean mg mb h₀) (hA : A.frames = some (env :: outer)) (hf : env.frame = some L) (hke : env.scope.kind = .function)
    (ho : K.lookup f = some ⟨oc, od, .func (fnOf name qual params body scope dV kV doc pm an cdv ct), osl⟩) (hcd : codeIn K cdv qual = true) (hroom : A.depth < recursionLimit)
    (hbind : BindsTo s (fnOf name qual params body scope dV kV doc pm an cdv ct) args binds) (hloc : ∀ y ∈ binds, scope.names.lookup y.1 = some .local)
    (h : ∀ g L' h₁, Fr h₀ L g m → Fr g L' h₁ (fun y => binds.reverse.lookup y) → News g L' h₁ news → Below A base (env :: outer) g → K.In g → Top p loose mean mg mb g → (∀ p ∈ fr, g.get? p.1 = some p.2) → (∀ p ∈ news, p.1 < L') →
      wpAny (model prog w) (A.deeper (envOf qual scope L' f cdv)) (execs body (envOf qual scope L' f cdv))
        (fun fl s' => LeaveK h₀ L m g (Kept h₀ L g fr R) (match fl with | .ret v => v | _ => .none) s')
        (fun e s' => wpAny (model prog w) (A.deeper (envOf qual scope L' f cdv)) (leaving (envOf qual scope L' f cdv) e) (fun _ s'' => R (.error e) s'') (fun e' s'' => R (.error e') s'') s')
        { s with heap := h₁, toks := s.toks + binds.length })
    (hco : scope.isCoroutine = false) (hgen : scope.isGenerator = false) (hk : scope.kind = .function)
    (hcell : ∀ x ∈ scope.names, x.2 ≠ .cell) : codeAny (model prog w) A (.call (.ref f) args) R s :=
  callF_plain (cl := []) B F N ap T.nolimit hA hf hke ((X₀.keeps F.keep) _ _ ho) rfl (codeRec_of (X₀.keeps F.keep) hcd) hroom hbind hloc (fun g L' h₁ FG F' N' B' st hg l => h g L' h₁ FG F' N' B' (X₀.keeps st) (T.keeps st) hg l) hcell hco hgen hk

theorem codeF_defC {env : Env} {outer : List Env} {R : Result → Shared → Prop} {name qual : Str} {params : Arguments} {body : List Stmt} {scope : Scope} {dV kV doc pm cdv ct oc : Value} {an od : Option Addr} {osl : Array (Option Value)} {f : Addr} {args : Args} {binds : List (Str × Value)}
    (B : Below A₀ base outer h₀) (F : Fr h₀ L s.heap m) (X₀ : K.In h₀) (N : News h₀ L s.heap (news ++ fr)) (ap : ∀ p ∈ fr, ∀ q ∈ news, p.1 ≠ q.1) (T : Top p loose mean mg mb h₀) (hA : A.frames = some (env :: outer)) (hf : env.frame = some L) (hke : env.scope.kind = .function)
    (ho : K.lookup f = some ⟨oc, od, .func (fnOf name qual params body scope dV kV doc pm an cdv ct), osl⟩) (hcd : codeIn K cdv qual = true) (hroom : A.depth < recursionLimit)
    (hbind : BindsTo s (fnOf name qual params body scope dV kV doc pm an cdv ct) args binds) (hkind : (binds.all fun y => scope.names.lookup y.1 == some .local || scope.names.lookup y.1 == some .cell) = true)
    (hnd : ((cellsFrom 0 scope.names []).map (·.1)).Nodup)
    (h : ∀ g L' h₁ tk cells, Fr h₀ L g m → Fr g L' h₁ (bindL (envOfC qual scope L' f cdv).kindOf binds fun _ => none) → News g L' h₁ (cells ++ news) →
      CellsAre (bindC (envOfC qual scope L' f cdv).kindOf binds fun _ => none) (cellsFrom (L' + 1) scope.names []) cells → Below A base (env :: outer) g → K.In g → Top p loose mean mg mb g → (∀ p ∈ fr, g.get? p.1 = some p.2) → (∀ p ∈ news, p.1 < L') →
      wpAny (model prog w) (A.deeper (envOfC qual scope L' f cdv)) (execs body (envOfC qual scope L' f cdv))
        (fun fl s' => LeaveK h₀ L m g (Kept h₀ L g fr R) (match fl with | .ret v => v | _ => .none) s')
        (fun e s' => wpAny (model prog w) (A.deeper (envOfC qual scope L' f cdv)) (leaving (envOfC qual scope L' f cdv) e) (fun _ s'' => R (.error e) s'') (fun e' s'' => R (.error e') s'') s')
        { s with heap := h₁, toks := tk })
    (hco : scope.isCoroutine = false) (hgen : scope.isGenerator = false) (hk : scope.kind = .function) : codeAny (model prog w) A (.call (.ref f) args) R s :=
  callF_cells B F N ap T.nolimit hA hf hke ((X₀.keeps F.keep) _ _ ho) rfl (codeRec_of (X₀.keeps F.keep) hcd) hroom hbind (kindsX hkind) hnd (fun g L' h₁ tk cells FG F' N' Y B' st hg l => h g L' h₁ tk cells FG F' N' Y B' (X₀.keeps st) (T.keeps st) hg l) hco hgen hk

theorem codeF_nest {env : Env} {outer : List Env} {R : Result → Shared → Prop} {name qual : Str} {params : Arguments} {body : List Stmt} {scope : Scope} {cl : List (Str × Addr)} {doc pm ctv : Value} {c' : Addr} {f : Addr} {args : Args} {binds : List (Str × Value)}
    (B : Below A₀ base outer h₀) (F : Fr h₀ L s.heap m) (X₀ : K.In h₀) (N : News h₀ L s.heap (news ++ fr)) (ap : ∀ p ∈ fr, ∀ q ∈ news, p.1 ≠ q.1) (T : Top p loose mean mg mb h₀) (hA : A.frames = some (env :: outer)) (hf : env.frame = some L) (hke : env.scope.kind = .function)
    (ho : (f, fnMade name qual params body scope cl doc pm c' ctv) ∈ news) (hcd : s.heap.CodeRec (.ref c') qual) (hroom : A.depth < recursionLimit)
    (hbind : BindsTo s (fnX name qual params body scope cl .none .none doc pm none (.ref c') ctv) args binds) (hloc : ∀ y ∈ binds, scope.names.lookup y.1 = some .local)
    (h : ∀ g L' h₁, Fr h₀ L g m → Fr g L' h₁ (fun y => binds.reverse.lookup y) → News g L' h₁ news → Below A base (env :: outer) g → K.In g → Top p loose mean mg mb g → (∀ p ∈ fr, g.get? p.1 = some p.2) → (∀ p ∈ news, p.1 < L') →
      wpAny (model prog w) (A.deeper (envX qual scope L' f (.ref c') cl)) (execs body (envX qual scope L' f (.ref c') cl))
        (fun fl s' => LeaveK h₀ L m g (Kept h₀ L g fr R) (match fl with | .ret v => v | _ => .none) s')
        (fun e s' => wpAny (model prog w) (A.deeper (envX qual scope L' f (.ref c') cl)) (leaving (envX qual scope L' f (.ref c') cl) e) (fun _ s'' => R (.error e) s'') (fun e' s'' => R (.error e') s'') s')
        { s with heap := h₁, toks := s.toks + binds.length })
    (hco : scope.isCoroutine = false) (hgen : scope.isGenerator = false) (hk : scope.kind = .function)
    (hcell : ∀ x ∈ scope.names, x.2 ≠ .cell) : codeAny (model prog w) A (.call (.ref f) args) R s :=
  callF_plain (cl := cl) B F N ap T.nolimit hA hf hke (news_left N _ ho).1 rfl hcd hroom hbind hloc (fun g L' h₁ FG F' N' B' st hg l => h g L' h₁ FG F' N' B' (X₀.keeps st) (T.keeps st) hg l) hcell hco hgen hk
end

/-- led falls into l and fr -/
inductive Splits : Led → Led → Led → Prop
  | nil : Splits [] [] []
  | left {e l f : Led} {p : Addr × Obj} : Splits e l f → Splits (p :: e) (p :: l) f
  | right {e l f : Led} {p : Addr × Obj} : Splits e l f → Splits (p :: e) l (p :: f)
  | allL {l : Led} : Splits l l []
  | allR {f : Led} : Splits f [] f
theorem Splits.sub {e l f : Led} (x : Splits e l f) : ∀ p ∈ l ++ f, p ∈ e := by
  induction x with
  | nil => exact fun _ h => h
  | left _ ih =>
    intro q hq
    rcases List.mem_cons.mp hq with h | h
    · exact h ▸ .head _
    · exact .tail _ (ih q h)
  | right _ ih =>
    intro q hq
    rcases List.mem_append.mp hq with h | h
    · exact .tail _ (ih q (List.mem_append_left _ h))
    · rcases List.mem_cons.mp h with h | h
      · exact h ▸ .head _
      · exact .tail _ (ih q (List.mem_append_right _ h))
  | allL => intro q hq; simpa using hq
  | allR => intro q hq; simpa using hq

theorem does_use {prog : Program} {w : World} {K : Frag} {p : Program} {loose : List Str} {mean : ExcName → Option Value} {mg mb : Str → Option Value} {tabs : List (Addr × Addr)} {f : Addr} {vs : List Value} {need : Nat} {Rd : Led → Prop} {l : Led} {Post : Value → Led → Prop}
    (D : Does prog w K p loose mean mg mb tabs f vs need Rd l Post)
    {dp un : Nat} {gd : Option (List Code)} {cn : Str} {cs : Scope} {a : Addr} {ccd : Value} {cl : List (Str × Addr)} {outer : List Env} {A₀ : Around} {base h₀ : Heap} {L : Addr} {m : Str → Option Value} {led fr : Led} {s : Shared} {Q E : Value → Shared → Prop}
    (B : Below A₀ base outer h₀) (F : Fr h₀ L s.heap m) (X : K.In h₀) (N : News h₀ L s.heap led) (sp : Splits led l fr) (ap : ∀ p ∈ fr, ∀ q ∈ l, p.1 ≠ q.1) (rd : Rd fr) (T : Top p loose mean mg mb h₀) (C : CodeAll tabs h₀) (hk : cs.kind = .function)
    (hd : dp + need < recursionLimit) (hu : un + 8 * need < cLine)
    (k : ∀ r l' h' tk', Fr h₀ L h' m → News h₀ L h' (l' ++ fr) → (∀ q ∈ l', ∀ p ∈ fr, p.1 ≠ q.1) → Post r l' → Q r { s with heap := h', toks := tk' }) :
    wpAny (model prog w) (ktrTop dp un gd cn cs L a ccd cl outer) (call (.ref f) vs) Q E s :=
  D dp un gd cn cs a ccd cl outer A₀ base h₀ L m fr s Q E B F X (fun q hq => N q (sp.sub q hq)) ap rd T C hk hd hu k

inductive Pick (x : Addr × Obj) : Led → Led → Prop
  | head {r : Led} : Pick x (x :: r) r
  | tail {q : Addr × Obj} {r r' : Led} : Pick x r r' → Pick x (q :: r) (q :: r')
theorem Pick.sub {x : Addr × Obj} {l r : Led} (h : Pick x l r) : ∀ p ∈ x :: r, p ∈ l := by
  induction h with
  | head => exact fun _ h => h
  | tail _ ih =>
    intro p hp
    rcases List.mem_cons.mp hp with h | h
    · exact .tail _ (ih p (h ▸ .head _))
    · rcases List.mem_cons.mp h with h | h
      · exact h ▸ .head _
      · exact .tail _ (ih p (.tail _ h))
/-- the table of the code objects of a def that makes one def: nothing made yet, or the one -/
def TabOne (P : Addr) (pos : Pos) (qual : Str) (T : Led) : Prop :=
  T = [(P, tabObj #[])] ∨ ∃ c' oc vs t, T = [(P, tabObj #[rawInt pos.line, rawInt pos.col, .ref c']), (c', oc)] ∧ @Ne Nat c' P ∧ oc.data = .fields vs ∧ vs[1]? = some (.str qual t)
/-- new objects, and the tables as they stand now -/
def PostT (Tb : Led → Prop) (Sh : Value → Led → Prop) (r : Value) (l' : Led) : Prop := ∃ new T', l' = new ++ T' ∧ Tb T' ∧ (∀ p ∈ T', ∀ q ∈ new, p.1 ≠ q.1) ∧ Sh r new
end Mine

end
section
set_option maxRecDepth 100000
open PySem PySem.W PyProof.Rows PySem.Spec PySem.Calls
namespace Mine
section
variable {prog : Program} {w : World} {A : Around} {E : Value → Shared → Prop} {s : Shared}
/-- an item of a list of ints at a place that lies in it -/
theorem item_at {value slice : Expr} {l : Addr} {vs : List Value} {ns : List Int} {k : Int} {u : Tok} {Q : Value → Shared → Prop}
    (hl : s.heap.IsList l vs.toArray) (hi : IntsAre vs ns) (h0 : 0 ≤ k) (hb : k < (ns.length : Int)) (hz : ns.length ≤ 100000)
    (h : ∀ y t, ns[k.toNat]? = some y → Q (.int y t) s)
    (hs : subscripted slice false (.ref l) (.int k u) = operate [.ref l, .int k u] (getItem (.ref l) (.int k u)) := by with_unfolding_all rfl) :
    wpAny (model prog w) A (subscriptTail value slice (.ref l) (.int k u)) Q E s := by
  have hlt : k.toNat < ns.length := by omega
  obtain ⟨t, ht⟩ := hi.get k.toNat ns[k.toNat] (by simp [hlt])
  exact tail_any hl.typeIs slot_list_getitem.lookup (wpAny_getItem_list hl h0 (by omega) (by simpa using ht) (h _ t (by simp [hlt]))) hs
end

def countLt (ns : List Int) (x : Int) : Nat := ns.countP (fun y => decide (y < x))
/-- x laid into ns, ahead of the first that does not lie below it -/
def insL (ns : List Int) (x : Int) : List Int := ns.take (countLt ns x) ++ x :: ns.drop (countLt ns x)
theorem countLt_le (ns : List Int) (x : Int) : countLt ns x ≤ ns.length := List.countP_le_length
theorem insL_length (ns : List Int) (x : Int) : (insL ns x).length = ns.length + 1 := by
  have := countLt_le ns x
  unfold insL
  rw [List.length_append, List.length_cons, List.length_take, List.length_drop]
  omega
section
variable {prog : Program} {w : World} {A : Around} {E : Value → Shared → Prop} {s : Shared} {h₀ : Heap} {L D : Addr} {m : Str → Option Value} {news news' : Led}
theorem ins_at {vs : List Value} {ns : List Int} {n : Nat} {x : Int} {t u : Tok} {Q : Value → Shared → Prop} (F : Fr h₀ L s.heap m) (N : News h₀ L s.heap news) (hi : IntsAre vs ns) (hz : ns.length ≤ 1000)
    (U : Upd D (listOf vs.toArray n) (listOf (vs.take (countLt ns x) ++ .int x t :: vs.drop (countLt ns x)).toArray (n + 1)) news news')
    (h : ∀ h', Fr h₀ L h' m → News h₀ L h' news' → IntsAre (vs.take (countLt ns x) ++ .int x t :: vs.drop (countLt ns x)) (insL ns x) → Q .none { s with heap := h' }) :
    wpAny (model prog w) A (call (.builtin "list.insert") [.ref D, .int (countLt ns x : Nat) u, .int x t]) Q E s := by
  have hle := countLt_le ns x
  have hlen := hi.length
  refine kl_insert F N ?_ ?_ U ?_ (fun h' F' N' => h h' F' N' (IntsAre.append (hi.take _) (.cons x t (hi.drop _))))
  · unfold Builtin.List.listFitsIndex
    simp
    omega
  · unfold kl_ins
    have e : (if ((countLt ns x : Nat) : Int) < 0 then (((countLt ns x : Nat) : Int) + (vs.toArray.toList.length : Int)).toNat else min ((countLt ns x : Nat) : Int).toNat vs.toArray.toList.length) = countLt ns x := by
      rw [if_neg (by omega)]
      simp
      omega
    rw [e]
  · rw [sizeLine_eq]
    simp
    omega
end

abbrev tup2 (k : Nat) (a : Int) (t1 : Tok) (b : Int) (t2 : Tok) : Obj := { cls := .type "tuple", data := .seq #[.int a t1, .int b t2] k }
theorem intBits_le {a : Int} (h : a < 2 ^ 62) (h0 : 0 ≤ a) : ((Builtin.Int.intBits a : Nat) : Int) ≤ 64 := by
  unfold Builtin.Int.intBits
  split
  · omega
  · rename_i hne
    have hne' : a ≠ 0 := by simpa using hne
    have : a.natAbs.log2 < 62 := (Nat.log2_lt (by omega)).mpr (by omega)
    omega

section
variable {prog : Program} {w : World} {A : Around} {E : Value → Shared → Prop} {s : Shared} {h₀ : Heap} {L D : Addr} {m : Str → Option Value} {news news' : Led}
theorem divmod_at {a b : Int} {t u : Tok} {Q : Value → Shared → Prop} (F : Fr h₀ L s.heap m) (N : News h₀ L s.heap news) (hb : 0 < b) (hB : b < 2 ^ 30) (_ha : 0 ≤ a) (_hA : a < 2 ^ 62)
    (h : ∀ D k t1 t2 h' tk', Fr h₀ L h' m → News h₀ L h' ((D, tup2 k (a / b) t1 (a % b) t2) :: news) → (∀ p ∈ news, p.1 < D) → Q (.ref D) { s with heap := h', toks := tk' }) :
    wpAny (model prog w) A (call (.builtin "divmod") [.int a t, .int b u]) Q E s := by
  refine divmod_N F N (by omega) (fun h' F' N' => ?_) (.inl (PyProof.noPylong_small (by omega)))
  rw [Int.fdiv_eq_ediv_of_nonneg _ (Int.le_of_lt hb), Int.fmod_eq_emod_of_nonneg _ (Int.le_of_lt hb)] at N'
  exact h _ _ _ _ h' _ F' N' fun p hp => Heap.lt_size (N p hp).1
end

theorem and_high (x k : Nat) : x &&& (x / 2 ^ k * 2 ^ k) = x / 2 ^ k * 2 ^ k := by
  rw [← Nat.shiftRight_eq_div_pow, ← Nat.shiftLeft_eq]
  apply Nat.eq_of_testBit_eq
  intro i
  rw [Nat.testBit_and, Nat.testBit_shiftLeft, Nat.testBit_shiftRight]
  by_cases h : k ≤ i
  · have : k + (i - k) = i := by omega
    rw [this]; simp [h]
  · simp [h]
theorem xor_low {x : Int} (k : Nat) (h0 : 0 ≤ x) : Builtin.bitXor x (x / 2 ^ k * 2 ^ k) = x % 2 ^ k := by
  obtain ⟨n, rfl⟩ := Int.eq_ofNat_of_zero_le h0
  have e : ((n : Int) / 2 ^ k * 2 ^ k) = ((n / 2 ^ k * 2 ^ k : Nat) : Int) := by norm_cast
  rw [bitXor_and, e]
  have a : Builtin.bitAnd (n : Int) ((n / 2 ^ k * 2 ^ k : Nat) : Int) = ((n / 2 ^ k * 2 ^ k : Nat) : Int) := by
    rw [bitAnd_pp (Int.natCast_nonneg _) (Int.natCast_nonneg _), Int.toNat_natCast, Int.toNat_natCast, and_high]
  rw [a]
  have m : ((n : Int) % 2 ^ k) = ((n % 2 ^ k : Nat) : Int) := by norm_cast
  rw [m]
  have d := Nat.div_add_mod n (2 ^ k)
  have d2 : n / 2 ^ k * 2 ^ k = 2 ^ k * (n / 2 ^ k) := Nat.mul_comm _ _
  omega
section
variable {prog : Program} {w : World} {A : Around} {E : Value → Shared → Prop} {s : Shared}
theorem bits_small {a : Int} (h : a.natAbs < 2 ^ 62) : Builtin.Int.intBits a ≤ 64 := by
  unfold Builtin.Int.intBits
  split
  · omega
  · rename_i hne
    have hne' : a ≠ 0 := by simpa using hne
    have : a.natAbs.log2 < 62 := (Nat.log2_lt (by omega)).mpr h
    omega
theorem mul_at {a b : Int} {t u : Tok} {Q : Value → Shared → Prop} (hb : b.natAbs < 2 ^ 62) (h : ∀ t' tk, Q (.int (a * b) t') { s with toks := tk }) : wpAny (model prog w) A (binaryOp .Mult (.int a t) (.int b u)) Q E s :=
  mul_int (h _ _) (.of_right (bits_small hb))
theorem shr_at {a n : Int} {t u : Tok} {Q : Value → Shared → Prop} (hn : 0 ≤ n) (h : ∀ t' tk, Q (.int (a / 2 ^ n.toNat) t') { s with toks := tk }) : wpAny (model prog w) A (binaryOp .RShift (.int a t) (.int n u)) Q E s := by
  refine rshift_int hn ?_
  rw [Int.fdiv_eq_ediv_of_nonneg _ (Int.pow_nonneg (by decide))]
  exact h _ _
theorem shr1_at {a : Int} {t u : Tok} {Q : Value → Shared → Prop} (h : ∀ t' tk, Q (.int (a / 2) t') { s with toks := tk }) : wpAny (model prog w) A (binaryOp .RShift (.int a t) (.int 1 u)) Q E s :=
  shr_at (by decide) h
theorem shl_at {a n : Int} {t u : Tok} {Q : Value → Shared → Prop} (hn : 0 ≤ n) (hn2 : n ≤ 1000000) (ha : a.natAbs < 2 ^ 62) (h : ∀ t' tk, Q (.int (a * 2 ^ n.toNat) t') { s with toks := tk }) : wpAny (model prog w) A (binaryOp .LShift (.int a t) (.int n u)) Q E s :=
  lshift_int_small hn (by omega) (by omega) (h _ _)
theorem xor_at {x : Int} {k : Nat} {t u : Tok} {Q : Value → Shared → Prop} (h0 : 0 ≤ x) (h : ∀ t' tk, Q (.int (x % 2 ^ k) t') { s with toks := tk }) : wpAny (model prog w) A (binaryOp .BitXor (.int x t) (.int (x / 2 ^ k * 2 ^ k) u)) Q E s := by
  refine xor_int ?_
  rw [xor_low k h0]
  exact h _ _
end

section
variable {prog : Program} {w : World} {A : Around} {E : Value → Shared → Prop} {s : Shared} {h₀ : Heap} {L D : Addr} {m : Str → Option Value} {news news' : Led}
theorem fdiv_at {a b : Int} {t u : Tok} {Q : Value → Shared → Prop} (hb : 0 < b) (hB : b < 2 ^ 30) (h : ∀ t' tk, Q (.int (a / b) t') { s with toks := tk }) : wpAny (model prog w) A (binaryOp .FloorDiv (.int a t) (.int b u)) Q E s := by
  refine AutoIntOps.floordiv_1 (by simp; omega) (by rw [PyProof.noPylong_small (by omega)]; simp) ?_
  rw [Int.fdiv_eq_ediv_of_nonneg _ (Int.le_of_lt hb)]
  exact h _ _
theorem mod_at {a b : Int} {t u : Tok} {Q : Value → Shared → Prop} (hb : 0 < b) (h : ∀ t' tk, Q (.int (a % b) t') { s with toks := tk }) : wpAny (model prog w) A (binaryOp .Mod (.int a t) (.int b u)) Q E s := by
  refine AutoIntOps.mod_1 (by simp; omega) ?_
  rw [Int.fmod_eq_emod_of_nonneg _ (Int.le_of_lt hb)]
  exact h _ _
theorem rep_at {l : Addr} {vs : List Value} {z x : Int} {u : Tok} {Q : Value → Shared → Prop} (F : Fr h₀ L s.heap m) (N : News h₀ L s.heap news) (hl : s.heap.IsList l vs.toArray) (hi : IntsAre vs [z]) (h0 : 0 ≤ x) (h1 : x ≤ 1000)
    (h : ∀ D vs' h', Fr h₀ L h' m → News h₀ L h' ((D, listOf vs'.toArray 0) :: news) → (∀ p ∈ news, p.1 < D) → IntsAre vs' (List.replicate x.toNat z) → Q (.ref D) { s with heap := h' }) :
    wpAny (model prog w) A (binaryOp .Mult (.ref l) (.int x u)) Q E s := by
  refine KM.mul F N hl hi (by omega) (by omega) ?_ fun D h' F' N' l1 i1 _ _ _ _ _ => h D _ h' F' N' l1 ?_
  · have : vs.length = 1 := hi.length
    rw [this]; omega
  · rwa [List.flatten_replicate_singleton] at i1
end

section
variable {prog : Program} {w : World} {A : Around} {E : Value → Shared → Prop} {s : Shared}
theorem len_at {l : Addr} {vs : List Value} {ns : List Int} {Q : Value → Shared → Prop} (hl : s.heap.IsList l vs.toArray) (hi : IntsAre vs ns) (hz : ns.length ≤ 100000)
    (h : ∀ t tk, Q (.int (ns.length : Nat) t) { s with toks := tk }) : wpAny (model prog w) A (call (.builtin "len") [.ref l]) Q E s := by
  have e : vs.toArray.size = ns.length := by rw [List.size_toArray]; exact hi.length
  refine Calls.call_len_list hl (by omega) ?_
  rw [e]
  exact h _ _
end

section
variable {prog : Program} {w : World} {A : Around} {E : Value → Shared → Prop} {s : Shared} {h₀ : Heap} {L D : Addr} {m : Str → Option Value} {news news' : Led}
theorem app_at {vs : List Value} {ns : List Int} {n : Nat} {x : Int} {t : Tok} {Q : Value → Shared → Prop} (F : Fr h₀ L s.heap m) (N : News h₀ L s.heap news) (hi : IntsAre vs ns) (hz : ns.length ≤ 1000)
    (U : Upd D (listOf vs.toArray n) (listOf (vs ++ [Value.int x t]).toArray (n + 1)) news news')
    (h : ∀ h', Fr h₀ L h' m → News h₀ L h' news' → IntsAre (vs ++ [Value.int x t]) (ns ++ [x]) → Q .none { s with heap := h' }) :
    wpAny (model prog w) A (call (.builtin "list.append") [.ref D, .int x t]) Q E s := by
  obtain ⟨pre, post, rfl, rfl, a, c⟩ := U.split
  have z := N (D, listOf vs.toArray n) (List.mem_append.mpr (.inr (.head _)))
  refine append_at (hsz := by rw [List.size_toArray, hi.length, sizeLine_eq]; omega) z.1 fun h' hs hD => ?_
  have e : vs.toArray.push (.int x t) = (vs ++ [Value.int x t]).toArray := by simp
  rw [e] at hD
  exact h h' (F.change hs z.2.1 z.2.2) (news_set N a c hs hD) (IntsAre.append hi (.cons x t .nil))
theorem rev_at {vs : List Value} {ns : List Int} {n : Nat} {Q : Value → Shared → Prop} (F : Fr h₀ L s.heap m) (N : News h₀ L s.heap news) (hi : IntsAre vs ns) (hz : ns.length ≤ 1000)
    (U : Upd D (listOf vs.toArray n) (listOf vs.reverse.toArray n) news news')
    (h : ∀ h', Fr h₀ L h' m → News h₀ L h' news' → IntsAre vs.reverse ns.reverse → Q .none { s with heap := h' }) :
    wpAny (model prog w) A (call (.builtin "list.reverse") [.ref D]) Q E s := by
  have hl := hi.length
  refine kl_reverse F N (by simp) U (by rw [sizeLine_eq]; simp; omega) fun h' F' N' => h h' F' N' (PyProof.Rows.IntsAre.reverse hi)
end

section
variable {prog : Program} {w : World} {A : Around} {E : Value → Shared → Prop} {s : Shared}
theorem inv_at {a : Int} {t : Tok} {Q : Value → Shared → Prop} (h : ∀ t' tk, Q (.int (-a - 1) t') { s with toks := tk }) : wpAny (model prog w) A (unaryOp .Invert (.int a t)) Q E s := by
  refine invert_int ?_
  have e : Builtin.bitNot a = -a - 1 := by unfold Builtin.bitNot; omega
  rw [e]
  exact h _ _
end
end Mine

end
section
set_option maxRecDepth 100000
open PySem PySem.W PyProof.Rows PySem.Spec PySem.Calls
namespace Mine
structure BisI (ns : List Int) (x lo hi : Int) : Prop where
  lo0 : 0 ≤ lo
  le : lo ≤ hi
  hi1 : hi ≤ (ns.length : Int)
  low : ∀ (i : Nat) (y : Int), (i : Int) < lo → ns[i]? = some y → y < x
  high : ∀ (i : Nat) (y : Int), hi ≤ (i : Int) → ns[i]? = some y → x ≤ y
theorem bisI_start {ns : List Int} {x : Int} : BisI ns x 0 (ns.length : Int) :=
  ⟨Int.le_refl _, by omega, Int.le_refl _, fun i y h => by omega, fun i y h e => by
    have : i < ns.length := by
      rcases Nat.lt_or_ge i ns.length with h | h
      · exact h
      · rw [List.getElem?_eq_none h] at e; cases e
    omega⟩
theorem pw_get {ns : List Int} (hs : ns.Pairwise (· ≤ ·)) {i j : Nat} {a b : Int} (hij : i ≤ j) (ha : ns[i]? = some a) (hb : ns[j]? = some b) : a ≤ b := by
  obtain ⟨hi, rfl⟩ := List.getElem?_eq_some_iff.mp ha
  obtain ⟨hj, rfl⟩ := List.getElem?_eq_some_iff.mp hb
  rcases Nat.lt_or_eq_of_le hij with h | h
  · exact List.pairwise_iff_getElem.mp hs i j hi hj h
  · subst h; exact Int.le_refl _
theorem bisI_up {ns : List Int} {x lo hi y : Int} (hs : ns.Pairwise (· ≤ ·)) (I : BisI ns x lo hi) (h : lo < hi) (hy : ns[((lo + hi) / 2).toNat]? = some y) (hlt : y < x) : BisI ns x ((lo + hi) / 2 + 1) hi :=
  ⟨by have := I.lo0; omega, by omega, I.hi1, fun i z hz e => by
    have h0 := I.lo0
    have := pw_get hs (i := i) (j := ((lo + hi) / 2).toNat) (by omega) e hy
    omega, I.high⟩
theorem bisI_down {ns : List Int} {x lo hi y : Int} (hs : ns.Pairwise (· ≤ ·)) (I : BisI ns x lo hi) (h : lo < hi) (hy : ns[((lo + hi) / 2).toNat]? = some y) (hlt : ¬ y < x) : BisI ns x lo ((lo + hi) / 2) :=
  ⟨I.lo0, by omega, by have := I.hi1; omega, I.low, fun i z hz e => by
    have h0 := I.lo0
    have := pw_get hs (i := ((lo + hi) / 2).toNat) (j := i) (by omega) hy e
    omega⟩
theorem countP_split (q : Int → Bool) : ∀ (ns : List Int) (k : Nat), k ≤ ns.length → (∀ (i : Nat) (y : Int), i < k → ns[i]? = some y → q y = true) → (∀ (i : Nat) (y : Int), k ≤ i → ns[i]? = some y → q y = false) → ns.countP q = k
  | [], k, h, _, _ => by simp at h; simp [h]
  | a :: r, 0, _, _, h2 => by
    have := countP_split q r 0 (Nat.zero_le _) (fun i y h => absurd h (Nat.not_lt_zero _)) (fun i y _ e => h2 (i + 1) y (Nat.zero_le _) (by simpa using e))
    rw [List.countP_cons, this, h2 0 a (Nat.le_refl _) rfl]; rfl
  | a :: r, k + 1, h, h1, h2 => by
    have := countP_split q r k (by simpa using h) (fun i y hi e => h1 (i + 1) y (by omega) (by simpa using e)) (fun i y hi e => h2 (i + 1) y (by omega) (by simpa using e))
    rw [List.countP_cons, this, h1 0 a (by omega) rfl]; rfl
theorem bisI_end {ns : List Int} {x lo hi : Int} (I : BisI ns x lo hi) (h : ¬ lo < hi) : lo = (countLt ns x : Nat) := by
  have h0 := I.lo0
  have h1 := I.le
  have h2 := I.hi1
  have := countP_split (fun y => decide (y < x)) ns lo.toNat (by omega) (fun i y hi e => by simpa using I.low i y (by omega) e) (fun i y hi e => by simpa using I.high i y (by omega) e)
  unfold countLt
  rw [this]; omega
end Mine

end
section
set_option maxRecDepth 100000
open PySem PySem.W PyProof.Rows PySem.Spec PySem.Calls
namespace Mine
/-- k figures of x to the base 2^n, the least first -/
def digs (x n : Nat) : Nat → List Int
  | 0 => []
  | k + 1 => ((x % 2 ^ n : Nat) : Int) :: digs (x / 2 ^ n) n k
theorem digs_length (n : Nat) : ∀ (k x : Nat), (digs x n k).length = k
  | 0, _ => rfl
  | k + 1, x => by rw [digs, List.length_cons, digs_length n k]
theorem digs_split (n j : Nat) : ∀ (i x : Nat), digs x n (i + j) = digs (x % 2 ^ (n * i)) n i ++ digs (x / 2 ^ (n * i)) n j
  | 0, x => by simp [digs]
  | i + 1, x => by
    have e : i + 1 + j = (i + j) + 1 := by omega
    have h : 2 ^ (n * (i + 1)) = 2 ^ n * 2 ^ (n * i) := by rw [← Nat.pow_add]; congr 1; rw [Nat.mul_succ]; omega
    rw [e, digs, digs_split n j i, digs, h, List.cons_append, Nat.mod_mul_right_div_self, Nat.div_div_eq_div_mul, Nat.mod_mul_right_mod]
def setDigs (ns : List Int) (L R x n : Int) : List Int := ns.take L.toNat ++ (digs x.toNat n.toNat (R - L).toNat ++ ns.drop R.toNat)
theorem setDigs_length {ns : List Int} {L R x n : Int} (h0 : 0 ≤ L) (h1 : L ≤ R) (h2 : R ≤ (ns.length : Int)) : (setDigs ns L R x n).length = ns.length := by
  unfold setDigs
  rw [List.length_append, List.length_append, List.length_take, List.length_drop, digs_length]
  omega
theorem setDigs_one {ns : List Int} {L R x n : Int} (h0 : 0 ≤ L) (h1 : L + 1 = R) (h2 : R ≤ (ns.length : Int)) (hx : 0 ≤ x) (hb : x.toNat < 2 ^ (n.toNat * (R - L).toNat)) : ns.set L.toNat x = setDigs ns L R x n := by
  have e1 : (R - L).toNat = 1 := by omega
  have e2 : R.toNat = L.toNat + 1 := by omega
  unfold setDigs
  rw [e1] at hb ⊢
  rw [Nat.mul_one] at hb
  rw [e2, digs, digs, Nat.mod_eq_of_lt hb, Int.toNat_of_nonneg hx, List.set_eq_take_append_cons_drop, if_pos (by omega)]
  rfl
theorem setDigs_two {ns : List Int} {L M R x n : Int} {s : Nat} (h0 : 0 ≤ L) (h1 : L ≤ M) (h2 : M ≤ R) (h3 : R ≤ (ns.length : Int)) (hx : 0 ≤ x) (hs : s = n.toNat * (M - L).toNat) :
    setDigs (setDigs ns L M (x % 2 ^ s) n) M R (x / 2 ^ s) n = setDigs ns L R x n := by
  obtain ⟨y, rfl⟩ := Int.eq_ofNat_of_zero_le hx
  obtain ⟨l, rfl⟩ := Int.eq_ofNat_of_zero_le h0
  obtain ⟨m, rfl⟩ := Int.eq_ofNat_of_zero_le (Int.le_trans h0 h1)
  obtain ⟨r, rfl⟩ := Int.eq_ofNat_of_zero_le (Int.le_trans h0 (Int.le_trans h1 h2))
  have a1 : ((m : Int) - l).toNat = m - l := by omega
  have a2 : ((r : Int) - m).toNat = r - m := by omega
  have a3 : ((r : Int) - l).toNat = (m - l) + (r - m) := by omega
  have q1 : ((y : Int) % 2 ^ s).toNat = y % 2 ^ s := by
    have : ((y : Int) % 2 ^ s) = ((y % 2 ^ s : Nat) : Int) := by norm_cast
    rw [this]; rfl
  have q2 : ((y : Int) / 2 ^ s).toNat = y / 2 ^ s := by
    have : ((y : Int) / 2 ^ s) = ((y / 2 ^ s : Nat) : Int) := by norm_cast
    rw [this]; rfl
  have b1 : (ns.take l).length = l := by rw [List.length_take]; omega
  unfold setDigs
  rw [a1, a2, a3, q1, q2, Int.toNat_natCast, Int.toNat_natCast, Int.toNat_natCast, Int.toNat_natCast, digs_split]
  rw [a1] at hs
  rw [← hs]
  have t1 : (ns.take l ++ (digs (y % 2 ^ s) n.toNat (m - l) ++ ns.drop m)).take m = ns.take l ++ digs (y % 2 ^ s) n.toNat (m - l) := by
    rw [← List.append_assoc]
    exact List.take_left' (by rw [List.length_append, b1, digs_length]; omega)
  have t2 : (ns.take l ++ (digs (y % 2 ^ s) n.toNat (m - l) ++ ns.drop m)).drop r = ns.drop r := by
    have c1 : (ns.take l ++ digs (y % 2 ^ s) n.toNat (m - l)).length = m := by rw [List.length_append, b1, digs_length]; omega
    rw [← List.append_assoc, List.drop_append, c1, List.drop_of_length_le (by omega), List.nil_append, List.drop_drop]
    congr 1
    omega
  rw [t1, t2]
  simp [List.append_assoc]

/-- what the inner def of _int2digits does with the list at D; l0: the rest of its ledger -/
def InnerC (prog : Program) (w : World) (K : Frag) (p : Program) (loose : List Str) (mean : ExcName → Option Value) (mg mb : Str → Option Value) (tabs : List (Addr × Addr)) (f : Addr) (l0 : Led) (D : Addr) (n : Int) (k : Nat) : Prop :=
  ∀ (x L R : Int) (t1 t2 t3 : Tok) (vs : List Value) (ns : List Int) (nn : Nat), IntsAre vs ns → 0 ≤ x → x < 2 ^ 62 → 0 ≤ L → L < R → R ≤ (ns.length : Int) → ns.length ≤ 64 → 1 ≤ n → n ≤ 64 → (R - L).toNat ≤ k → k ≤ 64 → x.toNat < 2 ^ (n.toNat * (R - L).toNat) →
    Does prog w K p loose mean mg mb tabs f [.int x t1, .int L t2, .int R t3] k (fun fr => fr = []) ((D, listOf vs.toArray nn) :: l0)
      (fun r l' => r = .none ∧ ∃ vs' nn', IntsAre vs' (setDigs ns L R x n) ∧ l' = (D, listOf vs'.toArray nn') :: l0)
theorem inner_use {prog : Program} {w : World} {K : Frag} {p : Program} {loose : List Str} {mean : ExcName → Option Value} {mg mb : Str → Option Value} {tabs : List (Addr × Addr)} {f : Addr} {l0 led : Led} {D : Addr} {n : Int} {kk : Nat}
    {x Lo R : Int} {t1 t2 t3 : Tok} {vs : List Value} {ns : List Int} {nn : Nat}
    {dp un : Nat} {gd : Option (List Code)} {cn : Str} {cs : Scope} {a : Addr} {ccd : Value} {cl : List (Str × Addr)} {outer : List Env} {A₀ : Around} {base h₀ : Heap} {L : Addr} {m : Str → Option Value} {s : Shared} {Q E : Value → Shared → Prop}
    (N : News h₀ L s.heap led) (pk : Pick (D, listOf vs.toArray nn) led l0) (hi : IntsAre vs ns) (IC : InnerC prog w K p loose mean mg mb tabs f l0 D n kk)
    (c1 : 0 ≤ x) (c2 : x < 2 ^ 62) (c3 : 0 ≤ Lo) (c4 : Lo < R) (c5 : R ≤ (ns.length : Int)) (c6 : ns.length ≤ 64) (c7 : 1 ≤ n) (c8 : n ≤ 64) (c9 : (R - Lo).toNat ≤ kk) (c10 : kk ≤ 64) (c11 : x.toNat < 2 ^ (n.toNat * (R - Lo).toNat))
    (B : Below A₀ base outer h₀) (F : Fr h₀ L s.heap m) (X : K.In h₀) (T : Top p loose mean mg mb h₀) (C : CodeAll tabs h₀) (hk : cs.kind = .function)
    (hd : dp + kk < recursionLimit) (hu : un + 8 * kk < cLine)
    (k : ∀ vs' nn' h' tk', Fr h₀ L h' m → News h₀ L h' ((D, listOf vs'.toArray nn') :: l0) → IntsAre vs' (setDigs ns Lo R x n) → (setDigs ns Lo R x n).length = ns.length → Q .none { s with heap := h', toks := tk' }) :
    wpAny (model prog w) (ktrTop dp un gd cn cs L a ccd cl outer) (call (.ref f) [.int x t1, .int Lo t2, .int R t3]) Q E s := by
  refine does_use (IC x Lo R t1 t2 t3 vs ns nn hi c1 c2 c3 c4 c5 c6 c7 c8 c9 c10 c11) (fr := []) B F X (fun q hq => N q (pk.sub q hq)) .allL (fun _ h => nomatch h) rfl T C hk hd hu ?_
  rintro r l' h' tk' F' N' _ ⟨rfl, vs', nn', hi', rfl⟩
  exact k vs' nn' h' tk' F' (by simpa using N') hi' (setDigs_length c3 (Int.le_of_lt c4) c5)
theorem pow_lt_split {x s n d e : Nat} (hs : s = n * d) (h : x < 2 ^ (n * (d + e))) : x / 2 ^ s < 2 ^ (n * e) ∧ x % 2 ^ s < 2 ^ (n * d) := by
  subst hs
  refine ⟨?_, Nat.mod_lt _ (Nat.pow_pos (by decide))⟩
  rw [Nat.div_lt_iff_lt_mul (Nat.pow_pos (by decide)), ← Nat.pow_add]
  have : n * e + n * d = n * (d + e) := by rw [Nat.mul_add]; omega
  rw [this]; exact h
theorem up_lt {x n L M R : Int} {s : Nat} (hx : 0 ≤ x) (h1 : L ≤ M) (h2 : M ≤ R) (hs : s = n.toNat * (M - L).toNat) (h : x.toNat < 2 ^ (n.toNat * (R - L).toNat)) :
    (x / 2 ^ s).toNat < 2 ^ (n.toNat * (R - M).toNat) ∧ (x % 2 ^ s).toNat < 2 ^ (n.toNat * (M - L).toNat) := by
  obtain ⟨y, rfl⟩ := Int.eq_ofNat_of_zero_le hx
  have q1 : ((y : Int) % 2 ^ s).toNat = y % 2 ^ s := by
    have : ((y : Int) % 2 ^ s) = ((y % 2 ^ s : Nat) : Int) := by norm_cast
    rw [this]; rfl
  have q2 : ((y : Int) / 2 ^ s).toNat = y / 2 ^ s := by
    have : ((y : Int) / 2 ^ s) = ((y / 2 ^ s : Nat) : Int) := by norm_cast
    rw [this]; rfl
  rw [q1, q2]
  have e : (R - L).toNat = (M - L).toNat + (R - M).toNat := by omega
  rw [e] at h
  exact pow_lt_split hs h

def ndig (a n : Int) : Nat := ((((Builtin.Int.intBits a : Nat) : Int) + n - 1) / n).toNat
theorem ndig_facts {a n : Int} (ha : 0 ≤ a) (hA : a < 2 ^ 62) (hn : 1 ≤ n) : 0 ≤ (((Builtin.Int.intBits a : Nat) : Int) + n - 1) / n ∧ (((Builtin.Int.intBits a : Nat) : Int) + n - 1) / n ≤ 64 ∧ (a = 0 → (((Builtin.Int.intBits a : Nat) : Int) + n - 1) / n = 0) ∧ (a ≠ 0 → 0 < (((Builtin.Int.intBits a : Nat) : Int) + n - 1) / n) ∧
    a.toNat < 2 ^ (n.toNat * ((((Builtin.Int.intBits a : Nat) : Int) + n - 1) / n).toNat) := by
  have hb := intBits_le hA ha
  generalize hB : Builtin.Int.intBits a = b at hb ⊢
  have hdm := Int.ediv_mul_add_emod ((b : Int) + n - 1) n
  have hm0 := Int.emod_nonneg ((b : Int) + n - 1) (show n ≠ 0 by omega)
  have hm1 := Int.emod_lt_of_pos ((b : Int) + n - 1) (show 0 < n by omega)
  generalize ((b : Int) + n - 1) / n = q at hdm ⊢
  generalize ((b : Int) + n - 1) % n = r at hdm hm0 hm1
  have hq0 : 0 ≤ q := by
    rcases Int.lt_or_le q 0 with h | h
    · have : q * n ≤ -1 * n := Int.mul_le_mul_of_nonneg_right (by omega) (by omega)
      omega
    · exact h
  have hge : (b : Int) ≤ q * n := by omega
  have hq64 : q ≤ 64 := by
    rcases Int.lt_or_le 64 q with h | h
    · have : 65 * n ≤ q * n := Int.mul_le_mul_of_nonneg_right (by omega) (by omega)
      omega
    · exact h
  have hqb : b = 0 → q = 0 := fun h0 => by
    rcases Int.lt_or_le 0 q with h | h
    · have : 1 * n ≤ q * n := Int.mul_le_mul_of_nonneg_right (by omega) (by omega)
      omega
    · omega
  have hpos : b ≠ 0 → 0 < q := fun h0 => by
    rcases Int.lt_or_le 0 q with h | h
    · exact h
    · have : q = 0 := by omega
      rw [this] at hge; omega
  have hbz : a = 0 ↔ b = 0 := by
    subst hB
    unfold Builtin.Int.intBits
    split
    · rename_i h; simp at h; simp [h]
    · rename_i h; simp at h; simp [h]
  refine ⟨hq0, hq64, fun h => hqb (hbz.mp h), fun h => hpos (fun e => h (hbz.mpr e)), ?_⟩
  have hlt : a.toNat < 2 ^ b := by
    subst hB
    unfold Builtin.Int.intBits
    split
    · rename_i h; simp at h; simp [h]
    · have e : a.natAbs = a.toNat := by omega
      rw [e]; exact Nat.lt_log2_self
  refine Nat.lt_of_lt_of_le hlt (Nat.pow_le_pow_right (by decide) ?_)
  obtain ⟨n', rfl⟩ := Int.eq_ofNat_of_zero_le (show 0 ≤ n by omega)
  obtain ⟨q', rfl⟩ := Int.eq_ofNat_of_zero_le hq0
  rw [Int.toNat_natCast, Int.toNat_natCast]
  have : (b : Int) ≤ ((q' * n' : Nat) : Int) := by push_cast; exact hge
  rw [Nat.mul_comm]; omega

theorem cast_mod (y s : Nat) : ((y : Int) % 2 ^ s) = ((y % 2 ^ s : Nat) : Int) := by norm_cast
theorem cast_div (y s : Nat) : ((y : Int) / 2 ^ s) = ((y / 2 ^ s : Nat) : Int) := by norm_cast
theorem low_facts {x : Int} (s : Nat) (h0 : 0 ≤ x) (h1 : x < 2 ^ 62) : 0 ≤ x / 2 ^ s ∧ x / 2 ^ s < 2 ^ 62 ∧ 0 ≤ x % 2 ^ s ∧ x % 2 ^ s < 2 ^ 62 := by
  obtain ⟨y, rfl⟩ := Int.eq_ofNat_of_zero_le h0
  rw [cast_mod, cast_div]
  have a1 := Nat.div_le_self y (2 ^ s)
  have a2 := Nat.mod_le y (2 ^ s)
  generalize y / 2 ^ s = d at a1 ⊢
  generalize y % 2 ^ s = e at a2 ⊢
  omega
theorem inner_facts {x L R n : Int} {len : Nat} (hx : 0 ≤ x) (hx2 : x < 2 ^ 62) (hL : 0 ≤ L) (hLR : L < R) (hR : R ≤ (len : Int)) (hlen : len ≤ 64) (hn1 : 1 ≤ n) (hn2 : n ≤ 64) (hlt : x.toNat < 2 ^ (n.toNat * (R - L).toNat)) :
    0 ≤ ((L + R) / 2 - L) * n ∧ ((L + R) / 2 - L) * n ≤ 1000000 ∧ 0 ≤ x / 2 ^ (((L + R) / 2 - L) * n).toNat ∧ x / 2 ^ (((L + R) / 2 - L) * n).toNat < 2 ^ 62 ∧ 0 ≤ x % 2 ^ (((L + R) / 2 - L) * n).toNat ∧ x % 2 ^ (((L + R) / 2 - L) * n).toNat < 2 ^ 62 ∧
    (x / 2 ^ (((L + R) / 2 - L) * n).toNat).toNat < 2 ^ (n.toNat * (R - (L + R) / 2).toNat) ∧ (x % 2 ^ (((L + R) / 2 - L) * n).toNat).toNat < 2 ^ (n.toNat * ((L + R) / 2 - L).toNat) ∧
    ∀ ns : List Int, ns.length = len → setDigs (setDigs ns L ((L + R) / 2) (x % 2 ^ (((L + R) / 2 - L) * n).toNat) n) ((L + R) / 2) R (x / 2 ^ (((L + R) / 2 - L) * n).toNat) n = setDigs ns L R x n := by
  have h1 : 0 ≤ (L + R) / 2 - L := by omega
  have h2 : (L + R) / 2 - L ≤ 64 := by omega
  have hs : (((L + R) / 2 - L) * n).toNat = n.toNat * ((L + R) / 2 - L).toNat := by
    obtain ⟨d, hd⟩ := Int.eq_ofNat_of_zero_le h1
    obtain ⟨e, he⟩ := Int.eq_ofNat_of_zero_le (show 0 ≤ n by omega)
    rw [hd, he, ← Int.natCast_mul, Int.toNat_natCast, Int.toNat_natCast, Int.toNat_natCast, Nat.mul_comm]
  have hm : ((L + R) / 2 - L) * n ≤ 64 * 64 := Int.mul_le_mul h2 hn2 (by omega) (by decide)
  obtain ⟨l1, l2, l3, l4⟩ := low_facts (((L + R) / 2 - L) * n).toNat hx hx2
  obtain ⟨u1, u2⟩ := up_lt (M := (L + R) / 2) hx (by omega) (by omega) hs hlt
  exact ⟨Int.mul_nonneg h1 (by omega), by omega, l1, l2, l3, l4, u1, u2, fun ns e => setDigs_two hL (by omega) (by omega) (by omega) hx hs⟩

theorem inner_ind {prog : Program} {w : World} {K : Frag} {p : Program} {loose : List Str} {mean : ExcName → Option Value} {mg mb : Str → Option Value} {tabs : List (Addr × Addr)} {f : Addr} {l0 : Led} {D : Addr} {n : Int}
    (h : ∀ k, InnerC prog w K p loose mean mg mb tabs f l0 D n k → InnerC prog w K p loose mean mg mb tabs f l0 D n (k + 1)) : ∀ k, InnerC prog w K p loose mean mg mb tabs f l0 D n k
  | 0 => fun x L R t1 t2 t3 vs ns nn _ _ _ _ hlt _ _ _ _ hk => absurd hk (by omega)
  | k + 1 => h k (inner_ind h k)

theorem inner_back {h₀ h' : Heap} {Lo : Addr} {m : Str → Option Value} {s : Shared} {tk' : Nat} {Q : Value → Shared → Prop} {D : Addr} {l0 : Led} {Z : List Int} {vs' : List Value} {nn' : Nat}
    (hret : ∀ r l' h' tk', Fr h₀ Lo h' m → News h₀ Lo h' (l' ++ []) → (∀ q ∈ l', ∀ p ∈ ([] : Led), p.1 ≠ q.1) → (fun r l' => r = .none ∧ ∃ vs' nn', IntsAre vs' Z ∧ l' = (D, listOf vs'.toArray nn') :: l0) r l' → Q r { s with heap := h', toks := tk' })
    (F : Fr h₀ Lo h' m) (N : News h₀ Lo h' ((D, listOf vs'.toArray nn') :: l0)) (hi : IntsAre vs' Z) : Q .none { s with heap := h', toks := tk' } :=
  hret .none ((D, listOf vs'.toArray nn') :: l0) h' tk' F (by simpa using N) (fun _ _ _ h => nomatch h) ⟨rfl, vs', nn', hi, rfl⟩
theorem inner_end1 {vs : List Value} {ns : List Int} {L R x n : Int} (hi : IntsAre vs (ns.set L.toNat x)) (h0 : 0 ≤ L) (h1 : L + 1 = R) (h2 : R ≤ (ns.length : Int)) (hx : 0 ≤ x) (hb : x.toNat < 2 ^ (n.toNat * (R - L).toNat)) : IntsAre vs (setDigs ns L R x n) :=
  setDigs_one h0 h1 h2 hx hb ▸ hi

theorem tab_end {h₀ g h' hh : Heap} {Lo L' : Addr} {m : Str → Option Value} {s : Shared} {tk' : Nat} {Q : Value → Shared → Prop} {fr led new : Led} {P c' : Addr} {pos : Pos} {qual q : Str} {oc : Obj} {cs : Array Value} {t : Tok} {ps : Array Value} {Sh : Value → Led → Prop} {r : Value}
    (hret : ∀ r l' h' tk', Fr h₀ Lo h' m → News h₀ Lo h' (l' ++ fr) → (∀ q ∈ l', ∀ p ∈ fr, p.1 ≠ q.1) → PostT (TabOne P pos qual) Sh r l' → Q r { s with heap := h', toks := tk' })
    (F : Fr h₀ Lo h' m) (N : News h₀ Lo h' led) (Ng : News g L' hh led) (NF : News h₀ Lo h' fr) (hgf : ∀ p ∈ fr, g.get? p.1 = some p.2)
    (hnew : ∀ p ∈ new, p ∈ led) (hP : (P, tabObj ps) ∈ led) (hc : (c', oc) ∈ led) (hps : ps = #[rawInt pos.line, rawInt pos.col, .ref c']) (hne : @Ne Nat c' P) (hd : oc.data = .fields cs) (hv : cs[1]? = some (.str q t)) (hq : q = qual)
    (h1 : ∀ p ∈ new, @Ne Nat P p.1) (h2 : ∀ p ∈ new, @Ne Nat c' p.1) (sh : Sh r new) : Q r { s with heap := h', toks := tk' } := by
  subst hps hq
  have sub : ∀ p ∈ new ++ [(P, tabObj #[rawInt pos.line, rawInt pos.col, .ref c']), (c', oc)], p ∈ led := fun p hp => by
    rcases List.mem_append.mp hp with h | h
    · exact hnew p h
    · rcases List.mem_cons.mp h with rfl | h
      · exact hP
      · rw [List.mem_singleton.mp h]; exact hc
  refine hret r (new ++ [(P, tabObj #[rawInt pos.line, rawInt pos.col, .ref c']), (c', oc)]) h' tk' F (news_both (fun p hp => N p (sub p hp)) NF) (apart_of (g := g) (L' := L') (h := hh) (fun p hp => Ng p (sub p hp)) hgf)
    ⟨new, _, rfl, .inr ⟨c', oc, cs, t, rfl, hne, hd, hv⟩, fun p hp w hw => ?_, sh⟩
  rcases List.mem_cons.mp hp with rfl | h
  · exact h1 w hw
  · rw [List.mem_singleton.mp h]; exact h2 w hw

theorem i2d_full {a n : Int} {vs : List Value} (hi : IntsAre vs (setDigs (List.replicate ((((Builtin.Int.intBits a : Nat) : Int) + n - 1) / n).toNat 0) 0 ((((((Builtin.Int.intBits a : Nat) : Int) + n - 1) / n).toNat : Nat) : Int) a n)) : IntsAre vs (digs a.toNat n.toNat (ndig a n)) := by
  unfold ndig
  generalize ((((Builtin.Int.intBits a : Nat) : Int) + n - 1) / n).toNat = k at hi ⊢
  unfold setDigs at hi
  have e1 : ((k : Int) - 0).toNat = k := by omega
  rw [e1, Int.toNat_natCast, List.drop_of_length_le (by simp)] at hi
  simpa using hi
theorem i2d_zero {a n : Int} {vs : List Value} (hi : IntsAre vs (List.replicate ((((Builtin.Int.intBits a : Nat) : Int) + n - 1) / n).toNat 0)) (h0 : a = 0) (h : a = 0 → (((Builtin.Int.intBits a : Nat) : Int) + n - 1) / n = 0) : IntsAre vs (digs a.toNat n.toNat (ndig a n)) := by
  unfold ndig
  rw [h h0] at hi ⊢
  exact hi
end Mine

end
section
set_option maxRecDepth 100000
open PySem PySem.W PyProof.Rows PySem.Spec PySem.Calls
namespace Mine
/-- the int whose figures to the base 2^n are these, the least first -/
def undig (n : Nat) : List Int → Int
  | [] => 0
  | d :: r => d + 2 ^ n * undig n r
theorem undig_append (n : Nat) : ∀ (a b : List Int), undig n (a ++ b) = undig n a + 2 ^ (n * a.length) * undig n b
  | [], b => by simp [undig]
  | d :: r, b => by
    rw [List.cons_append, undig, undig_append n r b, undig, List.length_cons, Nat.mul_succ, Int.mul_add, ← Int.mul_assoc, ← Int.pow_add, Nat.add_comm n (n * r.length)]
    omega
theorem undig_bound (n : Nat) : ∀ (a : List Int), (∀ d ∈ a, 0 ≤ d ∧ d < 2 ^ n) → 0 ≤ undig n a ∧ undig n a < 2 ^ (n * a.length)
  | [], _ => by simp [undig]
  | d :: r, h => by
    obtain ⟨h1, h2⟩ := undig_bound n r fun x hx => h x (.tail _ hx)
    obtain ⟨d1, d2⟩ := h d (.head _)
    have hp : (0 : Int) < 2 ^ n := Int.pow_pos (by decide)
    rw [undig, List.length_cons, Nat.mul_succ, Nat.add_comm, Int.pow_add]
    refine ⟨by have := Int.mul_nonneg (Int.le_of_lt hp) h1; omega, ?_⟩
    have : 2 ^ n * (undig n r + 1) ≤ 2 ^ n * 2 ^ (n * r.length) := Int.mul_le_mul_of_nonneg_left (by omega) (Int.le_of_lt hp)
    rw [Int.mul_add] at this
    omega
theorem two_pow_le {a b : Nat} (h : a ≤ b) : (2 : Int) ^ a ≤ 2 ^ b := by
  have := Nat.pow_le_pow_right (n := 2) (by decide) h
  exact_mod_cast this
/-- the places L to R of ns -/
def part (ns : List Int) (L R : Int) : List Int := (ns.drop L.toNat).take (R - L).toNat
theorem part_length {ns : List Int} {L R : Int} (h0 : 0 ≤ L) (h1 : L ≤ R) (h2 : R ≤ (ns.length : Int)) : (part ns L R).length = (R - L).toNat := by
  unfold part
  rw [List.length_take, List.length_drop]
  omega
theorem part_mem {ns : List Int} {L R : Int} : ∀ d ∈ part ns L R, d ∈ ns := fun _ h => List.mem_of_mem_drop (List.mem_of_mem_take h)
theorem part_split {ns : List Int} {L M R : Int} (h0 : 0 ≤ L) (h1 : L ≤ M) (h2 : M ≤ R) : part ns L R = part ns L M ++ part ns M R := by
  unfold part
  have e : (R - L).toNat = (M - L).toNat + (R - M).toNat := by omega
  rw [e, List.take_add, List.drop_drop]
  congr 3
  omega
theorem part_one {ns : List Int} {L R y : Int} {n : Nat} (_h0 : 0 ≤ L) (h1 : L + 1 = R) (hy : ns[L.toNat]? = some y) : y = undig n (part ns L R) := by
  have e : (R - L).toNat = 1 := by omega
  unfold part
  rw [e, List.take_one, List.head?_drop, hy]
  simp [undig]
theorem part_oneD {ns : List Int} {L R : Int} {n : Nat} (h0 : 0 ≤ L) (h1 : L + 1 = R) (h2 : R ≤ (ns.length : Int)) : ns.getD L.toNat 0 = undig n (part ns L R) := by
  have hlt : L.toNat < ns.length := by omega
  refine part_one h0 h1 ?_
  rw [List.getD_eq_getElem?_getD, List.getElem?_eq_getElem hlt]; rfl
theorem part_all {ns : List Int} : part ns 0 (ns.length : Nat) = ns := by
  unfold part
  have e : (((ns.length : Nat) : Int) - 0).toNat = ns.length := by omega
  rw [e]
  simp
def InnerD (prog : Program) (w : World) (K : Frag) (p : Program) (loose : List Str) (mean : ExcName → Option Value) (mg mb : Str → Option Value) (tabs : List (Addr × Addr)) (f : Addr) (l0 : Led) (ns : List Int) (n : Int) (k : Nat) : Prop :=
  ∀ (L R : Int) (t2 t3 : Tok), 0 ≤ L → L < R → R ≤ (ns.length : Int) → ns.length ≤ 64 → 1 ≤ n → n ≤ 64 → n.toNat * ns.length ≤ 61 → (∀ d ∈ ns, 0 ≤ d ∧ d < 2 ^ n.toNat) → (R - L).toNat ≤ k → k ≤ 64 →
    Does prog w K p loose mean mg mb tabs f [.int L t2, .int R t3] k (fun fr => fr = []) l0
      (fun r l' => l' = l0 ∧ ∃ t, r = .int (undig n.toNat (part ns L R)) t)
section
variable {prog : Program} {w : World} {K : Frag} {p : Program} {loose : List Str} {mean : ExcName → Option Value} {mg mb : Str → Option Value} {tabs : List (Addr × Addr)} {f : Addr} {l0 led : Led} {n : Int} {kk : Nat} {ns : List Int}
theorem innerD_use {Lo R : Int} {t2 t3 : Tok}
    {dp un : Nat} {gd : Option (List Code)} {cn : Str} {cs : Scope} {a : Addr} {ccd : Value} {cl : List (Str × Addr)} {outer : List Env} {A₀ : Around} {base h₀ : Heap} {L : Addr} {m : Str → Option Value} {s : Shared} {Q E : Value → Shared → Prop}
    (N : News h₀ L s.heap l0) (IC : InnerD prog w K p loose mean mg mb tabs f l0 ns n kk)
    (c3 : 0 ≤ Lo) (c4 : Lo < R) (c5 : R ≤ (ns.length : Int)) (c6 : ns.length ≤ 64) (c7 : 1 ≤ n) (c8 : n ≤ 64) (c12 : n.toNat * ns.length ≤ 61) (c13 : ∀ d ∈ ns, 0 ≤ d ∧ d < 2 ^ n.toNat) (c9 : (R - Lo).toNat ≤ kk) (c10 : kk ≤ 64)
    (B : Below A₀ base outer h₀) (F : Fr h₀ L s.heap m) (X : K.In h₀) (T : Top p loose mean mg mb h₀) (C : CodeAll tabs h₀) (hk : cs.kind = .function)
    (hd : dp + kk < recursionLimit) (hu : un + 8 * kk < cLine)
    (k : ∀ t h' tk', Fr h₀ L h' m → News h₀ L h' l0 → 0 ≤ undig n.toNat (part ns Lo R) → undig n.toNat (part ns Lo R) < 2 ^ 62 → Q (.int (undig n.toNat (part ns Lo R)) t) { s with heap := h', toks := tk' }) :
    wpAny (model prog w) (ktrTop dp un gd cn cs L a ccd cl outer) (call (.ref f) [.int Lo t2, .int R t3]) Q E s := by
  refine does_use (IC Lo R t2 t3 c3 c4 c5 c6 c7 c8 c12 c13 c9 c10) (fr := []) B F X N .allL (fun _ h => nomatch h) rfl T C hk hd hu ?_
  rintro r l' h' tk' F' N' _ ⟨rfl, t, rfl⟩
  obtain ⟨b1, b2⟩ := undig_bound n.toNat (part ns Lo R) fun d hd => c13 d (part_mem d hd)
  refine k t h' tk' F' (by simpa using N') b1 (Int.lt_of_lt_of_le b2 ?_)
  rw [part_length c3 (Int.le_of_lt c4) c5]
  have hle : n.toNat * (R - Lo).toNat ≤ n.toNat * ns.length := Nat.mul_le_mul_left _ (by omega)
  exact two_pow_le (by omega)
theorem innerD_ind (h : ∀ k, InnerD prog w K p loose mean mg mb tabs f l0 ns n k → InnerD prog w K p loose mean mg mb tabs f l0 ns n (k + 1)) : ∀ k, InnerD prog w K p loose mean mg mb tabs f l0 ns n k
  | 0 => fun L R t2 t3 _ hlt _ _ _ _ _ _ hk => absurd hk (by omega)
  | k + 1 => h k (innerD_ind h k)
end
theorem innerD_facts {L R n : Int} {ns : List Int} (hL : 0 ≤ L) (hLR : L < R) (hR : R ≤ (ns.length : Int)) (hlen : ns.length ≤ 64) (hn1 : 1 ≤ n) (hn2 : n ≤ 64) :
    0 ≤ ((L + R) / 2 - L) * n ∧ ((L + R) / 2 - L) * n ≤ 1000000 ∧ undig n.toNat (part ns ((L + R) / 2) R) * 2 ^ (((L + R) / 2 - L) * n).toNat + undig n.toNat (part ns L ((L + R) / 2)) = undig n.toNat (part ns L R) := by
  have h1 : 0 ≤ (L + R) / 2 - L := by omega
  have h2 : (L + R) / 2 - L ≤ 64 := by omega
  have hs : (((L + R) / 2 - L) * n).toNat = n.toNat * ((L + R) / 2 - L).toNat := by
    obtain ⟨d, hd⟩ := Int.eq_ofNat_of_zero_le h1
    obtain ⟨e, he⟩ := Int.eq_ofNat_of_zero_le (show 0 ≤ n by omega)
    rw [hd, he, ← Int.natCast_mul, Int.toNat_natCast, Int.toNat_natCast, Int.toNat_natCast, Nat.mul_comm]
  have hm : ((L + R) / 2 - L) * n ≤ 64 * 64 := Int.mul_le_mul h2 hn2 (by omega) (by decide)
  refine ⟨Int.mul_nonneg h1 (by omega), by omega, ?_⟩
  have e : part ns L R = part ns L ((L + R) / 2) ++ part ns ((L + R) / 2) R := part_split hL (by omega) (by omega)
  rw [e, undig_append, part_length hL (by omega) (by omega), hs, Int.mul_comm, Int.add_comm]
theorem innerD_back {h₀ h' : Heap} {Lo : Addr} {m : Str → Option Value} {s : Shared} {tk' : Nat} {Q : Value → Shared → Prop} {l0 : Led} {z y : Int} {t : Tok}
    (hret : ∀ r l' h' tk', Fr h₀ Lo h' m → News h₀ Lo h' (l' ++ []) → (∀ q ∈ l', ∀ p ∈ ([] : Led), p.1 ≠ q.1) → (fun r l' => l' = l0 ∧ ∃ t, r = .int z t) r l' → Q r { s with heap := h', toks := tk' })
    (F : Fr h₀ Lo h' m) (N : News h₀ Lo h' l0) (e : y = z) : Q (.int y t) { s with heap := h', toks := tk' } :=
  hret (.int y t) l0 h' tk' F (by simpa using N) (fun _ _ _ h => nomatch h) ⟨rfl, t, by rw [e]⟩

theorem undig_empty {ns : List Int} {n : Nat} (h : ¬ 0 < ns.length) : (0 : Int) = undig n ns := by
  cases ns with
  | nil => rfl
  | cons a r => simp at h
theorem undig_whole {ns : List Int} {n : Nat} : undig n (part ns 0 (ns.length : Nat)) = undig n ns := by rw [part_all]
end Mine

end
section
set_option maxRecDepth 100000
open PySem PySem.W PyProof.Rows PySem.Spec PySem.Calls
namespace Mine
/-- a turn's end: the iterator at I stands, and J holds of the frame and the ledger -/
def TurnEnd (h₀ : Heap) (L I : Addr) (it : Obj) (J : (Str → Option Value) → Led → Prop) (s s₂ : Shared) : Prop :=
  ∃ h' tk m' led', s₂ = { s with heap := h', toks := tk } ∧ Fr h₀ L h' m' ∧ News h₀ L h' ((I, it) :: led') ∧ (∀ p ∈ led', @Ne Nat p.1 I) ∧ J m' led'
def TurnPost (h₀ : Heap) (L I : Addr) (it : Obj) (J : (Str → Option Value) → Led → Prop) (s : Shared) (Q : Flow → Shared → Prop) (f : Flow) (s₂ : Shared) : Prop :=
  match f with
  | .ret v => Q (.ret v) s₂
  | .brk => Q .next s₂
  | _ => TurnEnd h₀ L I it J s s₂

section
variable {prog : Program} {w : World} {A : Around} {E : Value → Shared → Prop} {s : Shared} {h₀ : Heap} {L : Addr} {env : Env} {target : Expr} {body : List Stmt} {Q : Flow → Shared → Prop} {m₀ : Str → Option Value} {led₀ : Led}
abbrev LoopBack (prog : Program) (w : World) (A : Around) (env : Env) (Q : Flow → Shared → Prop) (E : Value → Shared → Prop) : Result → Shared → Prop := fun r s' => match r with | .ok f => Q f s' | .error e => cameBackBy (model prog w) A env E e s'

theorem for_gen {I : Addr} {fp : List Addr} {n : Nat} {P0 : Nat → Value → Prop} {St : Nat → Heap → Prop} {S : Led → Prop} (J : Nat → (Str → Option Value) → Led → Prop)
    (W : Walks prog w A I fp [I] n P0 St) (hIo : ∀ i h, St i h → ∃ o, h.get? I = some o)
    (hSt : ∀ i h h' o nw, St i h → h.get? I = some o → h'.get? I = some o → (∀ b o, h₀.get? b = some o → h'.get? b = some o) → News h₀ L h' nw → S nw → St i h')
    (ht : ∀ v, letOwnedTupleGo target (.ref I) v = pure ())
    (hst : St 0 s.heap) (F : Fr h₀ L s.heap m₀) (N : News h₀ L s.heap led₀) (hIL : L ≠ I) (hI₀ : h₀.get? I = none) (off : ∀ p ∈ led₀, @Ne Nat p.1 I) (hJ : J 0 m₀ led₀) (hS : ∀ i m led, J i m led → S led)
    (turn : ∀ i v m led h tk it, i < n → P0 i v → J i m led → Fr h₀ L h m → News h₀ L h ((I, it) :: led) → (∀ p ∈ led, @Ne Nat p.1 I) →
      wpAny (model prog w) A (assign target env v) (fun _ s₂ => wpAny (model prog w) A (execs body env) (TurnPost h₀ L I it (J (i + 1)) s Q) E s₂) E { s with heap := h, toks := tk })
    (done : ∀ m led h tk, J n m led → Fr h₀ L h m → News h₀ L h led → Q .next { s with heap := h, toks := tk })
    (hE : PassesOwn (model prog w) A env E) :
    codeAny (model prog w) A (.forLoop target (.ref I) body [] env) (LoopBack prog w A env Q E) s := by
  refine codeAny_forLoop (fun k s' => ∃ h' tk m' led i, s' = { s with heap := h', toks := tk } ∧ St i h' ∧ Fr h₀ L h' m' ∧ News h₀ L h' led ∧ (∀ p ∈ led, @Ne Nat p.1 I) ∧ J i m' led ∧ i ≤ n ∧ k = n + 1 - i) ?_ (n + 1)
    ⟨s.heap, s.toks, m₀, led₀, 0, rfl, hst, F, N, off, hJ, Nat.zero_le _, rfl⟩ ht
  rintro k s' ⟨h', tk, m', led, i, rfl, hst', F', N', off', hJ', hi, rfl⟩
  by_cases hlt : i < n
  · refine W.item i _ _ _ hlt hst' fun v h₁ tk₁ hP hst₁ hk₁ => ?_
    obtain ⟨it, hit⟩ := hIo _ _ hst₁
    have F₁ := LCg.fr_but F' hk₁ hIL hI₀
    have N₁ := LCg.news_but N' hk₁ off'
    have N₂ : News h₀ L h₁ ((I, it) :: led) := fun p hp => by
      rcases List.mem_cons.mp hp with rfl | hp
      · exact ⟨hit, Ne.symm hIL, hI₀⟩
      · exact N₁ p hp
    refine wpAny_passesOwn hE (wpAny_mono (turn i v m' led h₁ tk₁ it hlt hP hJ' F₁ N₂ off') (fun _ s₂ h₂ => wpAny_passesOwn hE (wpAny_mono h₂ (fun f s₃ h₃ => ?_) fun _ _ e => e)) fun _ _ e => e)
    have next : TurnEnd h₀ L I it (J (i + 1)) s s₃ → ∃ m, m < n + 1 - i ∧ ∃ h' tk m' led i, s₃ = { s with heap := h', toks := tk } ∧ St i h' ∧ Fr h₀ L h' m' ∧ News h₀ L h' led ∧ (∀ p ∈ led, @Ne Nat p.1 I) ∧ J i m' led ∧ i ≤ n ∧ m = n + 1 - i := by
      rintro ⟨h₄, tk₄, m₄, led₄, rfl, F₄, N₄, off₄, hJ₄⟩
      have hI₄ : h₄.get? I = some it := (N₄ _ (.head _)).1
      have N₅ : News h₀ L h₄ led₄ := fun p hp => N₄ p (.tail _ hp)
      exact ⟨n + 1 - (i + 1), by omega, h₄, tk₄, m₄, led₄, i + 1, rfl, hSt _ _ _ _ _ hst₁ hit hI₄ F₄.keep N₅ (hS _ _ _ hJ₄), F₄, N₅, off₄, hJ₄, hlt, rfl⟩
    cases f with
    | ret v => exact h₃
    | brk => exact h₃
    | next => exact next h₃
    | cont => exact next h₃
  · have hin : i = n := Nat.le_antisymm hi (Nat.not_lt.mp hlt)
    subst hin
    refine W.done _ _ _ hst' fun h₁ tk₁ hk₁ => wpAny_execs_nil ?_
    exact done m' led h₁ tk₁ hJ' (LCg.fr_but F' hk₁ hIL hI₀) (LCg.news_but N' hk₁ off')
end

section
variable {prog : Program} {w : World} {A : Around} {E : Value → Shared → Prop} {s : Shared} {h₀ : Heap} {L : Addr} {env : Env} {target : Expr} {body : List Stmt} {Q : Flow → Shared → Prop} {m₀ : Str → Option Value} {led₀ : Led}
/-- a loop over a range of n turns, by ones -/
theorem for_range {r : Addr} {a b : Int} {t₀ u₀ v₀ : Tok} {n : Nat} (J : Nat → (Str → Option Value) → Led → Prop) (hh : A.handled = none) (hr : IsRange s.heap r a b 1 t₀ u₀ v₀) (hsm : Builtin.Range.small a b 1 = true) (hn : Builtin.Range.rangeSize a b 1 = (n : Int))
    (ht : ∀ I v, letOwnedTupleGo target (.ref I) v = pure ()) (F : Fr h₀ L s.heap m₀) (N : News h₀ L s.heap led₀) (hJ : J 0 m₀ led₀)
    (turn : ∀ i t I m led h tk it, i < n → J i m led → Fr h₀ L h m → News h₀ L h ((I, it) :: led) → (∀ p ∈ led, @Ne Nat p.1 I) →
      wpAny (model prog w) A (assign target env (.int (a + (i : Nat)) t)) (fun _ s₂ => wpAny (model prog w) A (execs body env) (TurnPost h₀ L I it (J (i + 1)) s Q) E s₂) E { s with heap := h, toks := tk })
    (done : ∀ m led h tk, J n m led → Fr h₀ L h m → News h₀ L h led → Q .next { s with heap := h, toks := tk })
    (hE : PassesOwn (model prog w) A env E) :
    wpAny (model prog w) A (pyIter (.ref r)) (fun it s₂ => codeAny (model prog w) A (.forLoop target it body [] env) (LoopBack prog w A env Q E) s₂) E s := by
  refine wpAny_pyIter_range hr hsm ?_
  refine for_gen (S := fun _ => True) J (LCg.range_walks hh a n) (fun i h st => ⟨_, st⟩) LCg.range_st (ht _) (by show IsRangeIter _ _ _ _ _; rw [hn]; simpa using Heap.get?_push_size _ rfl)
    (F.push _) (N.grown fun _ _ e => Heap.get?_push_of_some _ e) (Nat.ne_of_lt F.ns.lt) (next_is_new F) (fun p hp => Nat.ne_of_lt (Heap.lt_size (N p hp).1)) hJ (fun _ _ _ _ => trivial) ?_ done hE
  rintro i v m led h tk it hi ⟨t, rfl⟩ hJ' F' N' off
  exact turn i t _ m led h tk it hi hJ' F' N' off
/-- a loop over a list, of the ledger or of the base -/
theorem for_list {l : Addr} {its : Array Value} (J : Nat → (Str → Option Value) → Led → Prop) (hh : A.handled = none) (hl : s.heap.IsList l its)
    (ht : ∀ I v, letOwnedTupleGo target (.ref I) v = pure ()) (F : Fr h₀ L s.heap m₀) (N : News h₀ L s.heap led₀) (hJ : J 0 m₀ led₀) (hS : ∀ i m led, J i m led → LCg.SrcAt h₀ l its led)
    (turn : ∀ i v I m led h tk it, i < its.size → its[i]? = some v → J i m led → Fr h₀ L h m → News h₀ L h ((I, it) :: led) → (∀ p ∈ led, @Ne Nat p.1 I) →
      wpAny (model prog w) A (assign target env v) (fun _ s₂ => wpAny (model prog w) A (execs body env) (TurnPost h₀ L I it (J (i + 1)) s Q) E s₂) E { s with heap := h, toks := tk })
    (done : ∀ m led h tk, J its.size m led → Fr h₀ L h m → News h₀ L h led → Q .next { s with heap := h, toks := tk })
    (hE : PassesOwn (model prog w) A env E) :
    wpAny (model prog w) A (pyIter (.ref l)) (fun it s₂ => codeAny (model prog w) A (.forLoop target it body [] env) (LoopBack prog w A env Q E) s₂) E s := by
  refine wpAny_pyIter_list hl ?_
  have hlt : l < s.heap.objs.size := by obtain ⟨_, e, _⟩ := hl; exact Heap.lt_size e
  refine for_gen (S := LCg.SrcAt h₀ l its) J (Walks.list hh s.heap.objs.size l (Nat.ne_of_lt hlt) its) (fun i h st => by obtain ⟨o, e, _⟩ := st.1; exact ⟨o, e⟩) LCg.list_st (ht _) ⟨⟨_, Heap.get?_push_size _ rfl, rfl, rfl⟩, hl.push _⟩
    (F.push _) (N.grown fun _ _ e => Heap.get?_push_of_some _ e) (Nat.ne_of_lt F.ns.lt) (next_is_new F) (fun p hp => Nat.ne_of_lt (Heap.lt_size (N p hp).1)) hJ hS ?_ done hE
  intro i v m led h tk it hi hP hJ' F' N' off
  exact turn i v _ m led h tk it hi hP hJ' F' N' off
/-- a loop over reversed(l): the iterator at I is of the ledger -/
theorem for_rev {l I : Addr} {vs : List Value} (J : Nat → (Str → Option Value) → Led → Prop) (hh : A.handled = none) (hl : s.heap.IsList l vs.toArray)
    (ht : ∀ I v, letOwnedTupleGo target (.ref I) v = pure ()) (F : Fr h₀ L s.heap m₀) (N : News h₀ L s.heap ((I, revObj l ((vs.length : Int) - 1)) :: led₀)) (off : ∀ p ∈ led₀, @Ne Nat p.1 I) (hJ : J 0 m₀ led₀) (hS : ∀ i m led, J i m led → LCg.SrcAt h₀ l vs.toArray led)
    (turn : ∀ i v m led h tk it, i < vs.length → vs[vs.length - 1 - i]? = some v → J i m led → Fr h₀ L h m → News h₀ L h ((I, it) :: led) → (∀ p ∈ led, @Ne Nat p.1 I) →
      wpAny (model prog w) A (assign target env v) (fun _ s₂ => wpAny (model prog w) A (execs body env) (TurnPost h₀ L I it (J (i + 1)) s Q) E s₂) E { s with heap := h, toks := tk })
    (done : ∀ m led h tk, J vs.length m led → Fr h₀ L h m → News h₀ L h led → Q .next { s with heap := h, toks := tk })
    (hE : PassesOwn (model prog w) A env E) :
    wpAny (model prog w) A (pyIter (.ref I)) (fun it s₂ => codeAny (model prog w) A (.forLoop target it body [] env) (LoopBack prog w A env Q E) s₂) E s := by
  have hI := N _ (.head _)
  have hit : s.heap.IsRevIter I l ((vs.length : Int) - 1) := ⟨_, hI.1, rfl, rfl⟩
  have hne : l ≠ I := fun e => by
    obtain ⟨o, e1, e2, _⟩ := hl
    rw [e, hI.1] at e1; cases e1; exact absurd e2 (by simp [revObj])
  refine wpAny_pyIter_revIter hit ?_
  have hlen : vs.toArray.size = vs.length := by simp
  have W := Walks.listRev (prog := prog) (w := w) hh I l hne vs.toArray
  rw [hlen] at W
  refine for_gen (S := LCg.SrcAt h₀ l vs.toArray) J W (fun i h st => by obtain ⟨o, e, _⟩ := st.2.1; exact ⟨o, e⟩) ?_ (ht _) ⟨Nat.zero_le _, ?_, hl⟩
    F (fun p hp => N p (.tail _ hp)) (Ne.symm hI.2.1) hI.2.2 off hJ hS ?_ done hE
  · intro i h h' o nw st e e' k N S
    refine ⟨st.1, ?_, S.list k N⟩
    obtain ⟨o', q, r⟩ := st.2.1
    rw [e] at q; cases q
    exact ⟨o, e', r⟩
  · have e : (vs.length : Int) - 1 - ((0 : Nat) : Int) = (vs.length : Int) - 1 := by omega
    rw [e]; exact hit
  · intro i v m led h tk it hi hP hJ' F' N' off'
    exact turn i v m led h tk it hi (by simpa using hP) hJ' F' N' off'
end

/-- the frame's names: those of ps are known, those of stored are not, the others stand as at the start -/
def Names (ps : List (Str × Value)) (stored : List Str) (m₀ m : Str → Option Value) : Prop := (∀ p ∈ ps, m p.1 = some p.2) ∧ ∀ z, (∀ p ∈ ps, z ≠ p.1) → stored.contains z = false → m z = m₀ z
theorem Names.fr {h₀ h : Heap} {L : Addr} {ps : List (Str × Value)} {stored : List Str} {m₀ m : Str → Option Value} (x : Names ps stored m₀ m) (F : Fr h₀ L h m) : Fr h₀ L h (kstB (fun z => if stored.contains z then m z else m₀ z) ps) := ksw_fr x.1 x.2 F

/-- both tables -/
def Tabs (T : Led) : Prop := ∃ A B, T = A ++ B ∧ TabOne 30 ⟨32, 4, 41, 28⟩ (Str.ofString "_int2digits.<locals>.inner") A ∧ TabOne 37 ⟨47, 4, 52, 55⟩ (Str.ofString "_digits2int.<locals>.inner") B ∧ ∀ p ∈ A, ∀ q ∈ B, p.1 ≠ q.1
section
variable {prog : Program} {w : World} {K : Frag} {p : Program} {loose : List Str} {mean : ExcName → Option Value} {mg mb : Str → Option Value} {tabs : List (Addr × Addr)} {f : Addr} {vs : List Value} {need : Nat} {l : Led} {Post : Value → Led → Prop}
theorem does_frame {x : Led} (ax : ∀ p ∈ x, ∀ q ∈ l, p.1 ≠ q.1) (D : Does prog w K p loose mean mg mb tabs f vs need (fun _ => True) l Post) :
    Does prog w K p loose mean mg mb tabs f vs need (fun _ => True) (l ++ x) (fun r l' => ∃ l'', l' = l'' ++ x ∧ (∀ q ∈ l'', ∀ p ∈ x, p.1 ≠ q.1) ∧ Post r l'') := by
  intro dp un gd cn cs a ccd cl outer A₀ base h₀ L m fr s Q E B F X N ap rd T C hk hd hu k
  refine D dp un gd cn cs a ccd cl outer A₀ base h₀ L m (x ++ fr) s Q E B F X (by rw [← List.append_assoc]; exact N) ?_ trivial T C hk hd hu ?_
  · intro p hp q hq
    rcases List.mem_append.mp hp with h | h
    · exact ax p h q hq
    · exact ap p h q (List.mem_append_left _ hq)
  · intro r l' h' tk' F' N' ap' P
    refine k r (l' ++ x) h' tk' F' (by rw [List.append_assoc]; exact N') ?_ ⟨l', rfl, fun q hq p hp => ap' q hq p (List.mem_append_left _ hp), P⟩
    intro q hq p hp
    rcases List.mem_append.mp hq with h | h
    · exact ap' q h p (List.mem_append_right _ hp)
    · exact Ne.symm (fun e => ap p hp q (List.mem_append_right _ h) e.symm)
theorem does_mono {Rd Rd' : Led → Prop} {l₂ : Led} {Post' : Value → Led → Prop} (e : ∀ p ∈ l, p ∈ l₂) (hr : ∀ fr, Rd' fr → Rd fr) (hp : ∀ r l', Post r l' → ∃ l'', (∀ p ∈ l'', p ∈ l') ∧ Post' r l'') (D : Does prog w K p loose mean mg mb tabs f vs need Rd l Post) : Does prog w K p loose mean mg mb tabs f vs need Rd' l₂ Post' := by
  intro dp un gd cn cs a ccd cl outer A₀ base h₀ L m fr s Q E B F X N ap rd T C hk hd hu k
  refine D dp un gd cn cs a ccd cl outer A₀ base h₀ L m fr s Q E B F X (fun q hq => N q ?_) (fun p hp q hq => ap p hp q (e q hq)) (hr _ rd) T C hk hd hu fun r l' h' tk' F' N' ap' P => ?_
  · rcases List.mem_append.mp hq with h | h
    · exact List.mem_append_left _ (e q h)
    · exact List.mem_append_right _ h
  · obtain ⟨l'', hs, P'⟩ := hp r l' P
    refine k r l'' h' tk' F' (fun q hq => N' q ?_) (fun q hq => ap' q (hs q hq)) P'
    rcases List.mem_append.mp hq with h | h
    · exact List.mem_append_left _ (hs q h)
    · exact List.mem_append_right _ h
theorem tabs_lift1 {T : Led} {Sh : Value → Led → Prop} (hT : Tabs T) (D : ∀ A, TabOne 30 ⟨32, 4, 41, 28⟩ (Str.ofString "_int2digits.<locals>.inner") A → Does prog w K p loose mean mg mb tabs f vs need (fun _ => True) A (PostT (TabOne 30 ⟨32, 4, 41, 28⟩ (Str.ofString "_int2digits.<locals>.inner")) Sh)) :
    Does prog w K p loose mean mg mb tabs f vs need (fun _ => True) T (PostT Tabs Sh) := by
  obtain ⟨A, B, rfl, hA, hB, hAB⟩ := hT
  refine does_mono (fun _ h => h) (fun _ h => h) ?_ (does_frame (x := B) (fun p hp q hq e => hAB q hq p hp e.symm) (D A hA))
  rintro r l' ⟨l'', rfl, ap, new, A', rfl, hA', hap, sh⟩
  refine ⟨new ++ (A' ++ B), fun p hp => by rwa [List.append_assoc], new, A' ++ B, rfl, ⟨A', B, rfl, hA', hB, fun p hp q hq e => ap p (List.mem_append_right _ hp) q hq e.symm⟩, fun p hp q hq => ?_, sh⟩
  rcases List.mem_append.mp hp with h | h
  · exact hap p h q hq
  · exact ap q (List.mem_append_left _ hq) p h
theorem tabs_lift2 {T : Led} {e : Addr × Obj} {Sh : Value → Led → Prop} (hT : Tabs T) (he : ∀ p ∈ T, @Ne Nat p.1 e.1) (D : ∀ B, TabOne 37 ⟨47, 4, 52, 55⟩ (Str.ofString "_digits2int.<locals>.inner") B → (∀ p ∈ B, @Ne Nat p.1 e.1) → Does prog w K p loose mean mg mb tabs f vs need (fun _ => True) (e :: B) (PostT (TabOne 37 ⟨47, 4, 52, 55⟩ (Str.ofString "_digits2int.<locals>.inner")) Sh)) :
    Does prog w K p loose mean mg mb tabs f vs need (fun _ => True) (e :: T) (PostT Tabs Sh) := by
  obtain ⟨A, B, rfl, hA, hB, hAB⟩ := hT
  refine does_mono (l := (e :: B) ++ A) ?_ (fun _ h => h) ?_ (does_frame (x := A) (fun p hp q hq => ?_) (D B hB fun p hp => he p (List.mem_append_right _ hp)))
  · intro q hq
    rcases List.mem_append.mp hq with h | h
    · rcases List.mem_cons.mp h with rfl | h
      · exact .head _
      · exact .tail _ (List.mem_append_right _ h)
    · exact .tail _ (List.mem_append_left _ h)
  · rintro r l' ⟨l'', rfl, ap, new, B', rfl, hB', hap, sh⟩
    refine ⟨new ++ (A ++ B'), fun q hq => ?_, new, A ++ B', rfl, ⟨A, B', rfl, hA, hB', fun p hp q hq => ap q (List.mem_append_right _ hq) p hp⟩, fun p hp q hq => ?_, sh⟩
    · rcases List.mem_append.mp hq with h | h
      · exact List.mem_append_left _ (List.mem_append_left _ h)
      · rcases List.mem_append.mp h with h | h
        · exact List.mem_append_right _ h
        · exact List.mem_append_left _ (List.mem_append_right _ h)
    · rcases List.mem_append.mp hp with h | h
      · exact ap q (List.mem_append_left _ hq) p h
      · exact hap p h q hq
  · rcases List.mem_cons.mp hq with rfl | h
    · exact he p (List.mem_append_left _ hp)
    · exact hAB p hp q h
end

/-- T lies off a -/
abbrev Off (T : Led) (a : Addr) : Prop := ∀ p ∈ T, @Ne Nat p.1 a
inductive TailIs (T : Led) : Led → Prop
  | here : TailIs T T
  | there {q : Addr × Obj} {l : Led} : TailIs T l → TailIs T (q :: l)
theorem offT_of {T led : Led} {d : Addr} (_ : Tabs T) (t : TailIs T led) (h : ∀ p ∈ led, p.1 < d) : Off T d := by
  induction t with
  | here => exact fun p hp => Nat.ne_of_lt (h p hp)
  | there _ ih => exact ih fun p hp => h p (.tail _ hp)
theorem apT_nil {T : Led} : ∀ p ∈ ([] : Led), ∀ q ∈ T, p.1 ≠ q.1 := fun _ h => nomatch h
theorem apT_cons {T fr : Led} {e : Addr × Obj} (h : Off T e.1) (r : ∀ p ∈ fr, ∀ q ∈ T, p.1 ≠ q.1) : ∀ p ∈ e :: fr, ∀ q ∈ T, p.1 ≠ q.1 := fun p hp q hq => by
  rcases List.mem_cons.mp hp with rfl | hp
  · exact Ne.symm (h q hq)
  · exact r p hp q hq
section
variable {prog : Program} {w : World} {K : Frag} {p : Program} {loose : List Str} {mean : ExcName → Option Value} {mg mb : Str → Option Value} {tabs : List (Addr × Addr)} {f : Addr} {vs : List Value} {need : Nat}
theorem does_useT {l : Led} {Sh : Value → Led → Prop} (D : Does prog w K p loose mean mg mb tabs f vs need (fun _ => True) l (PostT Tabs Sh))
    {dp un : Nat} {gd : Option (List Code)} {cn : Str} {cs : Scope} {a : Addr} {ccd : Value} {cl : List (Str × Addr)} {outer : List Env} {A₀ : Around} {base h₀ : Heap} {L : Addr} {m : Str → Option Value} {led fr : Led} {s : Shared} {Q E : Value → Shared → Prop}
    (B : Below A₀ base outer h₀) (F : Fr h₀ L s.heap m) (X : K.In h₀) (N : News h₀ L s.heap led) (sp : Splits led l fr) (ap : ∀ p ∈ fr, ∀ q ∈ l, p.1 ≠ q.1) (Tp : Top p loose mean mg mb h₀) (C : CodeAll tabs h₀) (hk : cs.kind = .function)
    (hd : dp + need < recursionLimit) (hu : un + 8 * need < cLine)
    (k : ∀ r new T' h' tk', Fr h₀ L h' m → News h₀ L h' (new ++ (fr ++ T')) → Tabs T' → OwnOff T' ((new ++ fr).map (·.1)) → (∀ q ∈ new, ∀ p ∈ fr, @Ne Nat p.1 q.1) → Sh r new → Q r { s with heap := h', toks := tk' }) :
    wpAny (model prog w) (ktrTop dp un gd cn cs L a ccd cl outer) (call (.ref f) vs) Q E s := by
  refine does_use D B F X N sp ap trivial Tp C hk hd hu ?_
  rintro r l' h' tk' F' N' ap' ⟨new, T', rfl, hT', hap, sh⟩
  refine k r new T' h' tk' F' (fun q hq => N' q ?_) hT' ?_ (fun q hq p hp => ap' q (List.mem_append_left _ hq) p hp) sh
  · rcases List.mem_append.mp hq with h | h
    · exact List.mem_append_left _ (List.mem_append_left _ h)
    · rcases List.mem_append.mp h with h | h
      · exact List.mem_append_right _ h
      · exact List.mem_append_left _ (List.mem_append_right _ h)
  · intro p hp b hb
    obtain ⟨q, hq, rfl⟩ := List.mem_map.mp hb
    rcases List.mem_append.mp hq with h | h
    · exact hap p hp q h
    · exact Ne.symm (ap' p (List.mem_append_right _ hp) q h)
end

theorem does_need {prog : Program} {w : World} {K : Frag} {p : Program} {loose : List Str} {mean : ExcName → Option Value} {mg mb : Str → Option Value} {tabs : List (Addr × Addr)} {f : Addr} {vs : List Value} {need need' : Nat} {Rd : Led → Prop} {l : Led} {Post : Value → Led → Prop}
    (hle : need ≤ need') (D : Does prog w K p loose mean mg mb tabs f vs need Rd l Post) : Does prog w K p loose mean mg mb tabs f vs need' Rd l Post := by
  intro dp un gd cn cs a ccd cl outer A₀ base h₀ L m fr s Q E B F X N ap rd T C hk hd hu k
  exact D dp un gd cn cs a ccd cl outer A₀ base h₀ L m fr s Q E B F X N ap rd T C hk (by omega) (by omega) k
end Mine

end
section
set_option maxRecDepth 100000
open PySem PySem.W PyProof.Rows PySem.Spec PySem.Calls
namespace Mine
theorem undig_digs (n : Nat) : ∀ (k x : Nat), x < 2 ^ (n * k) → undig n (digs x n k) = (x : Int)
  | 0, x, h => by simp at h; simp [digs, undig, h]
  | k + 1, x, h => by
    have hp : 2 ^ (n * (k + 1)) = 2 ^ n * 2 ^ (n * k) := by rw [← Nat.pow_add]; congr 1; rw [Nat.mul_succ]; omega
    rw [hp] at h
    rw [digs, undig, undig_digs n k (x / 2 ^ n) (Nat.div_lt_of_lt_mul h)]
    have := Nat.mod_add_div x (2 ^ n)
    have e : ((x % 2 ^ n + 2 ^ n * (x / 2 ^ n) : Nat) : Int) = (x : Int) := by rw [this]
    push_cast at e
    exact_mod_cast e
theorem digs_mem (n : Nat) : ∀ (k x : Nat), ∀ d ∈ digs x n k, 0 ≤ d ∧ d < 2 ^ n
  | 0, _, _, h => nomatch h
  | k + 1, x, d, h => by
    rcases List.mem_cons.mp h with rfl | h
    · have := Nat.mod_lt x (Nat.pow_pos (n := n) (show 0 < 2 by decide))
      refine ⟨Int.natCast_nonneg _, ?_⟩
      exact_mod_cast this
    · exact digs_mem n k _ d h
theorem bits_facts {b : Int} (h0 : 0 < b) (h1 : b < 2 ^ 20) : 1 ≤ ((Builtin.Int.intBits b : Nat) : Int) ∧ ((Builtin.Int.intBits b : Nat) : Int) ≤ 20 ∧ b < 2 ^ (((Builtin.Int.intBits b : Nat) : Int).toNat) := by
  have hne : b.natAbs ≠ 0 := by omega
  have e : Builtin.Int.intBits b = b.natAbs.log2 + 1 := by
    unfold Builtin.Int.intBits
    rw [if_neg (by simp; omega)]
  have l : b.natAbs.log2 < 20 := (Nat.log2_lt hne).mpr (by omega)
  rw [e, Int.toNat_natCast]
  refine ⟨by omega, by omega, ?_⟩
  have := Nat.lt_log2_self (n := b.natAbs)
  have e2 : b = ((b.natAbs : Nat) : Int) := by omega
  rw [e2]
  exact_mod_cast this
structure DivI (a b : Int) (n nd : Nat) (i : Nat) (qs : List Int) (r : Int) : Prop where
  r0 : 0 ≤ r
  rb : r < b
  len : qs.length = i
  dig : ∀ d ∈ qs, 0 ≤ d ∧ d < 2 ^ n
  val : undig n qs.reverse * b + r = undig n ((digs a.toNat n nd).drop (nd - i))
theorem divI_start {a b : Int} {n nd : Nat} (hb : 0 < b) : DivI a b n nd 0 [] 0 :=
  ⟨Int.le_refl _, hb, rfl, (fun _ h => nomatch h), by
    rw [Nat.sub_zero, List.drop_of_length_le (by rw [digs_length]; exact Nat.le_refl _)]
    simp [undig]⟩
theorem divI_step {a b : Int} {n nd i : Nat} {qs : List Int} {r d : Int} (I : DivI a b n nd i qs r) (hi : i < nd) (hd : (digs a.toNat n nd)[nd - 1 - i]? = some d) (hb : 0 < b) :
    0 ≤ r * 2 ^ n + d ∧ r * 2 ^ n + d < b * 2 ^ n ∧ 0 ≤ (r * 2 ^ n + d) / b ∧ DivI a b n nd (i + 1) (qs ++ [(r * 2 ^ n + d) / b]) ((r * 2 ^ n + d) % b) := by
  obtain ⟨d0, d1⟩ := digs_mem n nd a.toNat d (List.mem_of_getElem? hd)
  have hp : (0 : Int) < 2 ^ n := Int.pow_pos (by decide)
  have h1 : 0 ≤ r * 2 ^ n := Int.mul_nonneg I.r0 (Int.le_of_lt hp)
  have h2 : (r + 1) * 2 ^ n ≤ b * 2 ^ n := Int.mul_le_mul_of_nonneg_right (by have := I.rb; omega) (Int.le_of_lt hp)
  rw [Int.add_mul, Int.one_mul] at h2
  have h3 : 0 ≤ (r * 2 ^ n + d) / b := Int.ediv_nonneg (by omega) (Int.le_of_lt hb)
  refine ⟨by omega, by omega, h3, Int.emod_nonneg _ (by omega), Int.emod_lt_of_pos _ hb, by rw [List.length_append, I.len]; rfl, fun q hq => ?_, ?_⟩
  · rcases List.mem_append.mp hq with h | h
    · exact I.dig q h
    · rw [List.mem_singleton.mp h]
      exact ⟨h3, Int.ediv_lt_of_lt_mul hb (by have e9 : 2 ^ n * b = b * 2 ^ n := Int.mul_comm _ _; omega)⟩
  · have hlt : nd - 1 - i < (digs a.toNat n nd).length := by rw [digs_length]; omega
    have e1 : nd - (i + 1) = nd - 1 - i := by omega
    have e2 : nd - 1 - i + 1 = nd - i := by omega
    have hg : (digs a.toNat n nd)[nd - 1 - i] = d := by
      rw [List.getElem?_eq_getElem hlt] at hd; exact Option.some.inj hd
    rw [e1, List.drop_eq_getElem_cons hlt, hg, e2, undig, ← I.val, List.reverse_append, List.reverse_singleton, List.singleton_append, undig]
    have hdm := Int.ediv_mul_add_emod (r * 2 ^ n + d) b
    generalize (r * 2 ^ n + d) / b = q at hdm ⊢
    generalize (r * 2 ^ n + d) % b = r' at hdm ⊢
    rw [Int.add_mul, Int.mul_add]
    have e3 : 2 ^ n * undig n qs.reverse * b = 2 ^ n * (undig n qs.reverse * b) := Int.mul_assoc _ _ _
    have e4 : 2 ^ n * r = r * 2 ^ n := Int.mul_comm _ _
    omega
theorem divI_end {a b : Int} {n nd : Nat} {qs : List Int} {r : Int} (I : DivI a b n nd nd qs r) (ha : 0 ≤ a) (hb : 0 < b) (hlt : a.toNat < 2 ^ (n * nd)) : undig n qs.reverse = a / b ∧ r = a % b := by
  have hv := I.val
  rw [Nat.sub_self, List.drop_zero, undig_digs n nd _ hlt, Int.toNat_of_nonneg ha] at hv
  have h1 := I.r0
  have h2 := I.rb
  rw [← hv]
  generalize undig n qs.reverse = u
  have e : u * b + r = r + b * u := by rw [Int.mul_comm, Int.add_comm]
  rw [e, Int.add_mul_ediv_left _ _ (by omega), Int.ediv_eq_zero_of_lt h1 h2, Int.add_mul_emod_self_left, Int.emod_eq_of_lt h1 h2]
  omega
def NeAll (D : Addr) : Led → Prop
  | [] => True
  | p :: r => @Ne Nat p.1 D ∧ NeAll D r
theorem neAll_of {D : Addr} {o : Obj} : ∀ {fr : Led}, (∀ q ∈ [(D, o)], ∀ p ∈ fr, @Ne Nat p.1 q.1) → NeAll D fr
  | [], _ => trivial
  | p :: _, h => ⟨h _ (.head _) p (.head _), neAll_of fun q hq p hp => h q hq p (.tail _ hp)⟩

theorem divI_bound {x b : Int} {n : Nat} (h : x < b * 2 ^ n) (_hb0 : 0 < b) (hb : b < 2 ^ 20) (hn : n ≤ 20) : x < 2 ^ 62 := by
  have h1 := two_pow_le hn
  have h2 : b * 2 ^ n ≤ 2 ^ 20 * 2 ^ 20 := Int.mul_le_mul (Int.le_of_lt hb) h1 (Int.le_of_lt (Int.pow_pos (by decide))) (by decide)
  omega
theorem ndig_small {a : Int} {n : Nat} (ha : 0 ≤ a) (hA : a < 2 ^ 40) (h1 : 1 ≤ n) (h2 : n ≤ 20) : ndig a n ≤ 64 ∧ n * ndig a n ≤ 61 := by
  have hb : ((Builtin.Int.intBits a : Nat) : Int) ≤ 40 := by
    unfold Builtin.Int.intBits
    split
    · omega
    · rename_i hne
      have hne' : a ≠ 0 := by simpa using hne
      have : a.natAbs.log2 < 40 := (Nat.log2_lt (by omega)).mpr (by omega)
      omega
  unfold ndig
  generalize ((Builtin.Int.intBits a : Nat) : Int) = b at hb ⊢
  have hdm := Int.ediv_mul_add_emod (b + n - 1) n
  have hm0 := Int.emod_nonneg (b + n - 1) (show (n : Int) ≠ 0 by omega)
  generalize (b + n - 1) / (n : Int) = q at hdm ⊢
  generalize (b + n - 1) % (n : Int) = r at hdm hm0
  by_cases hq : q ≤ 0
  · have : q.toNat = 0 := by omega
    rw [this]; omega
  · obtain ⟨k, rfl⟩ := Int.eq_ofNat_of_zero_le (show 0 ≤ q by omega)
    rw [Int.toNat_natCast]
    have h3 : ((n * k : Nat) : Int) ≤ 59 := by rw [Nat.mul_comm]; push_cast; omega
    have h4 : 1 * k ≤ n * k := Nat.mul_le_mul_right _ h1
    omega

theorem neAll_off {D : Addr} : ∀ {fr : Led}, (∀ p ∈ fr, @Ne Nat p.1 D) → NeAll D fr
  | [], _ => trivial
  | p :: _, h => ⟨h p (.head _), neAll_off fun q hq => h q (.tail _ hq)⟩

theorem TailIs.sub {T led : Led} (h : TailIs T led) : ∀ p ∈ T, p ∈ led := by
  induction h with
  | here => exact fun _ h => h
  | there _ ih => exact fun p hp => .tail _ (ih p hp)
theorem news_sub {h₀ h : Heap} {L : Addr} {led led' : Led} (N : News h₀ L h led) (hs : ∀ p ∈ led', p ∈ led) : News h₀ L h led' := fun p hp => N p (hs p hp)
theorem post_back {h₀ g h' hh : Heap} {Lo L' : Addr} {m : Str → Option Value} {s : Shared} {tk' : Nat} {Q : Value → Shared → Prop} {fr led new T : Led} {Sh : Value → Led → Prop} {r : Value}
    (hret : ∀ r l' h' tk', Fr h₀ Lo h' m → News h₀ Lo h' (l' ++ fr) → (∀ q ∈ l', ∀ p ∈ fr, p.1 ≠ q.1) → PostT Tabs Sh r l' → Q r { s with heap := h', toks := tk' })
    (F : Fr h₀ Lo h' m) (N : News h₀ Lo h' led) (Ng : News g L' hh led) (NF : News h₀ Lo h' fr) (hgf : ∀ p ∈ fr, g.get? p.1 = some p.2)
    (tb : Tabs T) (hT : TailIs T led) (hnew : ∀ p ∈ new, p ∈ led) (off : ∀ q ∈ new, Off T q.1) (sh : Sh r new) : Q r { s with heap := h', toks := tk' } := by
  have sub : ∀ p ∈ new ++ T, p ∈ led := fun p hp => (List.mem_append.mp hp).elim (hnew p) (hT.sub p)
  exact hret r (new ++ T) h' tk' F (news_both (fun p hp => N p (sub p hp)) NF) (apart_of (g := g) (L' := L') (h := hh) (fun p hp => Ng p (sub p hp)) hgf) ⟨new, T, rfl, tb, fun p hp q hq => off q hq p hp, sh⟩

theorem neg_div {a b : Int} (hb : 0 < b) : -((-a - 1) / b) - 1 = a / b ∧ b + (-((-a - 1) % b) - 1) = a % b := by
  have h1 := Int.ediv_mul_add_emod (-a - 1) b
  have h2 := Int.emod_nonneg (-a - 1) (show b ≠ 0 by omega)
  have h3 := Int.emod_lt_of_pos (-a - 1) hb
  generalize (-a - 1) / b = q at h1 ⊢
  generalize (-a - 1) % b = r at h1 h2 h3 ⊢
  have e : a = (b - r - 1) + b * (-q - 1) := by
    have : b * (-q - 1) = -(q * b) - b := by rw [Int.mul_sub, Int.mul_neg, Int.mul_one, Int.mul_comm]
    omega
  rw [e, Int.add_mul_ediv_left _ _ (by omega), Int.ediv_eq_zero_of_lt (by omega) (by omega), Int.add_mul_emod_self_left, Int.emod_eq_of_lt (by omega) (by omega)]
  omega
end Mine

end
section
set_option maxRecDepth 100000
open PySem PySem.W PyProof.Rows PySem.Spec PySem.Calls
namespace Mine
section
variable {prog : Program} {w : World} {A : Around} {E : Value → Shared → Prop} {s : Shared} {h₀ : Heap} {L : Addr} {env : Env} {target : Expr} {body : List Stmt} {Q : Flow → Shared → Prop} {m₀ : Str → Option Value} {led₀ : Led}
def DmpJ (a b : Int) (n nd : Nat) (Dq D1 : Addr) (vs : List Value) (nn : Nat) (T : Led) (m₀ : Str → Option Value) (i : Nat) (m : Str → Option Value) (led : Led) : Prop :=
  ∃ (r : Int) (tr : Tok) (qv : List Value) (qs : List Int) (qn : Nat), led = (Dq, listOf qv.toArray qn) :: (D1, listOf vs.toArray nn) :: T ∧ IntsAre qv qs ∧ DivI a b n nd i qs r ∧ Names [(Str.ofString "r", .int r tr)] [Str.ofString "a_digit", Str.ofString "q_digit"] m₀ m
theorem dmp_loop {a b : Int} {n nd : Nat} {I Dq D1 : Addr} {vs : List Value} {nn nq : Nat} {T : Led} {t0 : Tok} (hh : A.handled = none) (F : Fr h₀ L s.heap m₀)
    (N : News h₀ L s.heap ((I, revObj D1 ((vs.length : Int) - 1)) :: (Dq, listOf #[] nq) :: (D1, listOf vs.toArray nn) :: T)) (off : ∀ p ∈ (Dq, listOf #[] nq) :: (D1, listOf vs.toArray nn) :: T, @Ne Nat p.1 I) (hi : IntsAre vs (digs a.toNat n nd))
    (hr0 : m₀ (Str.ofString "r") = some (.int 0 t0)) (hb : 0 < b) (ht : ∀ I v, letOwnedTupleGo target (.ref I) v = pure ())
    (turn : ∀ (i : Nat) (r : Int) (tr : Tok) (qv : List Value) (qs : List Int) (qn : Nat) (d : Int) (td : Tok) (u : Str → Option Value) (h : Heap) (tk : Nat) (it : Obj), i < nd → DivI a b n nd i qs r → IntsAre qv qs → (digs a.toNat n nd)[nd - 1 - i]? = some d →
      Fr h₀ L h (kstB (fun z => if [Str.ofString "a_digit", Str.ofString "q_digit"].contains z then u z else m₀ z) [(Str.ofString "r", .int r tr)]) → News h₀ L h ((I, it) :: (Dq, listOf qv.toArray qn) :: (D1, listOf vs.toArray nn) :: T) → (∀ p ∈ (Dq, listOf qv.toArray qn) :: (D1, listOf vs.toArray nn) :: T, @Ne Nat p.1 I) →
      wpAny (model prog w) A (assign target env (.int d td)) (fun _ s₂ => wpAny (model prog w) A (execs body env) (TurnPost h₀ L I it (DmpJ a b n nd Dq D1 vs nn T m₀ (i + 1)) s Q) E s₂) E { s with heap := h, toks := tk })
    (done : ∀ (r : Int) (tr : Tok) (qv : List Value) (qs : List Int) (qn : Nat) (u : Str → Option Value) (h : Heap) (tk : Nat), DivI a b n nd nd qs r → IntsAre qv qs →
      Fr h₀ L h (kstB (fun z => if [Str.ofString "a_digit", Str.ofString "q_digit"].contains z then u z else m₀ z) [(Str.ofString "r", .int r tr)]) → News h₀ L h ((Dq, listOf qv.toArray qn) :: (D1, listOf vs.toArray nn) :: T) → Q .next { s with heap := h, toks := tk })
    (hE : PassesOwn (model prog w) A env E) :
    wpAny (model prog w) A (pyIter (.ref I)) (fun it s₂ => codeAny (model prog w) A (.forLoop target it body [] env) (LoopBack prog w A env Q E) s₂) E s := by
  have hl : s.heap.IsList D1 vs.toArray := ⟨_, (N (D1, listOf vs.toArray nn) (.tail _ (.tail _ (.head _)))).1, rfl, _, rfl⟩
  have hlen : vs.length = nd := by rw [hi.length, digs_length]
  refine for_rev (DmpJ a b n nd Dq D1 vs nn T m₀) hh hl ht F N off ⟨0, t0, [], [], nq, rfl, .nil, divI_start hb, ?_, fun _ _ _ => rfl⟩ ?_ ?_ ?_ hE
  · intro p hp
    rw [List.mem_singleton.mp hp]; exact hr0
  · rintro i m led ⟨_, _, _, _, _, rfl, _⟩
    exact .inr ⟨_, .tail _ (.head _), rfl, _, rfl⟩
  · rintro i v m led h tk it hlt hv ⟨r, tr, qv, qs, qn, rfl, hq, hI, hnm⟩ F' N' off'
    rw [hlen] at hlt hv
    obtain ⟨d, td, rfl, hd⟩ := hi.at _ _ hv
    exact turn i r tr qv qs qn d td m h tk it hlt hI hq hd (hnm.fr F') N' off'
  · rintro m led h tk ⟨r, tr, qv, qs, qn, rfl, hq, hI, hnm⟩ F' N'
    rw [hlen] at hI
    exact done r tr qv qs qn m h tk hI hq (hnm.fr F') N'
end
end Mine

end
section
set_option maxRecDepth 100000
open PySem PySem.W PyProof.Rows PySem.Spec PySem.Calls PyProof.Rows.LCg PyProof.Rows.LCt
namespace Mine
section
variable {prog : Program} {w : World} {A : Around} {E : Value → Shared → Prop} {s : Shared} {h₀ : Heap} {L : Addr} {m : Str → Option Value} {env : Env}
/-- a comprehension's turn has ended: what it made is dropped, the tables may have turned -/
def CTurn (h₀ : Heap) (L : Addr) (m : Str → Option Value) (I : Addr) (oI : Obj) (C : Addr) (oC : Obj) (D : Addr) (ys : List Value) (pre : Led) (s s' : Shared) : Prop :=
  ∃ h' tk' T', s' = { s with heap := h', toks := tk' } ∧ Fr h₀ L h' m ∧ News h₀ L h' ((I, oI) :: (C, oC) :: (D, lst ys) :: (pre ++ T')) ∧ Tabs T' ∧ OwnOff T' (I :: C :: D :: pre.map (·.1))
abbrev CTurnGoal (prog : Program) (w : World) (A : Around) (h₀ : Heap) (L : Addr) (m : Str → Option Value) (env : Env) (ct : Expr) (x : Str) (scope : Scope) (cl : List (Str × Addr)) (q : Int → Bool) (pre : Led) (ns : List Int) (s : Shared) : Prop :=
  ∀ (k : Int) (t : Tok) (I : Addr) (oI : Obj) (C : Addr) (oC : Obj) (D : Addr) (m₂ : Str → Option Value) (h : Heap) (tk : Nat) (E' : Value → Shared → Prop) (ys : List Value) (T : Led), k ∈ ns → Tabs T → OwnOff T (I :: C :: D :: pre.map (·.1)) → NsObj oC m₂ → m₂ x = some (.int k t) →
    Fr h₀ L h m → News h₀ L h ((I, oI) :: (C, oC) :: (D, lst ys) :: (pre ++ T)) → Off3 I C D pre → ((@Ne Nat I C) ∧ (@Ne Nat I D) ∧ (@Ne Nat C D)) →
    wpAny (model prog w) A (isTrue ct (compEnvC scope cl C env) (eval ct (compEnvC scope cl C env))) (fun ok s' => ok = q k ∧ CTurn h₀ L m I oI C oC D ys pre { s with heap := h, toks := tk } s') E' { s with heap := h, toks := tk }
theorem off3_left {I C D : Addr} : ∀ {a b : Led}, Off3 I C D (a ++ b) → Off3 I C D a ∧ Off3 I C D b
  | [], _, h => ⟨trivial, h⟩
  | _ :: _, _, h => ⟨⟨h.1, (off3_left h.2).1⟩, (off3_left h.2).2⟩
theorem off3_both {I C D : Addr} : ∀ {a b : Led}, Off3 I C D a → Off3 I C D b → Off3 I C D (a ++ b)
  | [], _, _, h => h
  | _ :: _, _, x, h => ⟨x.1, off3_both x.2 h⟩
theorem filt_rest {ct : Expr} {x : Str} {px : Pos} {scope : Scope} {cl : List (Str × Addr)} {q : Int → Bool} {pre : Led} {ns : List Int} {S : Led → Prop} {P : Nat → Value → Prop} {Fin : List Value → Led → Prop}
    (hkf : (compEnvC scope cl 0 env).scope.kind = .function) (hxl : ∀ C, (compEnvC scope cl C env).kindOf x = some .local) (hxd : (x == ("__debug__" : Str)) = false)
    (hP : ∀ i v, P i v → i < ns.length → ∃ k t, v = .int k t ∧ ns[i]? = some k) (hS : ∀ T, S (pre ++ T))
    (turn : CTurnGoal prog w A h₀ L m env ct x scope cl q pre ns s)
    (fin : ∀ ys T, Tabs T → OwnOff T (pre.map (·.1)) → IntsAre ys (ns.filter q) → Fin ys (pre ++ T)) :
    ∀ (k i : Nat) (ys : List Value) (T : Led), i + k = ns.length → Tabs T → OwnOff T (pre.map (·.1)) → IntsAre ys ((ns.take i).filter q) →
      CompRestT prog w A h₀ L m env ct (.Name x px) x scope cl s S P Fin k i ys (pre ++ T) := by
  intro k
  induction k with
  | zero =>
    intro i ys T hi tb off hy
    have : i = ns.length := by omega
    subst this
    rw [List.take_length] at hy
    exact CompRestT.zero (fin ys T tb off hy)
  | succ k ih =>
    intro i ys T hi tb off hy
    refine CompRestT.succ ?_
    intro v I oI C oC D m₂ h tk E' hv hC hx F N o3 ne
    obtain ⟨y, t, rfl, hy'⟩ := hP i v hv (by omega)
    obtain ⟨o3p, o3t⟩ := off3_left o3
    have offT : OwnOff T (I :: C :: D :: pre.map (·.1)) := by
      intro p hp b hb
      have z := Off3.mem o3t p hp
      rcases List.mem_cons.mp hb with rfl | hb
      · exact z.1
      rcases List.mem_cons.mp hb with rfl | hb
      · exact z.2.1
      rcases List.mem_cons.mp hb with rfl | hb
      · exact z.2.2
      exact off p hp b hb
    have take : (ns.take (i + 1)).filter q = (ns.take i).filter q ++ (if q y = true then [y] else []) := by
      rw [List.take_add_one, hy', List.filter_append]
      congr 1
      simp [List.filter_cons]
    refine wpAny_mono (turn y t I oI C oC D m₂ h tk E' ys T (List.mem_of_getElem? hy') tb offT hC hx F N o3p ne) (fun ok s' hs' => ?_) fun _ _ e => e
    obtain ⟨rfl, h', tk', T', rfl, F', N', tb', off'⟩ := hs'
    have offp : OwnOff T' (pre.map (·.1)) := fun p hp b hb => off' p hp b (.tail _ (.tail _ (.tail _ hb)))
    have o3' : Off3 I C D (pre ++ T') := off3_both o3p (Off3.of fun p hp => ⟨off' p hp I (.head _), off' p hp C (.tail _ (.head _)), off' p hp D (.tail _ (.tail _ (.head _)))⟩)
    cases hq : q y with
    | true =>
      rw [hq] at take
      simp only [if_true]
      refine wpAny_Name (wpAny_loadName_local hkf (hxl C) (hC.ns (N' (C, oC) (.tail _ (.head _))).1) hx ?_) hxd
      exact ⟨h', tk', pre ++ T', rfl, F', N', o3', hS T', ih (i + 1) (ys ++ [.int y t]) T' (by omega) tb' offp (by rw [take]; exact IntsAre.append hy (.cons y t .nil))⟩
    | false =>
      rw [hq] at take
      simp only [Bool.false_eq_true, if_false]
      exact ⟨h', tk', pre ++ T', rfl, F', N', o3', hS T', ih (i + 1) ys T' (by omega) tb' offp (by rw [take]; simpa using hy)⟩

/-- what is known when the comprehension's list is handed on -/
def CDone (h₀ : Heap) (L : Addr) (m : Str → Option Value) (s : Shared) (Q : Value → Shared → Prop) (pre : Led) (ms : List Int) : Prop :=
  ∀ D (ys : List Value) T h tk, Tabs T → OwnOff T (D :: pre.map (·.1)) → NeAll D pre → IntsAre ys ms → Fr h₀ L h m → News h₀ L h ((D, listOf ys.toArray ys.length) :: (pre ++ T)) → Q (.ref D) { s with heap := h, toks := tk }
def CDoneA (h₀ : Heap) (L : Addr) (m : Str → Option Value) (s : Shared) (y : Str) (Q : Flow → Shared → Prop) (pre : Led) (ms : List Int) : Prop :=
  ∀ D (ys : List Value) T h tk, Tabs T → OwnOff T (D :: pre.map (·.1)) → NeAll D pre → IntsAre ys ms → Fr h₀ L h (fun z => if z = y then some (.ref D) else m z) → News h₀ L h ((D, listOf ys.toArray ys.length) :: (pre ++ T)) → Q .next { s with heap := h, toks := tk }
theorem off1_split {D : Addr} : ∀ {pre T : Led}, OwnOff T (pre.map (·.1)) → Off1 D (pre ++ T) → OwnOff T (D :: pre.map (·.1)) ∧ NeAll D pre := by
  have all : ∀ {l : Led}, Off1 D l → ∀ p ∈ l, @Ne Nat p.1 D := by
    intro l
    induction l with
    | nil => exact fun _ _ h => nomatch h
    | cons a r ih =>
      intro x p hp
      rcases List.mem_cons.mp hp with rfl | hp
      · exact x.1
      · exact ih x.2 p hp
  intro pre T off x
  refine ⟨fun p hp b hb => ?_, neAll_off fun p hp => all x p (List.mem_append_left _ hp)⟩
  rcases List.mem_cons.mp hb with rfl | hb
  · exact all x p (List.mem_append_right _ hp)
  · exact off p hp b hb
theorem finE_of {Q : Value → Shared → Prop} {pre T : Led} {ys : List Value} {ms : List Int} (d : CDone h₀ L m s Q pre ms) (tb : Tabs T) (off : OwnOff T (pre.map (·.1))) (hy : IntsAre ys ms) : FinE h₀ L m s Q ys (pre ++ T) := fun D h tk F N o1 =>
  let ⟨a, b⟩ := off1_split off o1
  d D ys T h tk tb a b hy F N
theorem finA_of {y : Str} {Q : Flow → Shared → Prop} {pre T : Led} {ys : List Value} {ms : List Int} (d : CDoneA h₀ L m s y Q pre ms) (tb : Tabs T) (off : OwnOff T (pre.map (·.1))) (hy : IntsAre ys ms) : FinA h₀ L m s y Q ys (pre ++ T) := fun D h tk F N o1 =>
  let ⟨a, b⟩ := off1_split off o1
  d D ys T h tk tb a b hy F N
section
variable {ct : Expr} {x : Str} {px : Pos} {scope : Scope} {cl : List (Str × Addr)} {pre T led : Led}
theorem splits_app {l : Led} (sp : Splits led T l) : ∀ p ∈ l ++ T, p ∈ led := fun p hp => sp.sub p ((List.mem_append.mp hp).elim (List.mem_append_right _) (List.mem_append_left _))
theorem src_range {r : Addr} {a b : Int} {t u v : Tok} {n : Nat} {Fin : Shared → List Value → Led → Prop} (q : Int → Bool)
    (hh : A.handled = none) (F : Fr h₀ L s.heap m) (N : News h₀ L s.heap led) (tb : Tabs T) (sp : Splits led T pre) (off : OwnOff T (pre.map (·.1))) (hr : IsRange s.heap r a b 1 t u v) (hsm : Builtin.Range.small a b 1 = true) (hn : Builtin.Range.rangeSize a b 1 = ((n : Nat) : Int)) (hsz : n ≤ 100000)
    (hkf : (compEnvC scope cl 0 env).scope.kind = .function) (hxl : ∀ C, (compEnvC scope cl C env).kindOf x = some .local) (hxd : (x == ("__debug__" : Str)) = false)
    (turn : ∀ g, CTurnGoal prog w A h₀ L m env ct x scope cl q pre (rangeKs a n) { s with heap := g })
    (fin : ∀ g ys T, Tabs T → OwnOff T (pre.map (·.1)) → IntsAre ys ((rangeKs a n).filter q) → Fin { s with heap := g } ys (pre ++ T)) :
    CompSrcT prog w A h₀ L m env ct (.Name x px) x scope cl Fin (.ref r) s := by
  refine CompSrcT.range (news := pre ++ T) hh F (fun p hp => N p (splits_app sp p hp)) hr hsm hn (by rw [sizeLine_eq]; omega) fun g => ?_
  have := filt_rest (S := fun _ => True) (P := fun i v => ∃ t, v = .int (a + (i : Int)) t) (Fin := Fin { s with heap := g }) (px := px) hkf hxl hxd ?_ (fun _ => trivial) (turn g) (fin g) n 0 [] T (by rw [rangeKs_length]; omega) tb off (by simpa using IntsAre.nil)
  · exact this
  · rintro i v ⟨t, rfl⟩ hi
    rw [rangeKs_length] at hi
    exact ⟨_, t, rfl, by simp [rangeKs, hi]⟩
theorem src_list {l : Addr} {vs : List Value} {ns : List Int} {nn : Nat} {Fin : Shared → List Value → Led → Prop} (q : Int → Bool)
    (hh : A.handled = none) (F : Fr h₀ L s.heap m) (N : News h₀ L s.heap led) (tb : Tabs T) (sp : Splits led T pre) (off : OwnOff T (pre.map (·.1))) (hm : (l, listOf vs.toArray nn) ∈ pre) (hi : IntsAre vs ns) (hsz : ns.length ≤ 100000)
    (hkf : (compEnvC scope cl 0 env).scope.kind = .function) (hxl : ∀ C, (compEnvC scope cl C env).kindOf x = some .local) (hxd : (x == ("__debug__" : Str)) = false)
    (turn : ∀ g, CTurnGoal prog w A h₀ L m env ct x scope cl q pre ns { s with heap := g })
    (fin : ∀ g ys T, Tabs T → OwnOff T (pre.map (·.1)) → IntsAre ys (ns.filter q) → Fin { s with heap := g } ys (pre ++ T)) :
    CompSrcT prog w A h₀ L m env ct (.Name x px) x scope cl Fin (.ref l) s := by
  have hl := hi.length
  refine CompSrcT.ledger (news := pre ++ T) (its := vs.toArray) (k := nn) hh F (fun p hp => N p (splits_app sp p hp)) (List.mem_append_left _ hm) (by rw [sizeLine_eq, List.size_toArray]; omega) fun g => ?_
  have := filt_rest (S := SrcAt h₀ l vs.toArray) (P := fun i v => vs.toArray[i]? = some v) (Fin := Fin { s with heap := g }) (px := px) hkf hxl hxd ?_ (fun _ => .inr ⟨_, List.mem_append_left _ hm, rfl, _, rfl⟩) (turn g) (fin g) ns.length 0 [] T (by omega) tb off (by simpa using IntsAre.nil)
  · rw [List.size_toArray, hl]; exact this
  · intro i v hv _
    obtain ⟨k, t, rfl, e⟩ := hi.at i v (by simpa using hv)
    exact ⟨k, t, rfl, e⟩
end
end
end Mine

end
section
set_option maxRecDepth 100000
open PySem PySem.W PyProof.Rows PySem.Spec PySem.Calls
namespace Mine
theorem countLt_cons {a x : Int} {r : List Int} (hs : (a :: r).Pairwise (· ≤ ·)) : countLt (a :: r) x = if a < x then countLt r x + 1 else 0 := by
  unfold countLt
  rw [List.countP_cons]
  by_cases h : a < x
  · simp [h]
  · have : r.countP (fun y => decide (y < x)) = 0 := by
      rw [List.countP_eq_zero]
      intro y hy
      have := (List.pairwise_cons.mp hs).1 y hy
      simp; omega
    simp [h, this]
theorem insL_cons {a x : Int} {r : List Int} (hs : (a :: r).Pairwise (· ≤ ·)) : insL (a :: r) x = if a < x then a :: insL r x else x :: a :: r := by
  unfold insL
  rw [countLt_cons hs]
  split <;> rfl
theorem mem_insL {ns : List Int} {x y : Int} : y ∈ insL ns x ↔ y = x ∨ y ∈ ns := by
  unfold insL
  have : y ∈ ns ↔ y ∈ ns.take (countLt ns x) ∨ y ∈ ns.drop (countLt ns x) := by rw [← List.mem_append, List.take_append_drop]
  rw [this, List.mem_append, List.mem_cons]
  constructor
  · rintro (h | h | h)
    · exact .inr (.inl h)
    · exact .inl h
    · exact .inr (.inr h)
  · rintro (h | h | h)
    · exact .inr (.inl h)
    · exact .inl h
    · exact .inr (.inr h)
theorem insL_sorted {x : Int} : ∀ {ns : List Int}, ns.Pairwise (· ≤ ·) → (insL ns x).Pairwise (· ≤ ·)
  | [], _ => by simp [insL]
  | a :: r, hs => by
    rw [insL_cons hs]
    obtain ⟨h1, h2⟩ := List.pairwise_cons.mp hs
    split
    · rename_i h
      refine List.pairwise_cons.mpr ⟨fun y hy => ?_, insL_sorted h2⟩
      rcases mem_insL.mp hy with rfl | hy
      · omega
      · exact h1 y hy
    · rename_i h
      refine List.pairwise_cons.mpr ⟨fun y hy => ?_, hs⟩
      rcases List.mem_cons.mp hy with rfl | hy
      · omega
      · have := h1 y hy; omega
/-- one turn of the row of squares' rests -/
def sqStep (W : Int) (o : List Int) (k : Int) : List Int := if countLt o (k * k % W) = o.length ∨ o.getD (countLt o (k * k % W)) 0 ≠ k * k % W then insL o (k * k % W) else o
def sqL (W : Int) (n : Nat) : List Int := (rangeKs 0 n).foldl (sqStep W) []
theorem sqStep_sorted {W k : Int} {o : List Int} (h : o.Pairwise (· ≤ ·)) : (sqStep W o k).Pairwise (· ≤ ·) := by
  unfold sqStep; split
  · exact insL_sorted h
  · exact h
theorem sqStep_length {W k : Int} {o : List Int} : (sqStep W o k).length ≤ o.length + 1 := by
  unfold sqStep; split
  · rw [insL_length]; omega
  · omega
theorem rangeKs_succ (a : Int) (n : Nat) : rangeKs a (n + 1) = rangeKs a n ++ [a + (n : Int)] := by simp [rangeKs, List.range_succ]
theorem sqL_succ (W : Int) (n : Nat) : sqL W (n + 1) = sqStep W (sqL W n) (0 + (n : Int)) := by unfold sqL; rw [rangeKs_succ, List.foldl_append]; rfl
theorem sqL_sorted (W : Int) : ∀ n, (sqL W n).Pairwise (· ≤ ·)
  | 0 => by simp [sqL, rangeKs]
  | n + 1 => by rw [sqL_succ]; exact sqStep_sorted (sqL_sorted W n)
theorem sqL_length (W : Int) : ∀ n, (sqL W n).length ≤ n
  | 0 => by simp [sqL, rangeKs]
  | n + 1 => by rw [sqL_succ]; have := sqL_length W n; have := @sqStep_length W (0 + (n : Int)) (sqL W n); omega
theorem ap_one {fr : Led} {a : Addr} {o : Obj} (h : ∀ p ∈ fr, @Ne Nat p.1 a) : ∀ p ∈ fr, ∀ q ∈ [(a, o)], p.1 ≠ q.1 := fun p hp q hq => by
  rw [List.mem_singleton.mp hq]; exact h p hp
section
variable {prog : Program} {w : World} {A : Around} {E : Value → Shared → Prop} {s : Shared} {h₀ : Heap} {L : Addr} {env : Env} {target : Expr} {body : List Stmt} {Q : Flow → Shared → Prop} {m₀ : Str → Option Value}
theorem item_nat {value slice : Expr} {l : Addr} {vs : List Value} {ns : List Int} {k : Nat} {u : Tok} {Q : Value → Shared → Prop}
    (hl : s.heap.IsList l vs.toArray) (hi : IntsAre vs ns) (hb : k < ns.length) (hz : ns.length ≤ 100000)
    (h : ∀ t, Q (.int (ns.getD k 0) t) s)
    (hs : subscripted slice false (.ref l) (.int (k : Nat) u) = operate [.ref l, .int (k : Nat) u] (getItem (.ref l) (.int (k : Nat) u)) := by with_unfolding_all rfl) :
    wpAny (model prog w) A (subscriptTail value slice (.ref l) (.int (k : Nat) u)) Q E s := by
  refine item_at hl hi (by omega) (by omega) hz (fun y t hy => ?_) hs
  rw [Int.toNat_natCast] at hy
  have e : y = ns.getD k 0 := by rw [List.getD_eq_getElem?_getD, hy]; rfl
  rw [e]; exact h t
theorem pow_at {a b : Int} {t u : Tok} {Q : Value → Shared → Prop} (hb : 0 ≤ b) (hB : b ≤ 1000) (ha : a.natAbs < 2 ^ 62) (h : ∀ t' tk, Q (.int (a ^ b.toNat) t') { s with toks := tk }) : wpAny (model prog w) A (binaryOp .Pow (.int a t) (.int b u)) Q E s :=
  pow_int_small hb (by omega) (by omega) (h _ _)
abbrev sqNames : List Str := [Str.ofString "number", Str.ofString "rest", Str.ofString "place"]
def SqEnd (D : Addr) (ns : List Int) (m₀ : Str → Option Value) (m : Str → Option Value) (led : Led) : Prop :=
  ∃ vs nn T, led = (D, listOf vs.toArray nn) :: T ∧ IntsAre vs ns ∧ Tabs T ∧ Off T D ∧ Names [] sqNames m₀ m
theorem sq_loop {D r : Addr} {nn0 : Nat} {T0 : Led} {W b : Int} {n : Nat} {t₀ u₀ v₀ : Tok} (hh : A.handled = none) (hr : IsRange s.heap r 0 b 1 t₀ u₀ v₀) (hb : b = (n : Nat)) (hn : n ≤ 1000)
    (F : Fr h₀ L s.heap m₀) (N : News h₀ L s.heap ((D, listOf #[] nn0) :: T0)) (tb : Tabs T0) (off : Off T0 D) (ht : ∀ I v, letOwnedTupleGo target (.ref I) v = pure ())
    (turn : ∀ (k : Int) (t : Tok) (vs : List Value) (ns : List Int) (nn : Nat) (T : Led) (u : Str → Option Value) (I : Addr) (it : Obj) (h : Heap) (tk : Nat), 0 ≤ k → k < (n : Int) → 0 ≤ k * k → k * k ≤ 1000000 → IntsAre vs ns → ns.Pairwise (· ≤ ·) → ns.length ≤ 1000 → Tabs T → OwnOff T [I, D] → @Ne Nat D I →
      Fr h₀ L h (kstB (fun z => if sqNames.contains z then u z else m₀ z) []) → News h₀ L h ((I, it) :: (D, listOf vs.toArray nn) :: T) →
      wpAny (model prog w) A (assign target env (.int k t)) (fun _ s₂ => wpAny (model prog w) A (execs body env) (TurnPost h₀ L I it (SqEnd D (sqStep W ns k) m₀) s Q) E s₂) E { s with heap := h, toks := tk })
    (done : ∀ (vs : List Value) (nn : Nat) (T : Led) (u : Str → Option Value) (h : Heap) (tk : Nat), IntsAre vs (sqL W n) → Tabs T → Off T D → Fr h₀ L h (kstB (fun z => if sqNames.contains z then u z else m₀ z) []) → News h₀ L h ((D, listOf vs.toArray nn) :: T) → Q .next { s with heap := h, toks := tk })
    (hE : PassesOwn (model prog w) A env E) :
    wpAny (model prog w) A (pyIter (.ref r)) (fun it s₂ => codeAny (model prog w) A (.forLoop target it body [] env) (LoopBack prog w A env Q E) s₂) E s := by
  subst hb
  refine for_range (fun i m led => SqEnd D (sqL W i) m₀ m led) hh hr (small_one (by omega) (by omega) (by omega) (by omega)) (n := n) (by rw [rangeSize_nat]; omega) ht F N ⟨[], nn0, T0, rfl, .nil, tb, off, fun _ h => (nomatch h), fun _ _ _ => rfl⟩ ?_ ?_ hE
  · rintro i t I m led h tk it hi ⟨vs, nn, T, rfl, hv, tb', off', hnm⟩ F' N' offI
    have hkk : (0 + (i : Int)) * (0 + (i : Int)) ≤ 1000 * 1000 := Int.mul_le_mul (by omega) (by omega) (by omega) (by decide)
    have hl := sqL_length W i
    rw [sqL_succ]
    refine turn (0 + (i : Int)) t vs (sqL W i) nn T m I it h tk (by omega) (by omega) (Int.mul_nonneg (by omega) (by omega)) (by omega) hv (sqL_sorted W i) (by omega) tb' ?_ (offI _ (.head _)) (hnm.fr F') N'
    intro p hp a ha
    rcases List.mem_cons.mp ha with rfl | ha
    · exact offI p (.tail _ hp)
    · rw [List.mem_singleton.mp ha]; exact off' p hp
  · rintro m led h tk ⟨vs, nn, T, rfl, hv, tb', off', hnm⟩ F' N'
    exact done vs nn T m h tk hv tb' off' (hnm.fr F') N'
end

theorem sqStep_a {W k : Int} {ns : List Int} {vs : List Value} (h : ((countLt ns (k * k % W) : Nat) : Int) = ((ns.length : Nat) : Int)) (hv : IntsAre vs (insL ns (k * k % W))) : IntsAre vs (sqStep W ns k) := by
  unfold sqStep
  rw [if_pos (.inl (by omega))]; exact hv
theorem sqStep_b {W k : Int} {ns : List Int} {vs : List Value} (h : ns.getD (((countLt ns (k * k % W) : Nat) : Int)).toNat 0 ≠ k * k % W) (hv : IntsAre vs (insL ns (k * k % W))) : IntsAre vs (sqStep W ns k) := by
  unfold sqStep
  rw [Int.toNat_natCast] at h
  rw [if_pos (.inr h)]; exact hv
theorem sqStep_c {W k : Int} {ns : List Int} {vs : List Value} (h1 : ((countLt ns (k * k % W) : Nat) : Int) ≠ ((ns.length : Nat) : Int)) (h2 : ns.getD (((countLt ns (k * k % W) : Nat) : Int)).toNat 0 = k * k % W) (hv : IntsAre vs ns) : IntsAre vs (sqStep W ns k) := by
  unfold sqStep
  rw [Int.toNat_natCast] at h2
  rw [if_neg]
  · exact hv
  · rintro (h | h)
    · exact h1 (by omega)
    · exact h h2

theorem sq_back {h₀ h : Heap} {L I D : Addr} {it : Obj} {ns' : List Int} {m₀ m : Str → Option Value} {s : Shared} {tk nn : Nat} {Q : Flow → Shared → Prop} {vs : List Value} {led T : Led}
    (F : Fr h₀ L h m) (N : News h₀ L h led) (tb : Tabs T) (hT : TailIs T led) (hI : (I, it) ∈ led) (hi : IntsAre vs ns') (hD : (D, listOf vs.toArray nn) ∈ led) (offD : Off T D) (offI : Off T I) (hne : @Ne Nat D I)
    (nm : ∀ z, (∀ p ∈ ([] : List (Str × Value)), z ≠ p.1) → sqNames.contains z = false → m z = m₀ z) : TurnPost h₀ L I it (SqEnd D ns' m₀) s Q .next { s with heap := h, toks := tk } := by
  refine ⟨h, tk, m, (D, listOf vs.toArray nn) :: T, rfl, F, news_sub N ?_, ?_, ⟨vs, nn, T, rfl, hi, tb, offD, fun _ h => (nomatch h), nm⟩⟩
  · exact List.forall_mem_cons.mpr ⟨hI, List.forall_mem_cons.mpr ⟨hD, hT.sub⟩⟩
  · exact List.forall_mem_cons.mpr ⟨hne, offI⟩

/-- the figures of a to the base two, c of them, noughts behind -/
def figs (a c : Int) : List Int := (digs a.toNat 1 (ndig a 1) ++ List.replicate c.toNat 0).take c.toNat
def due2 (f : List Int) (b : Int) : List Int := (f.drop (b + 1).toNat).take (min (b + 3).toNat f.length - (b + 1).toNat)
def dueF (f : List Int) : Bool := if f.any (· == 1) then decide (((f.idxOf 1 : Nat) : Int) % 2 = 0) && !(due2 f (f.idxOf 1 : Nat)).any (· == 1) else true
def dueL (a c : Int) : Bool := dueF (figs a c)
theorem figs_length {a c : Int} (hC : c ≤ 1000) : (figs a c).length ≤ 1000 := by
  unfold figs; rw [List.length_take]; omega
theorem ndig1_le {a : Int} (ha : 0 ≤ a) (hA : a < 2 ^ 62) : ndig a 1 ≤ 64 := by
  obtain ⟨h1, h2, _⟩ := ndig_facts ha hA (Int.le_refl 1)
  unfold ndig
  omega
theorem dueF_no {f : List Int} (h : f.any (· == 1) = false) : true = dueF f := by
  unfold dueF
  rw [h]; rfl
theorem dueF_yes {f : List Int} (h : f.any (· == 1) = true) : (decide (((f.idxOf 1 : Nat) : Int) % 2 = 0) && !(due2 f (f.idxOf 1 : Nat)).any (· == 1)) = dueF f := by
  unfold dueF
  rw [h]; rfl
section
variable {prog : Program} {w : World} {A : Around} {E : Value → Shared → Prop} {s : Shared}
theorem can_ints : ∀ ns : List Int, PyData.canLayAll0 (ns.map .int) = true
  | [] => rfl
  | _ :: r => by simp [PyData.canLayAll0, PyData.canLay0, can_ints r]
theorem weight_ints : ∀ ns : List Int, (∀ y ∈ ns, y.natAbs < 2 ^ 62) → PyData.weightAll (ns.map .int) ≤ 64 * ns.length
  | [], _ => by simp [PyData.weightAll]
  | a :: r, h => by
    have h1 := weight_ints r fun y hy => h y (.tail _ hy)
    have h2 : PyData.weight (.int a) ≤ 63 := by
      have := bits_small (h a (.head _))
      unfold PyData.weight
      split
      · omega
      · rename_i hne
        have hne' : a ≠ 0 := by simpa using hne
        have : a.natAbs.log2 < 62 := (Nat.log2_lt (by omega)).mpr (h a (.head _))
        omega
    rw [List.map_cons, PyData.weightAll, List.length_cons]
    omega
theorem depth_ints : ∀ ns : List Int, PyData.depthAll (ns.map .int) ≤ 1
  | [] => by simp [PyData.depthAll]
  | a :: r => by
    have h1 := depth_ints r
    rw [List.map_cons, PyData.depthAll, PyData.depth]
    omega
theorem lay_ints {ns : List Int} (h : ns.length ≤ 1000) (hb : ∀ y ∈ ns, y.natAbs < 2 ^ 62) : PyData.layable0 (.list (ns.map .int)) = true := by
  unfold PyData.layable0
  have h1 := weight_ints ns hb
  have h2 := depth_ints ns
  have h3 := can_ints ns
  rw [PyData.canLay0, PyData.depth, PyData.weight, h3]
  simp
  omega
theorem idx_at {l : Addr} {vs : List Value} {ns : List Int} {k : Int} {t : Tok} {Q : Value → Shared → Prop} (hl : s.heap.IsList l vs.toArray) (hi : IntsAre vs ns) (hz : ns.length ≤ 1000) (hb : ∀ y ∈ ns, y.natAbs < 2 ^ 62) (hk : k ∈ ns)
    (h : ∀ t tk, Q (.int (ns.idxOf k : Nat) t) { s with toks := tk }) : wpAny (model prog w) A (call (.builtin "list.index") [.ref l, .int k t]) Q E s :=
  index_list_ints hl hi (lay_ints hz hb) hk (h _ _)
end

theorem figs_small {a c : Int} : ∀ y ∈ figs a c, y.natAbs < 2 ^ 62 := by
  intro y hy
  have hm := List.mem_of_mem_take hy
  rcases List.mem_append.mp hm with h | h
  · have := digs_mem 1 _ _ y h
    omega
  · rw [List.eq_of_mem_replicate h]; decide
theorem any_mem {f : List Int} {k : Int} (h : f.any (· == k) = true) : k ∈ f := by
  obtain ⟨y, hy, e⟩ := List.any_eq_true.mp h
  rw [← eq_of_beq e]; exact hy

theorem dueF_a {f : List Int} (h : f.any (· == 1) = true) (h2 : ((f.idxOf 1 : Nat) : Int) % 2 = 0) : (!(due2 f (f.idxOf 1 : Nat)).any (· == 1)) = dueF f := by
  rw [← dueF_yes h, decide_eq_true h2, Bool.true_and]
theorem dueF_b {f : List Int} (h : f.any (· == 1) = true) (h2 : ((f.idxOf 1 : Nat) : Int) % 2 ≠ 0) : (((f.idxOf 1 : Nat) : Int) % 2 == 0) = dueF f := by
  rw [← dueF_yes h, decide_eq_false h2, Bool.false_and]
  simpa using h2
end Mine

end
section
set_option maxRecDepth 100000
open PySem PySem.W PyProof.Rows PySem.Spec PySem.Calls PyProof.Rows.LCg PyProof.Rows.LCt
namespace Mine
theorem ownOff_nil {T : Led} : OwnOff T [] := fun _ _ _ h => nomatch h
theorem ownOff_cons {T : Led} {a : Addr} {r : List Addr} (h : Off T a) (k : OwnOff T r) : OwnOff T (a :: r) := fun p hp b hb => by
  rcases List.mem_cons.mp hb with rfl | hb
  · exact h p hp
  · exact k p hp b hb
/-- the law's two tables at its start, put behind the cells -/
theorem law_start {h₀ h : Heap} {L : Addr} {cs : Led} (N : News h₀ L h (cs ++ [(37, tabObj #[]), (30, tabObj #[])])) (hc : ∀ p ∈ cs, @LT.lt Nat _ 37 p.1) :
    ∃ T, Tabs T ∧ News h₀ L h (cs ++ T) ∧ OwnOff T (cs.map (·.1)) := by
  refine ⟨[(30, tabObj #[])] ++ [(37, tabObj #[])], ⟨_, _, rfl, .inl rfl, .inl rfl, ?_⟩, fun p hp => N p ?_, ?_⟩
  · intro p hp q hq
    rw [List.mem_singleton.mp hp, List.mem_singleton.mp hq]; decide
  · rcases List.mem_append.mp hp with h | h
    · exact List.mem_append_left _ h
    · refine List.mem_append_right _ ?_
      rcases List.mem_append.mp h with h | h
      · rw [List.mem_singleton.mp h]; exact .tail _ (.head _)
      · rw [List.mem_singleton.mp h]; exact .head _
  · intro p hp b hb
    obtain ⟨q, hq, rfl⟩ := List.mem_map.mp hb
    have h1 := hc q hq
    have h2 : p.1 = 30 ∨ p.1 = 37 := by
      rcases List.mem_append.mp hp with h | h
      · rw [List.mem_singleton.mp h]; exact .inl rfl
      · rw [List.mem_singleton.mp h]; exact .inr rfl
    intro e
    have h3 : p.1 = q.1 := e
    rw [h3] at h2
    rcases h2 with h2 | h2 <;> rw [h2] at h1 <;> exact absurd h1 (by decide)
section
variable {prog : Program} {w : World} {A : Around} {E : Value → Shared → Prop} {s : Shared} {h₀ : Heap} {L : Addr} {m : Str → Option Value} {env : Env}
theorem ct_end {I C D : Addr} {oI oC : Obj} {ys : List Value} {pre led T : Led} {s : Shared} {h h' : Heap} {tk tk' : Nat} {b c : Bool} (hb : b = c) (F : Fr h₀ L h' m) (N : News h₀ L h' led) (tb : Tabs T) (hT : TailIs T led)
    (sub : ∀ p ∈ (I, oI) :: (C, oC) :: (D, lst ys) :: pre, p ∈ led) (off : OwnOff T (I :: C :: D :: pre.map (·.1))) :
    b = c ∧ CTurn h₀ L m I oI C oC D ys pre { s with heap := h, toks := tk } { s with heap := h', toks := tk' } :=
  ⟨hb, h', tk', T, rfl, F, fun p hp => by
    rw [← List.cons_append, ← List.cons_append, ← List.cons_append] at hp
    exact N p ((List.mem_append.mp hp).elim (sub p) (hT.sub p)), tb, off⟩
theorem ct_end2 {I C D : Addr} {oI oC : Obj} {ys : List Value} {pre led T : Led} {s : Shared} {h h' : Heap} {tk tk' : Nat} (F : Fr h₀ L h' m) (N : News h₀ L h' led) (tb : Tabs T) (hT : TailIs T led)
    (sub : ∀ p ∈ (I, oI) :: (C, oC) :: (D, lst ys) :: pre, p ∈ led) (off : OwnOff T (I :: C :: D :: pre.map (·.1))) :
    CTurn h₀ L m I oI C oC D ys pre { s with heap := h, toks := tk } { s with heap := h', toks := tk' } := (ct_end (b := true) (c := true) rfl F N tb hT sub off).2
theorem item_int {value slice : Expr} {l : Addr} {vs : List Value} {ns : List Int} {k : Int} {u : Tok} {Q : Value → Shared → Prop}
    (hl : s.heap.IsList l vs.toArray) (hi : IntsAre vs ns) (h0 : 0 ≤ k) (hb : k < (ns.length : Nat)) (hz : ns.length ≤ 100000)
    (h : ∀ t, Q (.int (ns.getD k.toNat 0) t) s)
    (hs : subscripted slice false (.ref l) (.int k u) = operate [.ref l, .int k u] (getItem (.ref l) (.int k u)) := by with_unfolding_all rfl) :
    wpAny (model prog w) A (subscriptTail value slice (.ref l) (.int k u)) Q E s := by
  refine item_at hl hi h0 (by omega) hz (fun y t hy => ?_) hs
  have e : y = ns.getD k.toNat 0 := by rw [List.getD_eq_getElem?_getD, hy]; rfl
  rw [e]; exact h t
end
end Mine
namespace Mine
theorem law2_facts (x : Int) : (8 : Int) ≤ 2 ^ (3 + x % 3).toNat ∧ (2 : Int) ^ (3 + x % 3).toNat ≤ 32 ∧ (sqL (2 ^ (3 + x % 3).toNat) (2 ^ (3 + x % 3).toNat)).length ≤ 32 := by
  have h : 3 + x % 3 = 3 ∨ 3 + x % 3 = 4 ∨ 3 + x % 3 = 5 := by omega
  have hl := sqL_length (2 ^ (3 + x % 3).toNat) (2 ^ (3 + x % 3).toNat)
  rcases h with h | h | h <;> rw [h] at hl ⊢ <;> refine ⟨by decide, by decide, Nat.le_trans hl (by decide)⟩
end Mine

namespace Mine
theorem tabOne_get {P : Addr} {pos : Pos} {qual : Str} {T : Led} (h : TabOne P pos qual T) : ∃ ps, (P, tabObj ps) ∈ T := by
  rcases h with rfl | ⟨c', oc, vs, t, rfl, _⟩
  · exact ⟨_, .head _⟩
  · exact ⟨_, .head _⟩
theorem grown_end {h₀ h : Heap} {L : Addr} {led T : Led} (N : News h₀ L h led) (tb : Tabs T) (hT : TailIs T led) : GrownAll [(41, 37), (34, 30)] h := by
  obtain ⟨A, B, rfl, hA, hB, _⟩ := tb
  obtain ⟨a, ha⟩ := tabOne_get hA
  obtain ⟨b, hb⟩ := tabOne_get hB
  exact ⟨⟨b, (N _ (hT.sub _ (List.mem_append_right _ hb))).1⟩, ⟨a, (N _ (hT.sub _ (List.mem_append_left _ ha))).1⟩, trivial⟩
/-- a law's loop: the cell at cn may change, the rest of the ledger stands, but for the tables -/
def LawJ (fix : Led) (cn : Addr) (names : List Str) (m₀ : Str → Option Value) (m : Str → Option Value) (led : Led) : Prop :=
  ∃ (on : Obj) (v : Option Value) (T : Led), led = (cn, on) :: (fix ++ T) ∧ on.data = .cell v ∧ Tabs T ∧ OwnOff T (cn :: fix.map (·.1)) ∧ Names [] names m₀ m
section
variable {prog : Program} {w : World} {A : Around} {E : Value → Shared → Prop} {s : Shared} {h₀ : Heap} {L : Addr} {env : Env} {target : Expr} {body : List Stmt} {Q : Flow → Shared → Prop} {m₀ : Str → Option Value}
theorem law_loop {l cn : Addr} {vs : List Value} {ns : List Int} {nn : Nat} {fix led T : Led} {on : Obj} {v : Option Value} (names : List Str) (hh : A.handled = none)
    (F : Fr h₀ L s.heap m₀) (N : News h₀ L s.heap led) (tb : Tabs T) (hT : TailIs T led) (sub : ∀ p ∈ (cn, on) :: fix, p ∈ led) (hon : on.data = .cell v) (off : OwnOff T (cn :: fix.map (·.1))) (hl : (l, listOf vs.toArray nn) ∈ fix) (hi : IntsAre vs ns)
    (ht : ∀ I v, letOwnedTupleGo target (.ref I) v = pure ())
    (turn : ∀ (x : Int) (t : Tok) (T : Led) (on : Obj) (v : Option Value) (u : Str → Option Value) (I : Addr) (it : Obj) (h : Heap) (tk : Nat), x ∈ ns → Tabs T → OwnOff T (I :: cn :: fix.map (·.1)) → NeAll I ((cn, on) :: fix) → on.data = .cell v →
      Fr h₀ L h (kstB (fun z => if names.contains z then u z else m₀ z) []) → News h₀ L h ((I, it) :: (cn, on) :: (fix ++ T)) →
      wpAny (model prog w) A (assign target env (.int x t)) (fun _ s₂ => wpAny (model prog w) A (execs body env) (TurnPost h₀ L I it (LawJ fix cn names m₀) s Q) E s₂) E { s with heap := h, toks := tk })
    (done : ∀ (T : Led) (on : Obj) (v : Option Value) (u : Str → Option Value) (h : Heap) (tk : Nat), Tabs T → OwnOff T (cn :: fix.map (·.1)) → on.data = .cell v → Fr h₀ L h (kstB (fun z => if names.contains z then u z else m₀ z) []) → News h₀ L h ((cn, on) :: (fix ++ T)) → Q .next { s with heap := h, toks := tk })
    (hE : PassesOwn (model prog w) A env E) :
    wpAny (model prog w) A (pyIter (.ref l)) (fun it s₂ => codeAny (model prog w) A (.forLoop target it body [] env) (LoopBack prog w A env Q E) s₂) E s := by
  have N' : News h₀ L s.heap ((cn, on) :: (fix ++ T)) := fun p hp => by
    rw [← List.cons_append] at hp
    exact N p ((List.mem_append.mp hp).elim (sub p) (hT.sub p))
  refine for_list (its := vs.toArray) (fun _ m led => LawJ fix cn names m₀ m led) hh ((News.isList N' (List.mem_cons_of_mem _ (List.mem_append_left _ hl)))) ht F N' ⟨on, v, T, rfl, hon, tb, off, fun _ h => (nomatch h), fun _ _ _ => rfl⟩ ?_ ?_ ?_ hE
  · rintro i m led ⟨on, v, T, rfl, _⟩
    exact .inr ⟨_, List.mem_cons_of_mem _ (List.mem_append_left _ hl), rfl, _, rfl⟩
  · rintro i y I m led h tk it _ hv ⟨on, v, T, rfl, hon, tb, off, nm⟩ F' N' offI
    obtain ⟨x, t, rfl, hx⟩ := hi.at i y (by simpa using hv)
    refine turn x t T on v m I it h tk (List.mem_of_getElem? hx) tb ?_ ?_ hon (nm.fr F') N'
    · exact ownOff_cons (fun p hp => offI p (List.mem_cons_of_mem _ (List.mem_append_right _ hp))) off
    · exact neAll_off fun p hp => offI p (by
        rw [← List.cons_append]; exact List.mem_append_left _ hp)
  · rintro m led h tk ⟨on, v, T, rfl, hon, tb, off, nm⟩ F' N'
    exact done T on v m h tk tb off hon (nm.fr F') N'
theorem law_back {h : Heap} {I cn : Addr} {it on : Obj} {v : Option Value} {fix led T : Led} {names : List Str} {m : Str → Option Value} {tk : Nat} 
    (F : Fr h₀ L h m) (N : News h₀ L h led) (tb : Tabs T) (hT : TailIs T led) (sub : ∀ p ∈ (I, it) :: (cn, on) :: fix, p ∈ led) (hon : on.data = .cell v) (off : OwnOff T (I :: cn :: fix.map (·.1))) (ne : NeAll I ((cn, on) :: fix))
    (nm : ∀ z, (∀ p ∈ ([] : List (Str × Value)), z ≠ p.1) → names.contains z = false → m z = m₀ z) : TurnPost h₀ L I it (LawJ fix cn names m₀) s Q .next { s with heap := h, toks := tk } := by
  have neA : ∀ {l : Led}, NeAll I l → ∀ p ∈ l, @Ne Nat p.1 I := by
    intro l
    induction l with
    | nil => exact fun _ _ h => nomatch h
    | cons a r ih =>
      intro x p hp
      rcases List.mem_cons.mp hp with rfl | hp
      · exact x.1
      · exact ih x.2 p hp
  refine ⟨h, tk, m, (cn, on) :: (fix ++ T), rfl, F, fun p hp => N p ?_, fun p hp => ?_, ⟨on, v, T, rfl, hon, tb, fun p hp b hb => off p hp b (.tail _ hb), fun _ h => (nomatch h), nm⟩⟩
  · rw [← List.cons_append, ← List.cons_append] at hp
    exact (List.mem_append.mp hp).elim (sub p) (hT.sub p)
  · rw [← List.cons_append] at hp
    rcases List.mem_append.mp hp with hp | hp
    · exact neA ne p hp
    · exact off p hp I (.head _)
end
end Mine
namespace Mine
abbrev law2Names : List Str := [Str.ofString "cell", Str.ofString "place", Str.ofString "there", Str.ofString "root", Str.ofString "roots", Str.ofString "above"]
section
variable {prog : Program} {w : World} {A : Around} {E : Value → Shared → Prop} {s : Shared} {h₀ : Heap} {L : Addr} {env : Env} {target : Expr} {body : List Stmt} {Q : Flow → Shared → Prop} {m₀ : Str → Option Value}
abbrev Law2J (l Do cn cw co : Addr) (vs vo : List Value) (nn no : Nat) (ow oo : Obj) (m₀ : Str → Option Value) : (Str → Option Value) → Led → Prop :=
  LawJ [(l, listOf vs.toArray nn), (Do, listOf vo.toArray no), (cw, ow), (co, oo)] cn law2Names m₀
theorem law2_loop {l Do cn cw co : Addr} {vs vo : List Value} {ns os : List Int} {nn no : Nat} {led T : Led} {on ow oo : Obj} {v : Option Value} {W : Int} {tw : Tok} (hh : A.handled = none)
    (F : Fr h₀ L s.heap m₀) (N : News h₀ L s.heap led) (tb : Tabs T) (hT : TailIs T led) (hi : IntsAre vs ns) (_ho : IntsAre vo os)
    (sub : ∀ p ∈ [(cn, on), (l, listOf vs.toArray nn), (Do, listOf vo.toArray no), (cw, ow), (co, oo)], p ∈ led) (hon : on.data = .cell v) (_how : ow.data = .cell (some (.int W tw))) (_hoo : oo.data = .cell (some (.ref Do)))
    (off : OwnOff T [cn, l, Do, cw, co])
    (ht : ∀ I v, letOwnedTupleGo target (.ref I) v = pure ())
    (turn : ∀ (x : Int) (t : Tok) (T : Led) (on : Obj) (v : Option Value) (u : Str → Option Value) (I : Addr) (it : Obj) (h : Heap) (tk : Nat), x ∈ ns → Tabs T → OwnOff T [I, cn, l, Do, cw, co] → NeAll I [(cn, on), (l, listOf vs.toArray nn), (Do, listOf vo.toArray no), (cw, ow), (co, oo)] → on.data = .cell v →
      Fr h₀ L h (kstB (fun z => if law2Names.contains z then u z else m₀ z) []) → News h₀ L h ((I, it) :: (cn, on) :: (l, listOf vs.toArray nn) :: (Do, listOf vo.toArray no) :: (cw, ow) :: (co, oo) :: T) →
      wpAny (model prog w) A (assign target env (.int x t)) (fun _ s₂ => wpAny (model prog w) A (execs body env) (TurnPost h₀ L I it (Law2J l Do cn cw co vs vo nn no ow oo m₀) s Q) E s₂) E { s with heap := h, toks := tk })
    (done : ∀ (T : Led) (on : Obj) (v : Option Value) (u : Str → Option Value) (h : Heap) (tk : Nat), Tabs T → OwnOff T [cn, l, Do, cw, co] → on.data = .cell v → Fr h₀ L h (kstB (fun z => if law2Names.contains z then u z else m₀ z) []) → News h₀ L h ((cn, on) :: (l, listOf vs.toArray nn) :: (Do, listOf vo.toArray no) :: (cw, ow) :: (co, oo) :: T) → Q .next { s with heap := h, toks := tk })
    (hE : PassesOwn (model prog w) A env E) :
    wpAny (model prog w) A (pyIter (.ref l)) (fun it s₂ => codeAny (model prog w) A (.forLoop target it body [] env) (LoopBack prog w A env Q E) s₂) E s :=
  law_loop (fix := [(l, listOf vs.toArray nn), (Do, listOf vo.toArray no), (cw, ow), (co, oo)]) law2Names hh F N tb hT sub hon off (.head _) hi ht turn done hE
end
end Mine
namespace Mine
theorem sq_lo {k : Int} : -(2 ^ 40) < k * k := by
  have : 0 ≤ k * k := by
    rcases Int.le_total 0 k with h | h
    · exact Int.mul_nonneg h h
    · exact Int.mul_nonneg_of_nonpos_of_nonpos h h
  omega
theorem sq_hi {k W : Int} (hW : W ≤ 1000) (h : 0 ≤ k ∧ k < 0 + ((W - 0).toNat : Int)) : k * k < 2 ^ 40 := by
  have : k * k ≤ 1000 * 1000 := Int.mul_le_mul (by omega) (by omega) (by omega) (by decide)
  omega
end Mine

end
section
set_option maxRecDepth 100000
open PySem PySem.W PyProof.Rows PySem.Spec PySem.Calls PyProof.Rows.LCg PyProof.Rows.LCt
namespace Mine
/-- x is found in the ordered row ns -/
def hasL (ns : List Int) (x : Int) : Bool := decide (countLt ns x < ns.length) && (ns.getD (countLt ns x) 0 == x)
theorem hasL_a {ns : List Int} {x : Int} (h : ((countLt ns x : Nat) : Int) < ((ns.length : Nat) : Int)) : (ns.getD (((countLt ns x : Nat) : Int)).toNat 0 == x) = hasL ns x := by
  unfold hasL
  rw [Int.toNat_natCast, decide_eq_true (by omega), Bool.true_and]
theorem hasL_b {ns : List Int} {x : Int} (h : ¬ ((countLt ns x : Nat) : Int) < ((ns.length : Nat) : Int)) : decide (((countLt ns x : Nat) : Int) < ((ns.length : Nat) : Int)) = hasL ns x := by
  unfold hasL
  rw [decide_eq_false h, decide_eq_false (by omega), Bool.false_and]
/-- number's power, by the figures of the power, the greatest first -/
def powStep (n c : Int) (f d : Int) : Int := (f * f * (if d = 1 then n else 1)) % c
def powF (n c : Int) (ds : List Int) : Int := ds.foldl (powStep n c) 1
def powL (n p c : Int) : Int := powF n c (digs p.toNat 1 (ndig p 1)).reverse
theorem powStep_range {n c f d : Int} (hc : 0 < c) : 0 ≤ powStep n c f d ∧ powStep n c f d < c := ⟨Int.emod_nonneg _ (by omega), Int.emod_lt_of_pos _ hc⟩
theorem powF_range {n c : Int} (hc : 1 < c) : ∀ (ds : List Int), 0 ≤ powF n c ds ∧ powF n c ds < c := by
  intro ds
  have key : ∀ (ds : List Int) (f : Int), 0 ≤ f ∧ f < c → 0 ≤ ds.foldl (powStep n c) f ∧ ds.foldl (powStep n c) f < c := by
    intro ds
    induction ds with
    | nil => exact fun f h => h
    | cons a r ih => exact fun f _ => ih _ (powStep_range (by omega))
  exact key ds 1 ⟨by decide, hc⟩
theorem powF_snoc {n c : Int} {ds : List Int} {d : Int} : powF n c (ds ++ [d]) = powStep n c (powF n c ds) d := by unfold powF; rw [List.foldl_append]; rfl
theorem pow_fits {f n c : Int} (h0 : 0 ≤ f) (h1 : f < c) (hn : 0 ≤ n) (hN : n ≤ 1000) (hC : c ≤ 1000) : 0 ≤ f * f * n ∧ f * f * n < 2 ^ 40 ∧ 0 ≤ f * f * 1 ∧ f * f * 1 < 2 ^ 40 := by
  have a1 : f * f ≤ 1000 * 1000 := Int.mul_le_mul (by omega) (by omega) h0 (by decide)
  have a0 := Int.mul_nonneg h0 h0
  have a2 : f * f * n ≤ 1000 * 1000 * 1000 := Int.mul_le_mul a1 hN hn (by decide)
  have a3 := Int.mul_nonneg a0 hn
  omega
section
variable {prog : Program} {w : World} {A : Around} {E : Value → Shared → Prop} {s : Shared} {h₀ : Heap} {L : Addr} {env : Env} {target : Expr} {body : List Stmt} {Q : Flow → Shared → Prop} {m₀ : Str → Option Value}
def PowJ (n c : Int) (l : Addr) (vs : List Value) (nn : Nat) (fix : Led) (m₀ : Str → Option Value) (ds : List Int) (m : Str → Option Value) (led : Led) : Prop :=
  ∃ T t, led = (l, listOf vs.toArray nn) :: (fix ++ T) ∧ Tabs T ∧ OwnOff T (l :: fix.map (·.1)) ∧ Names [(Str.ofString "found", .int (powF n c ds) t)] [Str.ofString "figure"] m₀ m
theorem take_snoc {ds : List Int} {i : Nat} {d : Int} (h : ds[i]? = some d) : ds.take (i + 1) = ds.take i ++ [d] := by
  rw [List.take_add_one, h]; rfl
theorem pow_loop {l : Addr} {vs : List Value} {ds : List Int} {nn : Nat} {fix led T : Led} {n c : Int} {t0 : Tok} (hh : A.handled = none)
    (F : Fr h₀ L s.heap m₀) (N : News h₀ L s.heap led) (tb : Tabs T) (sub : ∀ p ∈ (l, listOf vs.toArray nn) :: (fix ++ T), p ∈ led) (off : OwnOff T (l :: fix.map (·.1))) (hi : IntsAre vs ds) (hc : 1 < c)
    (hf : m₀ (Str.ofString "found") = some (.int 1 t0)) (ht : ∀ I v, letOwnedTupleGo target (.ref I) v = pure ())
    (turn : ∀ (f d : Int) (t td : Tok) (T : Led) (u : Str → Option Value) (I : Addr) (it : Obj) (h : Heap) (tk : Nat) (pre : List Int), 0 ≤ f → f < c → f = powF n c pre → Tabs T → OwnOff T (I :: l :: fix.map (·.1)) → NeAll I ((l, listOf vs.toArray nn) :: fix) →
      Fr h₀ L h (kstB (fun z => if [Str.ofString "figure"].contains z then u z else m₀ z) [(Str.ofString "found", .int f t)]) → News h₀ L h ((I, it) :: (l, listOf vs.toArray nn) :: (fix ++ T)) →
      wpAny (model prog w) A (assign target env (.int d td)) (fun _ s₂ => wpAny (model prog w) A (execs body env) (TurnPost h₀ L I it (PowJ n c l vs nn fix m₀ (pre ++ [d])) s Q) E s₂) E { s with heap := h, toks := tk })
    (done : ∀ (t : Tok) (T : Led) (u : Str → Option Value) (h : Heap) (tk : Nat), Tabs T → OwnOff T (l :: fix.map (·.1)) →
      Fr h₀ L h (kstB (fun z => if [Str.ofString "figure"].contains z then u z else m₀ z) [(Str.ofString "found", .int (powF n c ds) t)]) → News h₀ L h ((l, listOf vs.toArray nn) :: (fix ++ T)) → Q .next { s with heap := h, toks := tk })
    (hE : PassesOwn (model prog w) A env E) :
    wpAny (model prog w) A (pyIter (.ref l)) (fun it s₂ => codeAny (model prog w) A (.forLoop target it body [] env) (LoopBack prog w A env Q E) s₂) E s := by
  have N' : News h₀ L s.heap ((l, listOf vs.toArray nn) :: (fix ++ T)) := fun p hp => N p (sub p hp)
  have hlen := hi.length
  refine for_list (its := vs.toArray) (fun i m led => PowJ n c l vs nn fix m₀ (ds.take i) m led) hh (News.isList N' (.head _)) ht F N' ⟨T, t0, rfl, tb, off, ?_, fun _ _ _ => rfl⟩ ?_ ?_ ?_ hE
  · intro p hp
    rw [List.mem_singleton.mp hp]; exact hf
  · rintro i m led ⟨T, t, rfl, _⟩
    exact .inr ⟨_, .head _, rfl, _, rfl⟩
  · rintro i y I m led h tk it _ hv ⟨T, t, rfl, tb, off, nm⟩ F' N' offI
    obtain ⟨d, td, rfl, hx⟩ := hi.at i y (by simpa using hv)
    obtain ⟨r0, r1⟩ := powF_range (n := n) hc (ds.take i)
    rw [take_snoc hx]
    refine turn _ d t td T m I it h tk _ r0 r1 rfl tb ?_ ?_ (nm.fr F') N'
    · exact ownOff_cons (fun p hp => offI p (List.mem_cons_of_mem _ (List.mem_append_right _ hp))) off
    · exact neAll_off fun p hp => offI p (by
        rw [← List.cons_append]; exact List.mem_append_left _ hp)
  · rintro m led h tk ⟨T, t, rfl, tb, off, nm⟩ F' N'
    rw [List.size_toArray, hlen, List.take_length] at nm
    exact done t T m h tk tb off (nm.fr F') N'
theorem pow_back {h : Heap} {I l : Addr} {it : Obj} {vs : List Value} {nn : Nat} {fix led T : Led} {m : Str → Option Value} {tk : Nat} {n c x : Int} {t : Tok} {ds : List Int}
    (F : Fr h₀ L h m) (N : News h₀ L h led) (tb : Tabs T) (hT : TailIs T led) (sub : ∀ p ∈ (I, it) :: (l, listOf vs.toArray nn) :: fix, p ∈ led) (off : OwnOff T (I :: l :: fix.map (·.1))) (ne : NeAll I ((l, listOf vs.toArray nn) :: fix))
    (hx : m (Str.ofString "found") = some (.int x t)) (e : x = powF n c ds)
    (nm : ∀ z, (∀ p ∈ [(Str.ofString "found", Value.int (powF n c ds) t)], z ≠ p.1) → [Str.ofString "figure"].contains z = false → m z = m₀ z) : TurnPost h₀ L I it (PowJ n c l vs nn fix m₀ ds) s Q .next { s with heap := h, toks := tk } := by
  have neA : ∀ {l : Led}, NeAll I l → ∀ p ∈ l, @Ne Nat p.1 I := by
    intro l
    induction l with
    | nil => exact fun _ _ h => nomatch h
    | cons a r ih =>
      intro x p hp
      rcases List.mem_cons.mp hp with rfl | hp
      · exact x.1
      · exact ih x.2 p hp
  subst e
  refine ⟨h, tk, m, (l, listOf vs.toArray nn) :: (fix ++ T), rfl, F, fun p hp => N p ?_, fun p hp => ?_, ⟨T, t, rfl, tb, fun p hp b hb => off p hp b (.tail _ hb), fun p hp => ?_, nm⟩⟩
  · rw [← List.cons_append, ← List.cons_append] at hp
    exact (List.mem_append.mp hp).elim (sub p) (hT.sub p)
  · rw [← List.cons_append] at hp
    rcases List.mem_append.mp hp with hp | hp
    · exact neA ne p hp
    · exact off p hp I (.head _)
  · rw [List.mem_singleton.mp hp]; exact hx
end
end Mine

end
section
set_option maxRecDepth 100000
set_option maxHeartbeats 2000000
open PySem PySem.W PyProof.Rows PySem.Spec PySem.Calls PyProof.Rows.LCg PyProof.Rows.LCt
namespace Mine
/-- a test that comes out false, what it made dropped -/
def IfLeaf (b : Bool) (h₀ : Heap) (L : Addr) (m : Str → Option Value) (pre : Led) (s s' : Shared) : Prop :=
  b = false ∧ ∃ h' tk' T', s' = { s with heap := h', toks := tk' } ∧ Fr h₀ L h' m ∧ News h₀ L h' (pre ++ T') ∧ Tabs T' ∧ OwnOff T' (pre.map (·.1))
section
variable {prog : Program} {w : World} {A : Around} {E : Value → Shared → Prop} {s : Shared} {h₀ : Heap} {L : Addr} {m : Str → Option Value} {env : Env}
theorem if_no {test : Expr} {body : List Stmt} {pos : Pos} {led T pre : Led} {Q : Flow → Shared → Prop} (_tb : Tabs T) (_sp : Splits led T pre) (_N : News h₀ L s.heap led) (_F : Fr h₀ L s.heap m)
    (h : wpAny (model prog w) A (isTrue test env (eval test env)) (fun b s' => IfLeaf b h₀ L m pre s s') E s)
    (k : ∀ h' tk' T', Fr h₀ L h' m → News h₀ L h' (pre ++ T') → Tabs T' → OwnOff T' (pre.map (·.1)) → Q .next { s with heap := h', toks := tk' }) :
    wpAny (model prog w) A (exec (.If test body [] pos) env) Q E s := by
  refine wpAny_If (wpAny_mono h (fun b s' hl => ?_) fun _ _ e => e)
  obtain ⟨rfl, h', tk', T', rfl, F', N', tb, off⟩ := hl
  exact wpAny_execs_nil (k h' tk' T' F' N' tb off)
theorem if_leaf {pre led T : Led} {h h' : Heap} {tk tk' : Nat} {b : Bool} (hb : b = false) (F : Fr h₀ L h' m) (N : News h₀ L h' led) (tb : Tabs T) (hT : TailIs T led) (sub : ∀ p ∈ pre, p ∈ led) (off : OwnOff T (pre.map (·.1))) :
    IfLeaf b h₀ L m pre { s with heap := h, toks := tk } { s with heap := h', toks := tk' } :=
  ⟨hb, h', tk', T, rfl, F, fun p hp => N p ((List.mem_append.mp hp).elim (sub p) (hT.sub p)), tb, off⟩
end
/-- the rests of the squares, laid in order -/
def qrL (p : Int) (n : Nat) : List Int := (rangeKs 1 n).foldl (fun o k => insL o (k * k % p)) []
theorem qrL_succ (p : Int) (n : Nat) : qrL p (n + 1) = insL (qrL p n) ((1 + (n : Int)) * (1 + (n : Int)) % p) := by unfold qrL; rw [rangeKs_succ, List.foldl_append]; rfl
theorem qrL_sorted (p : Int) : ∀ n, (qrL p n).Pairwise (· ≤ ·)
  | 0 => by simp [qrL, rangeKs]
  | n + 1 => by rw [qrL_succ]; exact insL_sorted (qrL_sorted p n)
theorem qrL_length (p : Int) : ∀ n, (qrL p n).length = n
  | 0 => by simp [qrL, rangeKs]
  | n + 1 => by rw [qrL_succ, insL_length, qrL_length p n]
section
variable {prog : Program} {w : World} {A : Around} {E : Value → Shared → Prop} {s : Shared} {h₀ : Heap} {L : Addr} {env : Env} {target : Expr} {body : List Stmt} {Q : Flow → Shared → Prop} {m₀ : Str → Option Value}
/-- a loop that fills the list at Do, its target the cell at cn -/
def FillJ (cn Do : Addr) (fix : Led) (names : List Str) (m₀ : Str → Option Value) (o : List Int) (m : Str → Option Value) (led : Led) : Prop :=
  ∃ (on : Obj) (v : Option Value) (vs : List Value) (nn : Nat) (T : Led), led = (cn, on) :: (Do, listOf vs.toArray nn) :: (fix ++ T) ∧ on.data = .cell v ∧ IntsAre vs o ∧ Tabs T ∧ OwnOff T (cn :: Do :: fix.map (·.1)) ∧ Names [] names m₀ m
theorem fill_loop {cn Do r : Addr} {nn : Nat} {fix led T : Led} {on : Obj} {v : Option Value} {a b : Int} {n : Nat} {t₀ u₀ v₀ : Tok} (names : List Str) (os : Nat → List Int) (hh : A.handled = none) (hr : IsRange s.heap r a b 1 t₀ u₀ v₀)
    (ha : -1000 ≤ a) (ha2 : a ≤ 1000) (hb0 : b - a ≤ 1000) (hb : -1000 ≤ b) (hn : (b - a).toNat = n) (hos : os 0 = [])
    (F : Fr h₀ L s.heap m₀) (N : News h₀ L s.heap led) (tb : Tabs T) (hT : TailIs T led) (sub : ∀ p ∈ (cn, on) :: (Do, listOf #[] nn) :: fix, p ∈ led) (hon : on.data = .cell v) (off : OwnOff T (cn :: Do :: fix.map (·.1)))
    (ht : ∀ I v, letOwnedTupleGo target (.ref I) v = pure ())
    (turn : ∀ (i : Nat) (t : Tok) (vs : List Value) (nn : Nat) (T : Led) (on : Obj) (v : Option Value) (u : Str → Option Value) (I : Addr) (it : Obj) (h : Heap) (tk : Nat), i < n → IntsAre vs (os i) → Tabs T → OwnOff T (I :: cn :: Do :: fix.map (·.1)) → NeAll I ((cn, on) :: (Do, listOf vs.toArray nn) :: fix) → on.data = .cell v →
      Fr h₀ L h (kstB (fun z => if names.contains z then u z else m₀ z) []) → News h₀ L h ((I, it) :: (cn, on) :: (Do, listOf vs.toArray nn) :: (fix ++ T)) →
      wpAny (model prog w) A (assign target env (.int (a + (i : Nat)) t)) (fun _ s₂ => wpAny (model prog w) A (execs body env) (TurnPost h₀ L I it (FillJ cn Do fix names m₀ (os (i + 1))) s Q) E s₂) E { s with heap := h, toks := tk })
    (done : ∀ (vs : List Value) (nn : Nat) (T : Led) (on : Obj) (v : Option Value) (u : Str → Option Value) (h : Heap) (tk : Nat), IntsAre vs (os n) → Tabs T → OwnOff T (cn :: Do :: fix.map (·.1)) → on.data = .cell v → Fr h₀ L h (kstB (fun z => if names.contains z then u z else m₀ z) []) → News h₀ L h ((cn, on) :: (Do, listOf vs.toArray nn) :: (fix ++ T)) → Q .next { s with heap := h, toks := tk })
    (hE : PassesOwn (model prog w) A env E) :
    wpAny (model prog w) A (pyIter (.ref r)) (fun it s₂ => codeAny (model prog w) A (.forLoop target it body [] env) (LoopBack prog w A env Q E) s₂) E s := by
  have N' : News h₀ L s.heap ((cn, on) :: (Do, listOf #[] nn) :: (fix ++ T)) := fun p hp => by
    rw [← List.cons_append, ← List.cons_append] at hp
    exact N p ((List.mem_append.mp hp).elim (sub p) (hT.sub p))
  refine for_range (fun i m led => FillJ cn Do fix names m₀ (os i) m led) hh hr (small_one (by omega) (by omega) (by omega) (by omega)) (n := n) (by rw [rangeSize_nat, hn]) ht F N' ⟨on, v, [], nn, T, rfl, hon, by rw [hos]; exact .nil, tb, off, fun _ h => (nomatch h), fun _ _ _ => rfl⟩ ?_ ?_ hE
  · rintro i t I m led h tk it hi ⟨on, v, vs, nn, T, rfl, hon, hv, tb, off, nm⟩ F' N' offI
    refine turn i t vs nn T on v m I it h tk hi hv tb ?_ ?_ hon (nm.fr F') N'
    · exact ownOff_cons (fun p hp => offI p (List.mem_cons_of_mem _ (List.mem_cons_of_mem _ (List.mem_append_right _ hp)))) off
    · exact neAll_off fun p hp => offI p (by
        rw [← List.cons_append, ← List.cons_append]; exact List.mem_append_left _ hp)
  · rintro m led h tk ⟨on, v, vs, nn, T, rfl, hon, hv, tb, off, nm⟩ F' N'
    exact done vs nn T on v m h tk hv tb off hon (nm.fr F') N'
theorem neA_all {I : Addr} : ∀ {l : Led}, NeAll I l → ∀ p ∈ l, @Ne Nat p.1 I := by
  intro l
  induction l with
  | nil => exact fun _ _ h => nomatch h
  | cons a r ih =>
    intro x p hp
    rcases List.mem_cons.mp hp with rfl | hp
    · exact x.1
    · exact ih x.2 p hp
theorem fill_back {h : Heap} {I cn Do : Addr} {it on : Obj} {v : Option Value} {vs : List Value} {nn : Nat} {o : List Int} {fix led T : Led} {names : List Str} {m : Str → Option Value} {tk : Nat}
    (F : Fr h₀ L h m) (N : News h₀ L h led) (tb : Tabs T) (hT : TailIs T led) (sub : ∀ p ∈ (I, it) :: (cn, on) :: (Do, listOf vs.toArray nn) :: fix, p ∈ led) (hi : IntsAre vs o) (hon : on.data = .cell v) (off : OwnOff T (I :: cn :: Do :: fix.map (·.1))) (ne : NeAll I ((cn, on) :: (Do, listOf vs.toArray nn) :: fix))
    (nm : ∀ z, (∀ p ∈ ([] : List (Str × Value)), z ≠ p.1) → names.contains z = false → m z = m₀ z) : TurnPost h₀ L I it (FillJ cn Do fix names m₀ o) s Q .next { s with heap := h, toks := tk } := by
  refine ⟨h, tk, m, (cn, on) :: (Do, listOf vs.toArray nn) :: (fix ++ T), rfl, F, fun p hp => N p ?_, fun p hp => ?_, ⟨on, v, vs, nn, T, rfl, hon, hi, tb, fun p hp b hb => off p hp b (.tail _ hb), fun _ h => (nomatch h), nm⟩⟩
  · rw [← List.cons_append, ← List.cons_append, ← List.cons_append] at hp
    exact (List.mem_append.mp hp).elim (sub p) (hT.sub p)
  · rw [← List.cons_append, ← List.cons_append] at hp
    rcases List.mem_append.mp hp with hp | hp
    · rcases List.mem_cons.mp hp with rfl | hp
      · exact ne.1
      rcases List.mem_cons.mp hp with rfl | hp
      · exact ne.2.1
      · exact neA_all ne.2.2 p hp
    · exact off p hp I (.head _)
abbrev law3Names : List Str := [Str.ofString "cell", Str.ofString "roots", Str.ofString "other"]
abbrev Law3J (l Do cn co cp : Addr) (vs vo : List Value) (nn no : Nat) (oo op : Obj) (m₀ : Str → Option Value) : (Str → Option Value) → Led → Prop :=
  LawJ [(l, listOf vs.toArray nn), (Do, listOf vo.toArray no), (co, oo), (cp, op)] cn law3Names m₀
theorem law3_loop {l Do cn co cp : Addr} {vs vo : List Value} {ns os : List Int} {nn no : Nat} {led T : Led} {on oo op : Obj} {v : Option Value} {p : Int} {tp : Tok} (hh : A.handled = none)
    (F : Fr h₀ L s.heap m₀) (N : News h₀ L s.heap led) (tb : Tabs T) (hT : TailIs T led) (hi : IntsAre vs ns) (_ho : IntsAre vo os)
    (sub : ∀ p ∈ [(cn, on), (l, listOf vs.toArray nn), (Do, listOf vo.toArray no), (co, oo), (cp, op)], p ∈ led) (hon : on.data = .cell v) (_hop : op.data = .cell (some (.int p tp))) (_hoo : oo.data = .cell (some (.ref Do)))
    (off : OwnOff T [cn, l, Do, co, cp])
    (ht : ∀ I v, letOwnedTupleGo target (.ref I) v = pure ())
    (turn : ∀ (x : Int) (t : Tok) (T : Led) (on : Obj) (v : Option Value) (u : Str → Option Value) (I : Addr) (it : Obj) (h : Heap) (tk : Nat), x ∈ ns → Tabs T → OwnOff T [I, cn, l, Do, co, cp] → NeAll I [(cn, on), (l, listOf vs.toArray nn), (Do, listOf vo.toArray no), (co, oo), (cp, op)] → on.data = .cell v →
      Fr h₀ L h (kstB (fun z => if law3Names.contains z then u z else m₀ z) []) → News h₀ L h ((I, it) :: (cn, on) :: (l, listOf vs.toArray nn) :: (Do, listOf vo.toArray no) :: (co, oo) :: (cp, op) :: T) →
      wpAny (model prog w) A (assign target env (.int x t)) (fun _ s₂ => wpAny (model prog w) A (execs body env) (TurnPost h₀ L I it (Law3J l Do cn co cp vs vo nn no oo op m₀) s Q) E s₂) E { s with heap := h, toks := tk })
    (done : ∀ (T : Led) (on : Obj) (v : Option Value) (u : Str → Option Value) (h : Heap) (tk : Nat), Tabs T → OwnOff T [cn, l, Do, co, cp] → on.data = .cell v → Fr h₀ L h (kstB (fun z => if law3Names.contains z then u z else m₀ z) []) → News h₀ L h ((cn, on) :: (l, listOf vs.toArray nn) :: (Do, listOf vo.toArray no) :: (co, oo) :: (cp, op) :: T) → Q .next { s with heap := h, toks := tk })
    (hE : PassesOwn (model prog w) A env E) :
    wpAny (model prog w) A (pyIter (.ref l)) (fun it s₂ => codeAny (model prog w) A (.forLoop target it body [] env) (LoopBack prog w A env Q E) s₂) E s :=
  law_loop (fix := [(l, listOf vs.toArray nn), (Do, listOf vo.toArray no), (co, oo), (cp, op)]) law3Names hh F N tb hT sub hon off (.head _) hi ht turn done hE
end
end Mine

end
section
set_option maxRecDepth 100000
set_option maxHeartbeats 2000000
open PySem PySem.W PyProof.Rows PySem.Spec PySem.Calls PyProof.Rows.LCg PyProof.Rows.LCt
namespace Mine
/-- halve while even, at most n times; h counts -/
def halvG : Nat → Int → Int → Int × Int
  | 0, o, h => (o, h)
  | n + 1, o, h => if o % 2 = 0 then halvG n (o / 2) (h + 1) else (o, h)
def sqG (c : Int) : Nat → Int → Bool
  | 0, _ => false
  | n + 1, x => if x * x % c = c - 1 then true else sqG c n (x * x % c)
def sureL (c b : Int) : Bool :=
  let s := halvG 9 (c - 1) 0
  let x := powL b s.1 c
  if x = 1 ∨ x = c - 1 then true else sqG c (s.2 - 1).toNat x
theorem halvG_odd {n : Nat} {o h : Int} (e : o % 2 ≠ 0) : halvG n o h = (o, h) := by
  cases n with
  | zero => rfl
  | succ n => rw [halvG, if_neg e]
theorem halvG_even {n : Nat} {o h : Int} (e : o % 2 = 0) : halvG (n + 1) o h = halvG n (o / 2) (h + 1) := by rw [halvG, if_pos e]
theorem halvG_bounds : ∀ {n : Nat} {o h C : Int}, 0 ≤ o → o ≤ C → 0 ≤ h → 0 ≤ (halvG n o h).1 ∧ (halvG n o h).1 ≤ C ∧ 0 ≤ (halvG n o h).2 ∧ (halvG n o h).2 ≤ h + (n : Int) := by
  intro n
  induction n with
  | zero => intro o h C h0 h1 h2; exact ⟨h0, h1, h2, by show h ≤ h + ((0 : Nat) : Int); omega⟩
  | succ n ih =>
    intro o h C h0 h1 h2
    rw [halvG]
    split
    · obtain ⟨a, b, c, d⟩ := ih (o := o / 2) (h := h + 1) (C := C) (by omega) (by omega) (by omega)
      exact ⟨a, b, c, by push_cast; omega⟩
    · exact ⟨h0, h1, h2, by show h ≤ _; push_cast; omega⟩
section
variable {prog : Program} {w : World} {A : Around} {E : Value → Shared → Prop} {s : Shared} {h₀ : Heap} {L : Addr} {env : Env} {Q : Flow → Shared → Prop} {m₀ : Str → Option Value}
def HalfJ (c : Int) (m₀ : Str → Option Value) (n : Nat) (m : Str → Option Value) (led : Led) : Prop :=
  ∃ (o h : Int) (t u : Tok), Tabs led ∧ 0 ≤ o ∧ o ≤ c ∧ 0 ≤ h ∧ h ≤ 9 ∧ n = (9 - h).toNat ∧ halvG n o h = halvG 9 (c - 1) 0 ∧ Names [(Str.ofString "odd", .int o t), (Str.ofString "halved", .int h u)] [] m₀ m
theorem half_loop {test : Expr} {body : List Stmt} {pos : Pos} {led T : Led} {c : Int} {t0 u0 : Tok}
    (F : Fr h₀ L s.heap m₀) (N : News h₀ L s.heap led) (tb : Tabs T) (hT : TailIs T led) (hc : 1 ≤ c) (ho : m₀ (Str.ofString "odd") = some (.int (c - 1) t0)) (hh : m₀ (Str.ofString "halved") = some (.int 0 u0))
    (turn : ∀ (n : Nat) (o h : Int) (t u : Tok) (T : Led) (h₁ : Heap) (tk₁ : Nat) (d : Str → Option Value), Tabs T → 0 ≤ o → o ≤ c → 0 ≤ h → h ≤ 9 → n = (9 - h).toNat → halvG n o h = halvG 9 (c - 1) 0 →
      Fr h₀ L h₁ (kstB (fun z => if ([] : List Str).contains z then d z else m₀ z) [(Str.ofString "odd", .int o t), (Str.ofString "halved", .int h u)]) → News h₀ L h₁ T →
      wpAny (model prog w) A (isTrue test env (eval test env)) (fun b s₂ =>
        if b = true then wpAny (model prog w) A (execs body env) (WhileStep h₀ L s (HalfJ c m₀) n) E s₂ else Q .next s₂) E { s with heap := h₁, toks := tk₁ })
    (hE : PassesOwn (model prog w) A env E := by passes_own) :
    wpAny (model prog w) A (exec (.While test body [] pos) env) Q E s := by
  refine While_inv (HalfJ c m₀) (n₀ := 9) F (fun p hp => N p (hT.sub p hp)) ⟨c - 1, 0, t0, u0, tb, by omega, by omega, by omega, by omega, rfl, rfl, ?_, fun _ _ _ => rfl⟩ ?_ hE
  · intro p hp
    rcases List.mem_cons.mp hp with rfl | hp
    · exact ho
    · rw [List.mem_singleton.mp hp]; exact hh
  · rintro n m₁ led₁ h₁ tk₁ F₁ N₁ ⟨o, h, t, u, tb, a1, a2, a3, a4, a5, a6, nm⟩
    exact turn n o h t u led₁ h₁ tk₁ m₁ tb a1 a2 a3 a4 a5 a6 (nm.fr F₁) N₁
theorem half_back {h' : Heap} {tk n : Nat} {led T : Led} {c o h : Int} {t u : Tok} {m : Str → Option Value} (F : Fr h₀ L h' m) (N : News h₀ L h' led) (tb : Tabs T) (hT : TailIs T led)
    (h1 : 0 ≤ o) (h2 : o ≤ c) (h3 : 0 ≤ h) (h4 : h < 9) (hn : n = (9 - h).toNat) (hg : halvG n o h = halvG 9 (c - 1) 0) (he : o % 2 = 0)
    (mo : m (Str.ofString "odd") = some (.int (o / 2) t)) (mh : m (Str.ofString "halved") = some (.int (h + 1) u))
    (nm : ∀ z, (∀ p ∈ [(Str.ofString "odd", Value.int (o / 2) t), (Str.ofString "halved", Value.int (h + 1) u)], z ≠ p.1) → ([] : List Str).contains z = false → m z = m₀ z) :
    WhileStep h₀ L s (HalfJ c m₀) n .next { s with heap := h', toks := tk } := by
  refine WhileStep.intro (n' := (9 - (h + 1)).toNat) F (fun p hp => N p (hT.sub p hp)) (by omega) ⟨o / 2, h + 1, t, u, tb, by omega, by omega, by omega, by omega, rfl, ?_, ?_, nm⟩
  · rw [← hg, show n = (9 - (h + 1)).toNat + 1 by omega, halvG_even he]
  · intro p hp
    rcases List.mem_cons.mp hp with rfl | hp
    · exact mo
    · rw [List.mem_singleton.mp hp]; exact mh
variable {target : Expr} {body : List Stmt}
def SqsJ (c x0 : Int) (n : Nat) (m₀ : Str → Option Value) (i : Nat) (m : Str → Option Value) (led : Led) : Prop :=
  ∃ (x : Int) (t : Tok), Tabs led ∧ 0 ≤ x ∧ x < c ∧ sqG c (n - i) x = sqG c n x0 ∧ Names [(Str.ofString "here", .int x t)] [Str.ofString "turn"] m₀ m
theorem sqs_loop {r : Addr} {b : Int} {n : Nat} {led T : Led} {c x0 : Int} {t0 : Tok} {t₀ u₀ v₀ : Tok} (hh : A.handled = none) (hr : IsRange s.heap r 0 b 1 t₀ u₀ v₀) (hb0 : -1000 ≤ b) (hb : b ≤ 1000) (hn : b.toNat = n)
    (F : Fr h₀ L s.heap m₀) (N : News h₀ L s.heap led) (tb : Tabs T) (hT : TailIs T led) (hx0 : 0 ≤ x0) (hx1 : x0 < c) (ho : m₀ (Str.ofString "here") = some (.int x0 t0)) (ht : ∀ I v, letOwnedTupleGo target (.ref I) v = pure ())
    (turn : ∀ (i : Nat) (x : Int) (t td : Tok) (T : Led) (u : Str → Option Value) (I : Addr) (it : Obj) (h : Heap) (tk : Nat), i < n → 0 ≤ x → x < c → sqG c (n - i) x = sqG c n x0 → Tabs T → Off T I →
      Fr h₀ L h (kstB (fun z => if [Str.ofString "turn"].contains z then u z else m₀ z) [(Str.ofString "here", .int x t)]) → News h₀ L h ((I, it) :: T) →
      wpAny (model prog w) A (assign target env (.int (0 + (i : Nat)) td)) (fun _ s₂ => wpAny (model prog w) A (execs body env) (TurnPost h₀ L I it (SqsJ c x0 n m₀ (i + 1)) s Q) E s₂) E { s with heap := h, toks := tk })
    (done : ∀ (x : Int) (t : Tok) (T : Led) (u : Str → Option Value) (h : Heap) (tk : Nat), false = sqG c n x0 → Tabs T →
      Fr h₀ L h (kstB (fun z => if [Str.ofString "turn"].contains z then u z else m₀ z) [(Str.ofString "here", .int x t)]) → News h₀ L h T → Q .next { s with heap := h, toks := tk })
    (hE : PassesOwn (model prog w) A env E) :
    wpAny (model prog w) A (pyIter (.ref r)) (fun it s₂ => codeAny (model prog w) A (.forLoop target it body [] env) (LoopBack prog w A env Q E) s₂) E s := by
  refine for_range (fun i m led => SqsJ c x0 n m₀ i m led) hh hr (small_one (by omega) (by omega) (by omega) (by omega)) (n := n) (by rw [rangeSize_nat, ← hn]; congr 2; omega) ht F (fun p hp => N p (hT.sub p hp)) ⟨x0, t0, tb, hx0, hx1, rfl, ?_, fun _ _ _ => rfl⟩ ?_ ?_ hE
  · intro p hp
    rw [List.mem_singleton.mp hp]; exact ho
  · rintro i td I m led h tk it hi ⟨x, t, tb, a1, a2, a3, nm⟩ F' N' offI
    exact turn i x t td led m I it h tk hi a1 a2 a3 tb offI (nm.fr F') N'
  · rintro m led h tk ⟨x, t, tb, a1, a2, a3, nm⟩ F' N'
    rw [Nat.sub_self] at a3
    exact done x t led m h tk a3 tb (nm.fr F') N'
theorem sqs_back {h : Heap} {I : Addr} {it : Obj} {led T : Led} {m : Str → Option Value} {tk n i : Nat} {c x x0 : Int} {t : Tok}
    (F : Fr h₀ L h m) (N : News h₀ L h led) (tb : Tabs T) (hT : TailIs T led) (hI : (I, it) ∈ led) (off : Off T I) (hc : 0 < c) (hi : i < n) (hg : sqG c (n - i) x = sqG c n x0) (hne : x * x % c ≠ c - 1)
    (hx : m (Str.ofString "here") = some (.int (x * x % c) t)) (nm : ∀ z, (∀ p ∈ [(Str.ofString "here", Value.int (x * x % c) t)], z ≠ p.1) → [Str.ofString "turn"].contains z = false → m z = m₀ z) :
    TurnPost h₀ L I it (SqsJ c x0 n m₀ (i + 1)) s Q .next { s with heap := h, toks := tk } := by
  refine ⟨h, tk, m, T, rfl, F, fun p hp => ?_, off, ⟨x * x % c, t, tb, Int.emod_nonneg _ (by omega), Int.emod_lt_of_pos _ hc, ?_, fun p hp => ?_, nm⟩⟩
  · rcases List.mem_cons.mp hp with rfl | hp
    · exact N _ hI
    · exact N p (hT.sub p hp)
  · rw [← hg, show n - i = (n - (i + 1)) + 1 by omega, sqG, if_neg hne]
  · rw [List.mem_singleton.mp hp]; exact hx
theorem sqG_yes {c x x0 : Int} {n i : Nat} (hi : i < n) (hg : sqG c (n - i) x = sqG c n x0) (e : x * x % c = c - 1) : true = sqG c n x0 := by
  rw [← hg, show n - i = (n - (i + 1)) + 1 by omega, sqG, if_pos e]
theorem sure_a {c b : Int} (h : powL b (halvG 9 (c - 1) 0).1 c = 1 ∨ powL b (halvG 9 (c - 1) 0).1 c = c - 1) : true = sureL c b := by
  unfold sureL; rw [if_pos h]
theorem sure_b {c b : Int} {v : Bool} (h1 : ¬ powL b (halvG 9 (c - 1) 0).1 c = 1) (h2 : ¬ powL b (halvG 9 (c - 1) 0).1 c = c - 1) (h : v = sqG c ((halvG 9 (c - 1) 0).2 - 1).toNat (powL b (halvG 9 (c - 1) 0).1 c)) : v = sureL c b := by
  unfold sureL; rw [if_neg (by rintro (e | e); exact h1 e; exact h2 e)]; exact h
end
theorem half_end {n : Nat} {o h : Int} {G : Int × Int} (e : halvG n o h = G) (hn : n = (9 - h).toNat) (x : ¬ h < 9 ∨ o % 2 ≠ 0) : G = (o, h) := by
  rw [← e]
  rcases x with x | x
  · rw [hn, show (9 - h).toNat = 0 by omega]; rfl
  · exact halvG_odd x
theorem sure_yes {c b o h : Int} (e : halvG 9 (c - 1) 0 = (o, h)) (x : powL b o c = 1 ∨ powL b o c = c - 1) : true = sureL c b := sure_a (by rw [e]; exact x)
theorem sure_loop {c b o h : Int} {v : Bool} (e : halvG 9 (c - 1) 0 = (o, h)) (h1 : ¬ powL b o c = 1) (h2 : ¬ powL b o c = c - 1) (x : v = sqG c (h - 1).toNat (powL b o c)) : v = sureL c b := by
  refine sure_b ?_ ?_ ?_ <;> rw [e]
  · exact h1
  · exact h2
  · exact x
theorem any_two {k y : Int} (h : ([1, k].any fun x => x == y) = true) : y = 1 ∨ y = k := by
  simp only [List.any_cons, List.any_nil, Bool.or_false, Bool.or_eq_true, beq_iff_eq] at h
  rcases h with h | h
  · exact .inl h.symm
  · exact .inr h.symm
theorem any_two_no {k y : Int} (h : ([1, k].any fun x => x == y) = false) : ¬ y = 1 ∧ ¬ y = k := by
  simp only [List.any_cons, List.any_nil, Bool.or_false, Bool.or_eq_false_iff, beq_eq_false_iff_ne, ne_eq] at h
  exact ⟨fun e => h.1 e.symm, fun e => h.2 e.symm⟩
end Mine

end
section
set_option maxRecDepth 100000
set_option maxHeartbeats 2000000
open PySem PySem.W PyProof.Rows PySem.Spec PySem.Calls PyProof.Rows.LCg PyProof.Rows.LCt
namespace Mine
section
variable {prog : Program} {w : World} {A : Around} {E : Value → Shared → Prop} {s : Shared} {h₀ : Heap} {L : Addr} {m : Str → Option Value} {env : Env}
/-- the source of a comprehension with a test over a range by any step -/
def SrcS (prog : Program) (w : World) (A : Around) (h₀ : Heap) (L : Addr) (m : Str → Option Value) (env : Env) (ct elt : Expr) (x : Str) (scope : Scope) (cl : List (Str × Addr)) (Fin : Shared → List Value → Led → Prop) (xv : Value) (s₁ : Shared) : Prop :=
  ∃ r a b st t u v n news, xv = .ref r ∧ A.handled = none ∧ Fr h₀ L s₁.heap m ∧ News h₀ L s₁.heap news ∧ IsRange s₁.heap r a b st t u v ∧ Builtin.Range.small a b st = true ∧ Builtin.Range.rangeSize a b st = ((n : Nat) : Int) ∧ n ≤ sizeLine ∧
    ∀ g, CompRestT prog w A h₀ L m env ct elt x scope cl { s₁ with heap := g } (fun _ => True) (fun i v => i < n ∧ ∃ t, v = .int (a + (i : Int) * st) t) (Fin { s₁ with heap := g }) n 0 [] news
theorem ListComp_S {ct elt iter : Expr} {x : Str} {px : Pos} {scope : Scope} {cl : List (Str × Addr)} {pos : Pos} {Q : Value → Shared → Prop} (_F₀ : Fr h₀ L s.heap m)
    (hclos : closureFor scope env = pure cl) (hcell : ∀ y ∈ scope.names, y.2 ≠ .cell) (hkind : scope.kind = .function)
    (hnames : ∀ y ∈ scope.names, y.2 = .local → scope.names.lookup y.1 = some .local) (hx : scope.names.lookup x = some .local)
    (h : wpAny (model prog w) A (eval iter env) (SrcS prog w A h₀ L m env ct elt x scope cl (fun s₂ => FinE h₀ L m s₂ Q)) E s)
    (hs : ∀ x, foldedSetIterable iter env x = pure x := by intro _; rfl) :
    wpAny (model prog w) A (eval (.ListComp elt [⟨.Name x px, iter, [ct], 0⟩] scope pos) env) Q E s := by
  rw [eval_ListComp]
  refine wpAny_comprehension_free (use := none) rfl hs hclos hkind hnames (wpAny_mono h (fun xv s₁ h₁ => ?_) fun _ _ e => e)
  obtain ⟨r, a, b, st, t, u, v, n, news, rfl, hh, F, N, hr, hsm, hn, hsz, R⟩ := h₁
  refine wpAny_pyIter_range hr hsm ?_
  refine block_T (Walks.range hh s₁.heap.objs.size a st n).bound hsz (fun i h st => ⟨_, st⟩) (fun i h h' o nw st e e' _ _ _ => by have st' := st; unfold IsRangeIter at st' ⊢; rw [e'] ; rw [e] at st'; exact st') hcell hkind hx (by show IsRangeIter _ _ _ _ _; rw [hn]; simpa using Heap.get?_push_size _ rfl) (fun b hb => ?_)
    (F.keeps fun _ _ e => Heap.get?_push_of_some _ e) (N.grown fun _ _ e => Heap.get?_push_of_some _ e) (Nat.ne_of_lt F.ns.lt) (next_is_new F) (fun p hp => Nat.ne_of_lt (Heap.lt_size (N p hp).1)) trivial (R _) ?_
  · rw [List.mem_singleton.mp hb]
    show s₁.heap.objs.size < (s₁.heap.push _).objs.size
    rw [Heap.size_push]; exact Nat.lt_succ_self _
  · intro D C h tk m' ys news' F' N' o1 hn hC₀ hD₀ hCL hDL hCD offC fin
    refine ⟨m', hn, fun h'' hs'' => fin D h'' tk (F'.change hs'' hCL hC₀) (fun p hp => ?_) o1⟩
    refine ⟨hs''.extBut _ _ ?_ (N' p hp).1, (N' p hp).2⟩
    rcases List.mem_cons.mp hp with rfl | hp
    · exact Ne.symm hCD
    · exact offC p hp
theorem Assign_ListComp_S {ct elt iter : Expr} {x y : Str} {px py : Pos} {scope : Scope} {cl : List (Str × Addr)} {pos spos : Pos} {Q : Flow → Shared → Prop} (_F₀ : Fr h₀ L s.heap m) (hLe : env.locals = L)
    (hsw : swapsWith (.ListComp elt [⟨.Name x px, iter, [ct], 0⟩] scope pos) (some (.Name y py)) spos.line env = pure true)
    (hclos : closureFor scope env = pure cl) (hcell : ∀ z ∈ scope.names, z.2 ≠ .cell) (hkind : scope.kind = .function)
    (hnames : ∀ z ∈ scope.names, z.2 = .local → scope.names.lookup z.1 = some .local) (hx : scope.names.lookup x = some .local)
    (hy : env.kindOf y = some .local) (hp : (env.scope.kind == .class || (env.scope.kind == .module && env.locals != env.globals)) = false)
    (h : wpAny (model prog w) A (eval iter env) (SrcS prog w A h₀ L m env ct elt x scope cl (fun s₂ => FinA h₀ L m s₂ y Q)) E s)
    (hs : ∀ x, foldedSetIterable iter env x = pure x := by intro _; rfl) :
    wpAny (model prog w) A (exec (.Assign [.Name y py] (.ListComp elt [⟨.Name x px, iter, [ct], 0⟩] scope pos) spos) env) Q E s := by
  subst hLe
  rw [exec_Assign_Name_used _ _ _ _ hsw]
  refine wpAny_bind (wpAny_standAt (wpAny_bind ?_))
  show wpAny _ A (do let _ ← comprehension (.ListComp elt [⟨.Name x px, iter, [ct], 0⟩] scope pos) scope env _ (newList []) false (eval iter env) (some (assign (.Name y py) env))) _ _ s
  refine wpAny_bind (wpAny_mono (wpAny_comprehension_free (use := some (assign (.Name y py) env)) (Q := fun _ s' => Q .next s') rfl hs hclos hkind hnames
    (wpAny_mono h (fun xv s₁ h₁ => ?_) fun _ _ e => e)) (fun _ s' hq => wpAny_pure (wpAny_pure hq)) fun _ _ e => e)
  obtain ⟨r, a, b, st, t, u, v, n, news, rfl, hh, F, N, hr, hsm, hn, hsz, R⟩ := h₁
  refine wpAny_pyIter_range hr hsm ?_
  refine block_T (Walks.range hh s₁.heap.objs.size a st n).bound hsz (fun i h st => ⟨_, st⟩) (fun i h h' o nw st e e' _ _ _ => by have st' := st; unfold IsRangeIter at st' ⊢; rw [e'] ; rw [e] at st'; exact st') hcell hkind hx (by show IsRangeIter _ _ _ _ _; rw [hn]; simpa using Heap.get?_push_size _ rfl) (fun b hb => ?_)
    (F.keeps fun _ _ e => Heap.get?_push_of_some _ e) (N.grown fun _ _ e => Heap.get?_push_of_some _ e) (Nat.ne_of_lt F.ns.lt) (next_is_new F) (fun p hp => Nat.ne_of_lt (Heap.lt_size (N p hp).1)) trivial (R _) ?_
  · rw [List.mem_singleton.mp hb]
    show s₁.heap.objs.size < (s₁.heap.push _).objs.size
    rw [Heap.size_push]; exact Nat.lt_succ_self _
  · intro D C h' tk m' ys news' F' N' o1 hn hC₀ hD₀ hCL hDL hCD offC fin
    show wpAny _ A (assign (.Name y py) env (.ref D)) _ _ _
    refine wpAny_assign_Name (wpAny_storeName_local hy F'.ns (fun h₂ hn₂ hs₂ => ?_) hp)
    have hL₀ : h₀.get? env.locals = none := Heap.get?_none_of_le F'.above
    have F₂ : Fr h₀ env.locals h₂ (fun z => if z = y then some (.ref D) else m z) := ⟨hn₂, fun b o e => hs₂.extBut b o (fun q => by rw [q, hL₀] at e; cases e) (F'.keep b o e), F'.above⟩
    refine ⟨m', hn.sameBut hs₂ hCL, fun h'' hs'' => fin D h'' _ (F₂.change hs'' hCL hC₀) (fun p hp => ?_) o1⟩
    have z : h₂.get? p.1 = some p.2 := hs₂.extBut _ _ (N' p hp).2.1 (N' p hp).1
    refine ⟨hs''.extBut _ _ ?_ z, (N' p hp).2⟩
    rcases List.mem_cons.mp hp with rfl | hp
    · exact Ne.symm hCD
    · exact offC p hp
/-- a range's ints, by any step -/
def rangeSt (a st : Int) (n : Nat) : List Int := (List.range n).map fun (i : Nat) => a + (i : Int) * st
theorem rangeSt_length (a st : Int) (n : Nat) : (rangeSt a st n).length = n := by simp [rangeSt]
theorem src_step {ct : Expr} {x : Str} {px : Pos} {scope : Scope} {cl : List (Str × Addr)} {pre T led : Led} {r : Addr} {a b st : Int} {t u v : Tok} {n : Nat} {Fin : Shared → List Value → Led → Prop} (q : Int → Bool)
    (hh : A.handled = none) (F : Fr h₀ L s.heap m) (N : News h₀ L s.heap led) (tb : Tabs T) (sp : Splits led T pre) (off : OwnOff T (pre.map (·.1))) (hr : IsRange s.heap r a b st t u v) (hsm : Builtin.Range.small a b st = true) (hn : Builtin.Range.rangeSize a b st = ((n : Nat) : Int)) (hsz : n ≤ 100000)
    (hkf : (compEnvC scope cl 0 env).scope.kind = .function) (hxl : ∀ C, (compEnvC scope cl C env).kindOf x = some .local) (hxd : (x == ("__debug__" : Str)) = false)
    (turn : ∀ g, CTurnGoal prog w A h₀ L m env ct x scope cl q pre (rangeSt a st n) { s with heap := g })
    (fin : ∀ g ys T, Tabs T → OwnOff T (pre.map (·.1)) → IntsAre ys ((rangeSt a st n).filter q) → Fin { s with heap := g } ys (pre ++ T)) :
    SrcS prog w A h₀ L m env ct (.Name x px) x scope cl Fin (.ref r) s := by
  refine ⟨r, a, b, st, t, u, v, n, pre ++ T, rfl, hh, F, fun p hp => N p (splits_app sp p hp), hr, hsm, hn, by rw [sizeLine_eq]; omega, fun g => ?_⟩
  have := filt_rest (S := fun _ => True) (P := fun i v => i < n ∧ ∃ t, v = .int (a + (i : Int) * st) t) (Fin := Fin { s with heap := g }) (px := px) hkf hxl hxd ?_ (fun _ => trivial) (turn g) (fin g) n 0 [] T (by rw [rangeSt_length]; omega) tb off (by simpa using IntsAre.nil)
  · exact this
  · rintro i v ⟨hi, t, rfl⟩ _
    exact ⟨_, t, rfl, by simp [rangeSt, hi]⟩
end
end Mine

end
section
set_option maxRecDepth 100000
open PySem PySem.W PyProof.Rows PySem.Spec PySem.Calls
namespace Mine
/-- one turn of the row of primes -/
def rowStep (o : List Int) (k : Int) : List Int := if o.filter (fun q => decide (q * q ≤ k) && (k % q == 0)) = [] then insL o k else o
def rowL (n : Nat) : List Int := (rangeKs 2 n).foldl rowStep []
theorem rowL_succ (n : Nat) : rowL (n + 1) = rowStep (rowL n) (2 + (n : Int)) := by unfold rowL; rw [rangeKs_succ, List.foldl_append]; rfl
theorem rowL_sorted : ∀ n, (rowL n).Pairwise (· ≤ ·)
  | 0 => by simp [rowL, rangeKs]
  | n + 1 => by
    rw [rowL_succ]; unfold rowStep; split
    · exact insL_sorted (rowL_sorted n)
    · exact rowL_sorted n
theorem rowL_length : ∀ n, (rowL n).length ≤ n
  | 0 => by simp [rowL, rangeKs]
  | n + 1 => by
    rw [rowL_succ]; have := rowL_length n; unfold rowStep; split
    · rw [insL_length]; omega
    · omega
theorem rowL_mem : ∀ {n : Nat} {q : Int}, q ∈ rowL n → 2 ≤ q ∧ q < 2 + (n : Int)
  | 0, _, h => by simp [rowL, rangeKs] at h
  | n + 1, q, h => by
    rw [rowL_succ] at h; unfold rowStep at h; split at h
    · rcases mem_insL.mp h with h | h
      · push_cast; omega
      · have := rowL_mem h; push_cast; omega
    · have := rowL_mem h; push_cast; omega
theorem row_yes {n : Nat} {vs : List Value} (h : (rowL n).filter (fun q => decide (q * q ≤ 2 + (n : Int)) && ((2 + (n : Int)) % q == 0)) = []) (hv : IntsAre vs (insL (rowL n) (2 + (n : Int)))) : IntsAre vs (rowL (n + 1)) := by
  rw [rowL_succ]; unfold rowStep; rw [if_pos h]; exact hv
theorem row_no {n : Nat} {vs : List Value} (h : ¬ (rowL n).filter (fun q => decide (q * q ≤ 2 + (n : Int)) && ((2 + (n : Int)) % q == 0)) = []) (hv : IntsAre vs (rowL n)) : IntsAre vs (rowL (n + 1)) := by
  rw [rowL_succ]; unfold rowStep; rw [if_neg h]; exact hv
/-- Lucas' row -/
def llF (c : Int) : Nat → Int
  | 0 => 4
  | n + 1 => (llF c n * llF c n - 2) % c
theorem llF_range {c : Int} (hc : 4 < c) : ∀ n, 0 ≤ llF c n ∧ llF c n < c
  | 0 => ⟨by show (0 : Int) ≤ 4; decide, hc⟩
  | _ + 1 => ⟨Int.emod_nonneg _ (by omega), Int.emod_lt_of_pos _ (by omega)⟩
theorem llF_fits {c : Int} (hc : 4 < c) (hC : c ≤ 10000) (n : Nat) : 0 ≤ llF c n * llF c n ∧ llF c n * llF c n ≤ 100000000 := by
  obtain ⟨h0, h1⟩ := llF_range hc n
  have a : llF c n * llF c n ≤ 10000 * 10000 := Int.mul_le_mul (by omega) (by omega) h0 (by decide)
  exact ⟨Int.mul_nonneg h0 h0, by omega⟩
abbrev P5 (p : Int) : Prop := p = 3 ∨ p = 5 ∨ p = 7 ∨ p = 11 ∨ p = 13
abbrev onesOf (p : Int) : Int := undig (Int.toNat 1) (List.replicate p.toNat 1)
abbrev partsOf (c : Int) : List Int := (rangeSt 3 2 44).filter (fun k => decide (k < c) && (c % k == 0))
theorem l1_ones {p : Int} (h : P5 p) : onesOf p = 2 ^ p.toNat - 1 := by
  rcases h with rfl | rfl | rfl | rfl | rfl <;> decide +kernel
theorem l1_range {p : Int} (h : P5 p) : 7 ≤ onesOf p ∧ onesOf p ≤ 8191 := by
  rcases h with rfl | rfl | rfl | rfl | rfl <;> decide +kernel
theorem l1_ll {p : Int} (h : P5 p) : (llF (onesOf p) (p - 2).toNat == 0) = decide (partsOf (onesOf p) = []) := by
  rcases h with rfl | rfl | rfl | rfl | rfl <;> decide +kernel
theorem l1_parts {p : Int} (h : P5 p) : (partsOf (onesOf p)).filter (fun k => decide (k % (2 * p) ≠ 1)) = [] := by
  rcases h with rfl | rfl | rfl | rfl | rfl <;> decide +kernel
abbrev row1 : List Int := rowL 100
def l1n (n : Int) : Bool :=
  (hasL row1 n == decide ((rangeSt 3 2 4).filter (fun k => decide (k < n) && (n % k == 0)) = [])) && ((decide (n = 3) || (sureL n 2 && sureL n 3)) == hasL row1 n)
theorem l1n_all : (rangeKs 0 50).all (fun x => l1n (3 + 2 * x)) = true := by decide +kernel
theorem l1n_at (x : Int) : l1n (3 + 2 * (x % 50)) = true := by
  have h := List.all_eq_true.mp l1n_all (x % 50) (by
    have h1 := Int.emod_nonneg x (show (50 : Int) ≠ 0 by decide)
    have h2 := Int.emod_lt_of_pos x (show (0 : Int) < 50 by decide)
    unfold rangeKs
    exact List.mem_map.mpr ⟨(x % 50).toNat, List.mem_range.mpr (by omega), by omega⟩)
  exact h
section
variable {prog : Program} {w : World} {A : Around} {E : Value → Shared → Prop} {s : Shared} {h₀ : Heap} {L : Addr} {env : Env} {target : Expr} {body : List Stmt} {Q : Flow → Shared → Prop} {m₀ : Str → Option Value}
/-- a loop that turns the int «here», the ledger's head fixed -/
def AccJ (xs : Nat → Int) (fix : Led) (m₀ : Str → Option Value) (i : Nat) (m : Str → Option Value) (led : Led) : Prop :=
  ∃ (T : Led) (t : Tok), led = fix ++ T ∧ Tabs T ∧ OwnOff T (fix.map (·.1)) ∧ Names [(Str.ofString "here", .int (xs i) t)] [Str.ofString "turn"] m₀ m
theorem acc_loop {r : Addr} {b : Int} {n : Nat} {fix led T : Led} {t0 : Tok} {t₀ u₀ v₀ : Tok} (xs : Nat → Int) (hh : A.handled = none) (hr : IsRange s.heap r 0 b 1 t₀ u₀ v₀) (hb0 : -1000 ≤ b) (hb : b ≤ 1000) (hn : b.toNat = n)
    (F : Fr h₀ L s.heap m₀) (N : News h₀ L s.heap led) (tb : Tabs T) (sp : Splits led T fix) (off : OwnOff T (fix.map (·.1))) (ho : m₀ (Str.ofString "here") = some (.int (xs 0) t0)) (ht : ∀ I v, letOwnedTupleGo target (.ref I) v = pure ())
    (turn : ∀ (i : Nat) (t td : Tok) (T : Led) (u : Str → Option Value) (I : Addr) (it : Obj) (h : Heap) (tk : Nat), i < n → Tabs T → OwnOff T (I :: fix.map (·.1)) → NeAll I fix →
      Fr h₀ L h (kstB (fun z => if [Str.ofString "turn"].contains z then u z else m₀ z) [(Str.ofString "here", .int (xs i) t)]) → News h₀ L h ((I, it) :: (fix ++ T)) →
      wpAny (model prog w) A (assign target env (.int (0 + (i : Nat)) td)) (fun _ s₂ => wpAny (model prog w) A (execs body env) (TurnPost h₀ L I it (AccJ xs fix m₀ (i + 1)) s Q) E s₂) E { s with heap := h, toks := tk })
    (done : ∀ (t : Tok) (T : Led) (u : Str → Option Value) (h : Heap) (tk : Nat), Tabs T → OwnOff T (fix.map (·.1)) →
      Fr h₀ L h (kstB (fun z => if [Str.ofString "turn"].contains z then u z else m₀ z) [(Str.ofString "here", .int (xs n) t)]) → News h₀ L h (fix ++ T) → Q .next { s with heap := h, toks := tk })
    (hE : PassesOwn (model prog w) A env E) :
    wpAny (model prog w) A (pyIter (.ref r)) (fun it s₂ => codeAny (model prog w) A (.forLoop target it body [] env) (LoopBack prog w A env Q E) s₂) E s := by
  refine for_range (fun i m led => AccJ xs fix m₀ i m led) hh hr (small_one (by omega) (by omega) (by omega) (by omega)) (n := n) (by rw [rangeSize_nat, ← hn]; congr 2; omega) ht F (fun p hp => N p (splits_app sp p hp)) ⟨T, t0, rfl, tb, off, ?_, fun _ _ _ => rfl⟩ ?_ ?_ hE
  · intro p hp
    rw [List.mem_singleton.mp hp]; exact ho
  · rintro i td I m led h tk it hi ⟨T, t, rfl, tb, off, nm⟩ F' N' offI
    exact turn i t td T m I it h tk hi tb (ownOff_cons (fun p hp => offI p (List.mem_append_right _ hp)) off) (neAll_off fun p hp => offI p (List.mem_append_left _ hp)) (nm.fr F') N'
  · rintro m led h tk ⟨T, t, rfl, tb, off, nm⟩ F' N'
    exact done t T m h tk tb off (nm.fr F') N'
theorem acc_back {h : Heap} {I : Addr} {it : Obj} {fix led T : Led} {m : Str → Option Value} {tk i : Nat} {x : Int} {t : Tok} {xs : Nat → Int}
    (F : Fr h₀ L h m) (N : News h₀ L h led) (tb : Tabs T) (hT : TailIs T led) (sub : ∀ p ∈ (I, it) :: fix, p ∈ led) (off : OwnOff T (I :: fix.map (·.1))) (ne : NeAll I fix)
    (hx : m (Str.ofString "here") = some (.int x t)) (e : x = xs (i + 1)) (nm : ∀ z, (∀ p ∈ [(Str.ofString "here", Value.int (xs (i + 1)) t)], z ≠ p.1) → [Str.ofString "turn"].contains z = false → m z = m₀ z) :
    TurnPost h₀ L I it (AccJ xs fix m₀ (i + 1)) s Q .next { s with heap := h, toks := tk } := by
  subst e
  refine ⟨h, tk, m, fix ++ T, rfl, F, fun p hp => ?_, fun p hp => ?_, ⟨T, t, rfl, tb, fun p hp b hb => off p hp b (.tail _ hb), fun p hp => ?_, nm⟩⟩
  · rw [← List.cons_append] at hp
    exact N p ((List.mem_append.mp hp).elim (sub p) (hT.sub p))
  · rcases List.mem_append.mp hp with hp | hp
    · exact neA_all ne p hp
    · exact off p hp I (.head _)
  · rw [List.mem_singleton.mp hp]; exact hx
end
theorem law_start1 {h₀ h : Heap} {L : Addr} {cs : Led} (N : News h₀ L h (cs ++ [(30, tabObj #[]), (37, tabObj #[])])) (hc : ∀ p ∈ cs, @LT.lt Nat _ 37 p.1) :
    ∃ T, Tabs T ∧ News h₀ L h (cs ++ T) ∧ OwnOff T (cs.map (·.1)) :=
  law_start (fun p hp => N p (by
    rcases List.mem_append.mp hp with h | h
    · exact List.mem_append_left _ h
    · refine List.mem_append_right _ ?_
      rcases List.mem_cons.mp h with rfl | h
      · exact .tail _ (.head _)
      · rw [List.mem_singleton.mp h]; exact .head _)) hc
theorem grown_end1 {h₀ h : Heap} {L : Addr} {led T : Led} (N : News h₀ L h led) (tb : Tabs T) (hT : TailIs T led) : GrownAll [(34, 30), (41, 37)] h :=
  let x := grown_end N tb hT
  ⟨x.2.1, x.1, trivial⟩
theorem and_t {P : Prop} [Decidable P] {A : Int} (h1 : P) (h2 : A = 0) : true = (decide P && (A == 0)) := by rw [decide_eq_true h1, h2]; rfl
theorem and_f2 {P : Prop} [Decidable P] {A : Int} (h2 : A ≠ 0) : false = (decide P && (A == 0)) := by
  have : (A == 0) = false := by simpa using h2
  rw [this, Bool.and_false]
theorem and_f1 {P : Prop} [Decidable P] {b : Bool} (h : ¬ P) : false = (decide P && b) := by rw [decide_eq_false h, Bool.false_and]
theorem bne_f {x y : Int} (h : x = y) : (x != y) = false := by subst h; simp
theorem rangeSt_mem {a st k : Int} {n : Nat} (h : k ∈ rangeSt a st n) (hs : 0 ≤ st := by decide) : a ≤ k := by
  unfold rangeSt at h
  obtain ⟨i, _, rfl⟩ := List.mem_map.mp h
  have := Int.mul_nonneg (Int.natCast_nonneg i) hs
  omega
section
variable {n : Int} (h : l1n n = true)
include h
theorem l1n_1 : hasL (rowL 100) n = decide ((rangeSt 3 2 4).filter (fun k => decide (k < n) && (n % k == 0)) = []) := by
  unfold l1n at h
  simp only [Bool.and_eq_true] at h
  exact eq_of_beq h.1
theorem l1n_2 : (decide (n = 3) || (sureL n 2 && sureL n 3)) = hasL (rowL 100) n := by
  unfold l1n at h
  simp only [Bool.and_eq_true] at h
  exact eq_of_beq h.2
theorem fin_a {ip : Bool} (hi : ip = hasL (rowL 100) n) (h3 : n = 3) : (((n == 3) == ip) == true) = true := by
  have := l1n_2 h
  rw [hi, ← this, decide_eq_true h3, h3]; rfl
theorem fin_b {ip : Bool} (hi : ip = hasL (rowL 100) n) (h3 : n ≠ 3) (hs : sureL n 2 = true) : ((sureL n 3 == ip) == true) = true := by
  have := l1n_2 h
  rw [hi, ← this, decide_eq_false h3, hs]; simp
theorem fin_c {ip : Bool} (hi : ip = hasL (rowL 100) n) (h3 : n ≠ 3) (hs : sureL n 2 = false) : ((sureL n 2 == ip) == true) = true := by
  have := l1n_2 h
  rw [hi, ← this, decide_eq_false h3, hs]; rfl
theorem ip_no {ip : Bool} (hi : ip = hasL (rowL 100) n) : (ip != decide ((rangeSt 3 2 4).filter (fun k => decide (k < n) && (n % k == 0)) = [])) = false := by
  rw [hi, l1n_1 h]; simp
end
theorem bne_no1 {x y : Bool} (e : x = y) (h : (x != y) = true) : False := by
  subst e; simp at h
theorem bne_bf {x y : Bool} (h : x = y) : (x != y) = false := by subst h; simp
theorem l1_partsB {p : Int} (h : P5 p) : (partsOf (onesOf p)).filter (fun k => k % (2 * p) != 1) = [] := by
  rcases h with rfl | rfl | rfl | rfl | rfl <;> decide +kernel
theorem nd_f {α : Type} [DecidableEq α] {F : List α} (h : F = []) : (!decide (F = [])) = false := by subst h; rfl
theorem nd_t {α : Type} [DecidableEq α] {F : List α} (h : F = []) (x : (!decide (F = [])) = true) : False := by subst h; simp at x
theorem nd_d {α : Type} [DecidableEq α] {F : List α} (h : F = []) (x : decide (F = []) = false) : False := by subst h; simp at x
theorem len_parts {q : Int → Bool} {a st : Int} {n : Nat} (h : n ≤ 1000) : ((rangeSt a st n).filter q).length ≤ 100000 := Nat.le_trans (List.length_filter_le _ _) (by rw [rangeSt_length]; omega)
end Mine

end
open PySem.Spec PySem.Calls
local macro_rules | `(tactic| walk_at $s:str) => `(tactic| k_extra $s)

namespace Mine
theorem fill9 {P : Prop} (h : (PySem.Challenge.rw_gh0007_01 = PySem.Challenge.rw_gh0007_01 ∧ ∀ P, hd.heap_39 P = hd.heap_39 P) → P) : P := by
  w_top off
  exact h ⟨rfl, fun _ => rfl⟩
theorem kset_a_1 : True := by
  k_with "M.enter" =>
    (refine wpAny_call ?_; (refine' codeF_def ?zqB ?zqF ?zqX ?zqN ?zqap ?zqT rfl rfl ?zqkK ?zqk6 ?zqk7 ?zqk8 ?zqk9 ?zqkB ?_ ?zqc2 ?zqc3 ?zqc4 ?zqc5); (case zqB => assumption); (case zqF => assumption); (case zqX => assumption); (case zqN => assumption); (case zqap => assumption); (case zqT => assumption); (case zqkK => assumption); (case zqk6 => k_is); (case zqk7 => k_is); (case zqk8 => ktr_room); (case zqk9 => first | exact BindsTo.of_eq rfl | exact binds_K (by k_in) rfl (by k_is) rfl rfl rfl | (refine' kp_binds ?zqkx ?zqke; (case zqkx => k_in); (case zqke => exact fun _ => rfl))); (case zqkB => exact locs rfl); (case zqc2 => rfl); (case zqc3 => rfl); (case zqc4 => rfl); (case zqc5 => decide))
  k_with "M.enterC" =>
    (refine wpAny_call ?_; (refine' codeF_defC ?zqB ?zqF ?zqX ?zqN ?zqap ?zqT rfl rfl ?zqkK ?zqk6 ?zqk7 ?zqk8 ?zqk9 ?zqkB ?zqkD ?_ ?zqc2 ?zqc3 ?zqc4); (case zqB => assumption); (case zqF => assumption); (case zqX => assumption); (case zqN => assumption); (case zqap => assumption); (case zqT => assumption); (case zqkK => assumption); (case zqk6 => k_is); (case zqk7 => k_is); (case zqk8 => ktr_room); (case zqk9 => first | exact BindsTo.of_eq rfl | exact binds_K (by k_in) rfl (by k_is) rfl rfl rfl | (refine' kp_binds ?zqkx ?zqke; (case zqkx => k_in); (case zqke => exact fun _ => rfl))); (case zqkB => exact rfl); (case zqkD => decide +kernel); (case zqc2 => rfl); (case zqc3 => rfl); (case zqc4 => rfl))
  k_with "M.enterN" =>
    (refine wpAny_call ?_; (refine' codeF_nest ?zqB ?zqF ?zqX ?zqN ?zqap ?zqT rfl rfl ?zqkK ?zqk6 ?zqk7 ?zqk8 ?zqk9 ?zqkB ?_ ?zqc2 ?zqc3 ?zqc4 ?zqc5); (case zqB => assumption); (case zqF => assumption); (case zqX => assumption); (case zqN => assumption); (case zqap => assumption); (case zqT => assumption); (case zqkK => assumption); (case zqk6 => k_mem); (case zqk7 => exact codeRec_news (news_left (by assumption)) (by k_mem) (by assumption) (by assumption)); (case zqk8 => ktr_room); (case zqk9 => exact BindsTo.of_eq rfl); (case zqkB => exact locs rfl); (case zqc2 => rfl); (case zqc3 => rfl); (case zqc4 => rfl); (case zqc5 => decide))
  k_with "binaryOp FloorDiv int int" =>
    (k_here; (with_reducible show wpAny _ _ (binaryOp _ (Value.int _ _) (Value.int _ _)) _ _ _); (refine' fdiv_at ?zqb ?zqB ?_); (case zqb => omega); (case zqB => omega); intro _ _; (try dsimp only))
  k_with "binaryOp Mod int int" =>
    (k_here; (with_reducible show wpAny _ _ (binaryOp _ (Value.int _ _) (Value.int _ _)) _ _ _); (refine' mod_at ?zqb ?_); (case zqb => omega); intro _ _; (try dsimp only))
  k_with "binaryOp RShift int int" =>
    (k_here; (with_reducible show wpAny _ _ (binaryOp _ (Value.int _ _) (Value.int _ _)) _ _ _); (refine' shr_at ?zqb ?_); (case zqb => omega); intro _ _; (try dsimp only))
  k_with "binaryOp LShift int int" =>
    (k_here; (with_reducible show wpAny _ _ (binaryOp _ (Value.int _ _) (Value.int _ _)) _ _ _); (refine' shl_at ?zqb ?zqB ?zqa ?_); (case zqb => omega); (case zqB => first | omega | k_extra "fact"); (case zqa => first | omega | k_extra "fact"); intro _ _; (try dsimp only))
  k_with "binaryOp Mult int int" =>
    (k_here; (with_reducible show wpAny _ _ (binaryOp _ (Value.int _ _) (Value.int _ _)) _ _ _); (refine' mul_at ?zqb ?_); (case zqb => first | omega | k_extra "fact"); intro _ _; (try dsimp only))
  k_with "binaryOp BitXor int int" =>
    (k_here; (with_reducible show wpAny _ _ (binaryOp _ (Value.int _ _) (Value.int _ _)) _ _ _); (refine' xor_at ?zqb ?_); (case zqb => omega); intro _ _; (try dsimp only))
  k_with "binaryOp Mult ref int" =>
    (k_here; (with_reducible show wpAny _ _ (binaryOp _ (Value.ref _) (Value.int _ _)) _ _ _); k_dflt (refine' rep_at ?zqF ?zqN ?zql ?zqi ?zqa ?zqb ?_; (case zqF => k_asm); (case zqN => k_asm); (case zql => is_list); (case zqi => l_ints); (case zqa => first | omega | k_extra "fact"); (case zqb => first | omega | k_extra "fact")); intro D9 vs9 h9 F9 N9 l9 i9; (try k_lt l9); (try dsimp only); (try k_sweep))
  k_with "M.enterC" =>
    (refine wpAny_call ?_; (refine' codeF_defC ?zqB ?zqF ?zqX ?zqN ?zqap ?zqT rfl rfl ?zqkK ?zqk6 ?zqk7 ?zqk8 ?zqk9 ?zqkB ?zqkD ?_ ?zqc2 ?zqc3 ?zqc4); (case zqB => assumption); (case zqF => assumption); (case zqX => assumption); (case zqN => assumption); (case zqap => assumption); (case zqT => assumption); (case zqkK => assumption); (case zqk6 => k_is); (case zqk7 => k_is); (case zqk8 => ktr_room); (case zqk9 => first | exact BindsTo.of_eq rfl | exact binds_K (by k_in) rfl (by k_is) rfl rfl rfl | (refine' kp_binds ?zqkx ?zqke; (case zqkx => k_in); (case zqke => exact fun _ => rfl))); (case zqkB => exact rfl); (case zqkD => decide +kernel); (case zqc2 => rfl); (case zqc3 => rfl); (case zqc4 => rfl))
  k_with "M.enterN" =>
    (refine wpAny_call ?_; (refine' codeF_nest ?zqB ?zqF ?zqX ?zqN ?zqap ?zqT rfl rfl ?zqkK ?zqk6 ?zqk7 ?zqk8 ?zqk9 ?zqkB ?_ ?zqc2 ?zqc3 ?zqc4 ?zqc5); (case zqB => assumption); (case zqF => assumption); (case zqX => assumption); (case zqN => assumption); (case zqap => assumption); (case zqT => assumption); (case zqkK => assumption); (case zqk6 => k_mem); (case zqk7 => exact codeRec_news (news_left (by assumption)) (by k_mem) (by assumption) (by assumption)); (case zqk8 => ktr_room); (case zqk9 => exact BindsTo.of_eq rfl); (case zqkB => exact locs rfl); (case zqc2 => rfl); (case zqc3 => rfl); (case zqc4 => rfl); (case zqc5 => decide))
  k_with "M.fact" =>
    first | with_reducible assumption | omega | k_extra "fact" | assumption
  k_with "binaryOp FloorDiv int int" =>
    (k_here; (with_reducible show wpAny _ _ (binaryOp _ (Value.int _ _) (Value.int _ _)) _ _ _); (refine' fdiv_at ?zqb ?zqB ?_); (case zqb => k_extra "M.fact"); (case zqB => k_extra "M.fact"); intro _ _; (try dsimp only))
  k_with "binaryOp Mod int int" =>
    (k_here; (with_reducible show wpAny _ _ (binaryOp _ (Value.int _ _) (Value.int _ _)) _ _ _); (refine' mod_at ?zqb ?_); (case zqb => k_extra "M.fact"); intro _ _; (try dsimp only))
  k_with "binaryOp RShift int int" =>
    (k_here; (with_reducible show wpAny _ _ (binaryOp _ (Value.int _ _) (Value.int _ _)) _ _ _); first | (with_reducible refine shr1_at ?_; intro _ _; (try dsimp only)) | ((refine' shr_at ?zqb ?_); (case zqb => k_extra "M.fact"); intro _ _; (try dsimp only)))
  k_with "binaryOp LShift int int" =>
    (k_here; (with_reducible show wpAny _ _ (binaryOp _ (Value.int _ _) (Value.int _ _)) _ _ _); (refine' shl_at ?zqb ?zqB ?zqa ?_); (case zqb => k_extra "M.fact"); (case zqB => k_extra "M.fact"); (case zqa => k_extra "M.fact"); intro _ _; (try dsimp only))
  k_with "binaryOp Mult int int" =>
    (k_here; (with_reducible show wpAny _ _ (binaryOp _ (Value.int _ _) (Value.int _ _)) _ _ _); (refine' mul_at ?zqb ?_); (case zqb => k_extra "M.fact"); intro _ _; (try dsimp only))
  k_with "binaryOp BitXor int int" =>
    (k_here; (with_reducible show wpAny _ _ (binaryOp _ (Value.int _ _) (Value.int _ _)) _ _ _); (refine' xor_at ?zqb ?_); (case zqb => k_extra "M.fact"); intro _ _; (try dsimp only))
  k_with "binaryOp Mult ref int" =>
    (k_here; (with_reducible show wpAny _ _ (binaryOp _ (Value.ref _) (Value.int _ _)) _ _ _); k_dflt (refine' rep_at ?zqF ?zqN ?zql ?zqi ?zqa ?zqb ?_; (case zqF => k_asm); (case zqN => k_asm); (case zql => is_list); (case zqi => l_ints); (case zqa => k_extra "M.fact"); (case zqb => k_extra "M.fact")); intro D9 vs9 h9 F9 N9 l9 i9; (try k_lt l9); (try dsimp only); (try k_sweep))
  k_with "subscriptTail" =>
    (k_here; (with_reducible show wpAny _ _ (subscriptTail _ _ (Value.ref _) (Value.int _ _)) _ _ _); (with_unfolding_all refine' item_at ?zqk1 ?zqk2 ?zqk3 ?zqk4 ?zqk5 ?_ ?zqk6; (case zqk1 => is_list); (case zqk2 => assumption); (case zqk3 => k_extra "idx0"); (case zqk4 => k_extra "idx1"); (case zqk5 => omega); (case zqk6 => with_unfolding_all rfl); k_whole); intro _ _ _)
  k_with "call builtin:divmod" =>
    (k_here; (with_reducible show wpAny _ _ (call (Value.builtin _) [Value.int _ _, Value.int _ _]) _ _ _); (refine' divmod_at ?zqF ?zqN ?zqb ?zqB ?zqa ?zqA ?_); (case zqF => k_asm); (case zqN => k_asm); (case zqb => assumption); (case zqB => assumption); (case zqa => assumption); (case zqA => assumption); intro D9 k9 t9 u9 h9 tk9 F9 N9 l9; (try k_lt l9); (try dsimp only))
  k_with "call builtin:list.append" =>
    (k_here; (with_reducible show wpAny _ _ (call (Value.builtin _) [Value.ref _, Value.int _ _]) _ _ _); k_dflt (refine' app_at ?zqF ?zqN ?zqi ?zqz ?zqU ?_; (case zqF => k_asm); (case zqN => k_asm); (case zqi => assumption); (case zqz => k_extra "M.fact"); (case zqU => k_upd)); intro h9 F9 N9 i9; (try dsimp only); (try k_sweep))
  k_with "call builtin:list.reverse" =>
    (k_here; (with_reducible show wpAny _ _ (call (Value.builtin _) [Value.ref _]) _ _ _); k_dflt (refine' rev_at ?zqF ?zqN ?zqi ?zqz ?zqU ?_; (case zqF => k_asm); (case zqN => k_asm); (case zqi => assumption); (case zqz => k_extra "M.fact"); (case zqU => k_upd)); intro h9 F9 N9 i9; (try dsimp only); (try k_sweep))
  k_with "unaryOp Invert int" =>
    (k_here; with_reducible (refine inv_at ?_); intro _ _; (try dsimp only))
  k_with "storeName" =>
    (k_here; (with_reducible show wpAny _ _ (storeName _ (Str.ofString "mid") _) _ _ _); simp only [Int.fdiv_eq_ediv_of_nonneg _ (by decide : (0:Int) ≤ 2)])
  trivial
theorem bis_c {w : World} {p : Program} {loose : List Str} {mean : ExcName → Option Value} {mg mb : Str → Option Value} {tabs : List (Addr × Addr)} {a : Addr} {vs : List Value} {ns : List Int} {n : Nat} {x : Int} {tx : Tok} (hi : IntsAre vs ns) (hs : ns.Pairwise (· ≤ ·)) (hl : ns.length ≤ 1000) :
    Does PySem.Challenge.pw_gh0007_01 w (hd.heap_39 w.params) p loose mean mg mb tabs 74 [.ref a, .int x tx] 1 (fun fr => (a, listOf vs.toArray n) ∈ fr) [] (fun r l' => l' = [] ∧ ∃ t, r = .int (countLt ns x : Nat) t) := by
  refine fill9 ?_
  k_fill
  intro _
  unfold Does
  intro dp un gd cn cs ca ccd cl outer A₀ base h₀ L m fr s Q E B F X N ap hrd T hct hk hd9 hu hret
  k_extra "M.enter"
  intro g L' h1 FG F' N' B' X' T' hg hlt
  have hL : g.IsList a vs.toArray := ⟨_, hg _ hrd, rfl, _, rfl⟩
  dsimp only
  try k_fold
  k_with "exec While Compare cons nil" => k_while (fun (_ : List Int) lo hi => BisI ns x lo hi) (fun (_ : List Int) lo hi => (hi - lo).toNat) "lo" "hi"
  k_with "state" => (first | exact bisI_start | exact bisI_up hs (by assumption) (by assumption) (by assumption) (by assumption) | exact bisI_down hs (by assumption) (by assumption) (by assumption) (by assumption))
  k_with "idx0" => (have hI9 := BisI.lo0 (by assumption); have hI8 := BisI.le (by assumption); omega)
  k_with "idx1" => (have hI9 := BisI.hi1 (by assumption); omega)
  k_steps
  all_goals (refine fun _ _ => hret _ [] _ _ (by assumption) (by assumption) (fun _ h => nomatch h) ⟨rfl, _, congrArg (Value.int · _) (bisI_end (by assumption) (by assumption))⟩)
theorem bis_c4 {w : World} {p : Program} {loose : List Str} {mean : ExcName → Option Value} {mg mb : Str → Option Value} {tabs : List (Addr × Addr)} {a : Addr} {vs : List Value} {ns : List Int} {n : Nat} {x : Int} {tx t1 : Tok} (hi : IntsAre vs ns) (hs : ns.Pairwise (· ≤ ·)) (hl : ns.length ≤ 1000) :
    Does PySem.Challenge.pw_gh0007_01 w (hd.heap_39 w.params) p loose mean mg mb tabs 74 [.ref a, .int x tx, .int 0 t1, .none] 1 (fun fr => (a, listOf vs.toArray n) ∈ fr) [] (fun r l' => l' = [] ∧ ∃ t, r = .int (countLt ns x : Nat) t) := by
  refine fill9 ?_
  k_fill
  intro _
  unfold Does
  intro dp un gd cn cs ca ccd cl outer A₀ base h₀ L m fr s Q E B F X N ap hrd T hct hk hd9 hu hret
  k_extra "M.enter"
  intro g L' h1 FG F' N' B' X' T' hg hlt
  have hL : g.IsList a vs.toArray := ⟨_, hg _ hrd, rfl, _, rfl⟩
  dsimp only
  try k_fold
  k_with "exec While Compare cons nil" => k_while (fun (_ : List Int) lo hi => BisI ns x lo hi) (fun (_ : List Int) lo hi => (hi - lo).toNat) "lo" "hi"
  k_with "state" => (first | exact bisI_start | exact bisI_up hs (by assumption) (by assumption) (by assumption) (by assumption) | exact bisI_down hs (by assumption) (by assumption) (by assumption) (by assumption))
  k_with "idx0" => (have hI9 := BisI.lo0 (by assumption); have hI8 := BisI.le (by assumption); omega)
  k_with "idx1" => (have hI9 := BisI.hi1 (by assumption); omega)
  k_steps
  all_goals (refine fun _ _ => hret _ [] _ _ (by assumption) (by assumption) (fun _ h => nomatch h) ⟨rfl, _, congrArg (Value.int · _) (bisI_end (by assumption) (by assumption))⟩)
theorem kset_a_2 : True := by
  k_with "call ref" =>
    (k_here; (with_reducible show wpAny _ _ (call (Value.ref 74) _) _ _ _); k_dflt (first | (refine' does_use (bis_c4 ?zqi ?zqs ?zql) ?zqB ?zqF ?zqX ?zqN ?zqsp ?zqap ?zqrd ?zqT ?zqct ?zqhk ?zqhd ?zqhu ?_)); (case zqB => k_asm); (case zqF => k_asm); (case zqX => k_asm); (case zqN => k_asm); (case zqsp => exact .allR); (case zqrd => k_mem); (case zqi => assumption); (case zqs => assumption); (case zql => assumption); (case zqT => k_asm); (case zqap => exact fun _ _ _ h => nomatch h); (case zqct => assumption); (case zqhk => first | rfl | assumption); (case zqhd => ktr_room); (case zqhu => ktr_units); k_whole; intro r9 l9 h9 tk9 F9 N9 ap9 P9; (refine Exists.elim P9.2 ?_; intro t9 e9; subst e9; have e8 := P9.1; subst e8; clear P9 ap9); (simp only [List.nil_append] at N9); (try dsimp only); (try k_fold))
  k_with "call builtin:list.insert" =>
    (k_here; (with_reducible show wpAny _ _ (call (Value.builtin _) [Value.ref _, Value.int _ _, Value.int _ _]) _ _ _); k_dflt (refine' ins_at ?zqF ?zqN ?zqi ?zqz ?zqU ?_; (case zqF => k_asm); (case zqN => k_asm); (case zqi => assumption); (case zqz => assumption); (case zqU => k_upd)); intro h9 F9 N9 i9; (try dsimp only))
  trivial
theorem ins_c {w : World} {p : Program} {loose : List Str} {mean : ExcName → Option Value} {mg mb : Str → Option Value} {tabs : List (Addr × Addr)} {a : Addr} {vs : List Value} {ns : List Int} {n : Nat} {x : Int} {tx : Tok} (hi : IntsAre vs ns) (hs : ns.Pairwise (· ≤ ·)) (hl : ns.length ≤ 1000) :
    Does PySem.Challenge.pw_gh0007_01 w (hd.heap_39 w.params) p loose mean mg mb tabs 65 [.ref a, .int x tx] 2 (fun _ => True) [(a, listOf vs.toArray n)] (fun r l' => r = .none ∧ ∃ vs' n', l' = [(a, listOf vs'.toArray n')] ∧ IntsAre vs' (insL ns x)) := by
  refine fill9 ?_
  k_fill
  intro _
  unfold Does
  intro dp un gd cn cs ca ccd cl outer A₀ base h₀ L m fr s Q E B F X N ap hrd T hct hk hd9 hu hret
  k_extra "M.enter"
  intro g L' h1 FG F' N' B' X' T' hg hlt
  have hct' := codeAll_keeps (fun b o e => FG.keep b o e) hct
  dsimp only
  try k_fold
  k_steps
  all_goals (refine fun NF hgf => hret _ _ _ _ (by assumption) (news_both (by assumption) NF) (apart_of (g := g) (L' := L') (by assumption) hgf) ⟨rfl, _, _, rfl, by assumption⟩)
theorem d2n_c {w : World} {p : Program} {loose : List Str} {mean : ExcName → Option Value} {mg mb : Str → Option Value} {tabs : List (Addr × Addr)} {a b n : Int} {ta tb tn : Tok} (ha : 0 ≤ a) (hA : a < 2 ^ 62) (hb : 0 < b) (hB : b < 2 ^ 30) (hn : 0 ≤ n) (hN : n ≤ 64) :
    Does PySem.Challenge.pw_gh0007_01 w (hd.heap_39 w.params) p loose mean mg mb tabs 21 [.int a ta, .int b tb, .int n tn] 1 (fun _ => True) [] (fun r l' => ∃ D k t1 t2, r = .ref D ∧ l' = [(D, tup2 k (a / b) t1 (a % b) t2)]) := by
  refine fill9 ?_
  k_fill
  intro _
  unfold Does
  intro dp un gd cn cs ca ccd cl outer A₀ base h₀ L m fr s Q E B F X N ap hrd T hct hk hd9 hu hret
  k_extra "M.enter"
  intro g L' h1 FG F' N' B' X' T' hg hlt
  have hct' := codeAll_keeps (fun b o e => FG.keep b o e) hct
  have hbits : ((Builtin.Int.intBits a : Nat) : Int) ≤ 64 := intBits_le hA ha
  dsimp only
  try k_fold
  k_steps
  all_goals (refine fun NF hgf => hret _ [_] _ _ (by assumption) (news_both (by assumption) NF) (apart_of (g := g) (L' := L') (by assumption) hgf) ⟨_, _, _, _, rfl, rfl⟩)
theorem kset_a_3 : True := by
  k_with "I.pick" =>
    first | exact Pick.head | (refine' Pick.tail ?zqpk9; (case zqpk9 => k_extra "I.pick"))
  k_with "I.conds" =>
    ((case zqhi => assumption); (case zqc1 => k_extra "M.fact"); (case zqc2 => k_extra "M.fact"); (case zqc3 => k_extra "M.fact"); (case zqc4 => k_extra "M.fact"); (case zqc5 => k_extra "M.fact"); (case zqc6 => k_extra "M.fact"); (case zqc7 => assumption); (case zqc8 => assumption); (case zqc9 => k_extra "M.fact"); (case zqc10 => k_extra "M.fact"); (case zqc11 => k_extra "M.fact"); (case zqB => k_asm); (case zqF => k_asm); (case zqX => k_asm); (case zqT => k_asm); (case zqC => assumption); (case zqhk => first | rfl | assumption); (case zqhd => ktr_room); (case zqhu => ktr_units))
  k_with "I.use" =>
    ((rename InnerC _ _ _ _ _ _ _ _ _ _ _ _ _ _ => ih9); k_dflt (refine' inner_use ?zqN ?zqpk ?zqhi ih9 ?zqc1 ?zqc2 ?zqc3 ?zqc4 ?zqc5 ?zqc6 ?zqc7 ?zqc8 ?zqc9 ?zqc10 ?zqc11 ?zqB ?zqF ?zqX ?zqT ?zqC ?zqhk ?zqhd ?zqhu ?_; (case zqN => k_asm); (case zqpk => k_extra "I.pick"); k_extra "I.conds"); intro vs9 nn9 h9 tk9 F9 N9 i9 l9; (try dsimp only); (try k_fold); (try k_sweep))
  k_with "call ref" =>
    (k_here; (with_reducible show wpAny _ _ (call (Value.ref _) [Value.int _ _, Value.int _ _, Value.int _ _]) _ _ _); first | k_extra "I.use" | k_extra "I.start")
  k_with "I.step" =>
    (
      refine inner_ind (fun k9 ih9 => ?_) _
      intro x9 L9 R9 t1 t2 t3 vs9 ns9 nn9 i1 i2 i3 i4 i5 i6 i7 i8 i9 j1 j2 j3
      unfold Does
      intro dp9 un9 gd9 cn9 cs9 ca9 ccd9 cl9 outer9 A9 base9 h9 Lo9 m9 fr9 s9 Q9 E9 B9 F9 X9 N9 ap9 hrd9 T9 hct9 hk9 hd9 hu9 hret9
      have hrd9 : fr9 = [] := hrd9
      subst hrd9
      k_extra "M.enterN"
      intro g9 LL9 hh9 FG9 FF9 NN9 BB9 XX9 TT9 hg9 hlt9
      have hct9' := codeAll_keeps (fun b o e => FG9.keep b o e) hct9
      have hf9 := inner_facts i2 i3 i4 i5 i6 i7 i8 i9 j3
      obtain ⟨f1, f2, f3, f4, f5, f6, f7, f8, f9⟩ := hf9
      (try dsimp only)
      (try k_fold)
      k_steps
      (all_goals (refine fun _ _ => inner_back hret9 (by assumption) (by assumption) ?_; first | exact inner_end1 (by assumption) i4 (by first | assumption | omega) i6 i2 j3 | exact (f9 ns9 rfl) ▸ (by assumption))))
  k_with "call builtin:len" =>
    (k_here; (with_reducible show wpAny _ _ (call (Value.builtin _) [Value.ref _]) _ _ _); (refine' len_at ?zql ?zqi ?zqz ?_); (case zql => is_list); (case zqi => assumption); (case zqz => ((try simp only [List.length_replicate]); k_extra "M.fact")); intro _ _; (try simp only [List.length_replicate]); (try dsimp only))
  k_with "I.start" =>
    (k_dflt (refine' inner_use (kk := 64) ?zqN ?zqpk ?zqhi ?zqIC ?zqc1 ?zqc2 ?zqc3 ?zqc4 ?zqc5 ?zqc6 ?zqc7 ?zqc8 ?zqc9 ?zqc10 ?zqc11 ?zqB ?zqF ?zqX ?zqT ?zqC ?zqhk ?zqhd ?zqhu ?_; (case zqN => k_asm); (case zqhi => assumption); (case zqpk => k_extra "I.pick"); (case zqc7 => assumption); (case zqc1 => k_extra "M.fact"); (case zqc2 => k_extra "M.fact"); (case zqc3 => k_extra "M.fact"); (case zqc4 => k_extra "M.fact"); (case zqc5 => ((try simp only [List.length_replicate]); k_extra "M.fact")); (case zqc6 => ((try simp only [List.length_replicate]); k_extra "M.fact")); (case zqc8 => assumption); (case zqc9 => k_extra "M.fact"); (case zqc10 => k_extra "M.fact"); (case zqc11 => k_extra "M.fact"); (case zqB => k_asm); (case zqF => k_asm); (case zqX => k_asm); (case zqT => k_asm); (case zqC => assumption); (case zqhk => first | rfl | assumption); (case zqhd => ktr_room); (case zqhu => ktr_units)); (case zqIC => k_extra "I.step"); intro vs9 nn9 h9 tk9 F9 N9 i9 l9; (try dsimp only); (try k_fold); (try k_sweep))
  trivial
theorem i2d_c {w : World} {p : Program} {loose : List Str} {mean : ExcName → Option Value} {mg mb : Str → Option Value} {a n : Int} {ta tn : Tok} {T0 : Led} (hT : TabOne 30 ⟨32, 4, 41, 28⟩ (Str.ofString "_int2digits.<locals>.inner") T0) (ha : 0 ≤ a) (hA : a < 2 ^ 62) (hn : 1 ≤ n) (hN : n ≤ 64) :
    Does PySem.Challenge.pw_gh0007_01 w (hd.heap_39 w.params) p loose mean mg mb [(34, 30), (41, 37)] 35 [.int a ta, .int n tn] 70 (fun _ => True) T0 (PostT (TabOne 30 ⟨32, 4, 41, 28⟩ (Str.ofString "_int2digits.<locals>.inner")) (fun r new => ∃ D vs nn, r = .ref D ∧ new = [(D, listOf vs.toArray nn)] ∧ IntsAre vs (digs a.toNat n.toNat (ndig a n)))) := by
  refine fill9 ?_
  k_fill
  intro _
  unfold Does
  intro dp un gd cn cs ca ccd cl outer A₀ base h₀ L m fr s Q E B F X N ap hrd T hct hk hd9 hu hret
  have hnd := ndig_facts ha hA hn
  obtain ⟨hnd1, hnd2, hnd3, hnd4, hnd5⟩ := hnd
  rcases hT with rfl | ⟨c0, oc0, vs0, t0, rfl, hne0, hd0, hv0⟩
  all_goals (
    k_extra "M.enterC"
    intro g L' h1 tk1 cells1 FG F' N' Y' B' X' T' hg hlt
    have hct' := codeAll_keeps (fun b o e => FG.keep b o e) hct
    have hct1 := hct'.1
    have hct2 := hct'.2.1
    try k_lt hlt
    k_cells Y'
    simp only [List.cons_append, List.nil_append] at N'
    dsimp only
    try k_fold
    k_with "fact" => (simpa using hnd5)
    k_steps)
  all_goals (
    (rename News g L' _ _ => Ng)
    (rename News h₀ L _ _ => Nh)
    refine fun NF hgf => ?_
    refine' tab_end (g := g) (L' := L') (new := [_]) hret ?F Nh Ng NF hgf ?n ?P ?c ?ps ?ne ?d ?v ?q ?h1 ?h2 ⟨_, _, _, rfl, rfl, ?i⟩
    case F => assumption
    case n => (refine List.forall_mem_singleton.mpr ?_; k_mem)
    case P => k_mem
    case ps => (first | rfl | simp)
    case c => k_mem
    case d => assumption
    case v => assumption
    case q => rfl
    case ne => (refine neN ?_; omega)
    case h1 => (refine List.forall_mem_singleton.mpr (neN ?_); (try dsimp only); omega)
    case h2 => (refine List.forall_mem_singleton.mpr (neN ?_); (try dsimp only); omega)
    case i => (first | exact i2d_full (by assumption) | exact i2d_zero (by assumption) (by assumption) hnd3))
theorem kset_a_4 : True := by
  k_with "J.use" =>
    ((rename InnerD _ _ _ _ _ _ _ _ _ _ _ _ _ _ => ih9); k_dflt (refine' innerD_use ?zqN ih9 ?zqc3 ?zqc4 ?zqc5 ?zqc6 ?zqc7 ?zqc8 ?zqc12 ?zqc13 ?zqc9 ?zqc10 ?zqB ?zqF ?zqX ?zqT ?zqC ?zqhk ?zqhd ?zqhu ?_; (case zqN => k_asm); (case zqc3 => k_extra "M.fact"); (case zqc4 => k_extra "M.fact"); (case zqc5 => k_extra "M.fact"); (case zqc6 => assumption); (case zqc7 => assumption); (case zqc8 => assumption); (case zqc12 => assumption); (case zqc13 => assumption); (case zqc9 => k_extra "M.fact"); (case zqc10 => k_extra "M.fact"); (case zqB => k_asm); (case zqF => k_asm); (case zqX => k_asm); (case zqT => k_asm); (case zqC => assumption); (case zqhk => first | rfl | assumption); (case zqhd => ktr_room); (case zqhu => ktr_units)); intro t9 h9 tk9 F9 N9 b9 b8; (try dsimp only); (try k_fold); (try k_sweep))
  k_with "call ref" =>
    (k_here; (with_reducible show wpAny _ _ (call (Value.ref _) [Value.int _ _, Value.int _ _]) _ _ _); first | k_extra "J.use" | k_extra "J.start")
  k_with "J.step" =>
    (
      refine innerD_ind (fun k9 ih9 => ?_) _
      intro L9 R9 t2 t3 i4 i5 i6 i7 i8 i9 j4 j5 j1 j2
      unfold Does
      intro dp9 un9 gd9 cn9 cs9 ca9 ccd9 cl9 outer9 A9 base9 h9 Lo9 m9 fr9 s9 Q9 E9 B9 F9 X9 N9 ap9 hrd9 T9 hct9 hk9 hd9 hu9 hret9
      have hrd9 : fr9 = [] := hrd9
      subst hrd9
      k_extra "M.enterN"
      intro g9 LL9 hh9 FG9 FF9 NN9 BB9 XX9 TT9 hg9 hlt9
      have hct9' := codeAll_keeps (fun b o e => FG9.keep b o e) hct9
      have hf9 := innerD_facts i4 i5 i6 i7 i8 i9
      obtain ⟨f1, f2, f9⟩ := hf9
      (try dsimp only)
      (try k_fold)
      k_with "idx0" => assumption
      k_with "idx1" => omega
      k_steps
      (all_goals (refine fun _ _ => innerD_back hret9 (by assumption) (by assumption) ?_; first | exact part_oneD i4 (by first | assumption | omega) i6 | exact f9)))
  k_with "J.start" =>
    (k_dflt (refine' innerD_use (kk := 64) ?zqN ?zqIC ?zqc3 ?zqc4 ?zqc5 ?zqc6 ?zqc7 ?zqc8 ?zqc12 ?zqc13 ?zqc9 ?zqc10 ?zqB ?zqF ?zqX ?zqT ?zqC ?zqhk ?zqhd ?zqhu ?_; (case zqN => k_asm); (case zqc7 => assumption); (case zqc6 => assumption); (case zqc8 => assumption); (case zqc12 => assumption); (case zqc13 => assumption); (case zqc3 => k_extra "M.fact"); (case zqc4 => k_extra "M.fact"); (case zqc5 => k_extra "M.fact"); (case zqc9 => k_extra "M.fact"); (case zqc10 => k_extra "M.fact"); (case zqB => k_asm); (case zqF => k_asm); (case zqX => k_asm); (case zqT => k_asm); (case zqC => assumption); (case zqhk => first | rfl | assumption); (case zqhd => ktr_room); (case zqhu => ktr_units)); (case zqIC => k_extra "J.step"); intro t9 h9 tk9 F9 N9 b9 b8; (try dsimp only); (try k_fold); (try k_sweep))
  trivial
theorem d2i_c {w : World} {p : Program} {loose : List Str} {mean : ExcName → Option Value} {mg mb : Str → Option Value} {D : Addr} {vs : List Value} {ns : List Int} {nn : Nat} {n : Int} {tn : Tok} {T0 : Led} (hT : TabOne 37 ⟨47, 4, 52, 55⟩ (Str.ofString "_digits2int.<locals>.inner") T0) (hap : ∀ p ∈ T0, @Ne Nat p.1 D) (hi : IntsAre vs ns) (hl : ns.length ≤ 64) (hn : 1 ≤ n) (hN : n ≤ 64) (hb : n.toNat * ns.length ≤ 61) (hd0 : ∀ d ∈ ns, 0 ≤ d ∧ d < 2 ^ n.toNat) :
    Does PySem.Challenge.pw_gh0007_01 w (hd.heap_39 w.params) p loose mean mg mb [(34, 30), (41, 37)] 42 [.ref D, .int n tn] 70 (fun _ => True) ((D, listOf vs.toArray nn) :: T0) (PostT (TabOne 37 ⟨47, 4, 52, 55⟩ (Str.ofString "_digits2int.<locals>.inner")) (fun r new => new = [(D, listOf vs.toArray nn)] ∧ ∃ t, r = .int (undig n.toNat ns) t)) := by
  refine fill9 ?_
  k_fill
  intro _
  unfold Does
  intro dp un gd cn cs ca ccd cl outer A₀ base h₀ L m fr s Q E B F X N ap hrd T hct hk hd9 hu hret
  rcases hT with rfl | ⟨c0, oc0, vs0, t0, rfl, hne0, hd1, hv0⟩
  all_goals (
    have hap1 : (37 : Nat) ≠ D := hap _ (.head _)
    try (have hap2 : c0 ≠ D := hap _ (.tail _ (.head _)))
    k_extra "M.enterC"
    intro g L' h1 tk1 cells1 FG F' N' Y' B' X' T' hg hlt
    have hct' := codeAll_keeps (fun b o e => FG.keep b o e) hct
    have hct1 := hct'.1
    have hct2 := hct'.2.1
    try k_lt hlt
    k_cells Y'
    simp only [List.cons_append, List.nil_append] at N'
    dsimp only
    try k_fold
    k_steps)
  all_goals (
    (rename News g L' _ _ => Ng)
    (rename News h₀ L _ _ => Nh)
    refine fun NF hgf => ?_
    refine' tab_end (g := g) (L' := L') (new := [(D, listOf vs.toArray nn)]) hret ?F Nh Ng NF hgf ?n ?P ?c ?ps ?ne ?d ?v ?q ?h1 ?h2 ⟨rfl, _, congrArg (Value.int · _) ?i⟩
    case F => assumption
    case n => (refine List.forall_mem_singleton.mpr ?_; k_mem)
    case P => k_mem
    case ps => (first | rfl | simp)
    case c => k_mem
    case d => assumption
    case v => assumption
    case q => rfl
    case ne => (refine neN ?_; omega)
    case h1 => (refine List.forall_mem_singleton.mpr (neN ?_); (try dsimp only); omega)
    case h2 => (refine List.forall_mem_singleton.mpr (neN ?_); (try dsimp only); omega)
    case i => (first | exact undig_whole | exact undig_empty (by first | assumption | omega | (simp_all; done))))
theorem i2d_T {w : World} {p : Program} {loose : List Str} {mean : ExcName → Option Value} {mg mb : Str → Option Value} {a n : Int} {ta tn : Tok} {T : Led} (hT : Tabs T) (ha : 0 ≤ a) (hA : a < 2 ^ 62) (hn : 1 ≤ n) (hN : n ≤ 64) :
    Does PySem.Challenge.pw_gh0007_01 w (hd.heap_39 w.params) p loose mean mg mb [(34, 30), (41, 37)] 35 [.int a ta, .int n tn] 70 (fun _ => True) T (PostT Tabs (fun r new => ∃ D vs nn, r = .ref D ∧ new = [(D, listOf vs.toArray nn)] ∧ IntsAre vs (digs a.toNat n.toNat (ndig a n)))) :=
  tabs_lift1 hT fun A hA' => i2d_c hA' ha hA hn hN
theorem d2i_T {w : World} {p : Program} {loose : List Str} {mean : ExcName → Option Value} {mg mb : Str → Option Value} {D : Addr} {vs : List Value} {ns : List Int} {nn : Nat} {n : Int} {tn : Tok} {T : Led} (hT : Tabs T) (hap : Off T D) (hi : IntsAre vs ns) (hl : ns.length ≤ 64) (hn : 1 ≤ n) (hN : n ≤ 64) (hb : n.toNat * ns.length ≤ 61) (hd0 : ∀ d ∈ ns, 0 ≤ d ∧ d < 2 ^ n.toNat) :
    Does PySem.Challenge.pw_gh0007_01 w (hd.heap_39 w.params) p loose mean mg mb [(34, 30), (41, 37)] 42 [.ref D, .int n tn] 70 (fun _ => True) ((D, listOf vs.toArray nn) :: T) (PostT Tabs (fun r new => new = [(D, listOf vs.toArray nn)] ∧ ∃ t, r = .int (undig n.toNat ns) t)) :=
  tabs_lift2 hT hap fun B hB h => d2i_c hB h hi hl hn hN hb hd0
theorem kset_a_5 : True := by
  k_with "T.tail" =>
    first | exact TailIs.here | (refine TailIs.there ?_; k_extra "T.tail")
  trivial
local macro_rules | `(tactic| k_lt $h:ident) => `(tactic| ((rename Tabs _ => tb9); (have hT9 := offT_of tb9 (by k_extra "T.tail") $h); (replace $h := allLt_of $h); (try simp only [AllLt, and_true] at $h:ident)))
theorem kset_a_6 : True := by
  k_with "T.off" =>
    first | assumption | exact OwnOff.ne (by assumption) (by k_memK)
  trivial
local macro_rules | `(tactic| k_all) => `(tactic| k_extra "T.off")
theorem kset_a_7 : True := by
  k_with "T.ap" =>
    first | exact apT_nil | (refine apT_cons ?zqa ?zqb; (case zqa => first | k_extra "T.off" | k_all); (case zqb => k_extra "T.ap"))
  k_with "T.splits" =>
    first | exact Splits.allL | (refine' Splits.left ?zqsp9; (case zqsp9 => k_extra "T.splits")) | (refine' Splits.right ?zqsp9; (case zqsp9 => k_extra "T.splits"))
  k_with "T.go" =>
    ((case zqB => k_asm); (case zqF => k_asm); (case zqX => k_asm); (case zqN => k_asm); (case zqsp => k_extra "T.splits"); (case zqT => k_asm); (case zqap => k_extra "T.ap"); (case zqC => assumption); (case zqhk => first | rfl | assumption); (case zqhd => ktr_room); (case zqhu => ktr_units); k_whole)
  k_with "exec For Name Call cons nil" =>
    (k_here; k_dflt (refine wpAny_For ?_))
  k_with "M.sub" =>
    first | exact TailIs.sub (by k_extra "T.tail") | exact List.forall_mem_nil _ | (refine List.forall_mem_cons.mpr ⟨?zqa, ?zqb⟩; (case zqa => k_mem); (case zqb => k_extra "M.sub"))
  k_with "M.same" =>
    (intro z h2 h3; (simp only [List.forall_mem_cons, List.not_mem_nil, false_implies, implies_true, and_true, ne_eq] at h2); (have h5 := h3); (simp only [List.contains_cons, List.contains_nil, Bool.or_false, Bool.or_eq_false_iff, beq_eq_false_iff_ne, ne_eq] at h3); (try simp only [kstB, h2, h3, h5, if_false, Bool.false_eq_true]); (try rfl); done)
  k_with "T.tup" =>
    (intro r9 new9 T9 h9 tk9 F9 N9 tb9 off9 ap9 sh9; obtain ⟨D9, k9, t9, u9, e1, e2⟩ := sh9; subst e1; subst e2; (have ne9 := neAll_of ap9); clear ap9; (simp only [List.map_cons, List.map_nil, List.cons_append, List.nil_append, List.map_append, NeAll, and_true] at N9 off9 ne9); (try dsimp only); (try k_fold); (try k_sweep))
  k_with "call ref" =>
    (k_here; (with_reducible show wpAny _ _ (call (Value.ref 35) _) _ _ _); k_dflt (refine' does_useT (i2d_T ?zqt ?zqa ?zqA ?zqn ?zqm) ?zqB ?zqF ?zqX ?zqN ?zqsp ?zqap ?zqT ?zqC ?zqhk ?zqhd ?zqhu ?_; (case zqt => assumption); (case zqa => k_extra "M.fact"); (case zqA => k_extra "M.fact"); (case zqn => k_extra "M.fact"); (case zqm => k_extra "M.fact"); k_extra "T.go"); intro r9 new9 T9 h9 tk9 F9 N9 tb9 off9 ap9 sh9; obtain ⟨D9, vs9, nn9, e1, e2, i9⟩ := sh9; subst e1; subst e2; (have ne9 := neAll_of ap9); clear ap9; (simp only [List.map_cons, List.map_nil, List.cons_append, List.nil_append, List.map_append, NeAll, and_true] at N9 off9 ne9); (try dsimp only); (try k_fold); (try k_sweep))
  k_with "call ref" =>
    (k_here; (with_reducible show wpAny _ _ (call (Value.ref 21) _) _ _ _); k_dflt (refine' does_use (d2n_c ?zqa ?zqA ?zqb ?zqBB ?zqn ?zqNN) ?zqB ?zqF ?zqX ?zqN ?zqsp ?zqap ?zqrd ?zqT ?zqct ?zqhk ?zqhd ?zqhu ?_; (case zqa => k_extra "M.fact"); (case zqA => k_extra "M.fact"); (case zqb => k_extra "M.fact"); (case zqBB => k_extra "M.fact"); (case zqn => k_extra "M.fact"); (case zqNN => k_extra "M.fact"); (case zqB => k_asm); (case zqF => k_asm); (case zqX => k_asm); (case zqN => k_asm); (case zqsp => exact .allR); (case zqrd => exact True.intro); (case zqT => k_asm); (case zqap => exact fun _ _ _ h => nomatch h); (case zqct => assumption); (case zqhk => first | rfl | assumption); (case zqhd => ktr_room); (case zqhu => ktr_units); k_whole); intro r9 l9 h9 tk9 F9 N9 ap9 P9; obtain ⟨D9, k9, t9, u9, e1, e2⟩ := P9; subst e1; subst e2; (have ne9 := neAll_of ap9); clear ap9; (simp only [List.cons_append, List.nil_append, NeAll, and_true] at N9 ne9); (try dsimp only); (try k_fold); (try k_sweep))
  k_with "call ref" =>
    (k_here; (with_reducible show wpAny _ _ (call (Value.ref 42) _) _ _ _); k_dflt (refine' does_useT (d2i_T ?zqt ?zqo ?zqi ?zql ?zqn ?zqm ?zqb ?zqd) ?zqB ?zqF ?zqX ?zqN ?zqsp ?zqap ?zqT ?zqC ?zqhk ?zqhd ?zqhu ?_; (case zqt => assumption); (case zqi => assumption); (case zqo => k_extra "T.off"); (case zql => k_extra "M.fact"); (case zqn => k_extra "M.fact"); (case zqm => k_extra "M.fact"); (case zqb => assumption); (case zqd => assumption); k_extra "T.go"); intro r9 new9 T9 h9 tk9 F9 N9 tb9 off9 ap9 sh9; obtain ⟨e1, t9, e2⟩ := sh9; subst e1; subst e2; (have ne9 := neAll_of ap9); clear ap9; (simp only [List.map_cons, List.map_nil, List.cons_append, List.nil_append, List.map_append, NeAll, and_true] at N9 off9 ne9); (try dsimp only); (try k_fold); (try k_sweep))
  trivial
theorem dmp_c {w : World} {p : Program} {loose : List Str} {mean : ExcName → Option Value} {mg mb : Str → Option Value} {a b : Int} {ta tb : Tok} {T0 : Led} (hT : Tabs T0) (ha : 0 ≤ a) (hA : a < 2 ^ 40) (hb : 0 < b) (hB : b < 2 ^ 20) :
    Does PySem.Challenge.pw_gh0007_01 w (hd.heap_39 w.params) p loose mean mg mb [(34, 30), (41, 37)] 49 [.int a ta, .int b tb] 75 (fun _ => True) T0 (PostT Tabs (fun r new => ∃ D k t1 t2, r = .ref D ∧ new = [(D, tup2 k (a / b) t1 (a % b) t2)])) := by
  refine fill9 ?_
  k_fill
  intro _
  unfold Does
  intro dp un gd cn cs ca ccd cl outer A₀ base h₀ L m fr s Q E B F X N ap hrd T hct hk hd9 hu hret
  obtain ⟨hb1, hb2, hb3⟩ := bits_facts hb hB
  k_extra "M.enter"
  intro g L' h1 FG F' N' B' X' T' hg hlt
  have hct' := codeAll_keeps (fun b o e => FG.keep b o e) hct
  obtain ⟨hnd1, hnd2⟩ := ndig_small (n := (((Builtin.Int.intBits b : Nat) : Int)).toNat) ha hA (by omega) (by omega)
  rw [Int.toNat_of_nonneg (by omega : 0 ≤ ((Builtin.Int.intBits b : Nat) : Int))] at hnd1 hnd2
  dsimp only
  try k_fold
  k_with "pyIter ref" => (k_here; k_dflt (refine' dmp_loop (a := a) (b := b) ?hh ?F ?N ?off ?hi ?hr hb ?ht ?turn ?done ?hE); (case hh => rfl); (case F => k_asm); (case N => k_asm); (case off => k_all); (case hi => assumption); (case hr => rfl); (case ht => exact fun _ _ => rfl); (case hE => passes_own); (case' turn => (intro i r tr qv qs qn d td u h tk it hlt hI hq hd F' N' off'; obtain ⟨f1, f2, f3, f4⟩ := divI_step hI hlt hd hb; (have f5 := divI_bound f2 hb hB (by omega)); (have f6 := hI.r0); (have f7 := hI.rb); (have f8 := hI.len); (have ne8 := neAll_off off'); (simp only [NeAll, and_true] at ne8); (try dsimp only); (try k_fold))); (case' done => (intro r tr qv qs qn u h tk hI hq F' N'; (have f8 := hI.len); (have g1 : qs.reverse.length ≤ 64 := by rw [List.length_reverse, f8]; exact hnd1); (have g2 : (((Builtin.Int.intBits b : Nat) : Int)).toNat * qs.reverse.length ≤ 61 := by rw [List.length_reverse, f8]; exact hnd2); (have g3 : ∀ d ∈ qs.reverse, 0 ≤ d ∧ d < 2 ^ (((Builtin.Int.intBits b : Nat) : Int)).toNat := fun d hd => hI.dig d (List.mem_reverse.mp hd)); obtain ⟨g4, g5⟩ := divI_end hI ha hb (ndig_facts ha (by omega) hb1).2.2.2.2; (try dsimp only); (try k_fold))))
  k_steps
  · (rename News g L' _ _ => Ng)
    (rename News h₀ L _ _ => Nh)
    refine fun NF hgf => ?_
    refine' post_back (g := g) (L' := L') (new := [_]) hret ?F Nh Ng NF hgf ?tb ?hT ?n ?off ⟨_, _, _, _, rfl, ?e⟩
    case F => assumption
    case tb => assumption
    case hT => k_extra "T.tail"
    case e => rw [← g4, ← g5]
    case n => (refine List.forall_mem_singleton.mpr ?_; k_mem)
    case off => (refine List.forall_mem_singleton.mpr ?_; k_extra "T.off")
  · refine' ⟨_, _, _, _, rfl, ?F2, ?N2, ?off2, ⟨_, _, _, _, _, rfl, ?i2, f4, ?nm1, ?nm2⟩⟩
    case i2 => assumption
    case F2 => assumption
    case nm1 => kst_all1
    case N2 => exact news_sub (by assumption) (by k_extra "M.sub")
    case off2 => k_all
    case nm2 => k_extra "M.same"
theorem kset_a_8 : True := by
  k_with "call ref" =>
    (k_here; (with_reducible show wpAny _ _ (call (Value.ref 49) _) _ _ _); k_dflt (refine' does_useT (dmp_c ?zqt ?zqa ?zqA ?zqb ?zqBB) ?zqB ?zqF ?zqX ?zqN ?zqsp ?zqap ?zqT ?zqC ?zqhk ?zqhd ?zqhu ?_; (case zqt => assumption); (case zqa => k_extra "M.fact"); (case zqA => k_extra "M.fact"); (case zqb => k_extra "M.fact"); (case zqBB => k_extra "M.fact"); k_extra "T.go"); k_extra "T.tup")
  trivial
theorem dm_pos {w : World} {p : Program} {loose : List Str} {mean : ExcName → Option Value} {mg mb : Str → Option Value} {a b : Int} {ta tb : Tok} {T0 : Led} (hT : Tabs T0) (ha : 0 ≤ a) (hA : a < 2 ^ 40) (hb : 0 < b) (hB : b < 2 ^ 20) :
    Does PySem.Challenge.pw_gh0007_01 w (hd.heap_39 w.params) p loose mean mg mb [(34, 30), (41, 37)] 56 [.int a ta, .int b tb] 76 (fun _ => True) T0 (PostT Tabs (fun r new => ∃ D k t1 t2, r = .ref D ∧ new = [(D, tup2 k (a / b) t1 (a % b) t2)])) := by
  refine fill9 ?_
  k_fill
  intro _
  unfold Does
  intro dp un gd cn cs ca ccd cl outer A₀ base h₀ L m fr s Q E B F X N ap hrd T hct hk hd9 hu hret
  k_extra "M.enter"
  intro g L' h1 FG F' N' B' X' T' hg hlt
  have hct' := codeAll_keeps (fun b o e => FG.keep b o e) hct
  dsimp only
  try k_fold
  k_steps
  all_goals first
    | (exfalso; omega)
    | (exfalso; simp at *; omega)
    | ((rename News g L' _ _ => Ng)
       (rename News h₀ L _ _ => Nh)
       refine fun NF hgf => ?_
       refine' post_back (g := g) (L' := L') (new := [_]) hret ?F Nh Ng NF hgf ?tb ?hT ?n ?off ⟨_, _, _, _, rfl, ?e⟩
       case F => assumption
       case tb => assumption
       case hT => k_extra "T.tail"
       case e => (first | rw [← e1, ← e2] | rfl)
       case n => (refine List.forall_mem_singleton.mpr ?_; k_mem)
       case off => (refine List.forall_mem_singleton.mpr ?_; k_extra "T.off"))
theorem kset_a_9 : True := by
  k_with "call ref" =>
    (k_here; (with_reducible show wpAny _ _ (call (Value.ref 56) _) _ _ _); k_dflt (refine' does_useT (dm_pos ?zqt ?zqa ?zqA ?zqb ?zqBB) ?zqB ?zqF ?zqX ?zqN ?zqsp ?zqap ?zqT ?zqC ?zqhk ?zqhd ?zqhu ?_; (case zqt => assumption); (case zqa => k_extra "M.fact"); (case zqA => k_extra "M.fact"); (case zqb => k_extra "M.fact"); (case zqBB => k_extra "M.fact"); k_extra "T.go"); k_extra "T.tup")
  trivial
theorem dm_neg {w : World} {p : Program} {loose : List Str} {mean : ExcName → Option Value} {mg mb : Str → Option Value} {a b : Int} {ta tb : Tok} {T0 : Led} (hT : Tabs T0) (ha : a < 0) (hA : -(2 ^ 40) < a) (hb : 0 < b) (hB : b < 2 ^ 20) :
    Does PySem.Challenge.pw_gh0007_01 w (hd.heap_39 w.params) p loose mean mg mb [(34, 30), (41, 37)] 56 [.int a ta, .int b tb] 77 (fun _ => True) T0 (PostT Tabs (fun r new => ∃ D k t1 t2, r = .ref D ∧ new = [(D, tup2 k (a / b) t1 (a % b) t2)])) := by
  refine fill9 ?_
  k_fill
  intro _
  unfold Does
  intro dp un gd cn cs ca ccd cl outer A₀ base h₀ L m fr s Q E B F X N ap hrd T hct hk hd9 hu hret
  k_extra "M.enter"
  intro g L' h1 FG F' N' B' X' T' hg hlt
  have hct' := codeAll_keeps (fun b o e => FG.keep b o e) hct
  obtain ⟨e1, e2⟩ := neg_div (a := a) hb
  dsimp only
  try k_fold
  k_steps
  all_goals first
    | (exfalso; omega)
    | (exfalso; simp at *; omega)
    | ((rename News g L' _ _ => Ng)
       (rename News h₀ L _ _ => Nh)
       refine fun NF hgf => ?_
       refine' post_back (g := g) (L' := L') (new := [_]) hret ?F Nh Ng NF hgf ?tb ?hT ?n ?off ⟨_, _, _, _, rfl, ?e⟩
       case F => assumption
       case tb => assumption
       case hT => k_extra "T.tail"
       case e => (first | rw [← e1, ← e2] | rfl)
       case n => (refine List.forall_mem_singleton.mpr ?_; k_mem)
       case off => (refine List.forall_mem_singleton.mpr ?_; k_extra "T.off"))
theorem dm_c {w : World} {p : Program} {loose : List Str} {mean : ExcName → Option Value} {mg mb : Str → Option Value} {a b : Int} {ta tb : Tok} {T0 : Led} (hT : Tabs T0) (hA0 : -(2 ^ 40) < a) (hA : a < 2 ^ 40) (hb : 0 < b) (hB : b < 2 ^ 20) :
    Does PySem.Challenge.pw_gh0007_01 w (hd.heap_39 w.params) p loose mean mg mb [(34, 30), (41, 37)] 56 [.int a ta, .int b tb] 77 (fun _ => True) T0 (PostT Tabs (fun r new => ∃ D k t1 t2, r = .ref D ∧ new = [(D, tup2 k (a / b) t1 (a % b) t2)])) := by
  by_cases h : 0 ≤ a
  · exact does_need (by decide) (dm_pos hT h hA hb hB)
  · exact dm_neg hT (by omega) hA0 hb hB
theorem kset_a_10 : True := by
  k_with "T.splits" =>
    first | exact Splits.allR | exact Splits.allL | (refine' Splits.left ?zqsp9; (case zqsp9 => k_extra "T.splits")) | (refine' Splits.right ?zqsp9; (case zqsp9 => k_extra "T.splits"))
  k_with "call ref" =>
    (k_here; (with_reducible show wpAny _ _ (call (Value.ref 56) _) _ _ _); k_dflt (refine' does_useT (dm_c ?zqt ?zqa ?zqA ?zqb ?zqBB) ?zqB ?zqF ?zqX ?zqN ?zqsp ?zqap ?zqT ?zqC ?zqhk ?zqhd ?zqhu ?_; (case zqt => assumption); (case zqa => k_extra "M.fact"); (case zqA => k_extra "M.fact"); (case zqb => k_extra "M.fact"); (case zqBB => k_extra "M.fact"); k_extra "T.go"); k_extra "T.tup")
  k_with "call ref" =>
    (k_here; (with_reducible show wpAny _ _ (call (Value.ref 74) _) _ _ _); k_dflt (refine' does_use (bis_c ?zqi ?zqs ?zql) ?zqB ?zqF ?zqX ?zqN ?zqsp ?zqap ?zqrd ?zqT ?zqct ?zqhk ?zqhd ?zqhu ?_; (case zqB => k_asm); (case zqF => k_asm); (case zqX => k_asm); (case zqN => k_asm); (case zqsp => exact .allR); (case zqrd => k_mem); (case zqi => assumption); (case zqs => k_extra "M.fact"); (case zql => k_extra "M.fact"); (case zqT => k_asm); (case zqap => exact fun _ _ _ h => nomatch h); (case zqct => assumption); (case zqhk => first | rfl | assumption); (case zqhd => ktr_room); (case zqhu => ktr_units); k_whole); intro r9 l9 h9 tk9 F9 N9 ap9 P9; (refine Exists.elim P9.2 ?_; intro t9 e9; subst e9; have e8 := P9.1; subst e8; clear P9 ap9); (simp only [List.nil_append] at N9); (try dsimp only); (try k_fold); (try k_sweep))
  k_with "call ref" =>
    (k_here; (with_reducible show wpAny _ _ (call (Value.ref 65) _) _ _ _); k_dflt (refine' does_use (ins_c ?zqi ?zqs ?zql) ?zqB ?zqF ?zqX ?zqN ?zqsp ?zqap ?zqrd ?zqT ?zqct ?zqhk ?zqhd ?zqhu ?_; (case zqB => k_asm); (case zqF => k_asm); (case zqX => k_asm); (case zqN => k_asm); (case zqsp => k_extra "T.splits"); (case zqi => assumption); (case zqrd => exact True.intro); (case zqs => k_extra "M.fact"); (case zql => k_extra "M.fact"); (case zqT => k_asm); (case zqap => (refine ap_one ?_; k_all)); (case zqct => assumption); (case zqhk => first | rfl | assumption); (case zqhd => ktr_room); (case zqhu => ktr_units); k_whole); intro r9 l9 h9 tk9 F9 N9 ap9 P9; obtain ⟨e9, vs9, n9, e8, i9⟩ := P9; subst e9; subst e8; clear ap9; (simp only [List.cons_append, List.nil_append] at N9); (try dsimp only); (try k_fold); (try k_sweep))
  k_with "subscriptTail" =>
    (k_here; (with_reducible show wpAny _ _ (subscriptTail _ _ (Value.ref _) (Value.int (Nat.cast _) _)) _ _ _); (with_unfolding_all refine' item_nat ?zqk1 ?zqk2 ?zqk4 ?zqk5 ?_ ?zqk6; (case zqk1 => exact News.isList (by k_asm) (by k_mem)); (case zqk2 => assumption); (case zqk4 => k_extra "M.fact"); (case zqk5 => k_extra "M.fact"); (case zqk6 => with_unfolding_all rfl); k_whole); intro _)
  k_with "binaryOp Pow int int" =>
    (k_here; (with_reducible show wpAny _ _ (binaryOp _ (Value.int _ _) (Value.int _ _)) _ _ _); (refine' pow_at ?zqb ?zqB ?zqa ?_); (case zqb => k_extra "M.fact"); (case zqB => k_extra "M.fact"); (case zqa => k_extra "M.fact"); intro _ _; (try dsimp only))
  k_with "call ref" =>
    (k_here; (with_reducible show wpAny _ _ (call (Value.ref 35) _) _ _ _); k_dflt (refine' does_useT (i2d_T ?zqt ?zqa ?zqA ?zqn ?zqm) ?zqB ?zqF ?zqX ?zqN ?zqsp ?zqap ?zqT ?zqC ?zqhk ?zqhd ?zqhu ?_; (case zqt => assumption); (case zqa => k_extra "M.fact"); (case zqA => k_extra "M.fact"); (case zqn => first | decide | k_extra "M.fact"); (case zqm => first | decide | k_extra "M.fact"); k_extra "T.go"); intro r9 new9 T9 h9 tk9 F9 N9 tb9 off9 ap9 sh9; obtain ⟨D9, vs9, nn9, e1, e2, i9⟩ := sh9; subst e1; subst e2; (have ne9 := neAll_of ap9); clear ap9; (simp only [List.map_cons, List.map_nil, List.cons_append, List.nil_append, List.map_append, NeAll, and_true] at N9 off9 ne9); (try dsimp only); (try k_fold); (try k_sweep))
  k_with "M.list" =>
    first | exact News.isList (by k_asm) (by k_mem) | is_list
  k_with "binaryOp Add ref ref" =>
    (k_here; (with_reducible show wpAny _ _ (binaryOp _ (Value.ref _) (Value.ref _)) _ _ _); k_dflt (refine' kmk_add_ints ?zqF ?zqN ?zqa ?zqb ?zqi ?zqj ?_ ?zqz; (case zqF => k_asm); (case zqN => k_asm); (case zqa => k_extra "M.list"); (case zqb => k_extra "M.list"); (case zqi => l_ints); (case zqj => l_ints); (case zqz => (rw [sizeLine_eq]; (try simp only [digs_length, List.length_replicate, List.length_cons, List.length_nil]); k_extra "M.fact"))); intro D9 vs9 h9 F9 N9 l9 i9; (try k_lt l9); (try dsimp only); (try k_sweep))
  k_with "M.part" =>
    first | exact kmk_upto (by assumption) (by k_extra "M.fact") | exact kmk_run (by assumption) (by k_extra "M.fact") (by k_extra "M.fact") | exact kmk_from (by assumption) (by k_extra "M.fact")
  k_with "subscriptTail" =>
    (k_here; (with_reducible show wpAny _ _ (subscriptTail _ (PySem.Expr.Slice _ _ none _) (Value.ref _) (Value.ref _)) _ _ _); k_dflt (refine' kmk_slice_ints ?zqF ?zqN ?zql ?zqp ?zqq ?zqi ?zqm rfl ?_ ?zqs ?zqt ?zqz; (case zqF => k_asm); (case zqN => k_asm); (case zql => k_extra "M.list"); (case zqp => first | exact IsPart.none | exact IsPart.int _ _); (case zqq => first | exact IsPart.none | exact IsPart.int _ _); (case zqi => assumption); (case zqm => k_extra "M.part"); (case zqs => with_unfolding_all rfl); (case zqt => (intro _; with_unfolding_all rfl)); (case zqz => (refine kmk_sz (by assumption) ?_; (rw [sizeLine_eq]); (try simp only [digs_length, List.length_append, List.length_replicate, List.length_cons, List.length_nil]); k_extra "M.fact"))); intro D9 vs9 h9 F9 N9 l9 i9 c9 q9; (try k_lt l9); (try dsimp only); (try k_sweep))
  k_with "compareOp NotIn int ref" =>
    (k_here; k_dflt (refine' notin_list_ints ?zql ?zqi ?_; (case zql => k_extra "M.list"); (case zqi => assumption)); (try dsimp only))
  k_with "compareOp In int ref" =>
    (k_here; k_dflt (refine' in_list_ints ?zql ?zqi ?_; (case zql => k_extra "M.list"); (case zqi => assumption)); (try dsimp only))
  k_with "getMethod ref" =>
    (k_here; (with_reducible show wpAny _ _ (getMethod (Value.ref _) (PySem.Str.ofString "index") _) _ _ _); k_dflt (refine' kl_method ?zqN ?zqm PySem.F.slot_list_index PySem.F.type_list_index ?_; (case zqN => k_asm); (case zqm => k_mem)))
  k_with "call builtin:list.index" =>
    (k_here; (with_reducible show wpAny _ _ (call (Value.builtin _) [Value.ref _, Value.int _ _]) _ _ _); k_dflt (refine' idx_at ?zql ?zqi ?zqz ?zqb ?zqk ?_; (case zql => k_extra "M.list"); (case zqi => assumption); (case zqz => k_extra "M.fact"); (case zqb => k_extra "M.fact"); (case zqk => k_extra "idx.in")); intro _ _; (try dsimp only))
  k_with "subscriptTail" =>
    (k_here; (with_reducible show wpAny _ _ (subscriptTail _ _ (Value.ref _) (Value.int _ _)) _ _ _); (with_unfolding_all refine' item_int ?zqk1 ?zqk2 ?zqk3 ?zqk4 ?zqk5 ?_ ?zqk6; (case zqk1 => exact News.isList (by k_asm) (by k_mem)); (case zqk2 => assumption); (case zqk3 => k_extra "M.fact"); (case zqk4 => k_extra "M.fact"); (case zqk5 => k_extra "M.fact"); (case zqk6 => with_unfolding_all rfl); k_whole); intro _)
  k_with "T.own" =>
    first | exact ownOff_nil | (refine ownOff_cons ?zqa ?zqb; (case zqa => k_extra "T.off"); (case zqb => k_extra "T.own"))
  k_with "CT.sub" =>
    first | exact List.forall_mem_nil _ | (refine List.forall_mem_cons.mpr ⟨?zqa, ?zqb⟩; (case zqa => k_mem); (case zqb => k_extra "CT.sub"))
  k_with "CT.end" =>
    ((refine' ct_end2 ?zqF ?zqN ?zqtb ?zqhT ?zqsub ?zqoff); (case zqF => assumption); (case zqN => assumption); (case zqtb => assumption); (case zqhT => k_extra "T.tail"); (case zqsub => k_extra "CT.sub"); (case zqoff => ((try simp only [List.map_cons, List.map_nil]); k_extra "T.own")))
  k_with "CT.turn" =>
    (intro g5 k5 t5 I5 oI5 C5 oC5 D5 m5 h5 tk5 E5 ys5 T5 hk5 tb5 off5 hC5 hx5 F5 N5 o5 ne5; (try simp only [Off3, and_true] at o5); (try simp only [List.map_cons, List.map_nil, List.cons_append, List.nil_append] at off5 N5); (try have hk6 := mem_rangeKs hk5); (try dsimp only); (try k_fold); k_steps; (all_goals k_extra "CT.end"))
  k_with "CT.fin" =>
    (intro g5 ys5 T5 tb5 off5 hi5; (first | (refine finE_of ?_ tb5 off5 hi5; clear tb5 off5 hi5; unfold CDone) | (refine finA_of ?_ tb5 off5 hi5; clear tb5 off5 hi5; unfold CDoneA)); (intro D9 ys9 T9 h9 tk9 tb9 off9 ne9 i9 F9 N9; (try simp only [List.map_cons, List.map_nil, List.cons_append, List.nil_append, NeAll, and_true] at N9 off9 ne9); (try dsimp only); (try k_fold); (try k_sweep)))
  k_with "CompSrcT" =>
    (k_here; k_dflt (refine' src_list _ ?zqhh ?zqF ?zqN ?zqtb ?zqsp ?zqoff ?zqhm ?zqhi ?zqhsz ?zqhkf ?zqhxl ?zqhxd ?zqturn ?_; (case zqhh => rfl); (case zqF => k_asm); (case zqtb => assumption); (case zqN => k_asm); (case zqsp => k_extra "T.splits"); (case zqoff => ((try simp only [List.map_cons, List.map_nil]); k_extra "T.own")); (case zqhm => k_mem); (case zqhi => assumption); (case zqhsz => k_extra "M.fact"); (case zqhkf => rfl); (case zqhxl => exact fun _ => rfl); (case zqhxd => decide); (case zqturn => k_extra "CT.turn"); k_extra "CT.fin"))
  k_with "CompSrcT" =>
    (k_here; k_dflt (refine' src_range _ ?zqhh ?zqF ?zqN ?zqtb ?zqsp ?zqoff ?zqhr ?zqhsm ?zqhn ?zqhsz ?zqhkf ?zqhxl ?zqhxd ?zqturn ?_; (case zqhh => rfl); (case zqF => k_asm); (case zqtb => assumption); (case zqN => k_asm); (case zqsp => k_extra "T.splits"); (case zqoff => ((try simp only [List.map_cons, List.map_nil]); k_extra "T.own")); (case zqhr => assumption); (case zqhn => exact rangeSize_nat _ _); (case zqhsm => exact small_one (by k_extra "M.fact") (by k_extra "M.fact") (by k_extra "M.fact") (by k_extra "M.fact")); (case zqhsz => k_extra "M.fact"); (case zqhkf => rfl); (case zqhxl => exact fun _ => rfl); (case zqhxd => decide); (case zqturn => k_extra "CT.turn"); k_extra "CT.fin"))
  k_with "eval ListComp" =>
    (k_here; lct_look; k_dflt (refine LCt.ListComp_T (F₀ := by k_asm) (by with_unfolding_all rfl) (by decide) (by rfl) (by decide) (by rfl) ?_))
  k_with "exec Assign cons ListComp" =>
    (k_here; lct_look; k_dflt (refine LCt.Assign_ListComp_T (F₀ := by k_asm) (by rfl) (by with_unfolding_all rfl) (by with_unfolding_all rfl) (by decide) (by rfl) (by decide) (by rfl) (by rfl) (by rfl) ?_))
  k_with "exec For Name Subscript cons nil" =>
    (k_here; k_dflt (refine wpAny_For ?_))
  k_with "GrownAll" =>
    (k_dflt (refine' grown_end ?zqN9 ?zqtb9 ?zqhT9; (case zqN9 => k_asm); (case zqtb9 => assumption); (case zqhT9 => k_extra "T.tail")))
  k_with "exec Return some" =>
    (k_here; (with_reducible show wpAny _ _ (exec (PySem.Stmt.Return (some (PySem.Expr.Constant (PySem.Const.bool false) _ _)) _) _) _ _ _); k_dflt (exfalso; k_extra "absurd"))
  k_with "subscriptTail" =>
    (k_here; (with_reducible show wpAny _ _ (subscriptTail _ (PySem.Expr.Slice none none (some _) _) (Value.ref _) (Value.ref _)) _ _ _); k_dflt (refine' krv_ints ?zqF ?zqN ?zql ?zqk ?zqi ?_ ?zqs ?zqt ?zqz; (case zqF => k_asm); (case zqN => k_asm); (case zql => k_extra "M.list"); (case zqk => exact IsPart.int _ _); (case zqi => assumption); (case zqs => with_unfolding_all rfl); (case zqt => (intro _; with_unfolding_all rfl)); (case zqz => (refine kmk_sz (by assumption) ?_; (rw [sizeLine_eq]); (try simp only [digs_length, List.length_append, List.length_replicate, List.length_cons, List.length_nil]); k_extra "M.fact"))); intro D9 vs9 h9 F9 N9 l9 i9 e9; (try k_lt l9); (try dsimp only); (try k_sweep))
  k_with "PW.end" =>
    ((refine' pow_back ?zqF ?zqN ?zqtb ?zqhT ?zqsub ?zqoff ?zqne ?zqhx ?zqe ?zqnm); (case zqF => assumption); (case zqN => assumption); (case zqtb => assumption); (case zqhT => k_extra "T.tail"); (case zqsub => k_extra "CT.sub"); (case zqoff => ((try simp only [List.map_cons, List.map_nil]); k_extra "T.own")); (case zqne => ((simp only [NeAll, and_true]); assumption)); (case zqhx => rfl); (case zqe => (rw [powF_snoc]; unfold powStep; (first | rw [if_pos (by assumption)] | rw [if_neg (by assumption)]); (try rfl))); (case zqnm => k_extra "M.same"))
  trivial
theorem pow_c {w : World} {p : Program} {loose : List Str} {mean : ExcName → Option Value} {mg mb : Str → Option Value} {n e c : Int} {tn te tc : Tok} {T0 : Led} (hT : Tabs T0) (hn : 0 ≤ n) (hN : n ≤ 1000) (he : 0 ≤ e) (hE : e ≤ 1000) (hc : 1 < c) (hC : c ≤ 1000) :
    Does PySem.Challenge.pw_gh0007_01 w (hd.heap_39 w.params) p loose mean mg mb [(34, 30), (41, 37)] 81 [.int n tn, .int e te, .int c tc] 78 (fun _ => True) T0 (PostT Tabs (fun r new => new = [] ∧ ∃ t, r = .int (powL n e c) t)) := by
  refine fill9 ?_
  k_fill
  intro _
  unfold Does
  intro dp un gd cn cs ca ccd cl outer A₀ base h₀ L m fr s Q E B F X N ap hrd T hct hk hd9 hu hret
  have hnd := ndig1_le (a := e) he (by omega)
  k_extra "M.enter"
  intro g L' h1 FG F' N' B' X' T' hg hlt
  have hct' := codeAll_keeps (fun b o e => FG.keep b o e) hct
  dsimp only
  try k_fold
  k_with "pyIter ref" => (k_here; k_dflt (refine' pow_loop (n := n) (c := c) (fix := []) ?hh ?F ?N ?tb ?sub ?off ?hi hc ?hf ?ht ?turn ?done ?hE); (case hh => rfl); (case F => k_asm); (case N => k_asm); (case tb => assumption); (case hi => assumption); (case sub => k_extra "M.sub"); (case off => k_extra "T.own"); (case hf => rfl); (case ht => exact fun _ _ => rfl); (case hE => passes_own); (case' turn => (intro f d t td T9 u I it h tk pre hf0 hf1 hfe tb9 off9 ne9 F9 N9; obtain ⟨pw1, pw2, pw3, pw4⟩ := pow_fits hf0 hf1 hn hN hC; (simp only [List.map_cons, List.map_nil, List.nil_append, NeAll, and_true] at off9 N9 ne9); (try dsimp only); (try k_fold))); (case' done => (intro t T9 u h tk tb9 off9 F9 N9; (simp only [List.map_cons, List.map_nil, List.nil_append] at off9 N9); (try dsimp only); (try k_fold))))
  k_steps
  · (rename News g L' _ _ => Ng)
    (rename News h₀ L _ _ => Nh)
    refine fun NF hgf => ?_
    exact post_back (g := g) (L' := L') (new := []) hret (by assumption) Nh Ng NF hgf (by assumption) (by k_extra "T.tail") (fun _ h => nomatch h) (fun _ h => nomatch h) ⟨rfl, _, rfl⟩
  all_goals (subst hfe; first | k_extra "PW.end")
theorem kset_a_11 : True := by
  k_with "NE.one" =>
    first | with_reducible assumption | k_ne
  k_with "NE.all" =>
    first | k_extra "T.off" | exact List.forall_mem_nil _ | (refine List.forall_mem_cons.mpr ⟨?zqa, ?zqb⟩; (case zqa => k_extra "NE.one"); (case zqb => k_extra "NE.all"))
  k_with "call ref" =>
    (k_here; (with_reducible show wpAny _ _ (call (Value.ref 81) _) _ _ _); k_dflt (refine' does_useT (pow_c ?zqt ?zqn ?zqN0 ?zqe ?zqE0 ?zqc ?zqC0) ?zqB ?zqF ?zqX ?zqN ?zqsp ?zqap ?zqT ?zqC ?zqhk ?zqhd ?zqhu ?_; (case zqt => assumption); (case zqn => k_extra "M.fact"); (case zqN0 => k_extra "M.fact"); (case zqe => k_extra "M.fact"); (case zqE0 => k_extra "M.fact"); (case zqc => k_extra "M.fact"); (case zqC0 => k_extra "M.fact"); k_extra "T.go"); intro r9 new9 T9 h9 tk9 F9 N9 tb9 off9 ap9 sh9; obtain ⟨e2, t9, e1⟩ := sh9; subst e1; subst e2; clear ap9; (simp only [List.map_cons, List.map_nil, List.cons_append, List.nil_append, List.map_append, and_true] at N9 off9); (try dsimp only); (try k_fold); (try k_sweep))
  trivial
theorem sure_c {w : World} {p : Program} {loose : List Str} {mean : ExcName → Option Value} {mg mb : Str → Option Value} {c b : Int} {tc tb0 : Tok} {T0 : Led} (hT : Tabs T0) (hc : 3 ≤ c) (hC : c ≤ 1000) (hb : 0 ≤ b) (hB : b ≤ 1000) :
    Does PySem.Challenge.pw_gh0007_01 w (hd.heap_39 w.params) p loose mean mg mb [(34, 30), (41, 37)] 88 [.int c tc, .int b tb0] 80 (fun _ => True) T0 (PostT Tabs (fun r new => new = [] ∧ r = .bool (sureL c b))) := by
  refine fill9 ?_
  k_fill
  intro _
  unfold Does
  intro dp un gd cn cs ca ccd cl outer A₀ base h₀ L m fr s Q E B F X N ap hrd T hct hk hd9 hu hret
  k_extra "M.enter"
  intro g L' h1 FG F' N' B' X' T' hg hlt
  have hct' := codeAll_keeps (fun b o e => FG.keep b o e) hct
  dsimp only
  try k_fold
  k_with "exec While" => (k_here; k_dflt (refine' half_loop (c := c) ?yyF ?yyN ?yytb ?yyhT ?yyhc ?yyho ?yyhh ?_; (case yyF => k_asm); (case yyN => k_asm); (case yytb => assumption); (case yyhT => k_extra "T.tail"); (case yyhc => omega); (case yyho => rfl); (case yyhh => rfl)); (intro n o h t u T9 h1 tk1 d tb9 a1 a2 a3 a4 a5 a6 F9 N9; (try dsimp only); (try k_fold)))
  k_with "WhileStep" => ((refine' half_back ?yyF ?yyN ?yytb ?yyhT a1 a2 a3 ?yyh4 a5 a6 ?yyhe ?yymo ?yymh ?yynm); (case yyF => assumption); (case yyN => assumption); (case yytb => assumption); (case yyhT => k_extra "T.tail"); (case yyh4 => assumption); (case yyhe => assumption); (case yymo => rfl); (case yymh => rfl); (case yynm => k_extra "M.same"))
  k_with "pyIter ref" => (k_here; focus (k_dflt (refine' sqs_loop (c := c) (x0 := powL b o c) (n := (h - 1).toNat) ?xxhh ?xxhr ?xxhb0 ?xxhb ?xxhn ?xxF ?xxN ?xxtb ?xxhT ?xxh0 ?xxh1 ?xxho ?xxht (fun i5 x5 t5 td5 T5 u5 I5 it5 h5 tk5 b1 b2 b3 b4 tb5 off5 F5 N5 => ?_) (fun x5 t5 T5 u5 h5 tk5 b4 tb5 F5 N5 => ?_) ?xxhE; (case xxhh => rfl); (case xxhr => assumption); (case xxhb0 => omega); (case xxhb => omega); (case xxhn => rfl); (case xxF => k_asm); (case xxN => k_asm); (case xxtb => assumption); (case xxhT => k_extra "T.tail"); (case xxh0 => exact (powF_range (by omega) _).1); (case xxh1 => exact (powF_range (by omega) _).2); (case xxho => rfl); (case xxht => exact fun _ _ => rfl); (case xxhE => passes_own)); all_goals ((try dsimp only); (try k_fold))))
  k_with "TurnPost" => ((refine' sqs_back ?yyF ?yyN ?yytb ?yyhT ?yyhI ?yyoff ?yyhc b1 b4 ?yyhne ?yyhx ?yynm); (case yyF => assumption); (case yyN => assumption); (case yytb => assumption); (case yyhT => k_extra "T.tail"); (case yyhI => k_mem); (case yyoff => assumption); (case yyhc => omega); (case yyhne => assumption); (case yyhx => rfl); (case yynm => k_extra "M.same"))
  k_with "TurnPost" => ((with_reducible show TurnPost _ _ _ _ _ _ _ (Flow.ret _) _); unfold TurnPost; dsimp only)
  k_steps
  all_goals (
    (rename News g L' _ _ => Ng)
    (rename News h₀ L _ _ => Nh)
    refine fun NF hgf => ?_
    refine post_back (g := g) (L' := L') (new := []) hret (by assumption) Nh Ng NF hgf (by assumption) (by k_extra "T.tail") (fun _ h => nomatch h) (fun _ h => nomatch h) ⟨rfl, congrArg Value.bool ?_⟩
    have he := half_end a6 a5 (by first | exact .inl (by assumption) | exact .inr (by assumption))
    first
      | exact sure_yes he (any_two (by assumption))
      | exact sure_loop he (any_two_no (by assumption)).1 (any_two_no (by assumption)).2 (sqG_yes b1 b4 (by assumption))
      | exact sure_loop he (any_two_no (by assumption)).1 (any_two_no (by assumption)).2 b4)
theorem kset_a_12 : True := by
  k_with "CC.turn" =>
    (intro g5 k5 t5 I5 oI5 C5 oC5 c5 oc5 D5 h5 tk5 E5 ys5 T5 hk5 tb5 off5 hoc5 F5 N5 o5 nec5 ne5; (try simp only [Off3, and_true] at o5); (try simp only [NeAll, and_true] at nec5); (try simp only [List.map_cons, List.map_nil, List.cons_append, List.nil_append] at off5 N5); (try dsimp only); (try k_fold); k_steps; (all_goals k_extra "CT.end"))
  k_with "SrcC" =>
    (k_here; k_dflt (refine' src_cell _ ?zqhh ?zqF ?zqN ?zqtb ?zqsp ?zqoff ?zqhm ?zqhi ?zqhsz ?zqturn ?_; (case zqhh => rfl); (case zqF => k_asm); (case zqtb => assumption); (case zqN => k_asm); (case zqsp => k_extra "T.splits"); (case zqoff => ((try simp only [List.map_cons, List.map_nil]); k_extra "T.own")); (case zqhm => k_mem); (case zqhi => first | assumption | l_ints); (case zqhsz => first | (simp only [List.length_cons, List.length_nil]; decide) | k_extra "M.fact"); (case zqturn => k_extra "CC.turn"); k_extra "CT.fin"))
  k_with "exec Assign cons ListComp" =>
    (k_here; lct_look; k_dflt (refine Assign_ListComp_C (_F₀ := by k_asm) (by rfl) (by with_unfolding_all rfl) (by with_unfolding_all rfl) (by rfl) (by decide) (fun _ => rfl) (fun _ => rfl) (fun _ _ => rfl) (by decide) (by rfl) (by rfl) ?_))
  k_with "LW.end" =>
    ((refine' law_back ?zqF ?zqN ?zqtb ?zqhT ?zqsub ?zqhon ?zqoff ?zqne ?zqnm); (case zqF => assumption); (case zqN => assumption); (case zqtb => assumption); (case zqhT => k_extra "T.tail"); (case zqsub => k_extra "CT.sub"); (case zqhon => assumption); (case zqoff => ((try simp only [List.map_cons, List.map_nil]); k_extra "T.own")); (case zqne => ((simp only [NeAll, and_true]); assumption)); (case zqnm => k_extra "M.same"))
  k_with "call builtin:len" =>
    (k_here; (with_reducible show wpAny _ _ (call (Value.builtin _) [Value.ref _]) _ _ _); k_dflt (refine' len_at ?zql ?zqi ?zqz ?_; (case zql => k_extra "M.list"); (case zqi => assumption); (case zqz => k_extra "M.fact")); intro _ _; (try dsimp only))
  k_with "NE.one" =>
    first | with_reducible assumption | k_ne
  k_with "NE.all" =>
    first | k_extra "T.off" | exact List.forall_mem_nil _ | (refine List.forall_mem_cons.mpr ⟨?zqa, ?zqb⟩; (case zqa => k_extra "NE.one"); (case zqb => k_extra "NE.all"))
  k_with "exec If" =>
    (k_here; (with_reducible show wpAny _ _ (exec (PySem.Stmt.If _ [PySem.Stmt.Return (some (PySem.Expr.Constant (PySem.Const.bool false) _ _)) _] [] _) _) _ _ _); focus (k_dflt (refine' if_no ?zqtb ?zqsp ?zqN ?zqF ?_ (fun h9 tk9 T9 F9 N9 tb9 off9 => ?_); (case zqF => k_asm); (case zqN => k_asm); (case zqtb => assumption); (case zqsp => k_extra "T.splits")); all_goals ((try simp only [List.map_cons, List.map_nil, List.cons_append, List.nil_append] at N9 off9); (try dsimp only); (try k_fold); (try k_sweep))))
  k_with "IfLeaf" =>
    ((refine' if_leaf ?zqe ?zqF ?zqN ?zqtb ?zqhT ?zqsub ?zqoff); (case zqF => assumption); (case zqN => assumption); (case zqtb => assumption); (case zqhT => k_extra "T.tail"); (case zqsub => k_extra "CT.sub"); (case zqoff => ((try simp only [List.map_cons, List.map_nil]); k_extra "T.own")); (case zqe => first | rfl | (exfalso; k_extra "absurd") | k_extra "leaf" | k_extra "leafstop"))
  k_with "FL.end" =>
    ((refine' fill_back ?zqF ?zqN ?zqtb ?zqhT ?zqsub ?zqhi ?zqhon ?zqoff ?zqne ?zqnm); (case zqF => assumption); (case zqN => assumption); (case zqtb => assumption); (case zqhT => k_extra "T.tail"); (case zqsub => k_extra "CT.sub"); (case zqhi => k_extra "fill.ints"); (case zqhon => assumption); (case zqoff => ((try simp only [List.map_cons, List.map_nil]); k_extra "T.own")); (case zqne => ((simp only [NeAll, and_true]); assumption)); (case zqnm => k_extra "M.same"))
  k_with "call ref" =>
    (k_here; (with_reducible show wpAny _ _ (call (Value.ref 42) _) _ _ _); k_dflt (refine' does_useT (d2i_T ?zqt ?zqo ?zqi ?zql ?zqn ?zqm ?zqb ?zqd) ?zqB ?zqF ?zqX ?zqN ?zqsp ?zqap ?zqT ?zqC ?zqhk ?zqhd ?zqhu ?_; (case zqt => assumption); (case zqi => assumption); (case zqo => k_extra "T.off"); (case zql => k_extra "M.fact"); (case zqn => k_extra "M.fact"); (case zqm => k_extra "M.fact"); (case zqb => k_extra "M.fact"); (case zqd => k_extra "M.fact"); k_extra "T.go"); intro r9 new9 T9 h9 tk9 F9 N9 tb9 off9 ap9 sh9; obtain ⟨e1, t9, e2⟩ := sh9; subst e1; subst e2; (have ne9 := neAll_of ap9); clear ap9; (simp only [List.map_cons, List.map_nil, List.cons_append, List.nil_append, List.map_append, NeAll, and_true] at N9 off9 ne9); (try dsimp only); (try k_fold); (try k_sweep))
  k_with "call ref" =>
    (k_here; (with_reducible show wpAny _ _ (call (Value.ref 88) _) _ _ _); k_dflt (refine' does_useT (sure_c ?zqt ?zqc ?zqC0 ?zqb ?zqBB) ?zqB ?zqF ?zqX ?zqN ?zqsp ?zqap ?zqT ?zqC ?zqhk ?zqhd ?zqhu ?_; (case zqt => assumption); (case zqc => k_extra "M.fact"); (case zqC0 => k_extra "M.fact"); (case zqb => k_extra "M.fact"); (case zqBB => k_extra "M.fact"); k_extra "T.go"); intro r9 new9 T9 h9 tk9 F9 N9 tb9 off9 ap9 sh9; obtain ⟨e2, e1⟩ := sh9; subst e1; subst e2; clear ap9; (simp only [List.map_cons, List.map_nil, List.cons_append, List.nil_append, List.map_append, and_true] at N9 off9); (try dsimp only); (try k_fold); (try k_sweep))
  k_with "eval ListComp" =>
    (k_here; (with_reducible show wpAny _ _ (eval (PySem.Expr.ListComp _ [⟨_, PySem.Expr.Call _ [_, _, _] _ _, _, _⟩] _ _) _) _ _ _); k_dflt (refine ListComp_S (_F₀ := by k_asm) (by with_unfolding_all rfl) (by decide) (by rfl) (by decide) (by rfl) ?_))
  k_with "exec Assign cons ListComp" =>
    (k_here; (with_reducible show wpAny _ _ (exec (PySem.Stmt.Assign _ (PySem.Expr.ListComp _ [⟨_, PySem.Expr.Call _ [_, _, _] _ _, _, _⟩] _ _) _) _) _ _ _); k_dflt (refine Assign_ListComp_S (_F₀ := by k_asm) (by rfl) (by with_unfolding_all rfl) (by with_unfolding_all rfl) (by decide) (by rfl) (by decide) (by rfl) (by rfl) (by rfl) ?_))
  k_with "AC.end" =>
    ((refine' acc_back ?zqF ?zqN ?zqtb ?zqhT ?zqsub ?zqoff ?zqne ?zqhx ?zqe ?zqnm); (case zqF => assumption); (case zqN => assumption); (case zqtb => assumption); (case zqhT => k_extra "T.tail"); (case zqsub => k_extra "CT.sub"); (case zqoff => ((try simp only [List.map_cons, List.map_nil]); k_extra "T.own")); (case zqne => ((simp only [NeAll, and_true]); assumption)); (case zqhx => rfl); (case zqe => rfl); (case zqnm => k_extra "M.same"))
  k_with "GrownAll" =>
    (k_dflt (refine' grown_end1 ?zqN9 ?zqtb9 ?zqhT9; (case zqN9 => k_asm); (case zqtb9 => assumption); (case zqhT9 => k_extra "T.tail")))
  trivial
theorem law1 : PySem.Challenge.rw_gh0007_01.Holds := hd (by
  k_go0
  all_goals try k_fold
  rename News _ _ _ _ => N0
  rename 30 < _ ∧ 37 < _ => l0
  rename IntsAre _ _ => hI
  rename List Int => S
  obtain ⟨T0, tb0, N1, off0⟩ := law_start1 (cs := [_, _, _]) N0 (by simp only [List.forall_mem_cons, List.not_mem_nil, false_implies, implies_true, and_true]; omega)
  clear N0
  simp only [List.map_cons, List.map_nil, List.cons_append, List.nil_append] at N1 off0
  have hC0 : CodeAll [(34, 30), (41, 37)] _ := ⟨by assumption, by assumption, trivial⟩
  obtain ⟨p, hp⟩ : ∃ p : Int, ([3, 5, 7, 11, 13] : List Int).getD (S.sum % 5).toNat 0 = p := ⟨_, rfl⟩
  have hp5 : P5 p := by
    have h : S.sum % 5 = 0 ∨ S.sum % 5 = 1 ∨ S.sum % 5 = 2 ∨ S.sum % 5 = 3 ∨ S.sum % 5 = 4 := by omega
    rcases h with h | h | h | h | h <;> rw [h] at hp <;> simp at hp <;> omega
  have hpl : 3 ≤ p := by omega
  have hpm : p ≤ 13 := by omega
  have hb1 : (1 : Int).toNat * (List.replicate p.toNat (1 : Int)).length ≤ 61 := by rw [List.length_replicate]; show 1 * p.toNat ≤ 61; omega
  have hd1 : ∀ d ∈ List.replicate p.toNat (1 : Int), 0 ≤ d ∧ d < 2 ^ (1 : Int).toNat := fun d hd => by rw [List.eq_of_mem_replicate hd]; decide
  have hlr : (List.replicate p.toNat (1 : Int)).length ≤ 64 := by rw [List.length_replicate]; omega
  obtain ⟨W, hW⟩ : ∃ W : Int, undig (Int.toNat 1) (List.replicate p.toNat 1) = W := ⟨_, rfl⟩
  have hW0 : W = 2 ^ p.toNat - 1 := hW ▸ l1_ones hp5
  have hW1 : 7 ≤ W := hW ▸ (l1_range hp5).1
  have hW2 : W ≤ 8191 := hW ▸ (l1_range hp5).2
  have hll : (llF W (p - 2).toNat == 0) = decide (partsOf W = []) := hW ▸ l1_ll hp5
  have hpt : (partsOf W).filter (fun k => decide (k % (2 * p) ≠ 1)) = [] := hW ▸ l1_parts hp5
  have hpt2 : p - 2 ≤ 11 := by omega
  obtain ⟨n0, hn0⟩ : ∃ n0 : Int, 3 + 2 * ((S ++ [0]).getD (Int.toNat 0) 0 % 50) = n0 := ⟨_, rfl⟩
  have hn1 : 3 ≤ n0 ∧ n0 ≤ 101 := by omega
  have hl1 : l1n n0 = true := hn0 ▸ l1n_at _
  have hsl : (S ++ [0]).length = S.length + 1 := by simp
  have hrl := rowL_length 100
  have hptB : (partsOf W).filter (fun k => k % (2 * p) != 1) = [] := hW ▸ l1_partsB hp5
  rename Shared => s1
  k_with "storeName" => ((with_reducible show wpAny _ _ (storeName _ (Str.ofString "number") _) _ _ _); simp only [hn0])
  k_with "storeName" => ((with_reducible show wpAny _ _ (storeName _ (Str.ofString "prime") _) _ _ _); simp only [hp])
  k_with "storeName" => ((with_reducible show wpAny _ _ (storeName _ (Str.ofString "ones") _) _ _ _); simp only [hW])
  k_with "fact" => (first | exact rowL_sorted _ | exact len_parts (by decide) | exact hb1 | exact hd1 | exact hlr)
  k_with "fill.ints" => first | exact row_yes (by assumption) (by assumption) | exact row_no (by assumption) (by assumption) | exact row_yes (of_decide_eq_true (by assumption)) (by assumption) | exact row_no (of_decide_eq_false (by assumption)) (by assumption)
  k_with "absurd" => (first | omega | exact nd_d hptB (by assumption) | exact nd_t hptB (by assumption) | exact nd_d hpt (by assumption) | exact nd_t hpt (by assumption) | exact absurd hpt (by with_reducible assumption) | exact absurd hpt (of_decide_eq_false (by with_reducible assumption)) | exact bne_no1 hll (by with_reducible assumption) | exact bne_no1 (l1n_1 hl1 |> (hasL_a (by with_reducible assumption)).trans) (by with_reducible assumption) | exact bne_no1 (l1n_1 hl1 |> (hasL_b (by with_reducible assumption)).trans) (by with_reducible assumption) | exact absurd hW0 (by assumption))
  k_with "leaf" => first | exact bne_f hW0 | exact nd_f hptB | exact nd_f hpt | exact ip_no hl1 (hasL_a (by with_reducible assumption)) | exact ip_no hl1 (hasL_b (by with_reducible assumption)) | exact bne_bf hll
  k_with "end" => (first | exact fin_a hl1 (hasL_a (by with_reducible assumption)) (by with_reducible assumption) | exact fin_b hl1 (hasL_a (by with_reducible assumption)) (by with_reducible assumption) (by with_reducible assumption) | exact fin_c hl1 (hasL_a (by with_reducible assumption)) (by with_reducible assumption) (by with_reducible assumption) | exact fin_a hl1 (hasL_b (by with_reducible assumption)) (by with_reducible assumption) | exact fin_b hl1 (hasL_b (by with_reducible assumption)) (by with_reducible assumption) (by with_reducible assumption) | exact fin_c hl1 (hasL_b (by with_reducible assumption)) (by with_reducible assumption) (by with_reducible assumption))
  k_with "pyIter ref" => (k_here; focus (k_dflt (refine' fill_loop (cn := s1.heap.objs.size + 1) (fix := [(_, listOf #[Value.int 3 _, Value.int 5 _, Value.int 7 _, Value.int 11 _, Value.int 13 _] 0), (s1.heap.objs.size + 1 + 1, _), (s1.heap.objs.size + 1 + 1 + 1, _)]) (n := 100) [] (fun i => rowL i) ?yhh ?yhr ?yha ?yha2 ?yhb0 ?yhb ?yhn ?yhos ?yF ?yN ?ytb ?yhT ?ysub ?yhon ?yoff ?yht (fun i5 t5 vs5 nn5 T5 on5 v5 u5 I5 it5 h5 tk5 hi5 hv5 tb5 off5 ne5 hon5 F5 N5 => ?_) (fun vs5 nn5 T5 on5 v5 u5 h5 tk5 hv5 tb5 off5 hon5 F5 N5 => ?_) ?yhE; (case yhh => rfl); (case yhr => assumption); (case yha => decide); (case yha2 => decide); (case yhb0 => decide); (case yhb => decide); (case yhn => rfl); (case yhos => rfl); (case yF => k_asm); (case yN => k_asm); (case ytb => assumption); (case yhT => k_extra "T.tail"); (case ysub => k_extra "CT.sub"); (case yhon => assumption); (case yoff => k_extra "T.own"); (case yht => exact fun _ _ => rfl); (case yhE => passes_own)); all_goals ((simp only [List.map_cons, List.map_nil, List.cons_append, List.nil_append] at off5 N5); (try (have hl5 := rowL_length i5)); (try (have ne6 := ne5; simp only [NeAll, and_true] at ne6)); (try dsimp only); (try k_fold))))
  k_with "CCr.turn" => (intro g5 k5 t5 I5 oI5 C5 oC5 D5 m5 h5 tk5 E5 ys5 T5 hk5 tb5 off5 hC5 hx5 F5 N5 o5 ne5; clear o5; obtain ⟨hk6, hk7⟩ := rowL_mem hk5; (try simp only [List.map_cons, List.map_nil, List.cons_append, List.nil_append] at off5 N5); (try dsimp only); (try k_fold); k_steps; (all_goals first | k_extra "CT.end" | exact and_t (by assumption) (by assumption) | exact and_f2 (by assumption) | exact and_f1 (by assumption)))
  k_with "pyIter ref" => (k_here; focus (k_dflt (refine' acc_loop (n := (p - 2).toNat) (llF W) ?uhh ?uhr ?uhb0 ?uhb ?uhn ?uF ?uN ?utb ?usp ?uoff ?uho ?uht (fun i5 t5 td5 T5 u5 I5 it5 h5 tk5 hi5 tb5 off5 ne5 F5 N5 => ?_) (fun t5 T5 u5 h5 tk5 tb5 off5 F5 N5 => ?_) ?uhE; (case uhh => rfl); (case uhr => assumption); (case uhb0 => omega); (case uhb => omega); (case uhn => rfl); (case uF => k_asm); (case uN => k_asm); (case utb => assumption); (case usp => k_extra "T.splits"); (case uoff => ((try simp only [List.map_cons, List.map_nil]); k_extra "T.own")); (case uho => rfl); (case uht => exact fun _ _ => rfl); (case uhE => passes_own)); all_goals ((simp only [List.map_cons, List.map_nil, List.cons_append, List.nil_append] at off5 N5); (try (have hl5 := llF_fits (show 4 < W by omega) (show W ≤ 10000 by omega) i5)); (try (have hl6 := llF_range (show 4 < W by omega) i5)); (try (have ne6 := ne5; simp only [NeAll, and_true] at ne6)); (try dsimp only); (try k_fold))))
  k_with "CCs.turn" => (intro g5 k5 t5 I5 oI5 C5 oC5 D5 m5 h5 tk5 E5 ys5 T5 hk5 tb5 off5 hC5 hx5 F5 N5 o5 ne5; clear o5; (have hk6 := rangeSt_mem hk5); (try simp only [List.map_cons, List.map_nil, List.cons_append, List.nil_append] at off5 N5); (try dsimp only); (try k_fold); k_steps; (all_goals first | k_extra "CT.end" | exact and_t (by assumption) (by assumption) | exact and_f2 (by assumption) | exact and_f1 (by assumption)))
  k_with "SrcS" => (k_here; k_dflt (refine' src_step (n := 44) (fun k => decide (k < W) && (W % k == 0)) ?yyhh ?yyF ?yyN ?yytb ?yysp ?yyoff ?yyhr ?yyhsm ?yyhn ?yyhsz ?yyhkf ?yyhxl ?yyhxd ?yyturn ?_; (case yyhh => rfl); (case yyF => k_asm); (case yytb => assumption); (case yyN => k_asm); (case yysp => k_extra "T.splits"); (case yyoff => ((try simp only [List.map_cons, List.map_nil]); k_extra "T.own")); (case yyhr => assumption); (case yyhsm => decide); (case yyhn => decide); (case yyhsz => decide); (case yyhkf => rfl); (case yyhxl => exact fun _ => rfl); (case yyhxd => decide); (case yyturn => k_extra "CCs.turn"); k_extra "CT.fin"))
  k_with "SrcS" => (k_here; k_dflt (refine' src_step (n := 4) (fun k => decide (k < n0) && (n0 % k == 0)) ?yyhh ?yyF ?yyN ?yytb ?yysp ?yyoff ?yyhr ?yyhsm ?yyhn ?yyhsz ?yyhkf ?yyhxl ?yyhxd ?yyturn ?_; (case yyhh => rfl); (case yyF => k_asm); (case yytb => assumption); (case yyN => k_asm); (case yysp => k_extra "T.splits"); (case yyoff => ((try simp only [List.map_cons, List.map_nil]); k_extra "T.own")); (case yyhr => assumption); (case yyhsm => decide); (case yyhn => decide); (case yyhsz => decide); (case yyhkf => rfl); (case yyhxl => exact fun _ => rfl); (case yyhxd => decide); (case yyturn => k_extra "CCs.turn"); k_extra "CT.fin"))
  k_with "CompSrcT" => (k_here; k_dflt (refine' src_list (fun q => decide (q * q ≤ 2 + (i5 : Int)) && ((2 + (i5 : Int)) % q == 0)) ?yyhh ?yyF ?yyN ?yytb ?yysp ?yyoff ?yyhm ?yyhi ?yyhsz ?yyhkf ?yyhxl ?yyhxd ?yyturn ?_; (case yyhh => rfl); (case yyF => k_asm); (case yytb => assumption); (case yyN => k_asm); (case yysp => k_extra "T.splits"); (case yyoff => ((try simp only [List.map_cons, List.map_nil]); k_extra "T.own")); (case yyhm => k_mem); (case yyhi => exact hv5); (case yyhsz => k_extra "M.fact"); (case yyhkf => rfl); (case yyhxl => exact fun _ => rfl); (case yyhxd => decide); (case yyturn => k_extra "CCr.turn"); k_extra "CT.fin"))
  k_steps
  all_goals first | k_extra "FL.end" | k_extra "AC.end")

end Mine
theorem PySem.Challenge.cw_gh0007_01_holds : PySem.Challenge.rw_gh0007_01.Holds :=
  Mine.law1
