import PyProof.Rows.All
import Wide.All
import OpenK.AllK
import Wide.FinOn
import PyProof.Rows.SortShellK
import PySem.Challenge.RW_kl0408_01
open PySem PySem.W PySem.Calls PyProof.Rows
set_option Elab.async false
set_option maxRecDepth 100000
set_option maxHeartbeats 8000000
namespace Mine
open_top hd for PySem.Challenge.rw_kl0408_01
theorem topOff : True := by w_top off; trivial
end Mine
/-! part Ent -/
namespace Mine
theorem zfill : hd.heap_39 = hd.heap_39 ∧ PySem.Challenge.rw_kl0408_01 = PySem.Challenge.rw_kl0408_01 := by k_fill; exact ⟨rfl, rfl⟩
abbrev PG : Program := PySem.Challenge.rw_kl0408_01.row.prog
/-- all that stood stands -/
def Ext (h h' : Heap) : Prop := ∀ b o, h.get? b = some o → h'.get? b = some o
theorem Ext.refl (h : Heap) : Ext h h := fun _ _ e => e
theorem Ext.trans {a b c : Heap} (x : Ext a b) (y : Ext b c) : Ext a c := fun i o e => y i o (x i o e)
section
variable {prog : Program} {w : World} {A : Around} {s : Shared} {R : Result → Shared → Prop} {name qual : Str} {params : Arguments} {body : List Stmt} {scope : Scope} {cl : List (Str × Addr)} {dV kV doc pm cdv ct : Value} {an : Option Addr} {fo : Obj} {f : Addr} {args : Args} {binds : List (Str × Value)}
/-- a call of a def without cells, from any place: what stood stays; no exception -/
theorem enter_plain (ho : s.heap.get? f = some fo) (hd : fo.data = .func (fnX name qual params body scope cl dV kV doc pm an cdv ct)) (hlim : s.heap.NoLimit) (hcd : s.heap.CodeRec cdv qual) (hroom : A.depth < recursionLimit)
    (hbind : BindsTo s (fnX name qual params body scope cl dV kV doc pm an cdv ct) args binds) (hloc : ∀ y ∈ binds, scope.names.lookup y.1 = some .local)
    (h : ∀ h₁, Fr s.heap s.heap.objs.size h₁ (fun y => binds.reverse.lookup y) →
      wpAny (model prog w) (A.deeper (envX qual scope s.heap.objs.size f cdv cl)) (execs body (envX qual scope s.heap.objs.size f cdv cl))
        (fun fl s' => R (.ok (.ret (match fl with | .ret v => v | _ => .none))) s') (fun _ _ => False)
        { s with heap := h₁, toks := s.toks + binds.length })
    (hcell : ∀ x ∈ scope.names, x.2 ≠ .cell) (hco : scope.isCoroutine = false := by rfl) (hgen : scope.isGenerator = false := by rfl) (hk : scope.kind = .function := by rfl) : codeAny (model prog w) A (.call (.ref f) args) R s := by
  refine codeAny_call_def (fd := fnX name qual params body scope cl dV kV doc pm an cdv ct) (body := body) (binds := binds) hroom ho hd hlim hcd rfl hbind hcell hloc (fun h₁ hns hk₁ => ?_) hco hgen hk
  exact wpAny_mono (h h₁ ⟨hns, hk₁, Nat.le_refl _⟩) (fun _ _ x => x) (fun _ _ x => x.elim)
/-- the same for a def of the written part -/
theorem enter_K {K : Frag} {oc : Value} {od : Option Addr} {osl : Array (Option Value)} {mg mb : Str → Option Value} {p : Program} {loose : List Str} {mean : ExcName → Option Value}
    (X : K.In s.heap) (T : Top p loose mean mg mb s.heap) (ho : K.lookup f = some ⟨oc, od, .func (fnX name qual params body scope [] dV kV doc pm an cdv ct), osl⟩) (hcd : codeIn K cdv qual = true) (hroom : A.depth < recursionLimit)
    (hbind : BindsTo s (fnX name qual params body scope [] dV kV doc pm an cdv ct) args binds) (hloc : ∀ y ∈ binds, scope.names.lookup y.1 = some .local)
    (hcell : ∀ x ∈ scope.names, x.2 ≠ .cell) (hco : scope.isCoroutine = false) (hgen : scope.isGenerator = false) (hk : scope.kind = .function)
    (h : ∀ h₁, Fr s.heap s.heap.objs.size h₁ (fun y => binds.reverse.lookup y) →
      wpAny (model prog w) (A.deeper (envX qual scope s.heap.objs.size f cdv [])) (execs body (envX qual scope s.heap.objs.size f cdv []))
        (fun fl s' => R (.ok (.ret (match fl with | .ret v => v | _ => .none))) s') (fun _ _ => False)
        { s with heap := h₁, toks := s.toks + binds.length }) : codeAny (model prog w) A (.call (.ref f) args) R s :=
  enter_plain (X _ _ ho) rfl T.nolimit (codeRec_of X hcd) hroom hbind hloc h hcell hco hgen hk
/-- a call of a lambda without cells of its own -/
theorem enter_lam {body : Expr} {ctv : Value} {c' : Addr} (ho : s.heap.get? f = some (kla_obj name qual params body scope cl pm c' ctv)) (hlim : s.heap.NoLimit) (hcd : s.heap.CodeRec (.ref c') qual) (hroom : A.depth < recursionLimit)
    (hbind : bindArgs (kla_fn name qual params body scope cl pm (.ref c') ctv) args = pure binds) (hloc : ∀ y ∈ binds, scope.names.lookup y.1 = some .local)
    (hcell : ∀ x ∈ scope.names, x.2 ≠ .cell) (hco : scope.isCoroutine = false) (hgen : scope.isGenerator = false) (hk : scope.kind = .function)
    (h : ∀ h₁, Fr s.heap s.heap.objs.size h₁ (fun y => binds.reverse.lookup y) →
      wpAny (model prog w) (A.deeper (envX qual scope s.heap.objs.size f (.ref c') cl)) (eval body (envX qual scope s.heap.objs.size f (.ref c') cl))
        (fun v s' => R (.ok (.ret v)) s') (fun _ _ => False) { s with heap := h₁, toks := s.toks + binds.length }) : codeAny (model prog w) A (.call (.ref f) args) R s := by
  refine kla_callFunE hroom ho rfl hco hgen rfl hcd ?_
  rw [hbind]
  refine wpAny_pure (wpAny_newFunctionEnv hcell hloc (fun h₁ hns hsb => ⟨hlim.fresh _ hsb, ?_⟩) hk)
  show codeAny _ _ (.expr body (envX qual scope s.heap.objs.size f (.ref c') cl)) _ _
  have hk₁ : ∀ b o, s.heap.get? b = some o → h₁.get? b = some o := fun b o e => hsb.extBut b o (Nat.ne_of_lt (Heap.lt_size e)) (Heap.get?_push_of_some _ e)
  exact kla_codeExpr (wpAny_mono (h h₁ ⟨hns, hk₁, Nat.le_refl _⟩) (fun _ _ x => x) (fun _ _ x => x.elim))
end
section
variable {prog : Program} {w : World} {A : Around} {E : Value → Shared → Prop} {s : Shared} {env : Env} {h₀ : Heap} {x : Str} {body : List Stmt} {Q : Flow → Shared → Prop}
/-- a for over a list that the turns do not touch, by an invariant over the frame's names and the ledger -/
theorem iterL {l : Addr} {vs : List Value} {m₀ : Str → Option Value} {news : List (Addr × Obj)} (J : Nat → (Str → Option Value) → List (Addr × Obj) → Prop)
    (hh : A.handled = none) (hl : h₀.IsList l vs.toArray) (F : Fr h₀ env.locals s.heap m₀) (N : News h₀ env.locals s.heap news) (hj : J 0 m₀ news)
    (turn : ∀ i v m₁ news₁ h tk own, vs[i]? = some v → news₁.map (·.1) = news.map (·.1) → OwnOff own (news.map (·.1)) → J i m₁ news₁ → Fr h₀ env.locals h (fun y => if y = x then some v else m₁ y) → News h₀ env.locals h (news₁ ++ own) →
      wpAny (model prog w) A (execs body env) (InvPostN h₀ env.locals (J (i + 1)) own (news.map (·.1)) { s with heap := h, toks := tk } Q) E { s with heap := h, toks := tk })
    (done : ∀ m₁ news₁ h tk, J vs.length m₁ news₁ → Fr h₀ env.locals h m₁ → News h₀ env.locals h news₁ → Q .next { s with heap := h, toks := tk }) :
    wpAny (model prog w) A (pyIter (.ref l)) (fun it s₂ => LoopAtV prog w A h₀ env x body Q E it s₂) E s := by
  have hls : s.heap.IsList l vs.toArray := hl.at fun o e => F.keep l o e
  obtain ⟨ol, hol, hrest⟩ := id hl
  have hlt : l < h₀.objs.size := Heap.lt_size hol
  have hne : l ≠ s.heap.objs.size := Nat.ne_of_lt (Nat.lt_trans (Nat.lt_of_lt_of_le hlt F.above) F.ns.lt)
  refine wpAny_pyIter_list hls ?_
  have W := Walks.list (prog := prog) (w := w) hh s.heap.objs.size l hne vs.toArray
  have hsz : vs.toArray.size = vs.length := by simp
  rw [hsz] at W
  refine loop_invN J W ?_ ?_ ?_ ?_ ⟨⟨_, Heap.get?_push_size _ rfl, rfl, rfl⟩, hls.push _⟩ (F.push _) (fun p hp => ⟨Heap.get?_push_of_some _ (N p hp).1, (N p hp).2⟩) hj ?_ ?_
  · intro hm
    rcases List.mem_cons.mp hm with e | hm
    · exact absurd F.ns.lt (e ▸ Nat.lt_irrefl _)
    · exact absurd (Nat.lt_of_lt_of_le hlt F.above) ((List.mem_singleton.mp hm) ▸ Nat.lt_irrefl _)
  · intro b hb
    rw [List.mem_singleton.mp hb]
    exact next_is_new F
  · intro p hp hI
    exact absurd (Heap.lt_size (N p hp).1) ((List.mem_singleton.mp hI) ▸ Nat.lt_irrefl _)
  · intro q hq hI
    rcases List.mem_cons.mp hI with e | hI
    · exact absurd (Heap.lt_size (N q hq).1) (e ▸ Nat.lt_irrefl _)
    · have h3 := (N q hq).2.2
      rw [List.mem_singleton.mp hI, hol] at h3
      cases h3
  · intro i v m₁ news₁ h tk own _ hP hadr hoff hJ F₁ N₁
    exact turn i v m₁ news₁ h tk own (by simpa using hP) hadr hoff hJ F₁ N₁
  · intro m₁ news₁ h tk hJ F₁ N₁
    exact done m₁ news₁ h tk hJ F₁ N₁
end
/-- the ways into the program's term -/
def stAt (l : List Stmt) (i : Nat) : Stmt := match l[i]? with | some x => x | none => .Pass ⟨0, 0, 0, 0⟩
def bodyOf : Stmt → List Stmt
  | .FunctionDef _ _ b _ _ _ _ _ _ _ => b
  | .For _ _ b _ _ => b
  | _ => []
def scopeOf : Stmt → Scope
  | .FunctionDef _ _ _ _ _ _ s _ _ _ => s
  | _ => { kind := .module, names := [], isGenerator := false, isCoroutine := false, more := [] }
def paramsOf : Stmt → Arguments
  | .FunctionDef _ a _ _ _ _ _ _ _ _ => a
  | _ => { posonlyargs := [], args := [], vararg := none, kwonlyargs := [], kw_defaults := [], kwarg := none, defaults := [] }
def valueOf : Stmt → Expr
  | .Assign _ v _ => v
  | _ => .Name "" ⟨0, 0, 0, 0⟩
def secondArg : Expr → Expr
  | .Call _ [_, e] _ _ => e
  | _ => .Name "" ⟨0, 0, 0, 0⟩
def lamArgs : Expr → Arguments
  | .Lambda a _ _ _ => a
  | _ => { posonlyargs := [], args := [], vararg := none, kwonlyargs := [], kw_defaults := [], kwarg := none, defaults := [] }
def lamBody : Expr → Expr
  | .Lambda _ b _ _ => b
  | _ => .Name "" ⟨0, 0, 0, 0⟩
def lamScope : Expr → Scope
  | .Lambda _ _ s _ => s
  | _ => { kind := .module, names := [], isGenerator := false, isCoroutine := false, more := [] }
def askS : Stmt := stAt PySem.Challenge.pw_kl0408_01.main.body 8
def lookS : Stmt := stAt (bodyOf askS) 0
def lawS : Stmt := stAt PySem.Challenge.pw_kl0408_01.main.body 9
def figS : Stmt := stAt (bodyOf lawS) 4
def lamE : Expr := secondArg (valueOf (stAt (bodyOf figS) 0))
abbrev tup (vs : List Value) (n : Nat) : Obj := { cls := .type "tuple", data := .seq vs.toArray n }
abbrev lamObj (c c' : Addr) (pm ctv : Value) : Obj := kla_obj "<lambda>" "law.<locals>.<lambda>" (lamArgs lamE) (lamBody lamE) (lamScope lamE) [(Str.ofString "figure", c)] pm c' ctv
end Mine
namespace Mine
section
variable {M : Model} {A : Around} {E : Value → Shared → Prop} {s : Shared} {h₀ : Heap} {L a c : Addr} {m : Str → Option Value} {cn : Str} {cs : Scope} {ccd : Value} {cl : List (Str × Addr)} {x : Str} {pos : Pos} {v : Value} {Q : Value → Shared → Prop} {oc : Obj}
/-- a free name, its cell standing from before -/
theorem name_free (F : Fr h₀ L s.heap m) (hc : cl.lookup x = some c) (hv : h₀.get? c = some oc) (hd : oc.data = .cell (some v)) (h : Q v s)
    (hk : cs.kind = .function := by rfl) (hx : (envX cn cs L a ccd cl).kindOf x = some .free := by rfl) (hb : (x == ("__debug__" : Str)) = false := by decide) (hn : (x == ("__classdict__" : Str)) = false := by decide) :
    wpAny M A (eval (.Name x pos) (envX cn cs L a ccd cl)) Q E s := wpAny_Name (wpAny_loadName_free hk hx hc ⟨_, F.keep _ _ hv, hd⟩ h hn) hb
end
theorem isTup_of {h : Heap} {t : Addr} {vs : List Value} {n : Nat} (e : h.get? t = some (tup vs n)) : IsTup h t vs.toArray := ⟨_, e, rfl, _, rfl⟩
section
variable {M : Model} {A : Around} {E : Value → Shared → Prop} {s : Shared} {env : Env} {pos : Pos} {f : Addr} {fo : Obj} {fd : FuncData} {Q : Value → Shared → Prop}
theorem keeps_fn (hd : fo.data = .func fd) (h : Heap) (X : h.get? f = some fo) : ∃ k, (k = Keeper.frame ∨ k = Keeper.machine ∨ k = Keeper.boundFrame) ∧ Looks M h (keeperOf (.ref f)) k := by
  obtain ⟨c, d, dt, sl⟩ := fo
  cases hd
  exact ⟨.frame, .inl rfl, (Looks.ld (part := none) X).andThen .now⟩
/-- a call by positions of a function object, wherever it stands -/
theorem callWith_fn {e : Expr} {rest : List Expr} (hd : fo.data = .func fd)
    (h : wpAny M A (spliced (backTo pos (starEach (e :: rest) env))) (fun vs s₁ => s₁.heap.get? f = some fo ∧ wpAny M A (call (.ref f) vs) Q E s₁) E s)
    (he : starEach (e :: rest) env = (false, eval e env) :: starEach rest env := by rfl) (hplain : (backTo pos (starEach rest env)).any (·.1) = false := by rfl) :
    wpAny M A (callWith pos (.ref f) [] (backTo pos (starEach (e :: rest) env)) []) Q E s := by
  rw [he] at h ⊢
  exact callWith_of (P := fun h => h.get? f = some fo) (first := []) (by show ((false || (backTo pos (starEach rest env)).any (·.1)) || false) = false; rw [hplain]; rfl) (keeps_fn hd) (evalArgs_plain h)
end
/-- a name's value, written at the map's head -/
theorem pin {h₀ h : Heap} {L : Addr} {m : Str → Option Value} {x : Str} {v : Value} (F : Fr h₀ L h m) (hx : m x = some v) : Fr h₀ L h (fun y => if y = x then some v else m y) := by
  have e : (fun y => if y = x then some v else m y) = m := by
    funext y
    by_cases q : y = x
    · rw [if_pos q, q, hx]
    · rw [if_neg q]
  rw [e]
  exact F
section
variable {prog : Program} {w : World} {A : Around} {E : Value → Shared → Prop} {s : Shared} {env : Env} {h₀ : Heap} {target : Expr} {body : List Stmt} {Q : Flow → Shared → Prop}
/-- the same with any target -/
theorem iterT {l : Addr} {vs : List Value} {m₀ : Str → Option Value} {news : List (Addr × Obj)} (J : Nat → (Str → Option Value) → List (Addr × Obj) → Prop)
    (hgo : ∀ I i v (s : Shared) (Q : Unit → Shared → Prop) (E : Value → Shared → Prop), s.heap.IsListIter I l i → v ∈ vs → Q () s → wpAny (model prog w) A (letOwnedTupleGo target (.ref I) v) Q E s)
    (hh : A.handled = none) (hl : h₀.IsList l vs.toArray) (F : Fr h₀ env.locals s.heap m₀) (N : News h₀ env.locals s.heap news) (hj : J 0 m₀ news)
    (turn : ∀ i v m₁ news₁ h tk own, vs[i]? = some v → news₁.map (·.1) = news.map (·.1) → OwnOff own (news.map (·.1)) → J i m₁ news₁ → Fr h₀ env.locals h m₁ → News h₀ env.locals h (news₁ ++ own) →
      wpAny (model prog w) A (assign target env v) (fun _ s₃ => wpAny (model prog w) A (execs body env) (InvPostN h₀ env.locals (J (i + 1)) own (news.map (·.1)) { s with heap := h, toks := tk } Q) E s₃) E { s with heap := h, toks := tk })
    (done : ∀ m₁ news₁ h tk, J vs.length m₁ news₁ → Fr h₀ env.locals h m₁ → News h₀ env.locals h news₁ → Q .next { s with heap := h, toks := tk }) :
    wpAny (model prog w) A (pyIter (.ref l)) (fun it s₂ => TurnsAt prog w A h₀ env target body Q E it s₂) E s := by
  have hls : s.heap.IsList l vs.toArray := hl.at fun o e => F.keep l o e
  obtain ⟨ol, hol, hrest⟩ := id hl
  have hlt : l < h₀.objs.size := Heap.lt_size hol
  have hne : l ≠ s.heap.objs.size := Nat.ne_of_lt (Nat.lt_trans (Nat.lt_of_lt_of_le hlt F.above) F.ns.lt)
  refine wpAny_pyIter_list hls ?_
  have W := Walks.list (prog := prog) (w := w) hh s.heap.objs.size l hne vs.toArray
  have hsz : vs.toArray.size = vs.length := by simp
  rw [hsz] at W
  have K : KTurns prog w A target s.heap.objs.size [s.heap.objs.size, l] [s.heap.objs.size] vs.length (fun i v _ => vs[i]? = some v)
      (fun i v h => vs[i]? = some v ∧ (h.IsListIter s.heap.objs.size l (i + 1) ∧ h.IsList l vs.toArray)) (fun i h => h.IsListIter s.heap.objs.size l i ∧ h.IsList l vs.toArray) :=
    { sub := W.sub, frame := W.frame,
      item := fun i s Q E hi st hQ => W.item i s Q E hi st fun v h' tk hP st' hk => hQ v h' tk ⟨by simpa using hP, st'⟩ hk,
      go := fun i v s Q E hm hQ => hgo _ _ v s Q E hm.2.1 (List.mem_of_getElem? hm.1) (hQ s.heap hm.1 hm.2 fun _ _ _ e => e),
      done := W.done }
  have hlf : env.locals ∉ [s.heap.objs.size, l] := by
    intro hm
    rcases List.mem_cons.mp hm with e | hm
    · exact absurd F.ns.lt (e ▸ Nat.lt_irrefl _)
    · exact absurd (Nat.lt_of_lt_of_le hlt F.above) ((List.mem_singleton.mp hm) ▸ Nat.lt_irrefl _)
  have hfp : ∀ q ∈ news, q.1 ∉ [s.heap.objs.size, l] := by
    intro q hq hI
    rcases List.mem_cons.mp hI with e | hI
    · exact absurd (Heap.lt_size (N q hq).1) (e ▸ Nat.lt_irrefl _)
    · have h3 := (N q hq).2.2
      rw [List.mem_singleton.mp hI, hol] at h3
      cases h3
  refine ⟨_, _, _, vs.length, _, _, _, m₀, news, fun i m₁ news₁ => news₁.map (·.1) = news.map (·.1) ∧ J i m₁ news₁, rfl, K, hlf, ?_, ?_, ⟨⟨_, Heap.get?_push_size _ rfl, rfl, rfl⟩, hls.push _⟩, F.push _, (fun p hp => ⟨Heap.get?_push_of_some _ (N p hp).1, (N p hp).2⟩), ⟨rfl, hj⟩, ?_, ?_⟩
  · intro b hb
    rw [List.mem_singleton.mp hb]
    exact next_is_new F
  · intro p hp hI
    exact absurd (Heap.lt_size (N p hp).1) ((List.mem_singleton.mp hI) ▸ Nat.lt_irrefl _)
  · rintro i v m₁ news₁ h₁ tk₁ own hin hP ⟨hadr, hJ⟩ hoff hown _ _ _ F₁ N₁
    have hsep : OwnOff own (news.map (·.1)) := by
      intro p hp b hb e
      obtain ⟨q, hq, rfl⟩ := List.mem_map.mp hb
      exact hfp q hq (e ▸ hown p hp)
    have N₂ : News h₀ env.locals h₁ (news₁ ++ own) := fun p hp => N₁ p ((List.mem_append.mp hp).elim (fun h => List.mem_append.mpr (.inr h)) fun h => List.mem_append.mpr (.inl h))
    refine wpAny_mono (turn i v m₁ news₁ h₁ tk₁ own hP hadr hsep hJ F₁ N₂) (fun _ s₃ h₃ => wpAny_mono h₃ (fun f s₂ p => ?_) fun _ _ e => e) fun _ _ e => e
    have fin : InvEndN h₀ env.locals (J (i + 1)) own (news.map (·.1)) { s with heap := h₁, toks := tk₁ } s₂ → LoopStepU h₀ env.locals [s.heap.objs.size] own (fun m' nx => nx.map (·.1) = news.map (·.1) ∧ J (i + 1) m' nx) { s with heap := h₁, toks := tk₁ } .next s₂ := by
      rintro ⟨h', tk, m', news', nx, e, F', N', hn, ho, ha, hm⟩
      refine ⟨rfl, h', tk, m', nx, e, F', fun p hp => N' p ((List.mem_append.mp hp).elim (ho p) (hn p)), fun p hp hq => ?_, ha, hm⟩
      have h1 : p.1 ∈ nx.map (·.1) := List.mem_map.mpr ⟨p, hp, rfl⟩
      rw [ha, ← hadr] at h1
      obtain ⟨q, hq1, hq2⟩ := List.mem_map.mp h1
      exact hoff q hq1 (by rw [hq2]; exact hq)
    cases f with
    | ret v => exact .ret p
    | brk => exact .brk p
    | next => exact .next (fin p)
    | cont => exact .cont (fin p)
  · rintro h' tk m' news' F' N' _ ⟨_, hJ⟩
    exact done m' news' h' tk hJ F' N'
end
section
variable {prog : Program} {w : World} {A : Around} {E : Value → Shared → Prop} {s : Shared} {Q : Value → Shared → Prop} {value slice : Expr} {l : Addr} {vs : List Value} {k : Int} {u : Tok} {v : Value}
theorem itemL (hl : s.heap.IsList l vs.toArray) (h0 : 0 ≤ k) (hhi : k < 2 ^ 63) (hx : vs[k.toNat]? = some v) (h : Q v s)
    (hs : subscripted slice false (.ref l) (.int k u) = operate [.ref l, .int k u] (getItem (.ref l) (.int k u)) := by with_unfolding_all rfl) :
    wpAny (model prog w) A (subscriptTail value slice (.ref l) (.int k u)) Q E s :=
  tail_any hl.typeIs slot_list_getitem.lookup (wpAny_getItem_list hl h0 hhi (by simpa using hx) h) hs
theorem itemLast (hl : s.heap.IsList l vs.toArray) (hx : vs.getLast? = some v) (h : Q v s)
    (hs : subscripted slice false (.ref l) (.int (-1) u) = operate [.ref l, .int (-1) u] (getItem (.ref l) (.int (-1) u)) := by with_unfolding_all rfl) :
    wpAny (model prog w) A (subscriptTail value slice (.ref l) (.int (-1) u)) Q E s := by
  have hne : vs ≠ [] := by intro e; rw [e] at hx; cases hx
  have hpos : 0 < vs.length := List.length_pos_iff.mpr hne
  refine tail_any hl.typeIs slot_list_getitem.lookup (wpAny_getItem_list_neg hl (by decide) (by rw [List.size_toArray]; omega) (by decide) ?_ h) hs
  rw [List.size_toArray]
  have e : (-1 + (vs.length : Int)).toNat = vs.length - 1 := by omega
  rw [e]
  rw [List.getLast?_eq_getElem?] at hx
  simpa using hx
theorem go_tuple {elts : List Expr} {x1 : Nat} {pos : Pos} {l : Addr} {ts : List Addr} {vs : List Value} (hv : vs = ts.map Value.ref) : ∀ I i v (s : Shared) (Q : Unit → Shared → Prop) (E : Value → Shared → Prop), s.heap.IsListIter I l i → v ∈ vs → Q () s →
    wpAny (model prog w) A (letOwnedTupleGo (.Tuple elts x1 pos) (.ref I) v) Q E s := by
  intro I i v s Q E hit hm hQ
  subst hv
  obtain ⟨t, _, rfl⟩ := List.mem_map.mp hm
  exact wpAny_letOwnedTupleGo_listiter hit hQ
end
/-- the part of a number that a figure asks, and how many lack it -/
def bit (f n : Int) : Int := (n.fdiv f).fmod 2
def cnt (f : Int) (ns : List Int) : Int := (ns.map fun n => 1 - bit f n).sum
def pre (f : Int) (ns : List Int) (i : Nat) : List Int := (List.range (i + 1)).map fun j => cnt f (ns.take j)
theorem cnt_take {f : Int} {ns : List Int} {i : Nat} {n : Int} (h : ns[i]? = some n) : cnt f (ns.take (i + 1)) = cnt f (ns.take i) + 1 - bit f n := by
  unfold cnt
  rw [List.take_add_one, h]
  simp [List.sum_append]
  omega
section
variable {prog : Program} {w : World} {A : Around} {E : Value → Shared → Prop} {s : Shared} {h₀ : Heap} {L a : Addr} {m : Str → Option Value} {cn : Str} {cs : Scope} {ccd : Value} {cl : List (Str × Addr)} {news : List (Addr × Obj)} {Q : Unit → Shared → Prop}
/-- a pair laid out into two local names -/
theorem assign_pair {x y : Str} {px py pos : Pos} {k n : Nat} {t : Addr} {u v : Value} (hh : A.handled = none) (F : Fr h₀ L s.heap m) (N : News h₀ L s.heap news) (ht : s.heap.get? t = some (tup [u, v] n))
    (h : ∀ h' tk', Fr h₀ L h' (fun z => if z = y then some v else if z = x then some u else m z) → News h₀ L h' news → Q () { s with heap := h', toks := tk' })
    (hk : cs.kind = .function := by rfl) (hx : (envX cn cs L a ccd cl).kindOf x = some .local := by rfl) (hy : (envX cn cs L a ccd cl).kindOf y = some .local := by rfl) :
    wpAny (model prog w) A (assign (.Tuple [.Name x px, .Name y py] k pos) (envX cn cs L a ccd cl) (.ref t)) Q E s := by
  refine assign_Tuple_tuple hh (isTup_of ht) rfl rfl fun h₅ he => ?_
  have he' : ∀ b o, s.heap.get? b = some o → h₅.get? b = some o := fun b o e => he b o (Nat.ne_of_lt (Heap.lt_size e)) e
  refine assignInOrder_cons (wpAny_assign_Name (storeX_L (F.keeps he') (N.grown he') (fun h₆ F₆ N₆ => ?_) hk hx))
  exact assignInOrder_cons (wpAny_assign_Name (storeX_L F₆ N₆ (fun h₇ F₇ N₇ => assignInOrder_nil (h h₇ _ F₇ N₇)) hk hy))
end
end Mine
/-! part Lam -/
namespace Mine
theorem lam_core {w : World} {A : Around} {s : Shared} {R : Result → Shared → Prop} {lam c c' t : Addr} {oc : Obj} {f n : Int} {tf tn : Tok} {k : Value} {nt : Nat} {pm ctv : Value}
    (X : (hd.heap_39 w.params).In s.heap)
    (ho : s.heap.get? lam = some (lamObj c c' pm ctv)) (hc : s.heap.get? c = some oc) (hoc : oc.data = .cell (some (.int f tf))) (hcd : s.heap.CodeRec (.ref c') "law.<locals>.<lambda>") (hlim : s.heap.NoLimit)
    (ht : s.heap.get? t = some (tup [.int n tn, k] nt)) (hf0 : 1 ≤ f) (hf4 : f ≤ 4) (hn0 : 0 ≤ n) (hn8 : n < 8) (hroom : A.depth < recursionLimit)
    (hQ : ∀ h' tk' r, Ext s.heap h' → R (.ok (.ret (.int ((n.fdiv f + 1).fmod 2 * 3) r))) { s with heap := h', toks := tk' }) :
    codeAny (model PG w) A (.call (.ref lam) ⟨[.ref t], []⟩) R s := by
  simp only [lamObj, lamE, figS, lawS, secondArg, valueOf, lamArgs, lamBody, lamScope, stAt, PySem.Challenge.pw_kl0408_01, List.getElem?_cons_succ, List.getElem?_cons_zero, bodyOf] at ho
  refine' enter_lam ho hlim hcd hroom ?b ?hl ?hc ?hco ?hge ?hk (fun h₁ F' => ?_)
  case b => exact rfl
  case hl => exact locs rfl
  case hc => decide
  case hco => rfl
  case hge => rfl
  case hk => rfl
  have N' : News s.heap s.heap.objs.size h₁ [] := News.nil
  iterate 7 walk1
  refine item_tupleT (isTup_of (F'.keep _ _ ht)) (by decide) (by decide) rfl rfl ?_
  refine name_free F' rfl hc hoc ?_
  have hf : f ≠ 0 := by omega
  refine floordiv_int hf ?_ (Or.inl (PyProof.noPylong_small (by omega)))
  iterate 6 walk1
  exact hQ _ _ _ F'.keep
end Mine
/-! part Spl -/
namespace Mine
/-- the bit that the lambda asks: 0 lacks -/
def lacks (f n : Int) : Bool := (n.fdiv f + 1).fmod 2 * 3 != 0
structure SplitJ (vs : List (Addr × Int)) (f : Int) (l lam y no : Addr) (i : Nat) (m : Str → Option Value) (nx : List (Addr × Obj)) : Prop where
  led : ∃ a b, nx = [(no, listOf ((((vs.take i).filter fun p => !lacks f p.2).map fun p => Value.ref p.1).toArray) a), (y, listOf ((((vs.take i).filter fun p => lacks f p.2).map fun p => Value.ref p.1).toArray) b)]
  y : m "yes" = some (.ref y)
  no : m "no" = some (.ref no)
  p : m "predicate" = some (.ref lam)
theorem split_core {w : World} {A : Around} {s : Shared} {R : Result → Shared → Prop} {l lam c c' : Addr} {oc : Obj} {pm ctv : Value} {f : Int} {tf : Tok} {nl : Nat} {vs : List (Addr × Int)}
    {mg mb : Str → Option Value} {p : Program} {loose : List Str} {mean : ExcName → Option Value}
    (X : (hd.heap_39 w.params).In s.heap) (T : Top p loose mean mg mb s.heap) (hroom : A.depth + 1 < recursionLimit) (hh : A.handled = none)
    (hl : s.heap.get? l = some (listOf (vs.map fun p => Value.ref p.1).toArray nl)) (hlen : vs.length ≤ 5)
    (hth : ∀ p ∈ vs, 0 ≤ p.2 ∧ p.2 < 8 ∧ ∃ tn k nt, s.heap.get? p.1 = some (tup [.int p.2 tn, k] nt))
    (ho : s.heap.get? lam = some (lamObj c c' pm ctv)) (hc : s.heap.get? c = some oc) (hoc : oc.data = .cell (some (.int f tf))) (hcd : s.heap.CodeRec (.ref c') "law.<locals>.<lambda>")
    (hf0 : 1 ≤ f) (hf4 : f ≤ 4)
    (hQ : ∀ h' tk' r y no a b e, Ext s.heap h' → h'.get? r = some (tup [.ref y, .ref no] e) → h'.get? y = some (listOf (((vs.filter fun p => lacks f p.2).map fun p => Value.ref p.1).toArray) a) →
      h'.get? no = some (listOf (((vs.filter fun p => !lacks f p.2).map fun p => Value.ref p.1).toArray) b) → s.heap.get? y = none → s.heap.get? no = none → s.heap.get? r = none → y < no → no < r → R (.ok (.ret (.ref r))) { s with heap := h', toks := tk' }) :
    codeAny (model PG w) A (.call (.ref 21) ⟨[.ref l, .ref lam], []⟩) R s := by
  refine' enter_K (binds := [(Str.ofString "s", .ref l), (Str.ofString "predicate", .ref lam)]) X T ?k ?c (by omega) ?b ?hl ?hc ?hco ?hge ?hk (fun h₁ F' => ?_)
  case k => k_is
  case c => k_is
  case b => exact BindsTo.of_eq rfl
  case hl => exact locs rfl
  case hc => decide
  case hco => rfl
  case hge => rfl
  case hk => rfl
  have N' : News s.heap s.heap.objs.size h₁ [] := News.nil
  iterate 14 walk1
  rename_i ya h2 _ h3 na h4 hlt h5 F5 N5
  refine For_invVF F5 rfl rfl ?_
  refine nameX_L F5 rfl ?_
  refine iterL (vs := vs.map fun p => Value.ref p.1) (SplitJ vs f l lam ya na) hh ⟨_, hl, rfl, _, rfl⟩ F5 N5 ⟨⟨_, _, rfl⟩, rfl, rfl, rfl⟩ ?_ ?_
  · intro i v m₁ nx h tk' own hv hadr hoff hJ F6 N6
    obtain ⟨⟨a, b, rfl⟩, hy, hno, hp⟩ := hJ
    rw [List.getElem?_map] at hv
    obtain ⟨⟨t, n⟩, hp2, rfl⟩ := Option.map_eq_some_iff.mp hv
    obtain ⟨hn0, hn8, tn, k, nt, ht⟩ := hth _ (List.mem_of_getElem? hp2)
    dsimp only at *
    have F7 := pin (pin (pin F6 (x := "predicate") (v := .ref lam) hp) (x := "no") (v := .ref na) hno) (x := "yes") (v := .ref ya) hy
    clear F6 hp hno hy
    iterate 4 walk1
    refine nameX_L F7 rfl ?_
    refine callWith_fn (fo := lamObj c c' pm ctv) rfl ?_
    iterate 3 walk1
    refine wpAny_call (lam_core (X.keeps F7.keep) (F7.keep _ _ ho) (F7.keep _ _ hc) hoc (hcd.keeps F7.keep) (T.nolimit.keeps F7.keep) (F7.keep _ _ ht) hf0 hf4 hn0 hn8 (show A.depth + 1 < recursionLimit from hroom) fun h' tk' r E7 => ?_)
    have F8 := F7.keeps E7
    have N8 := N6.grown E7
    clear F7 N6
    dsimp only [List.cons_append, List.nil_append] at N8
    iterate 2 walk1
    · rename (n.fdiv f + 1).fmod 2 * 3 ≠ 0 => hz
      have hb : lacks f n = true := by unfold lacks; simpa using hz
      iterate 14 walk1
      rename Fr _ _ _ _ => F9
      rename News _ _ _ _ => N9
      refine InvEndN.intro F9 N9 (nx := [(na, listOf (((vs.take i).filter fun p => !lacks f p.2).map fun p => Value.ref p.1).toArray a), (ya, listOf ((((vs.take i).filter fun p => lacks f p.2).map fun p => Value.ref p.1).toArray.push (.ref t)) (b + 1))]) ⟨⟨a, b + 1, ?_⟩, rfl, rfl, rfl⟩ rfl ?_ ?_
      rotate_left
      · intro p hp; rcases List.mem_cons.mp hp with rfl | hp
        · exact List.mem_cons_self
        · rcases List.mem_cons.mp hp with rfl | hp
          · exact List.mem_cons_of_mem _ List.mem_cons_self
          · cases hp
      · intro p hp; exact List.mem_cons_of_mem _ (List.mem_cons_of_mem _ hp)
      rw [List.take_add_one, hp2]
      simp [List.filter_append, hb]
    · rename (n.fdiv f + 1).fmod 2 * 3 = 0 => hz
      have hb : lacks f n = false := by unfold lacks; simpa using hz
      iterate 14 walk1
      rename Fr _ _ _ _ => F9
      rename News _ _ _ _ => N9
      refine InvEndN.intro F9 N9 (nx := [(na, listOf ((((vs.take i).filter fun p => !lacks f p.2).map fun p => Value.ref p.1).toArray.push (.ref t)) (a + 1)), (ya, listOf (((vs.take i).filter fun p => lacks f p.2).map fun p => Value.ref p.1).toArray b)]) ⟨⟨a + 1, b, ?_⟩, rfl, rfl, rfl⟩ rfl ?_ ?_
      rotate_left
      · intro p hp; rcases List.mem_cons.mp hp with rfl | hp
        · exact List.mem_cons_self
        · rcases List.mem_cons.mp hp with rfl | hp
          · exact List.mem_cons_of_mem _ List.mem_cons_self
          · cases hp
      · intro p hp; exact List.mem_cons_of_mem _ (List.mem_cons_of_mem _ hp)
      rw [List.take_add_one, hp2]
      simp [List.filter_append, hb]
  · intro m₁ nx h tk' hJ F6 N6
    obtain ⟨⟨a, b, rfl⟩, hy, hno, hp⟩ := hJ
    have F7 := pin (pin F6 (x := "no") (v := .ref na) hno) (x := "yes") (v := .ref ya) hy
    rw [List.length_map, List.take_length] at N6
    dsimp only
    iterate 9 walk1
    rename Fr _ _ _ _ => F9
    rename News _ _ _ _ => N9
    rename na < _ ∧ _ => hlt2
    have k1 := N9 _ List.mem_cons_self
    have k2 := N9 _ (List.mem_cons_of_mem _ List.mem_cons_self)
    have k3 := N9 _ (List.mem_cons_of_mem _ (List.mem_cons_of_mem _ List.mem_cons_self))
    exact hQ _ _ _ _ _ _ _ _ F9.keep k1.1 k3.1 k2.1 k3.2.2 k2.2.2 k1.2.2 hlt hlt2.1
end Mine
/-! part Bef -/
namespace Mine
structure BefJ (ns : List Int) (f : Int) (tf : Tok) (ca : Addr) (i : Nat) (m : Str → Option Value) (nx : List (Addr × Obj)) : Prop where
  led : ∃ vals a, nx = [(ca, listOf (List.toArray vals) a)] ∧ IntsAre vals (pre f ns i)
  c : m "counts" = some (.ref ca)
  f : m "figure" = some (.int f tf)
theorem before_core {w : World} {A : Around} {s : Shared} {R : Result → Shared → Prop} {l : Addr} {f : Int} {tf : Tok} {nl : Nat} {vs : List (Addr × Int)}
    {mg mb : Str → Option Value} {p : Program} {loose : List Str} {mean : ExcName → Option Value}
    (X : (hd.heap_39 w.params).In s.heap) (T : Top p loose mean mg mb s.heap) (hroom : A.depth < recursionLimit) (hh : A.handled = none)
    (hl : s.heap.get? l = some (listOf (vs.map fun p => Value.ref p.1).toArray nl)) (hlen : vs.length ≤ 5)
    (hth : ∀ p ∈ vs, 0 ≤ p.2 ∧ p.2 < 8 ∧ ∃ tn k nt, s.heap.get? p.1 = some (tup [.int p.2 tn, k] nt))
    (hf0 : 1 ≤ f) (hf4 : f ≤ 4)
    (hQ : ∀ h' tk' r vals a, Ext s.heap h' → h'.get? r = some (listOf (List.toArray vals) a) → IntsAre vals (pre f (vs.map (·.2)) vs.length) → s.heap.get? r = none → R (.ok (.ret (.ref r))) { s with heap := h', toks := tk' }) :
    codeAny (model PG w) A (.call (.ref 58) ⟨[.ref l, .int f tf], []⟩) R s := by
  refine' enter_K (binds := [(Str.ofString "row", .ref l), (Str.ofString "figure", .int f tf)]) X T ?k ?c hroom ?b ?hl ?hc ?hco ?hge ?hk (fun h₁ F' => ?_)
  case k => k_is
  case c => k_is
  case b => exact BindsTo.of_eq rfl
  case hl => exact locs rfl
  case hc => decide
  case hco => rfl
  case hge => rfl
  case hk => rfl
  have N' : News s.heap s.heap.objs.size h₁ [] := News.nil
  iterate 10 walk1
  rename Fr _ _ _ _ => F5
  rename News _ _ _ _ => N5
  refine For_turns F5 ?_
  refine nameX_L F5 rfl ?_
  refine iterT (vs := vs.map fun p => Value.ref p.1) (BefJ (vs.map (·.2)) f tf _) (go_tuple (ts := vs.map (·.1)) (by simp)) hh ⟨_, hl, rfl, _, rfl⟩ F5 N5 ⟨⟨_, _, rfl, .cons _ _ .nil⟩, rfl, rfl⟩ ?_ ?_
  · intro i v m₁ nx h tk' own hv hadr hoff hJ F6 N6
    obtain ⟨⟨vals, a, rfl, hi⟩, hc, hf⟩ := hJ
    rw [List.getElem?_map] at hv
    obtain ⟨⟨t, n⟩, hp2, rfl⟩ := Option.map_eq_some_iff.mp hv
    obtain ⟨hn0, hn8, tn, k, nt, ht⟩ := hth _ (List.mem_of_getElem? hp2)
    dsimp only at *
    have F7 := pin (pin F6 (x := "figure") (v := .int f tf) hf) (x := "counts") (v := .ref _) hc
    clear F6 hf hc
    refine assign_pair hh F7 N6 (F7.keep _ _ ht) fun h8 tk8 F8 N8 => ?_
    clear F7 N6
    dsimp only [List.cons_append, List.nil_append] at N8
    iterate 14 walk1
    have hlast : (pre f (vs.map (·.2)) i)[i]? = some (cnt f ((vs.map (·.2)).take i)) := by simp [pre]
    obtain ⟨tc, hc⟩ := hi.get i _ hlast
    have hvl : vals.length = i + 1 := by rw [hi.length]; simp [pre]
    have hi5 : i < vs.length := (List.getElem?_eq_some_iff.mp hp2).1
    refine itemLast (v := .int (cnt f ((vs.map (·.2)).take i)) tc) ⟨_, (N8 _ List.mem_cons_self).1, rfl, _, rfl⟩ (by rw [List.getLast?_eq_getElem?, hvl]; exact hc) ?_
    have hfz : f ≠ 0 := by omega
    iterate 15 walk1
    rename Fr _ _ _ _ => F9
    rename News _ _ _ _ => N9
    generalize hC : cnt f ((vs.map (·.2)).take i) + 1 - (n.fdiv f).fmod 2 = C at N9
    obtain ⟨tt, N9⟩ : ∃ tt, News _ _ _ ((_, listOf (vals.toArray.push (.int C tt)) (a + 1)) :: own) := ⟨_, N9⟩
    refine InvEndN.intro F9 N9 (nx := [(_, listOf (vals.toArray.push (.int C tt)) (a + 1))]) ⟨⟨vals ++ [.int C tt], a + 1, by rw [List.push_toArray], ?_⟩, rfl, rfl⟩ rfl ?_ ?_
    rotate_left
    · intro p hp
      rw [List.mem_singleton.mp hp]
      exact List.mem_cons_self
    · intro p hp; exact List.mem_cons_of_mem _ hp
    · have e : pre f (vs.map (·.2)) (i + 1) = pre f (vs.map (·.2)) i ++ [C] := by
        have h1 : (vs.map (·.2))[i]? = some n := by rw [List.getElem?_map, hp2]; rfl
        unfold pre
        rw [List.range_succ, List.map_append, List.map_cons, List.map_nil, cnt_take h1, ← hC]
        rfl
      rw [e]
      exact hi.append (.cons _ _ .nil)
  · intro m₁ nx h tk' hJ F6 N6
    obtain ⟨⟨vals, a, rfl, hi⟩, hc, hf⟩ := hJ
    rw [List.length_map] at hi
    have F7 := pin F6 (x := "counts") (v := .ref _) hc
    clear F6
    dsimp only
    iterate 3 walk1
    have k1 := N6 _ List.mem_cons_self
    exact hQ _ _ _ _ _ F7.keep k1.1 hi k1.2.2
end Mine
/-! part Lk0 -/
namespace Mine
abbrev cell0 : Obj := { cls := .type "cell", data := .cell none }
section
variable {prog : Program} {w : World} {A : Around} {s : Shared} {R : Result → Shared → Prop} {name qual : Str} {params : Arguments} {body : List Stmt} {scope : Scope} {cl : List (Str × Addr)} {doc pm ctv : Value} {c' f aAsk : Addr} {oA : Obj} {r lv en : Value}
/-- a call of the lookup: its own three cells, the names that it closes over; only the list `asked` is no part of the ground -/
theorem enter_look (ho : s.heap.get? f = some (fnMade name qual params body scope cl doc pm c' ctv)) (hlim : s.heap.NoLimit) (hlim' : (s.heap.hide aAsk).NoLimit) (hcd : s.heap.CodeRec (.ref c') qual) (hroom : A.depth < recursionLimit)
    (hA : s.heap.get? aAsk = some oA)
    (hbind : bindArgs (fnX name qual params body scope cl .none .none doc pm none (.ref c') ctv) ⟨[r], [(Str.ofString "level", lv), (Str.ofString "ends", en)]⟩ = pure [(Str.ofString "rank", r), (Str.ofString "level", lv), (Str.ofString "ends", en)])
    (hcells : ∀ n, cellsFrom n scope.names cl = (Str.ofString "lacking", n + 2) :: (Str.ofString "ends", n + 1) :: (Str.ofString "level", n) :: cl)
    (hpush : ∀ h, pushCells h scope.names = ((h.push cell0).push cell0).push cell0)
    (k1 : scope.names.lookup (Str.ofString "rank") = some NameKind.local) (k2 : scope.names.lookup (Str.ofString "level") = some NameKind.cell) (k3 : scope.names.lookup (Str.ofString "ends") = some NameKind.cell)
    (hco : scope.isCoroutine = false) (hgen : scope.isGenerator = false) (hk : scope.kind = .function)
    (h : ∀ h₁ tk o1 o2 o3, Fr (s.heap.hide aAsk) s.heap.objs.size h₁ (fun y => if y = Str.ofString "rank" then some r else none) →
      News (s.heap.hide aAsk) s.heap.objs.size h₁ [(s.heap.objs.size + 3, o3), (s.heap.objs.size + 2, o2), (s.heap.objs.size + 1, o1), (aAsk, oA)] →
      o1.data = .cell (some lv) → o2.data = .cell (some en) → o3.data = .cell none → aAsk < s.heap.objs.size →
      wpAny (model prog w) (A.deeper (envX qual scope s.heap.objs.size f (.ref c') ((Str.ofString "lacking", s.heap.objs.size + 3) :: (Str.ofString "ends", s.heap.objs.size + 2) :: (Str.ofString "level", s.heap.objs.size + 1) :: cl)))
        (execs body (envX qual scope s.heap.objs.size f (.ref c') ((Str.ofString "lacking", s.heap.objs.size + 3) :: (Str.ofString "ends", s.heap.objs.size + 2) :: (Str.ofString "level", s.heap.objs.size + 1) :: cl)))
        (fun fl s' => R (.ok (.ret (match fl with | .ret v => v | _ => .none))) s') (fun _ _ => False) { s with heap := h₁, toks := tk }) :
    codeAny (model prog w) A (.call (.ref f) ⟨[r], [(Str.ofString "level", lv), (Str.ofString "ends", en)]⟩) R s := by
  refine codeAny_call_function (fd := fnX name qual params body scope cl .none .none doc pm none (.ref c') ctv) (body := body) hroom ho rfl hco hgen rfl hcd ?_
  rw [hbind]
  refine wpAny_pure ?_
  simp only [newFunctionEnv, Option.isSome_none, Bool.false_eq_true, if_false]
  refine wpAny_bind (wpAny_alloc ?_)
  refine wpAny_bind (wpAny_layCells _ (fun name kind cells => by cases hkc : kind == NameKind.cell <;> simp [hkc]) _ _ _ _ ?_)
  rw [hcells, hpush]
  have hsz : (s.heap.push { cls := .type "frame", data := .dict #[] }).objs.size = s.heap.objs.size + 1 := Heap.size_push ..
  have hlt : @LT.lt Nat _ aAsk s.heap.objs.size := Heap.lt_size hA
  have e1 : ((s.heap.push { cls := .type "frame", data := .dict #[] }).push cell0).objs.size = s.heap.objs.size + 2 := by rw [Heap.size_push, hsz]
  have e2 : (((s.heap.push { cls := .type "frame", data := .dict #[] }).push cell0).push cell0).objs.size = s.heap.objs.size + 3 := by rw [Heap.size_push, e1]
  have g1 : ((((s.heap.push { cls := .type "frame", data := .dict #[] }).push cell0).push cell0).push cell0).get? (s.heap.objs.size + 1) = some cell0 :=
    Heap.get?_push_of_some _ (Heap.get?_push_of_some _ (hsz ▸ Heap.get?_push_size _ rfl))
  have g2 : ((((s.heap.push { cls := .type "frame", data := .dict #[] }).push cell0).push cell0).push cell0).get? (s.heap.objs.size + 2) = some cell0 :=
    Heap.get?_push_of_some _ (e1 ▸ Heap.get?_push_size _ rfl)
  have g3 : ((((s.heap.push { cls := .type "frame", data := .dict #[] }).push cell0).push cell0).push cell0).get? (s.heap.objs.size + 3) = some cell0 := e2 ▸ Heap.get?_push_size _ rfl
  have gk : ∀ b o, s.heap.get? b = some o → ((((s.heap.push { cls := .type "frame", data := .dict #[] }).push cell0).push cell0).push cell0).get? b = some o :=
    fun b o e => Heap.get?_push_of_some _ (Heap.get?_push_of_some _ (Heap.get?_push_of_some _ (Heap.get?_push_of_some _ e)))
  have gn : ((((s.heap.push { cls := .type "frame", data := .dict #[] }).push cell0).push cell0).push cell0).Ns s.heap.objs.size fun _ => none :=
    (((Heap.Ns.new s.heap (.type "frame")).push _).push _).push _
  rw [show ({ s with heap := s.heap.push { cls := .type "frame", data := .dict #[] } } : Shared).heap.objs.size = s.heap.objs.size + 1 from hsz]
  generalize (((s.heap.push { cls := .type "frame", data := .dict #[] }).push cell0).push cell0).push cell0 = H at g1 g2 g3 gk gn
  have fresh : ∀ b : Addr, @LE.le Nat _ s.heap.objs.size b → (s.heap.hide aAsk).get? b = none := fun b hb => by
    cases e : (s.heap.hide aAsk).get? b with
    | none => rfl
    | some o => exact absurd (Heap.lt_size (Heap.of_hide e)) (Nat.not_lt.mpr hb)
  have F0 : Fr (s.heap.hide aAsk) s.heap.objs.size H (fun _ => none) := ⟨gn, fun b o e => gk b o (Heap.of_hide e), Nat.le_of_eq (Heap.hide_size ..)⟩
  have N0 : News (s.heap.hide aAsk) s.heap.objs.size H [(s.heap.objs.size + 3, cell0), (s.heap.objs.size + 2, cell0), (s.heap.objs.size + 1, cell0), (aAsk, oA)] := by
    intro p hp
    rcases List.mem_cons.mp hp with rfl | hp
    · exact ⟨g3, neN (by dsimp only; omega), fresh _ (by dsimp only; omega)⟩
    rcases List.mem_cons.mp hp with rfl | hp
    · exact ⟨g2, neN (by dsimp only; omega), fresh _ (by dsimp only; omega)⟩
    rcases List.mem_cons.mp hp with rfl | hp
    · exact ⟨g1, neN (by dsimp only; omega), fresh _ (by dsimp only; omega)⟩
    rw [List.mem_singleton.mp hp]
    exact ⟨gk _ _ hA, neN (by dsimp only; omega), Heap.hide_self _ _⟩
  clear g1 g2 g3 gk gn
  refine wpAny_bind ?_
  rw [List.forIn_cons]
  show wpAny (model prog w) A.in1 ((storeName (envX qual scope s.heap.objs.size f (.ref c') ((Str.ofString "lacking", s.heap.objs.size + 1 + 2) :: (Str.ofString "ends", s.heap.objs.size + 1 + 1) :: (Str.ofString "level", s.heap.objs.size + 1) :: cl)) (Str.ofString "rank") r >>= fun _ => pure (ForInStep.yield PUnit.unit)) >>= _) _ _ _
  refine wpAny_bind (wpAny_bind (storeX_L F0 N0 (fun H1 F1 N1 => wpAny_pure ?_) hk k1))
  dsimp only
  rw [List.forIn_cons]
  show wpAny (model prog w) A.in1 ((storeName (envX qual scope s.heap.objs.size f (.ref c') ((Str.ofString "lacking", s.heap.objs.size + 1 + 2) :: (Str.ofString "ends", s.heap.objs.size + 1 + 1) :: (Str.ofString "level", s.heap.objs.size + 1) :: cl)) (Str.ofString "level") lv >>= fun _ => pure (ForInStep.yield PUnit.unit)) >>= _) _ _ _
  have U1 : UpdF (s.heap.objs.size + 1) cell0 [(s.heap.objs.size + 3, cell0), (s.heap.objs.size + 2, cell0), (s.heap.objs.size + 1, cell0), (aAsk, oA)] (fun o' => [(s.heap.objs.size + 3, cell0), (s.heap.objs.size + 2, cell0), (s.heap.objs.size + 1, o'), (aAsk, oA)]) :=
    .tail (neN (by dsimp only; omega)) (.tail (neN (by dsimp only; omega)) (.head (by intro p hp; rw [List.mem_singleton.mp hp]; exact neN (by dsimp only; omega))))
  refine wpAny_bind (wpAny_bind (storeX_C F1 N1 rfl U1 rfl (fun H2 o1 F2 N2 d1 => wpAny_pure ?_) hk k2))
  dsimp only
  rw [List.forIn_cons]
  show wpAny (model prog w) A.in1 ((storeName (envX qual scope s.heap.objs.size f (.ref c') ((Str.ofString "lacking", s.heap.objs.size + 1 + 2) :: (Str.ofString "ends", s.heap.objs.size + 1 + 1) :: (Str.ofString "level", s.heap.objs.size + 1) :: cl)) (Str.ofString "ends") en >>= fun _ => pure (ForInStep.yield PUnit.unit)) >>= _) _ _ _
  have U2 : UpdF (s.heap.objs.size + 2) cell0 [(s.heap.objs.size + 3, cell0), (s.heap.objs.size + 2, cell0), (s.heap.objs.size + 1, o1), (aAsk, oA)] (fun o' => [(s.heap.objs.size + 3, cell0), (s.heap.objs.size + 2, o'), (s.heap.objs.size + 1, o1), (aAsk, oA)]) :=
    .tail (neN (by dsimp only; omega)) (.head (by
      intro p hp
      rcases List.mem_cons.mp hp with rfl | hp
      · exact neN (by dsimp only; omega)
      · rw [List.mem_singleton.mp hp]; exact neN (by dsimp only; omega)))
  refine wpAny_bind (wpAny_bind (storeX_C F2 N2 rfl U2 rfl (fun H3 o2 F3 N3 d2 => wpAny_pure ?_) hk k3))
  dsimp only
  rw [List.forIn_nil]
  refine wpAny_pure (wpAny_pure ⟨?_, codeAny_func ?_⟩)
  · have hl : (s.heap.hide aAsk).NoLimit := hlim'
    exact hl.keeps F3.keep
  · exact wpAny_mono (h H3 _ o1 o2 cell0 F3 N3 d1 d2 rfl hlt) (fun _ _ x => x) (fun _ _ x => x.elim)
end
section
variable {prog : Program} {w : World} {A : Around} {E : Value → Shared → Prop} {s : Shared} {h₀ : Heap} {L : Addr} {m : Str → Option Value} {news : List (Addr × Obj)}
/-- a slice of a list with both ends in it, whatever stands ahead of the bracket -/
theorem sliceL {value slice : Expr} {l : Addr} {vs : List Value} {a b : Int} {ta tb : Tok} {Q : Value → Shared → Prop}
    (F : Fr h₀ L s.heap m) (N : News h₀ L s.heap news) (hl : s.heap.IsList l vs.toArray) (ha : 0 ≤ a) (ha' : a ≤ vs.length) (hb : 0 ≤ b) (hb' : b ≤ vs.length)
    (h : ∀ D h', Fr h₀ L h' m → News h₀ L h' ((D, listOf ((vs.drop a.toNat).take (b.toNat - a.toNat)).toArray 0) :: news) → (∀ p ∈ news, p.1 < D) → Q (.ref D) { s with heap := h' })
    (hsz : vs.length ≤ sizeLine)
    (hs : subscripted slice false (.ref l) (.ref s.heap.objs.size) = operate [.ref s.heap.objs.size, .ref l] (getItem (.ref l) (.ref s.heap.objs.size)) := by with_unfolding_all rfl) :
    wpAny (model prog w) A (subscriptTail value slice (.ref l) (.ref s.heap.objs.size)) Q E { s with heap := s.heap.push { cls := .type "slice", data := .fields #[.int a ta, .int b tb, .none] } } := by
  refine tail_any (Heap.IsList.typeIs (s := { s with heap := s.heap.push { cls := .type "slice", data := .fields #[.int a ta, .int b tb, .none] } }) (hl.push _)) list_getitem_lookup
    (wpAny_getItem_list_slice (hl.push _) (Heap.IsSliceOf.new ..) (.int _ _) (.int _ _) .none (by simp) ?_ (by rw [List.size_toArray]; exact hsz)) hs
  have e : slicePick vs.toArray (some a) (some b) none = ((vs.drop a.toNat).take (b.toNat - a.toNat)).toArray := by
    rw [slicePick_plain]
    simp only [Option.elim, List.size_toArray]
    rw [clipAt_in ha ha', clipAt_in hb hb']
  rw [e]
  have N1 := News.push (F.push { cls := .type "slice", data := .fields #[.int a ta, .int b tb, .none] }) (N.grown fun _ _ e => Heap.get?_push_of_some _ e) (listOf ((vs.drop a.toNat).take (b.toNat - a.toNat)).toArray 0)
  exact h _ _ ((F.push _).push _) N1 fun p hp => by rw [Heap.size_push]; exact Nat.lt_succ_of_lt (Heap.lt_size (N p hp).1)
end
abbrev lookObj (cL cA cB cR c' : Addr) (doc pm ctv : Value) : Obj :=
  fnMade "_law_look" "_law_asker.<locals>._law_look" (paramsOf lookS) (bodyOf lookS) (scopeOf lookS) [(Str.ofString "rows", cR), (Str.ofString "before", cB), (Str.ofString "asked", cA), (Str.ofString "_law_look", cL)] doc pm c' ctv
/-- where the lookup's things lie -/
structure Lk where
  look : Addr
  cL : Addr
  cA : Addr
  cB : Addr
  cR : Addr
  code : Addr
  ask : Addr
  bef : Addr
  rows : Addr
  b : Nat → Addr
  r3 : Addr
  doc : Value
  pm : Value
  ctv : Value
structure LookMem (st : List (Addr × Obj)) (k : Lk) (C : Nat → List Int) (ts : List Addr) : Prop where
  fn : (k.look, lookObj k.cL k.cA k.cB k.cR k.code k.doc k.pm k.ctv) ∈ st
  code : ∃ oc vs t, (k.code, oc) ∈ st ∧ oc.data = .fields vs ∧ vs[1]? = some (.str "_law_asker.<locals>._law_look" t)
  cL : ∃ o, (k.cL, o) ∈ st ∧ o.data = .cell (some (.ref k.look))
  cA : ∃ o, (k.cA, o) ∈ st ∧ o.data = .cell (some (.ref k.ask))
  cB : ∃ o, (k.cB, o) ∈ st ∧ o.data = .cell (some (.ref k.bef))
  cR : ∃ o, (k.cR, o) ∈ st ∧ o.data = .cell (some (.ref k.rows))
  bef : ∃ n, (k.bef, listOf #[.ref (k.b 0), .ref (k.b 1), .ref (k.b 2)] n) ∈ st
  rows : ∃ n x0 x1 x2, (k.rows, listOf #[x0, x1, x2, .ref k.r3] n) ∈ st
  b : ∀ i, i < 3 → ∃ vals n, (k.b i, listOf (List.toArray vals) n) ∈ st ∧ IntsAre vals (C i) ∧ (C i).length = 6
  r3 : ∃ n, (k.r3, listOf (ts.map Value.ref).toArray n) ∈ st ∧ ts.length = 5
/-- what stands beside one place -/
def Stat (a : Addr) (st : List (Addr × Obj)) (h : Heap) : Prop := ∀ p ∈ st, p.1 ≠ a ∧ h.get? p.1 = some p.2
def Und (h₀ : Heap) (a : Addr) (h : Heap) : Prop := ∀ b o, h₀.get? b = some o → b ≠ a ∧ h.get? b = some o
def ExtB (a : Addr) (h h' : Heap) : Prop := ∀ b o, b ≠ a → h.get? b = some o → h'.get? b = some o
theorem Stat.ext {a : Addr} {st : List (Addr × Obj)} {h h' : Heap} (x : Stat a st h) (e : ExtB a h h') : Stat a st h' := fun p hp => ⟨(x p hp).1, e _ _ (x p hp).1 (x p hp).2⟩
theorem Und.ext {h₀ : Heap} {a : Addr} {h h' : Heap} (x : Und h₀ a h) (e : ExtB a h h') : Und h₀ a h' := fun b o q => ⟨(x b o q).1, e _ _ (x b o q).1 (x b o q).2⟩
theorem Stat.hid {a : Addr} {st : List (Addr × Obj)} {h : Heap} (x : Stat a st h) : ∀ p ∈ st, (h.hide a).get? p.1 = some p.2 := fun p hp => (Heap.hide_ne _ (x p hp).1).trans (x p hp).2
theorem Und.hid {h₀ : Heap} {a : Addr} {h : Heap} (x : Und h₀ a h) : h₀.StaysIn (h.hide a) := fun b o q => (Heap.hide_ne _ (x b o q).1).trans (x b o q).2
theorem ExtB.refl (a : Addr) (h : Heap) : ExtB a h h := fun _ _ _ e => e
theorem ExtB.trans {a : Addr} {x y z : Heap} (p : ExtB a x y) (q : ExtB a y z) : ExtB a x z := fun b o n e => q b o n (p b o n e)
theorem ExtB.of {a : Addr} {x y : Heap} (p : Ext x y) : ExtB a x y := fun b o _ e => p b o e
/-- the way of a lookup, k levels ahead of the last row -/
def sl (ts : List Addr) (a b : Int) : List Addr := (ts.drop a.toNat).take (b.toNat - a.toNat)
def inB (x : Int) : Prop := 0 ≤ x ∧ x ≤ 5
def Good (C : Nat → List Int) (ts : List Addr) : Nat → Int → Int → Int → Int → Int → Addr → Prop
  | 0, r, e0, e1, e2, e3, t => (inB e0 ∧ inB e1 ∧ inB e2 ∧ inB e3) ∧ 0 ≤ r ∧ r ≤ 1000 ∧ (sl ts e0 e1 ++ sl ts e2 e3)[r.toNat]? = some t
  | k + 1, r, e0, e1, e2, e3, t => (inB e0 ∧ inB e1 ∧ inB e2 ∧ inB e3) ∧
      let g := fun e : Int => (C (2 - k)).getD e.toNat 0
      let many := g e1 - g e0 + g e3 - g e2
      if r < many then Good C ts k r (g e0) (g e1) (g e2) (g e3) t
      else Good C ts k (r - many) ((C (2 - k)).getD 5 0 + e0 - g e0) ((C (2 - k)).getD 5 0 + e1 - g e1) ((C (2 - k)).getD 5 0 + e2 - g e2) ((C (2 - k)).getD 5 0 + e3 - g e3) t
section
variable {prog : Program} {w : World} {A : Around} {E : Value → Shared → Prop} {s : Shared} {h₀ : Heap} {L : Addr} {m : Str → Option Value}
theorem itemB {value slice : Expr} {l : Addr} {vs : List Value} {n : Nat} {k : Int} {u : Tok} {v : Value} {Q : Value → Shared → Prop} (F : Fr h₀ L s.heap m) (hl : h₀.get? l = some (listOf (List.toArray vs) n)) (h0 : 0 ≤ k) (hhi : k < 2 ^ 63) (hx : vs[k.toNat]? = some v) (h : Q v s)
    (hs : subscripted slice false (.ref l) (.int k u) = operate [.ref l, .int k u] (getItem (.ref l) (.int k u)) := by with_unfolding_all rfl) :
    wpAny (model prog w) A (subscriptTail value slice (.ref l) (.int k u)) Q E s := itemL ⟨_, F.keep _ _ hl, rfl, _, rfl⟩ h0 hhi hx h hs
end
section
variable {M : Model} {A : Around} {E : Value → Shared → Prop} {s : Shared} {h₀ : Heap} {L C c : Addr} {m m₂ : Str → Option Value} {news : List (Addr × Obj)} {scope : Scope} {cl : List (Str × Addr)} {env : Env} {x : Str} {pos : Pos} {v : Value} {o oC : Obj} {Q : Value → Shared → Prop}
/-- within a comprehension: a free name whose cell stands from before -/
theorem name_freeC (F : Fr h₀ L s.heap m) (hc : cl.lookup x = some c) (hv : h₀.get? c = some o) (hd : o.data = .cell (some v)) (h : Q v s)
    (hk : (compEnvC scope cl C env).scope.kind = .function := by rfl) (hx : (compEnvC scope cl C env).kindOf x = some .free := by rfl) (hb : (x == ("__debug__" : Str)) = false := by decide) (hn : (x == ("__classdict__" : Str)) = false := by decide) :
    wpAny M A (eval (.Name x pos) (compEnvC scope cl C env)) Q E s := wpAny_Name (wpAny_loadName_free hk hx hc ⟨_, F.keep _ _ hv, hd⟩ h hn) hb
/-- .. whose cell stands in the ledger -/
theorem name_freeN (N : News h₀ L s.heap news) (hc : cl.lookup x = some c) (hm : (c, o) ∈ news) (hd : o.data = .cell (some v)) (h : Q v s)
    (hk : (compEnvC scope cl C env).scope.kind = .function := by rfl) (hx : (compEnvC scope cl C env).kindOf x = some .free := by rfl) (hb : (x == ("__debug__" : Str)) = false := by decide) (hn : (x == ("__classdict__" : Str)) = false := by decide) :
    wpAny M A (eval (.Name x pos) (compEnvC scope cl C env)) Q E s := wpAny_Name (wpAny_loadName_free hk hx hc ⟨_, (N _ hm).1, hd⟩ h hn) hb
theorem name_ownC (N : News h₀ L s.heap news) (hm : (C, oC) ∈ news) (hC : LCg.NsObj oC m₂) (hx : m₂ x = some v) (h : Q v s)
    (hk : (compEnvC scope cl C env).scope.kind = .function := by rfl) (hl : (compEnvC scope cl C env).kindOf x = some .local := by rfl) (hd : (x == ("__debug__" : Str)) = false := by decide) :
    wpAny M A (eval (.Name x pos) (compEnvC scope cl C env)) Q E s := ldVarK (hC.ns (N _ hm).1) hx h hk hl hd
end
section
variable {prog : Program} {w : World} {A : Around} {s : Shared} {h₀ : Heap} {L : Addr} {m : Str → Option Value} {env : Env} {elt : Expr} {x : Str} {scope : Scope} {cl : List (Str × Addr)} {S : List (Addr × Obj) → Prop} {P : Nat → Value → Prop} {Fin : List Value → List (Addr × Obj) → Prop} {news : List (Addr × Obj)} {val : Nat → Int} {n : Nat}
/-- a comprehension's turns, each an int, the ledger untouched -/
theorem compInts (hS : S news)
    (step : ∀ i v I oI C oC D m₂ h tk (E' Q : Value → Shared → Prop) ys, i < n → P i v → LCg.NsObj oC m₂ → m₂ x = some v → Fr h₀ L h m → News h₀ L h ((I, oI) :: (C, oC) :: (D, LCg.lst ys) :: news) →
      (∀ h' tk' t, Fr h₀ L h' m → News h₀ L h' ((I, oI) :: (C, oC) :: (D, LCg.lst ys) :: news) → Q (.int (val i) t) { s with heap := h', toks := tk' }) → wpAny (model prog w) A (eval elt (compEnvC scope cl C env)) Q E' { s with heap := h, toks := tk })
    (fin : ∀ ys, IntsAre ys ((List.range n).map val) → Fin ys news) :
    ∀ j i ys, i + j = n → IntsAre ys ((List.range i).map val) → LCg.CompRest prog w A h₀ L m env elt x scope cl s S P Fin j i ys news
  | 0, i, ys, hij, hi => LCg.CompRest.zero (fin ys (by rw [← hij]; exact hi))
  | j + 1, i, ys, hij, hi => LCg.CompRest.succ fun v I oI C oC D m₂ h tk E' hP hC hx F N off hne =>
      step i v I oI C oC D m₂ h tk E' _ ys (by omega) hP hC hx F N fun h' tk' t F' N' =>
        LCg.CompEnd.intro F' N' news (fun _ hp => hp) off hS (compInts hS step fin j (i + 1) (ys ++ [.int (val i) t]) (by omega) (by
          rw [List.range_succ, List.map_append]
          exact hi.append (.cons _ _ .nil)))
end
section
variable {prog : Program} {w : World} {A : Around} {E : Value → Shared → Prop} {s : Shared} {h₀ : Heap} {L : Addr} {news : List (Addr × Obj)}
theorem itemN {value slice : Expr} {l : Addr} {vs : List Value} {n : Nat} {k : Int} {u : Tok} {v : Value} {Q : Value → Shared → Prop} (N : News h₀ L s.heap news) (hm : (l, listOf (List.toArray vs) n) ∈ news) (h0 : 0 ≤ k) (hhi : k < 2 ^ 63) (hx : vs[k.toNat]? = some v) (h : Q v s)
    (hs : subscripted slice false (.ref l) (.int k u) = operate [.ref l, .int k u] (getItem (.ref l) (.int k u)) := by with_unfolding_all rfl) :
    wpAny (model prog w) A (subscriptTail value slice (.ref l) (.int k u)) Q E s := itemL ⟨_, (N _ hm).1, rfl, _, rfl⟩ h0 hhi hx h hs
end
theorem ints4 {ys : List Value} {a b c d : Int} (h : IntsAre ys [a, b, c, d]) : ∃ t0 t1 t2 t3, ys = [.int a t0, .int b t1, .int c t2, .int d t3] := by
  obtain ⟨t0, _, rfl, h1⟩ := h.cons_inv
  obtain ⟨t1, _, rfl, h2⟩ := h1.cons_inv
  obtain ⟨t2, _, rfl, h3⟩ := h2.cons_inv
  obtain ⟨t3, _, rfl, h4⟩ := h3.cons_inv
  rw [h4.nil_inv]
  exact ⟨t0, t1, t2, t3, rfl⟩
end Mine
/-! part Lk1 -/
namespace Mine
local macro_rules | `(tactic| walk_at "eval Name") => `(tactic| k_dflt (refine name_free (by assumption) (by rfl) (by assumption) (by assumption) ?_))
local macro_rules | `(tactic| walk_at "subscriptTail") => `(tactic| k_dflt (refine itemB (by assumption) (by assumption) (by decide) (by decide) (by rfl) ?_))
theorem look_3 {w : World} {A : Around} {s : Shared} {R : Result → Shared → Prop} {h₀ : Heap} {mg mb : Str → Option Value} {p : Program} {loose : List Str} {mean : ExcName → Option Value}
    (X₀ : (hd.heap_39 w.params).In h₀) (T₀ : Top p loose mean mg mb h₀) {st : List (Addr × Obj)} {k : Lk} {C : Nat → List Int} {ts : List Addr} (M : LookMem st k C ts) (U : Und h₀ k.ask s.heap) (S : Stat k.ask st s.heap)
    {xs : List Value} {nx : Nat} (hA : s.heap.get? k.ask = some (listOf (List.toArray xs) nx)) (hxs : xs.length ≤ 1000)
    {en t : Addr} {r e0 e1 e2 e3 : Int} {tr tl t0 t1 t2 t3 : Tok} {ne : Nat} (hen : en ≠ k.ask) (hen' : s.heap.get? en = some (listOf #[.int e0 t0, .int e1 t1, .int e2 t2, .int e3 t3] ne))
    (hg : Good C ts 0 r e0 e1 e2 e3 t) (hroom : A.depth < recursionLimit) (hh : A.handled = none)
    (hQ : ∀ h' tk' v n, ExtB k.ask s.heap h' → h'.get? k.ask = some (listOf (List.toArray (xs ++ [.int 3 v])) n) → R (.ok (.ret (.ref t))) { s with heap := h', toks := tk' }) :
    codeAny (model PG w) A (.call (.ref k.look) ⟨[.int r tr], [(Str.ofString "level", .int 3 tl), (Str.ofString "ends", .ref en)]⟩) R s := by
  have Sh := S.hid
  have X := X₀.keeps U.hid
  have T := T₀.keeps U.hid
  have hen2 : (s.heap.hide k.ask).get? en = _ := (Heap.hide_ne _ hen).trans hen'
  obtain ⟨oc, cvs, ct, hc1, hc2, hc3⟩ := M.code
  obtain ⟨oL, hL, dL⟩ := M.cL
  obtain ⟨oA, hcA, dA⟩ := M.cA
  obtain ⟨oB, hcB, dB⟩ := M.cB
  obtain ⟨oR, hcR, dR⟩ := M.cR
  obtain ⟨nr, x0, x1, x2, hrows⟩ := M.rows
  obtain ⟨n3, hr3, hts⟩ := M.r3
  have fL := Sh _ hL
  have fA := Sh _ hcA
  have fB := Sh _ hcB
  have fR := Sh _ hcR
  have fRows := Sh _ hrows
  have fR3 := Sh _ hr3
  dsimp only at fRows fR3
  dsimp only at fL fA fB fR
  obtain ⟨⟨i0, i1, i2, i3⟩, hr0, hr1000, hres⟩ := hg
  have hfn := (S _ M.fn).2
  simp only [lookObj, lookS, askS, paramsOf, scopeOf, bodyOf, stAt, PySem.Challenge.pw_kl0408_01, List.getElem?_cons_succ, List.getElem?_cons_zero] at hfn
  refine enter_look hfn ((T₀.nolimit).keeps fun b o e => (U b o e).2) T.nolimit ⟨_, _, _, _, rfl, (S _ hc1).2, hc2, hc3⟩ hroom hA rfl (fun _ => rfl) (fun _ => rfl) rfl rfl rfl rfl rfl rfl (fun h₁ tk o1 o2 o3 F' N' d1 d2 d3 hlt => ?_)
  have hlt' : @LT.lt Nat _ k.ask s.heap.objs.size := hlt
  have len5 : (ts.map Value.ref).length = 5 := by rw [List.length_map, hts]
  have sz5 : (ts.map Value.ref).length ≤ sizeLine := by rw [len5]; decide
  iterate 41 walk1
  rename Fr _ _ _ _ => F2
  rename News _ _ _ _ => N2
  refine sliceL (s := ⟨_, _, _, _, _⟩) F2 N2 ⟨_, F2.keep _ _ fR3, rfl, _, rfl⟩ i0.1 (by rw [len5]; exact i0.2) i1.1 (by rw [len5]; exact i1.2) (fun D1 h2 F3 N3 lD1 => ?_) sz5
  clear F2 N2
  iterate 17 walk1
  refine sliceL (s := ⟨_, _, _, _, _⟩) F3 N3 ⟨_, F3.keep _ _ fR3, rfl, _, rfl⟩ i2.1 (by rw [len5]; exact i2.2) i3.1 (by rw [len5]; exact i3.2) (fun D2 h3 F4 N4 lD2 => ?_) sz5
  clear F3 N3
  refine add_arrays F4 N4 ⟨_, (N4 _ (List.mem_cons_of_mem _ List.mem_cons_self)).1, rfl, _, rfl⟩ ⟨_, (N4 _ List.mem_cons_self).1, rfl, _, rfl⟩ (fun h4 F5 N5 => ?_) ?_
  rotate_left
  · simp only [List.size_toArray, List.length_take, List.length_drop]
    have : sizeLine ≥ 10 := by decide
    omega
  clear F4 N4
  walk1
  have hx : ((((ts.map Value.ref).drop e0.toNat).take (e1.toNat - e0.toNat)).toArray.toList ++ (((ts.map Value.ref).drop e2.toNat).take (e3.toNat - e2.toNat)).toArray.toList)[r.toNat]? = some (.ref t) := by
    have e := congrArg (Option.map Value.ref) hres
    rw [← List.getElem?_map] at e
    simpa [sl, List.map_drop, List.map_take] using e
  refine itemL ⟨_, (N5 _ List.mem_cons_self).1, rfl, _, rfl⟩ hr0 (by omega) hx ?_
  have kA := (N5 (k.ask, _) (by repeat (first | exact List.Mem.head _ | apply List.Mem.tail))).1
  exact hQ h4 _ tl (nx + 1) (fun b o hb e => F5.keep _ _ ((Heap.hide_ne _ hb).trans e)) (kA.trans (by rw [List.push_toArray]))
end Mine
/-! part Gni -/
namespace Mine
section
variable {M : Model} {A : Around} {E : Value → Shared → Prop} {s : Shared}
theorem dictFind_none {d : Addr} {o : Obj} {es : List DictEntry} {n : Nat} {k : Str} {t : Tok} {hsh : Int} {Q : Option Nat → Shared → Prop} (ho : s.heap.get? d = some o) (hd : o.data = .dict es.toArray n)
    (h1 : es.all (fun e => isExactStrKey e.key) = true) (h2 : es.findIdx? (fun e => e.key.isStr k) = none) (h : Q none s) : wpAny M A (dictFind d (.str k t) hsh) Q E s := by
  unfold dictFind
  refine wpAny_holding (wpAny_bind (wpAny_dictEntries ho hd ?_))
  dsimp only
  rw [if_pos (by rw [List.all_toArray]; exact h1)]
  unfold foundByValue
  rw [List.findIdx?_toArray, h2]
  exact wpAny_pure h
theorem nsSet_new {d : Addr} {es : List DictEntry} {n : Nat} {k : Str} {v : Value} {Q : Unit → Shared → Prop} (ho : s.heap.get? d = some (dictOf es n))
    (hs : ∀ e ∈ es, e.key.isStr k = false) (hr : es.any (·.refKey) = false)
    (h : ∀ h', h'.get? d = some (dictOf (es ++ [⟨PyData.keyHash M.w.params k, .str k s.toks, v⟩]) (n + 1)) → Heap.SameBut d s.heap h' → Q () { s with heap := h', toks := s.toks + 1 }) : wpAny M A (nsSet d k v) Q E s := by
  have e1 : es.any (·.key.isStr k) = false := by
    cases q : es.any (·.key.isStr k) with
    | false => rfl
    | true => obtain ⟨e, he, z⟩ := List.any_eq_true.mp q; rw [hs e he] at z; cases z
  have e : Obj.putName k (PyData.keyHash M.w.params k) (.str k s.toks) v (dictOf es n) = dictOf (es ++ [⟨PyData.keyHash M.w.params k, .str k s.toks, v⟩]) (n + 1) := by
    rw [putName_dict, putL_new hs]
    show dictOf _ (if es.any (·.key.isStr k) then n else n + 1) = _
    rw [e1, if_neg Bool.false_ne_true]
  have c : aRefKeyMayBeTheName k es.toArray = false := by
    rw [aRefKeyMayBeTheName_at, ← Array.any_toList, ← Array.any_toList]
    show (!es.any (·.key.isStr k) && es.any (·.refKey)) = false
    rw [hr, Bool.and_false]
  unfold nsSet
  refine wpAny_bind (wpAny_bind (wpAny_askSetting (wpAny_pure (wpAny_bind (wpAny_mkText (wpAny_bind (wpAny_loadPart ho ?_)))))))
  dsimp only
  rw [c]
  have hf : (Obj.putName k (PyData.keyHash M.w.params k) (.str k s.toks) v (dictOf es n)).isFreed = false := by rw [e]; rfl
  exact wpAny_updatePart ho (h _ ((Heap.get?_update_self (Obj.putName k (PyData.keyHash M.w.params k) (.str k s.toks) v) ho hf).trans (congrArg some e)) (Heap.SameBut.update ..))
/-- two names, put into an empty dict -/
abbrev kw2 (P : Params) (k1 k2 : Str) (t1 t2 : Tok) (v1 v2 : Value) : List DictEntry := [⟨PyData.keyHash P k1, .str k1 t1, v1⟩, ⟨PyData.keyHash P k2, .str k2 t2, v2⟩]
theorem dictPut_new {d : Addr} {es : List DictEntry} {n : Nat} {k : Str} {t : Tok} {hsh : Int} {v : Value} {Q : Unit → Shared → Prop} (ho : s.heap.get? d = some (dictOf es n))
    (h1 : es.all (fun e => isExactStrKey e.key) = true) (h2 : es.findIdx? (fun e => e.key.isStr k) = none) (hz : es.length ≤ 10)
    (h : ∀ h', h'.get? d = some (dictOf (es ++ [⟨hsh, .str k t, v⟩]) (n + 1)) → Heap.SameBut d s.heap h' → Q () { s with heap := h' }) : wpAny M A (dictPut d hsh (.str k t) v) Q E s := by
  unfold dictPut
  refine wpAny_bind (dictFind_none ho rfl h1 h2 ?_)
  dsimp only
  refine wpAny_updateDictKeys ho rfl ?_ ?_
  · refine h _ ?_ (Heap.SameBut.update ..)
    rw [Heap.get?_update_self _ ho (by rfl)]
    simp [Obj.mapDictKeys]
  · rw [List.size_toArray]
    have : sizeLine ≥ 10 := by decide
    omega
/-- `**d` of a dict of two names: what is merged -/
theorem merge2 {d D : Addr} {k1 k2 : Str} {t1 t2 : Tok} {n : Nat} {v1 v2 : Value} {Q : Unit → Shared → Prop} (hD : s.heap.get? D = some (dictOf (kw2 M.w.params k1 k2 t1 t2 v1 v2) n)) (hd : s.heap.get? d = some (dictOf [] 0)) (hne : D ≠ d) (hm : (D == sysModules) = false)
    (hk : (k1 == k2) = false)
    (h : ∀ h', h'.get? d = some (dictOf (kw2 M.w.params k1 k2 t1 t2 v1 v2) 2) → Heap.SameBut d s.heap h' → Q () { s with heap := h' }) : wpAny M A (mergeMapping d (.ref D) true) Q E s := by
  have hT : s.TypeIs (.ref D) "dict" := ⟨_, hD, rfl⟩
  unfold mergeMapping
  refine wpAny_bind (wpAny_isInstance (U := "dict") hT (b := true) (by rw [isSubtype_type]; kernel_rfl) ?_)
  simp only [if_true]
  refine wpAny_bind (wpAny_specialOf hT PySem.F.slot_dict_iter.lookup (wpAny_bind (wpAny_pure ?_)))
  simp only [beq_self_eq_true]
  rw [if_neg (by rw [hm]; decide)]
  refine wpAny_bind (wpAny_dictEntries hd rfl ?_)
  simp only [List.isEmpty_toArray, List.isEmpty_nil, if_true]
  refine wpAny_bind (wpAny_dictEntries hD rfl ?_)
  have hr : List.range (kw2 M.w.params k1 k2 t1 t2 v1 v2).toArray.size = [0, 1] := rfl
  simp only [List.forIn_toArray, List.forIn_cons, List.forIn_nil, pure_bind]
  refine wpAny_bind (wpAny_dictEntries hD rfl (wpAny_bind (wpAny_dictEpoch hD rfl ?_)))
  rw [hr]
  simp only [List.forIn_cons, List.forIn_nil, bind_assoc]
  refine wpAny_bind (wpAny_dictEntries hD rfl ?_)
  simp only [List.getElem?_toArray, List.getElem?_cons_zero, List.getElem?_cons_succ]
  refine wpAny_bind (wpAny_bind (wpAny_holding (wpAny_bind (dictFind_none hd rfl rfl rfl ?_))))
  simp only [Option.isSome_none, Bool.false_eq_true, if_false]
  refine dictPut_new hd rfl rfl (by decide) fun h1 g1 sb1 => ?_
  have hD1 := (sb1.2 D hne).trans hD
  refine wpAny_bind (wpAny_dictEpoch hD1 rfl ?_)
  simp only [bne_self_eq_false, Bool.false_eq_true, if_false]
  refine wpAny_pure ?_
  simp only [List.nil_append, Nat.zero_add] at g1
  simp only [bind_assoc]
  refine wpAny_bind (wpAny_dictEntries hD1 rfl ?_)
  simp only [List.getElem?_toArray, List.getElem?_cons_zero, List.getElem?_cons_succ]
  have hk' : List.findIdx? (fun e => e.key.isStr k2) [(⟨PyData.keyHash M.w.params k1, .str k1 t1, v1⟩ : DictEntry)] = none := by
    show (if (k1 == k2) = true then some 0 else none) = none
    rw [hk]; rfl
  refine wpAny_bind (wpAny_bind (wpAny_holding (wpAny_bind (dictFind_none g1 rfl rfl hk' ?_))))
  simp only [Option.isSome_none, Bool.false_eq_true, if_false]
  refine dictPut_new g1 rfl hk' (by show 1 ≤ 10; decide) fun h2 g2 sb2 => ?_
  have hD2 := (sb2.2 D hne).trans hD1
  refine wpAny_bind (wpAny_dictEpoch hD2 rfl ?_)
  simp only [bne_self_eq_false, Bool.false_eq_true, if_false]
  refine wpAny_pure ?_
  refine wpAny_bind (wpAny_pure (wpAny_pure ?_))
  exact h h2 g2 ⟨sb2.1.trans sb1.1, fun b hb => (sb2.2 b hb).trans (sb1.2 b hb)⟩
/-- `f(v, **d)`: the keywords -/
theorem merged2 {f : Value} {x : Sem Value} {D : Addr} {k1 k2 : Str} {t1 t2 : Tok} {n : Nat} {v1 v2 : Value} {Q : Addr → Shared → Prop}
    (hk : (k1 == k2) = false) (hm : (D == sysModules) = false)
    (hx : ∀ h' (s' : Shared), s' = { s with heap := h' } → Ext s.heap h' → (s.heap.objs.size < h'.objs.size) → ∀ Q' : Value → Shared → Prop, s'.heap.get? D = some (dictOf (kw2 M.w.params k1 k2 t1 t2 v1 v2) n) → Q' (.ref D) s' → wpAny M A x Q' E s')
    (hD : s.heap.get? D = some (dictOf (kw2 M.w.params k1 k2 t1 t2 v1 v2) n))
    (h : ∀ d h', h'.get? d = some (dictOf (kw2 M.w.params k1 k2 t1 t2 v1 v2) 2) → Ext s.heap h' → Q d { s with heap := h' }) : wpAny M A (mergedKeywords f [(none, x)]) Q E s := by
  unfold mergedKeywords
  refine wpAny_bind (wpAny_alloc ?_)
  refine wpAny_bind (wpAny_holding (wpAny_bind ?_))
  rw [List.forIn_cons]
  have hDn : D ≠ s.heap.objs.size := Nat.ne_of_lt (Heap.lt_size hD)
  have hD' : (s.heap.push { cls := .type "dict", data := .dict #[] }).get? D = some (dictOf (kw2 M.w.params k1 k2 t1 t2 v1 v2) n) := Heap.get?_push_of_some _ hD
  refine wpAny_bind (wpAny_bind (wpAny_pure ?_))
  refine wpAny_bind (hx _ _ rfl (fun _ _ e => Heap.get?_push_of_some _ e) (by rw [Heap.size_push]; exact Nat.lt_succ_self _) _ hD' ?_)
  refine wpAny_bind (wpAny_onRaise (wpAny_holding (wpAny_tryCatch (wpAny_onRaise (merge2 hD' (Heap.get?_push_size _ rfl) hDn hm hk fun h2 g2 sb2 => ?_)))))
  refine wpAny_pure ?_
  show wpAny M A (forIn [] ([] : List (Str × Sem Value)) _) _ _ _
  rw [List.forIn_nil]
  refine wpAny_pure ?_
  refine wpAny_pure ?_
  refine wpAny_pure ?_
  exact h _ h2 g2 fun b o e => (sb2.2 b (Nat.ne_of_lt (Heap.lt_size e))).trans (Heap.get?_push_of_some _ e)
/-- .. and what the call takes of them -/
theorem keywords2 {f : Value} {d : Addr} {k1 k2 : Str} {t1 t2 : Tok} {n : Nat} {v1 v2 : Value} {Q : List (Str × Value) → Shared → Prop}
    (hd : s.heap.get? d = some (dictOf (kw2 M.w.params k1 k2 t1 t2 v1 v2) n)) (h : Q [(k1, v1), (k2, v2)] s) : wpAny M A (keywordsIn f d) Q E s := by
  unfold keywordsIn
  refine wpAny_bind (wpAny_dictEntries hd rfl ?_)
  rw [← Array.forIn_toList]
  show wpAny M A (do let kw ← forIn (kw2 M.w.params k1 k2 t1 t2 v1 v2) _ _; _) Q E s
  refine wpAny_bind ?_
  rw [List.forIn_cons]
  refine wpAny_bind (wpAny_pure ?_)
  dsimp only
  rw [List.forIn_cons]
  refine wpAny_bind (wpAny_pure ?_)
  dsimp only
  rw [List.forIn_nil]
  exact wpAny_pure (wpAny_pure h)
theorem evalArgs_star {f : Value} {x y : Sem Value} {Q : Args → Shared → Prop}
    (h : wpAny M A x (fun v s₁ => wpAny M A (mergedKeywords f [(none, y)]) (fun d s₂ => wpAny M A (keywordsIn f d) (fun kw s₃ => Q ⟨[v], kw⟩ s₃) E s₂) E s₁) E s) : wpAny M A (evalArgs f true [(false, x)] [(none, y)]) Q E s := by
  unfold evalArgs
  show wpAny M A (spliced [(false, x)] >>= _) Q E s
  refine wpAny_bind (Calls.spliced_cons (wpAny_mono h (fun v s₁ h₁ => ?_) fun _ _ e => e))
  refine Calls.spliced_nil ?_
  refine wpAny_bind (wpAny_pure (wpAny_holding ?_))
  show wpAny M A (mergedKeywords f [(none, y)] >>= _) Q E s₁
  refine wpAny_bind (wpAny_mono h₁ (fun d s₂ h₂ => ?_) fun _ _ e => e)
  refine wpAny_bind (wpAny_pure ?_)
  refine wpAny_bind (wpAny_holding (wpAny_mono h₂ (fun kw s₃ h₃ => wpAny_pure h₃) fun _ _ e => e))
theorem callWith_star {pos : Pos} {f : Addr} {fo : Obj} {fd : FuncData} {x y : Sem Value} {Q : Value → Shared → Prop} (hd : fo.data = .func fd)
    (h : wpAny M A (evalArgs (.ref f) true [(false, x)] [(none, y)]) (fun a s₁ => s₁.heap.get? f = some fo ∧ wpAny M A (call (.ref f) a.pos a.kw) Q E s₁) E s) : wpAny M A (callWith pos (.ref f) [] [(false, x)] [(none, y)]) Q E s := by
  unfold callWith
  refine wpAny_bind (wpAny_holding (wpAny_mono h (fun a s₁ h₁ => wpAny_bind (wpAny_standAt ?_)) fun _ _ x => x))
  obtain ⟨c, d, dt, sl⟩ := fo
  cases hd
  have L : Looks M s₁.heap (keeperOf (.ref f)) Keeper.frame := (Looks.ld (part := none) h₁.1).andThen .now
  refine wpAny_bind (L.here ?_)
  refine wpAny_bind (wpAny_mono (show wpAny M A (callMarked starredCall (.ref f) ([] ++ a.pos) a.kw) Q E s₁ from ?_) (fun r s₂ hr => wpAny_bind (wpAny_holding (wpAny_point (wpAny_pure hr)))) fun _ _ x => x)
  unfold callMarked
  exact Calls.wpAny_keep h₁.2
end
theorem wp_peekA {α : Type} {K : Frag} {M : Model} {A : Around} {E : Value → Shared → Prop} {Q : α → Shared → Prop} {s : Shared} {o : Obj} (X : K.In s.heap) :
    ∀ (t : Sem α) (g : Addr → Sem α), peekA K ⟨M.prog, M.w.params⟩ t = some (o, g) → wpAny M A (g s.heap.objs.size) Q E { s with heap := s.heap.push o } → wpAny M A t Q E s := by
  intro t
  induction t with
  | rule _ k ih => intro g e q Γ p hΓ; exact ih () g e q Γ p hΓ
  | point _ k ih => intro g e q Γ p hΓ; exact ih () g e q Γ p hΓ
  | ask k ih => intro g e q Γ p hΓ; exact ih _ g e q Γ p hΓ
  | load a _ k ih =>
    intro g e q Γ p hΓ
    simp only [peekA] at e
    split at e
    · rename_i ob ho; exact ⟨ob, X _ _ ho, ih ob g e q Γ p hΓ⟩
    · cases e
  | alloc ob k _ =>
    intro g e q
    have e : some (ob, k) = some (o, g) := e
    obtain ⟨e1, e2⟩ := Prod.mk.inj (Option.some.inj e)
    subst e1
    subst e2
    show wpAny M A (alloc ob >>= k) Q E s
    exact wpAny_bind (wpAny_alloc q)
  | _ => intro g e; cases e
/-- a call of a def that takes two keywords into its own dict; the ground is all but one place -/
theorem enter_kw {prog : Program} {w : World} {A : Around} {s : Shared} {R : Result → Shared → Prop} {K : Frag} {mg mb : Str → Option Value} {p : Program} {loose : List Str} {mean : ExcName → Option Value} {oc : Value} {od : Option Addr} {osl : Array (Option Value)}
    {name qual : Str} {params : Arguments} {body : List Stmt} {scope : Scope} {dV kV doc pm cdv ct : Value} {an : Option Addr} {f a : Addr} {args : Args} {front : List (Str × Value)} {nm k1 k2 : Str} {v1 v2 : Value} {oA : Obj} {g₁ : Addr → Sem (List (Str × Value))}
    (X : K.In s.heap) (T : Top p loose mean mg mb s.heap) (ho : K.lookup f = some ⟨oc, od, .func (fnX name qual params body scope [] dV kV doc pm an cdv ct), osl⟩) (hcd : codeIn K cdv qual = true) (hroom : A.depth < recursionLimit)
    (hp : peekA K ⟨prog, w.params⟩ (bindArgs (fnX name qual params body scope [] dV kV doc pm an cdv ct) args) = some (dictOf [] 0, g₁))
    (hk₁ : ∀ D, g₁ D = (forIn [(k1, v1), (k2, v2)] PUnit.unit (fun x _ => (nsSet D x.1 x.2 >>= fun _ => pure (ForInStep.yield PUnit.unit))) >>= fun _ => pure (front ++ [(nm, Value.ref D)])))
    (hkk : (k1 == k2) = false) (hloc : ∀ D, ∀ y ∈ front ++ [(nm, Value.ref D)], scope.names.lookup y.1 = some .local)
    (hco : scope.isCoroutine = false) (hgen : scope.isGenerator = false) (hk : scope.kind = .function) (hcell : ∀ x ∈ scope.names, x.2 ≠ .cell) (hA : s.heap.get? a = some oA)
    (h : ∀ h₁ tk t1 t2, Fr (s.heap.hide a) (s.heap.objs.size + 1) h₁ (fun y => (front ++ [(nm, Value.ref s.heap.objs.size)]).reverse.lookup y) →
      News (s.heap.hide a) (s.heap.objs.size + 1) h₁ [(s.heap.objs.size, dictOf (kw2 w.params k1 k2 t1 t2 v1 v2) 2), (a, oA)] → a < s.heap.objs.size →
      wpAny (model prog w) (A.deeper (envX qual scope (s.heap.objs.size + 1) f cdv [])) (execs body (envX qual scope (s.heap.objs.size + 1) f cdv []))
        (fun fl s' => R (.ok (.ret (match fl with | .ret v => v | _ => .none))) s') (fun _ _ => False) { s with heap := h₁, toks := tk }) :
    codeAny (model prog w) A (.call (.ref f) args) R s := by
  have hlt : @LT.lt Nat _ a s.heap.objs.size := Heap.lt_size hA
  refine codeAny_call_function (fd := fnX name qual params body scope [] dV kV doc pm an cdv ct) (body := body) hroom (X _ _ ho) rfl hco hgen rfl (codeRec_of X hcd) ?_
  refine wp_peekA (o := dictOf [] 0) X _ g₁ hp ?_
  rw [hk₁]
  refine wpAny_bind ?_
  have g0 : (s.heap.push (dictOf [] 0)).get? s.heap.objs.size = some (dictOf [] 0) := Heap.get?_push_size _ rfl
  rw [List.forIn_cons]
  refine wpAny_bind (wpAny_bind (nsSet_new (s := { s with heap := s.heap.push (dictOf [] 0) }) g0 (fun _ he => nomatch he) rfl fun h1 g1 sb1 => wpAny_pure ?_))
  dsimp only
  rw [List.forIn_cons]
  refine wpAny_bind (wpAny_bind (nsSet_new (s := { s with heap := h1, toks := s.toks + 1 }) g1 (fun e he => by rw [List.nil_append] at he; rw [List.mem_singleton.mp he]; exact hkk) rfl fun h2 g2 sb2 => wpAny_pure ?_))
  dsimp only
  rw [List.forIn_nil]
  refine wpAny_pure (wpAny_pure ?_)
  have ext : ∀ b o, s.heap.get? b = some o → h2.get? b = some o := fun b o e =>
    have hb := Nat.ne_of_lt (Heap.lt_size e)
    (sb2.2 b hb).trans ((sb1.2 b hb).trans (Heap.get?_push_of_some _ e))
  have hsz : h2.objs.size = s.heap.objs.size + 1 := by rw [sb2.1, sb1.1]; exact Heap.size_push ..
  refine wpAny_newFunctionEnv (s := { s with heap := h2, toks := s.toks + 1 + 1 }) hcell (hloc _) (fun h₁ hns hsb => ⟨(T.nolimit.keeps ext).fresh _ hsb, codeAny_func ?_⟩) hk
  have hk2 : ∀ b o, h2.get? b = some o → h₁.get? b = some o := fun b o e => hsb.extBut b o (Nat.ne_of_lt (Heap.lt_size e)) (Heap.get?_push_of_some _ e)
  have fresh : ∀ b : Addr, @LE.le Nat _ s.heap.objs.size b → (s.heap.hide a).get? b = none := fun b hb => by
    cases e : (s.heap.hide a).get? b with
    | none => rfl
    | some o => exact absurd (Heap.lt_size (Heap.of_hide e)) (Nat.not_lt.mpr hb)
  dsimp only at hns
  rw [hsz] at hns
  have z := h h₁ (s.toks + 1 + 1 + (front ++ [(nm, Value.ref s.heap.objs.size)]).length) s.toks (s.toks + 1) ⟨hns, fun b o e => hk2 b o (ext b o (Heap.of_hide e)), by rw [Heap.hide_size]; exact Nat.le_succ _⟩ (fun q hq => ?_) hlt
  · show wpAny (model prog w) (A.deeper (envX qual scope h2.objs.size f cdv [])) (execs body (envX qual scope h2.objs.size f cdv [])) _ _ _
    rw [hsz]
    exact wpAny_mono z (fun _ _ x => x) (fun _ _ x => x.elim)
  · rcases List.mem_cons.mp hq with rfl | hq
    · exact ⟨hk2 _ _ g2, neN (by dsimp only; omega), fresh _ (Nat.le_refl _)⟩
    · rw [List.mem_singleton.mp hq]
      exact ⟨hk2 _ _ (ext _ _ hA), neN (by dsimp only; omega), Heap.hide_self _ _⟩
theorem gni_core {w : World} {A : Around} {s : Shared} {R : Result → Shared → Prop} {h₀ : Heap} {mg mb : Str → Option Value} {p : Program} {loose : List Str} {mean : ExcName → Option Value}
    (X₀ : (hd.heap_39 w.params).In h₀) (T₀ : Top p loose mean mg mb h₀) {a lk : Addr} (U : Und h₀ a s.heap) {lo oA : Obj} {fd : FuncData} (hlk : s.heap.get? lk = some lo) (hlo : lo.data = .func fd) (hne : lk ≠ a) (hA : s.heap.get? a = some oA)
    {v0 v1 v2 : Value} (PP : Value → Obj → Prop) (hroom : A.depth + 1 < recursionLimit) (hh : A.handled = none)
    (hcall : ∀ (A' : Around) h' tk' R', A'.depth = A.depth + 1 → A'.handled = none → Ext s.heap h' → (∀ v oA' h'' tk'', ExtB a h' h'' → h''.get? a = some oA' → PP v oA' → R' (.ok (.ret v)) { s with heap := h'', toks := tk'' }) →
      codeAny (model PG w) A' (.call (.ref lk) ⟨[v0], [(Str.ofString "level", v1), (Str.ofString "ends", v2)]⟩) R' { s with heap := h', toks := tk' })
    (hQ : ∀ v oA' h'' tk'' t n, ExtB a s.heap h'' → h''.get? a = some oA' → PP v oA' → h''.get? t = some (tup [v, v] n) → s.heap.get? t = none → R (.ok (.ret (.ref t))) { s with heap := h'', toks := tk'' }) :
    codeAny (model PG w) A (.call (.ref 51) ⟨[v0, .ref lk], [(Str.ofString "level", v1), (Str.ofString "ends", v2)]⟩) R s := by
  have X : (hd.heap_39 w.params).In s.heap := X₀.keeps fun b o e => (U b o e).2
  have T := T₀.keeps fun b o e => (U b o e).2
  refine' enter_kw (a := a) (k1 := Str.ofString "level") (k2 := Str.ofString "ends") (front := [(Str.ofString "name_index", v0), (Str.ofString "get_name", .ref lk)]) (nm := Str.ofString "extrainfo") X T ?k ?c (by omega) ?p ?g ?q ?l ?c2 ?c3 ?c4 ?c5 hA (fun h₁ tk t1 t2 F' N' hlt => ?_)
  case k => k_is
  case c => k_is
  case p => exact rfl
  case g => exact fun _ => rfl
  case q => decide
  case l => exact fun _ => locs rfl
  case c2 => rfl
  case c3 => rfl
  case c4 => rfl
  case c5 => decide
  have Xh := X₀.keeps U.hid
  have Th := T₀.keeps U.hid
  iterate 12 walk1
  simp only [backTo, starEach, backToKw, keywordEach, List.map_cons, List.map_nil, Bool.false_eq_true, if_false]
  refine callWith_star (fo := lo) hlo (evalArgs_star ?_)
  walk1
  rename Fr _ _ _ _ => F2
  rename News _ _ _ _ => N2
  have hD := (N2 _ List.mem_cons_self).1
  have hlt2 : @LT.lt Nat _ a s.heap.objs.size := hlt
  have hlkh : (s.heap.hide a).get? lk = some lo := (Heap.hide_ne _ hne).trans hlk
  refine merged2 (D := s.heap.objs.size) (n := 2) (by decide) (Nat.ne_of_gt (modules_low T.nolimit) |> beq_eq_false_iff_ne.mpr) (fun h2 s2 e2 x2 _ Q2 g2 q2 => ?_) hD (fun d h3 g3 x3 => keywords2 g3 ⟨x3 _ _ (F2.keep _ _ hlkh), wpAny_call ?_⟩)
  · subst e2
    exact wpAny_bind (nameX_L (F2.keeps x2) rfl (wpAny_bind (wpAny_standAt (wpAny_pure q2))))
  have F3 := F2.keeps x3
  have N3 := N2.grown x3
  have x03 : Ext s.heap h3 := by
    intro b o e
    by_cases hb : b = a
    · subst hb
      have z := (N3 _ (List.mem_cons_of_mem _ List.mem_cons_self)).1
      rw [hA] at e; cases e
      exact z
    · exact F3.keep _ _ ((Heap.hide_ne _ hb).trans e)
  refine hcall _ h3 _ _ rfl hh x03 fun v oA' h4 tk4 x4 g4 pp => ?_
  have F4 : Fr (s.heap.hide a) (s.heap.objs.size + 1) h4 _ := ⟨F3.ns.at' fun o e => x4 _ _ (neN (by omega)) e, fun b o e => x4 _ _ (fun q => by rw [q, Heap.hide_self] at e; cases e) (F3.keep b o e), F3.above⟩
  have N4 : News (s.heap.hide a) (s.heap.objs.size + 1) h4 [(a, oA')] := by
    intro q hq
    rw [List.mem_singleton.mp hq]
    exact ⟨g4, neN (by dsimp only; omega), Heap.hide_self _ _⟩
  clear F2 N2 F3 N3
  iterate 11 walk1
  rename Fr _ _ _ _ => F5
  rename News _ _ _ _ => N5
  have k1 := N5 _ List.mem_cons_self
  have k2 := N5 _ (List.mem_cons_of_mem _ List.mem_cons_self)
  rename a < _ => la
  refine hQ v oA' _ _ _ _ (fun b o hb e => F5.keep _ _ ((Heap.hide_ne _ hb).trans e)) k2.1 pp k1.1 ?_
  have z := k1.2.2
  dsimp only at z
  have la2 := neN (Nat.ne_of_gt la)
  rwa [Heap.hide_ne _ la2] at z
end Mine
/-! part Lk2 -/
namespace Mine
local macro_rules | `(tactic| walk_at "eval Name") => `(tactic| k_dflt (refine name_free (by assumption) (by rfl) (by assumption) (by assumption) ?_))
local macro_rules | `(tactic| walk_at "subscriptTail") => `(tactic| k_dflt (refine itemB (by assumption) (by assumption) (by decide) (by decide) (by rfl) ?_))
local macro_rules | `(tactic| walk_at "subscriptTail") => `(tactic| k_dflt (refine itemN (by assumption) (by k_mem) (by decide) (by decide) (by rfl) ?_))
def levels : Nat → List Int
  | 0 => [3]
  | k + 1 => (2 - (k : Int)) :: levels k
def LookP (w : World) (h₀ : Heap) (st : List (Addr × Obj)) (k : Lk) (C : Nat → List Int) (ts : List Addr) (f : Nat) : Prop :=
  ∀ {A : Around} {s : Shared} {R : Result → Shared → Prop} {xs : List Value} {nx : Nat} {en t : Addr} {r e0 e1 e2 e3 : Int} {tr tl t0 t1 t2 t3 : Tok} {ne : Nat},
    Und h₀ k.ask s.heap → Stat k.ask st s.heap → s.heap.get? k.ask = some (listOf (List.toArray xs) nx) → xs.length + f ≤ 1000 →
    en ≠ k.ask → s.heap.get? en = some (listOf #[.int e0 t0, .int e1 t1, .int e2 t2, .int e3 t3] ne) → Good C ts f r e0 e1 e2 e3 t → A.depth + 2 * f < recursionLimit → A.handled = none →
    (∀ h' tk' vals n, ExtB k.ask s.heap h' → h'.get? k.ask = some (listOf (List.toArray (xs ++ vals)) n) → IntsAre vals (levels f) → R (.ok (.ret (.ref t))) { s with heap := h', toks := tk' }) →
    codeAny (model PG w) A (.call (.ref k.look) ⟨[.int r tr], [(Str.ofString "level", .int (3 - (f : Int)) tl), (Str.ofString "ends", .ref en)]⟩) R s
theorem look_base {w : World} {h₀ : Heap} {mg mb : Str → Option Value} {p : Program} {loose : List Str} {mean : ExcName → Option Value}
    (X₀ : (hd.heap_39 w.params).In h₀) (T₀ : Top p loose mean mg mb h₀) {st : List (Addr × Obj)} {k : Lk} {C : Nat → List Int} {ts : List Addr} (M : LookMem st k C ts) : LookP w h₀ st k C ts 0 := by
  intro A s R xs nx en t r e0 e1 e2 e3 tr tl t0 t1 t2 t3 ne U S hA hxs hen hen' hg hroom hh hQ
  exact look_3 X₀ T₀ M U S hA (by omega) hen hen' hg hroom hh fun h' tk' v n e g => hQ h' tk' [.int 3 v] n e g (.cons _ _ .nil)
theorem get4 {v0 v1 v2 v3 : Int} {t0 t1 t2 t3 : Tok} : ∀ {i : Nat}, i < 4 → ∃ tk, [Value.int v0 t0, .int v1 t1, .int v2 t2, .int v3 t3][i]? = some (.int ([v0, v1, v2, v3].getD i 0) tk)
  | 0, _ => ⟨t0, rfl⟩
  | 1, _ => ⟨t1, rfl⟩
  | 2, _ => ⟨t2, rfl⟩
  | 3, _ => ⟨t3, rfl⟩
theorem get4g {v0 v1 v2 v3 : Int} (g : Int → Int) {t0 t1 t2 t3 : Tok} : ∀ {i : Nat}, i < 4 → ∃ tk, [Value.int (g v0) t0, .int (g v1) t1, .int (g v2) t2, .int (g v3) t3][i]? = some (.int (g ([v0, v1, v2, v3].getD i 0)) tk)
  | 0, _ => ⟨t0, rfl⟩
  | 1, _ => ⟨t1, rfl⟩
  | 2, _ => ⟨t2, rfl⟩
  | 3, _ => ⟨t3, rfl⟩
theorem look_step {w : World} {h₀ : Heap} {mg mb : Str → Option Value} {p : Program} {loose : List Str} {mean : ExcName → Option Value}
    (X₀ : (hd.heap_39 w.params).In h₀) (T₀ : Top p loose mean mg mb h₀) {st : List (Addr × Obj)} {k : Lk} {C : Nat → List Int} {ts : List Addr} (M : LookMem st k C ts) (f : Nat) (hf : f < 3) (ih : LookP w h₀ st k C ts f) : LookP w h₀ st k C ts (f + 1) := by
  intro A s R xs nx en t r e0 e1 e2 e3 tr tl t0 t1 t2 t3 ne U S hA hxs hen hen' hg hroom hh hQ
  have Sh := S.hid
  have X := X₀.keeps U.hid
  have T := T₀.keeps U.hid
  have hen2 : (s.heap.hide k.ask).get? en = _ := (Heap.hide_ne _ hen).trans hen'
  obtain ⟨oc, cvs, ct, hc1, hc2, hc3⟩ := M.code
  obtain ⟨oL, hL, dL⟩ := M.cL
  obtain ⟨oA, hcA, dA⟩ := M.cA
  obtain ⟨oB, hcB, dB⟩ := M.cB
  obtain ⟨nb, hbef⟩ := M.bef
  obtain ⟨vb, nvb, hvb, hvi, hvl⟩ := M.b (2 - f) (by omega)
  have fL := Sh _ hL
  have fA := Sh _ hcA
  have fB := Sh _ hcB
  have fBef := Sh _ hbef
  have fVb := Sh _ hvb
  dsimp only at fL fA fB fBef fVb
  obtain ⟨⟨i0, i1, i2, i3⟩, hres⟩ := hg
  have hfn := (S _ M.fn).2
  simp only [lookObj, lookS, askS, paramsOf, scopeOf, bodyOf, stAt, PySem.Challenge.pw_kl0408_01, List.getElem?_cons_succ, List.getElem?_cons_zero] at hfn
  refine enter_look hfn ((T₀.nolimit).keeps fun b o e => (U b o e).2) T.nolimit ⟨_, _, _, _, rfl, (S _ hc1).2, hc2, hc3⟩ (by omega) hA rfl (fun _ => rfl) (fun _ => rfl) rfl rfl rfl rfl rfl rfl (fun h₁ tk o1 o2 o3 F' N' d1 d2 d3 hlt => ?_)
  have hlt' : @LT.lt Nat _ k.ask s.heap.objs.size := hlt
  obtain ⟨lv, hlv⟩ : ∃ lv : Int, lv = 3 - ((f + 1 : Nat) : Int) := ⟨_, rfl⟩
  rw [← hlv] at d1
  have hlv3 : lv ≠ 3 := by omega
  have hlv0 : 0 ≤ lv := by omega
  have hlv2 : lv ≤ 2 := by omega
  iterate 18 walk1
  refine ite_neg (by simpa using hlv3) ?_
  iterate 4 walk1
  rename Fr _ _ _ _ => F2
  rename News _ _ _ _ => N2
  have hbl : [(Value.ref (k.b 0)), .ref (k.b 1), .ref (k.b 2)][lv.toNat]? = some (.ref (k.b (2 - f))) := by
    have e : lv.toNat = 2 - f := by omega
    rw [e]
    match f, hf with
    | 0, _ => rfl
    | 1, _ => rfl
    | 2, _ => rfl
  have hlv63 : lv < 2 ^ 63 := by omega
  have hget : ∀ e, inB e → ∃ tk, vb[e.toNat]? = some (.int ((C (2 - f)).getD e.toNat 0) tk) := by
    intro e he
    have hlt : e.toNat < (C (2 - f)).length := by rw [hvl]; have := he.2; omega
    have q : (C (2 - f))[e.toNat]? = some ((C (2 - f)).getD e.toNat 0) := by simp [List.getD, hlt]
    exact hvi.get _ _ q
  have hE : ∀ (i : Nat) (v : Value), i < 4 → #[Value.int e0 t0, .int e1 t1, .int e2 t2, .int e3 t3][i]? = some v → ∃ tk, v = .int ([e0, e1, e2, e3].getD i 0) tk := by
    intro i v hi hv
    match i, hi with
    | 0, _ => exact ⟨t0, (Option.some.inj hv).symm⟩
    | 1, _ => exact ⟨t1, (Option.some.inj hv).symm⟩
    | 2, _ => exact ⟨t2, (Option.some.inj hv).symm⟩
    | 3, _ => exact ⟨t3, (Option.some.inj hv).symm⟩
  have hEB : ∀ i : Nat, i < 4 → inB ([e0, e1, e2, e3].getD i 0) := by
    intro i hi
    match i, hi with
    | 0, _ => exact i0
    | 1, _ => exact i1
    | 2, _ => exact i2
    | 3, _ => exact i3
  refine LCg.ListComp_U (F₀ := F2) (by with_unfolding_all rfl) (by decide) rfl (by decide) rfl ?_
  walk1
  refine LCg.CompSrc.base hh F2 N2 ⟨_, hen2, rfl, _, rfl⟩ (by show 4 ≤ sizeLine; decide) fun g => ?_
  refine compInts (n := 4) (val := fun i => (C (2 - f)).getD ([e0, e1, e2, e3].getD i 0).toNat 0) (.inl ⟨_, hen2, rfl, _, rfl⟩) ?_ ?_ 4 0 [] rfl .nil
  · intro i v I oI Cc oC D m₂ h2 tk2 E2 Q2 ys hi hv hC hx F3 N3 hq
    obtain ⟨te, rfl⟩ := hE i v hi hv
    iterate 2 walk1
    refine name_freeC F3 rfl fB dB ?_
    refine lcf_cell N3 rfl (List.mem_cons_of_mem _ (List.mem_cons_of_mem _ (List.mem_cons_of_mem _ (by repeat (first | exact List.Mem.head _ | apply List.Mem.tail))))) d1 ?_ rfl rfl
    refine itemB F3 fBef hlv0 hlv63 hbl ?_
    refine name_ownC N3 (List.mem_cons_of_mem _ List.mem_cons_self) hC hx ?_
    obtain ⟨tg, hg⟩ := hget _ (hEB i hi)
    refine itemB F3 fVb (hEB i hi).1 (by have := (hEB i hi).2; omega) hg ?_
    exact hq _ _ _ F3 N3
  · intro ys hys D h2 tk2 F3 N3 off
    clear F2 N2
    have U1 : UpdF (s.heap.objs.size + 3) o3 _ (fun o' => [(D, LCg.lst ys), (s.heap.objs.size + 3, o'), (s.heap.objs.size + 2, o2), (s.heap.objs.size + 1, o1), (k.ask, listOf (xs.toArray.push (.int lv tl)) (nx + 1))]) :=
      .tail (Ne.symm off.1) (.head (by
        intro q hq
        rcases List.mem_cons.mp hq with rfl | hq
        · exact neN (by dsimp only; omega)
        rcases List.mem_cons.mp hq with rfl | hq
        · exact neN (by dsimp only; omega)
        rw [List.mem_singleton.mp hq]
        exact neN (by dsimp only; omega)))
    refine storeX_C F3 N3 rfl U1 d3 (fun h4 o3' F4 N4 d3' => ?_)
    clear F3 N3
    obtain ⟨s0, s1, s2, s3, rfl⟩ := ints4 (a := (C (2 - f)).getD e0.toNat 0) (b := (C (2 - f)).getD e1.toNat 0) (c := (C (2 - f)).getD e2.toNat 0) (d := (C (2 - f)).getD e3.toNat 0) hys
    clear hys
    iterate 33 walk1
    · rename r < _ => hlt3
      have hlt4 : r < (C (2 - f)).getD e1.toNat 0 - (C (2 - f)).getD e0.toNat 0 + (C (2 - f)).getD e3.toNat 0 - (C (2 - f)).getD e2.toNat 0 := hlt3
      have hgood : Good C ts f r ((C (2 - f)).getD e0.toNat 0) ((C (2 - f)).getD e1.toNat 0) ((C (2 - f)).getD e2.toNat 0) ((C (2 - f)).getD e3.toNat 0) t := by have z := hres; dsimp only at z; rw [if_pos hlt4] at z; exact z
      iterate 20 walk1
      rename Fr _ _ _ _ => F5
      rename News _ _ _ _ => N5
      have xB : ExtB k.ask s.heap _ := fun b o hb e => F5.keep b o ((Heap.hide_ne _ hb).trans e)
      have kD := (N5 _ List.mem_cons_self).1
      have kA := (N5 (k.ask, _) (by repeat (first | exact List.Mem.head _ | apply List.Mem.tail))).1
      have hDa : D ≠ k.ask := Ne.symm off.2.2.2.1
      have ke := (S.ext xB) _ M.fn
      refine wpAny_call (gni_core (a := k.ask) X₀ T₀ (U.ext xB) ke.2 rfl ke.1 kA (fun v o => v = .ref t ∧ ∃ vals n, o = listOf (List.toArray ((xs ++ [.int lv tl]) ++ vals)) n ∧ IntsAre vals (levels f)) (by show A.depth + 1 + 1 < recursionLimit; omega) hh ?_ ?_)
      · intro A' h' tk' R' hd' hh' x' hc
        have e : lv + 1 = 3 - (f : Int) := by omega
        rw [e]
        have xB' := xB.trans (ExtB.of x')
        refine ih (U.ext xB') (S.ext xB') (x' _ _ kA) (by simp; omega) hDa (x' _ _ kD) hgood (by rw [hd']; show A.depth + 1 + 1 + 2 * f < recursionLimit; omega) hh' fun h2 tk2 vals n x2 g2 hi => ?_
        exact hc (.ref t) _ h2 tk2 x2 g2 ⟨rfl, vals, n, by simp, hi⟩
      · intro v oA' h'' tk'' tu n x'' g'' pp gt fr
        obtain ⟨rfl, vals, n2, rfl, hi⟩ := pp
        walk1
        refine item_tupleT (isTup_of gt) (by decide) (by decide) rfl rfl ?_
        refine hQ h'' _ (.int lv tl :: vals) n2 (xB.trans x'') (g''.trans (by rw [List.append_assoc]; rfl)) ?_
        have e : lv = 2 - (f : Int) := by omega
        show IntsAre _ ((2 - (f : Int)) :: levels f)
        rw [← e]
        exact .cons _ _ hi
    · rename ¬ r < _ => hge3
      have hge4 : ¬ r < (C (2 - f)).getD e1.toNat 0 - (C (2 - f)).getD e0.toNat 0 + (C (2 - f)).getD e3.toNat 0 - (C (2 - f)).getD e2.toNat 0 := hge3
      have hgood : Good C ts f (r - ((C (2 - f)).getD e1.toNat 0 - (C (2 - f)).getD e0.toNat 0 + (C (2 - f)).getD e3.toNat 0 - (C (2 - f)).getD e2.toNat 0)) ((C (2 - f)).getD 5 0 + e0 - (C (2 - f)).getD e0.toNat 0) ((C (2 - f)).getD 5 0 + e1 - (C (2 - f)).getD e1.toNat 0) ((C (2 - f)).getD 5 0 + e2 - (C (2 - f)).getD e2.toNat 0) ((C (2 - f)).getD 5 0 + e3 - (C (2 - f)).getD e3.toNat 0) t := by have z := hres; dsimp only at z; rw [if_neg hge4] at z; exact z
      iterate 10 walk1
      rename Fr _ _ _ _ => F5
      rename News _ _ _ _ => N5
      rename IsRange _ _ _ _ _ _ _ _ => hrg
      refine LCg.CompSrc.range hh F5 N5 hrg (by decide) (n := 4) rfl (by decide) fun g => ?_
      refine compInts (n := 4) (val := fun i => (C (2 - f)).getD 5 0 + [e0, e1, e2, e3].getD i 0 - (C (2 - f)).getD ([e0, e1, e2, e3].getD i 0).toNat 0) trivial ?_ ?_ 4 0 [] rfl .nil
      · intro i v I oI Cc oC D2 m₂ h2 tk2 E2 Q2 ys hi hv hC hx F3 N3 hq
        obtain ⟨ti, rfl⟩ := hv
        have h5 : (C (2 - f))[5]? = some ((C (2 - f)).getD 5 0) := by simp [List.getD, hvl]
        obtain ⟨t5, hg5⟩ := hvi.get _ _ h5
        have hi0 : (0 : Int) ≤ 0 + (i : Int) := by omega
        have hi63 : (0 : Int) + (i : Int) < 2 ^ 63 := by omega
        have hit : ((0 : Int) + (i : Int)).toNat = i := by omega
        obtain ⟨tt, hee⟩ : ∃ tk, [Value.int e0 t0, .int e1 t1, .int e2 t2, .int e3 t3][((0 : Int) + (i : Int)).toNat]? = some (.int ([e0, e1, e2, e3].getD i 0) tk) := by
          rw [hit]; exact get4 hi
        obtain ⟨tD, hDD⟩ : ∃ tk, [Value.int ((C (2 - f)).getD e0.toNat 0) s0, .int ((C (2 - f)).getD e1.toNat 0) s1, .int ((C (2 - f)).getD e2.toNat 0) s2, .int ((C (2 - f)).getD e3.toNat 0) s3][((0 : Int) + (i : Int)).toNat]? = some (.int ((C (2 - f)).getD ([e0, e1, e2, e3].getD i 0).toNat 0) tk) := by
          rw [hit]; exact get4g (fun e => (C (2 - f)).getD e.toNat 0) hi
        iterate 4 walk1
        refine name_freeC F3 rfl fB dB ?_
        refine lcf_cell N3 rfl (by repeat (first | exact List.Mem.head _ | apply List.Mem.tail)) d1 ?_ rfl rfl
        refine itemB F3 fBef hlv0 hlv63 hbl ?_
        walk1
        refine itemB F3 fVb (by decide) (by decide) hg5 ?_
        walk1
        refine lcf_cell N3 rfl (by repeat (first | exact List.Mem.head _ | apply List.Mem.tail)) d2 ?_ rfl rfl
        refine name_ownC N3 (List.mem_cons_of_mem _ List.mem_cons_self) hC hx ?_
        refine itemB F3 hen2 hi0 hi63 hee ?_
        walk1
        walk1
        refine lcf_cell N3 rfl (by repeat (first | exact List.Mem.head _ | apply List.Mem.tail)) d3' ?_ rfl rfl
        refine name_ownC N3 (List.mem_cons_of_mem _ List.mem_cons_self) hC hx ?_
        refine itemN N3 (by repeat (first | exact List.Mem.head _ | apply List.Mem.tail)) hi0 hi63 hDD ?_
        walk1
        exact hq _ _ _ F3 N3
      · intro ys hys D2 h2 tk2 F3 N3 off
        clear F5 N5
        obtain ⟨w0, w1, w2, w3, rfl⟩ := ints4 (a := (C (2 - f)).getD 5 0 + e0 - (C (2 - f)).getD e0.toNat 0) (b := (C (2 - f)).getD 5 0 + e1 - (C (2 - f)).getD e1.toNat 0) (c := (C (2 - f)).getD 5 0 + e2 - (C (2 - f)).getD e2.toNat 0) (d := (C (2 - f)).getD 5 0 + e3 - (C (2 - f)).getD e3.toNat 0) hys
        clear hys
        iterate 23 walk1
        rename Fr _ _ _ _ => F5
        rename News _ _ _ _ => N5
        have xB : ExtB k.ask s.heap _ := fun b o hb e => F5.keep b o ((Heap.hide_ne _ hb).trans e)
        have kD := (N5 _ List.mem_cons_self).1
        have kA := (N5 (k.ask, _) (by repeat (first | exact List.Mem.head _ | apply List.Mem.tail))).1
        have hDa : D2 ≠ k.ask := Ne.symm off.2.2.2.2.1
        have ke := (S.ext xB) _ M.fn
        refine wpAny_call (gni_core (a := k.ask) X₀ T₀ (U.ext xB) ke.2 rfl ke.1 kA (fun v o => v = .ref t ∧ ∃ vals n, o = listOf (List.toArray ((xs ++ [.int lv tl]) ++ vals)) n ∧ IntsAre vals (levels f)) (by show A.depth + 1 + 1 < recursionLimit; omega) hh ?_ ?_)
        · intro A' h' tk' R' hd' hh' x' hc
          have e : lv + 1 = 3 - (f : Int) := by omega
          rw [e]
          have xB' := xB.trans (ExtB.of x')
          refine ih (U.ext xB') (S.ext xB') (x' _ _ kA) (by simp; omega) hDa (x' _ _ kD) hgood (by rw [hd']; show A.depth + 1 + 1 + 2 * f < recursionLimit; omega) hh' fun h2 tk2 vals n x2 g2 hi => ?_
          exact hc (.ref t) _ h2 tk2 x2 g2 ⟨rfl, vals, n, by simp, hi⟩
        · intro v oA' h'' tk'' tu n x'' g'' pp gt fr
          obtain ⟨rfl, vals, n2, rfl, hi⟩ := pp
          walk1
          refine item_tupleT (isTup_of gt) (by decide) (by decide) rfl rfl ?_
          refine hQ h'' _ (.int lv tl :: vals) n2 (xB.trans x'') (g''.trans (by rw [List.append_assoc]; rfl)) ?_
          have e : lv = 2 - (f : Int) := by omega
          show IntsAre _ ((2 - (f : Int)) :: levels f)
          rw [← e]
          exact .cons _ _ hi
theorem look_all {w : World} {h₀ : Heap} {mg mb : Str → Option Value} {p : Program} {loose : List Str} {mean : ExcName → Option Value}
    (X₀ : (hd.heap_39 w.params).In h₀) (T₀ : Top p loose mean mg mb h₀) {st : List (Addr × Obj)} {k : Lk} {C : Nat → List Int} {ts : List Addr} (M : LookMem st k C ts) : LookP w h₀ st k C ts 3 :=
  look_step X₀ T₀ M 2 (by decide) (look_step X₀ T₀ M 1 (by decide) (look_step X₀ T₀ M 0 (by decide) (look_base X₀ T₀ M)))
end Mine
/-! part Enu -/
namespace Mine
section
variable {prog : Program} {w : World} {A : Around} {E : Value → Shared → Prop} {s : Shared}
theorem nextOf_tup_item {it t : Addr} {i : Nat} {items} {x : Value} {Q : Value → Shared → Prop} (hit : IsTupIter s.heap it t i)
    (ht : IsTup s.heap t items) (hx : items[i]? = some x)
    (hQ : ∀ h', IsTupIter h' it t (i + 1) → Heap.SameBut it s.heap h' → Q x { s with heap := h' }) :
    wpAny (model prog w) A (Builtin.SmallTypes.nextOf (.ref it)) Q E s := by
  obtain ⟨o, ho, hc, hd⟩ := id hit
  obtain ⟨ol, hol, _, nl, hdl⟩ := ht
  unfold Builtin.SmallTypes.nextOf
  refine wpAny_bind (wpAny_callSpecial?_slot (name := Str.ofString "__next__") hit.typeIs slot_tupleiter_next
    (wpAny_call_entry slot_tupleiter_next hit.typeIs entry_tupleiter_next ?_ (args_tupleiter_next _)))
  show wpAny _ _ (field (.ref it) 0 >>= _) _ _ s
  refine wpAny_bind (wpAny_field ho hd (x := .ref t) rfl ?_)
  show wpAny _ _ (if (Value.ref t == Value.none) = true then _ else _) _ _ s
  rw [if_neg (show ¬ ((Value.ref t == Value.none) = true) from Bool.false_ne_true)]
  show wpAny _ _ (field (.ref it) 1 >>= _) _ _ s
  refine wpAny_bind (wpAny_field ho hd (x := .int i 0) rfl ?_)
  show wpAny _ _ (seqItems? (.ref t) >>= _) _ _ s
  refine wpAny_bind (wpAny_seqItems hol hdl ?_)
  simp only [Int.toNat_natCast, hx]
  refine wpAny_bind (wpAny_setField ho hd (by simp) (wpAny_pure ⟨x, rfl, wpAny_pure (hQ _ ?_ (Heap.SameBut.update ..))⟩))
  exact ⟨_, Heap.get?_update_self _ ho (Obj.isFreed_of_fields (Obj.data_mapFields hd _)), (Obj.cls_mapFields ..).trans hc, by
    rw [Obj.data_mapFields hd]; simp [rawInt]⟩
theorem nextOf_tup_end {it t : Addr} {i : Nat} {items} {Q : Value → Shared → Prop} (hh : A.handled = none)
    (hit : IsTupIter s.heap it t i) (ht : IsTup s.heap t items) (hx : items[i]? = none)
    (hE : ∀ h' e, Heap.ExtBut it s.heap h' → (∃ o, h'.get? e = some o ∧ o.cls = .type "StopIteration") → E (.ref e) { s with heap := h' }) : wpAny (model prog w) A (Builtin.SmallTypes.nextOf (.ref it)) Q E s := by
  obtain ⟨o, ho, hc, hd⟩ := id hit
  obtain ⟨ol, hol, _, nl, hdl⟩ := ht
  unfold Builtin.SmallTypes.nextOf
  refine wpAny_bind (wpAny_callSpecial?_slot (name := Str.ofString "__next__") hit.typeIs slot_tupleiter_next
    (wpAny_call_entry slot_tupleiter_next hit.typeIs entry_tupleiter_next ?_ (args_tupleiter_next _)))
  show wpAny _ _ (field (.ref it) 0 >>= _) _ _ s
  refine wpAny_bind (wpAny_field ho hd (x := .ref t) rfl ?_)
  show wpAny _ _ (if (Value.ref t == Value.none) = true then _ else _) _ _ s
  rw [if_neg (show ¬ ((Value.ref t == Value.none) = true) from Bool.false_ne_true)]
  show wpAny _ _ (field (.ref it) 1 >>= _) _ _ s
  refine wpAny_bind (wpAny_field ho hd (x := .int i 0) rfl ?_)
  show wpAny _ _ (seqItems? (.ref t) >>= _) _ _ s
  refine wpAny_bind (wpAny_seqItems hol hdl ?_)
  simp only [Int.toNat_natCast, hx]
  refine wpAny_bind (wpAny_rule (wpAny_bind (wpAny_setField ho hd (by simp) ?_)))
  show wpAny _ _ (newExc (.type "StopIteration") [] >>= _) _ _ _
  refine wpAny_bind ?_
  simp only [newExc, newTuple]
  refine wpAny_bind (wpAny_newObj_type ?_ (by size_fits))
  refine wpAny_bind (m := firstArgMember _ _) (wpAny_of_eq (a := Value.none) (by first | rfl | (simp only [firstArgMember]; rfl)) ?_)
  refine wpAny_newObj_type ?_ (by size_fits)
  simp only [raiseNew]
  refine wpAny_bind (wpAny_handled ?_)
  first | rw [show A.in1.handled = none from hh] | rw [hh]
  refine wpAny_bind (wpAny_pure (wpAny_throw ?_))
  exact hE _ _ (((Heap.SameBut.update ..).extBut.push _).push _) ⟨_, Heap.get?_push_size _ rfl, rfl⟩
end
theorem draws_tuple {prog : Program} {w : World} {A : Around} (hh : A.handled = none) (it l : Addr) (hne : l ≠ it) (items : Array Value) :
    Draws prog w A it [it, l] items.size (fun i v => items[i]? = some v) (fun i h => IsTupIter h it l i ∧ IsTup h l items) where
  live := fun _ _ st => let ⟨o, ho, _⟩ := st.1; ⟨o, ho⟩
  frame := fun _ _ _ st hk => ⟨let ⟨o, ho, r⟩ := st.1; ⟨o, hk it (by simp) o ho, r⟩, let ⟨o, ho, r⟩ := st.2; ⟨o, hk l (by simp) o ho, r⟩⟩
  item := fun i s Q E hi st hQ => by
    refine nextOf_tup_item st.1 st.2 (x := items[i]) (by simp [hi]) fun h' hit' hs' => ?_
    exact hQ _ h' s.toks (by simp [hi]) ⟨hit', let ⟨o, ho, r⟩ := st.2; ⟨o, hs'.extBut l o hne ho, r⟩⟩ hs'
  done := fun s Q E st hE => nextOf_tup_end hh st.1 st.2 (by simp) hE
theorem meets_enum_newT (l : Addr) (items : Array Value) (n : Nat) (dct : Option Addr) (sl : Array (Option Value)) :
    Meets (Builtin.«enumerate.__new__» ⟨[.type "enumerate", .ref l], []⟩) (fun _ R s => s.heap.get? l = some { cls := .type "tuple", dict := dct, data := .seq items n, slots := sl } ∧
      R (.ok (.ret (.ref (s.heap.push { cls := .type "tuple_iterator", data := .fields #[.ref l, .int 0 0] }).objs.size)))
        { s with heap := (s.heap.push { cls := .type "tuple_iterator", data := .fields #[.ref l, .int 0 0] }).push { cls := .type "enumerate", data := .fields #[.none, .bool false, .ref s.heap.objs.size, rawInt 0, .none, .none] } }) :=
  .of_wp fun prog w A R s h => by
    obtain ⟨hp, g, d, tk, os⟩ := s; obtain ⟨hl, h⟩ := h
    have hsub := sub_enumerate
    have hL : IsTup (Shared.heap ⟨hp, g, d, tk, os⟩) l items := ⟨_, hl, rfl, n, rfl⟩
    wp_walk using AutoSeq1.wpAny_loadPart' hL
    refine wpAny_stack_any fun st => wpAny_pure ?_
    split
    · rename_i c _ _ _ _ _
      cases (c == Value.type "enumerate")
      · wp_walk using AutoSeq1.wpAny_loadPart' hL, iter_tuple hL
        exact ⟨_, rfl, h⟩
      · wp_walk using AutoSeq1.wpAny_loadPart' hL, iter_tuple hL
        exact ⟨_, rfl, h⟩
    · wp_walk using AutoSeq1.wpAny_loadPart' hL, iter_tuple hL
      exact ⟨_, rfl, h⟩
theorem call_enum_tup {prog : Program} {w : World} {A : Around} {E : Value → Shared → Prop} {s : Shared} {l : Addr} {items : Array Value} {Q : Value → Shared → Prop} (hL : IsTup s.heap l items)
    (h : ∀ h', IsEnum h' (s.heap.objs.size + 1) s.heap.objs.size 0 .none → IsTupIter h' s.heap.objs.size l 0 → h'.objs.size = s.heap.objs.size + 2 →
      (∀ b o, s.heap.get? b = some o → h'.get? b = some o) → Q (.ref (s.heap.objs.size + 1)) { s with heap := h' }) :
    wpAny (model prog w) A (call (.type "enumerate") [.ref l]) Q E s := by
  obtain ⟨⟨c, dct, dt, sl⟩, hl, hc, n, hd⟩ := hL
  replace hc : c = .type "tuple" := hc
  replace hd : dt = .seq items n := hd
  subst hc hd
  refine callType_new F.called_enumerate (by decide) (F.typeCall_enumerate_1 _) (F.newCall_enumerate_1 _) (fun obj => F.args_object_init_2 obj _) F.entry_enumerate_new
    (meets_enum_newT l items n dct sl) ⟨hl, ?_⟩
  have hz : (s.heap.push { cls := .type "tuple_iterator", data := .fields #[.ref l, .int 0 0] }).objs.size = s.heap.objs.size + 1 := Heap.size_push ..
  show _ ∧ _
  rw [hz]
  have he : IsEnum ((s.heap.push { cls := .type "tuple_iterator", data := .fields #[.ref l, .int 0 0] }).push
      { cls := .type "enumerate", data := .fields #[.none, .bool false, .ref s.heap.objs.size, rawInt 0, .none, .none] }) (s.heap.objs.size + 1) s.heap.objs.size 0 .none := by
    have := Heap.get?_push_size (s.heap.push { cls := .type "tuple_iterator", data := .fields #[.ref l, .int 0 0] })
      (o := { cls := .type "enumerate", data := .fields #[.none, .bool false, .ref s.heap.objs.size, rawInt 0, .none, .none] }) rfl
    rw [hz] at this; exact this
  refine ⟨⟨_, he, rfl⟩, h _ he ⟨_, Heap.get?_push_of_some _ (Heap.get?_push_size _ rfl), rfl, rfl⟩ (by rw [Heap.size_push, hz]) fun b o x => Heap.get?_push_of_some _ (Heap.get?_push_of_some _ x)⟩
end Mine
/-! part Enc -/
namespace Mine
open LCg LCp
section
variable {prog : Program} {w : World} {A : Around} {E : Value → Shared → Prop} {s : Shared} {h₀ : Heap} {L : Addr} {m : Str → Option Value} {env : Env}
/-- one turn's element, of a fresh object -/
def EndT (h₀ : Heap) (L : Addr) (m : Str → Option Value) (s : Shared) (all : List (Addr × Obj)) (J : Value → Addr → Obj → Prop) (y : Value) (s' : Shared) : Prop :=
  ∃ T oT h' tk', s' = { s with heap := h', toks := tk' } ∧ Fr h₀ L h' m ∧ News h₀ L h' ((T, oT) :: all) ∧ (∀ p ∈ all, p.1 ≠ T) ∧ y = .ref T ∧ J y T oT
theorem block_T {elt iter : Expr} {x x₂ : Str} {px px₂ tp : Pos} {tk} {scope : Scope} {cl : List (Str × Addr)} {pos : Pos} {s₂ : Shared} {I : Addr} {fp wr : List Addr} {n : Nat} {Pt : Nat → Array Value → Prop} {St : Nat → Heap → Prop} {Mid : Nat → Addr → Heap → Prop} {P : Nat → Value → Prop} {news : List (Addr × Obj)}
    {J : Nat → List Value → List (Addr × Obj) → Prop} {RR : Value → Addr → Result → Shared → Prop}
    (W : WalksT prog w A I fp wr n Pt St Mid) (hPt : ∀ i vals, Pt i vals → ∃ t v, vals = #[.int (i : Int) t, v] ∧ P i v) (hsz : n ≤ sizeLine) (hlive : ∀ i h, St i h → ∀ b ∈ wr, ∃ o, h.get? b = some o)
    (hcell : ∀ y ∈ scope.names, y.2 ≠ .cell) (hkind : scope.kind = .function) (hx : scope.names.lookup x = some .local) (hx₂ : scope.names.lookup x₂ = some .local) (hxx : x ≠ x₂) (hh : A.handled = none) (hst : St 0 s₂.heap) (hfp : ∀ b ∈ fp, b < s₂.heap.objs.size)
    (F : Fr h₀ L s₂.heap m) (N : News h₀ L s₂.heap news) (hIL : L ∉ fp) (hI₀ : ∀ b ∈ wr, h₀.get? b = none) (off : ∀ p ∈ news, p.1 ∉ wr) (hJ : J 0 [] news)
    (step : ∀ i t v ys news' C oC D m₂ h tk (E' : Value → Shared → Prop), i < n → P i v → J i ys news' → NsObj oC m₂ → m₂ x = some (.int (i : Int) t) → m₂ x₂ = some v → Fr h₀ L h m → ∀ rest, (∀ p ∈ news', p ∈ rest) → News h₀ L h ((C, oC) :: (D, lst ys) :: rest) →
      wpAny (model prog w) A (eval elt (compEnvC scope cl C env)) (EndT h₀ L m { s₂ with heap := h, toks := tk } ((C, oC) :: (D, lst ys) :: rest) fun y T oT => J (i + 1) (ys ++ [y]) ((T, oT) :: news')) E' { s₂ with heap := h, toks := tk })
    (hRR : ∀ D C h tk m' ys news', Fr h₀ L h m → News h₀ L h ((D, lst ys) :: news') → h.Ns C m' → h₀.get? C = none → h₀.get? D = none → C ≠ L → D ≠ L → C ≠ D → (∀ p ∈ news', p.1 ≠ C ∧ p.1 ≠ D) → J n ys news' → RR (.ref D) C (.ok .next) { s₂ with heap := h, toks := tk }) :
    wpAny (model prog w) A (newList []) (fun acc s₃ => wpAny (model prog w) A (newFunctionEnv scope env.globals cl [] env.qual none .none (some env)) (fun cenv s₄ =>
      codeAny (model prog w) A (.compStart (.ListComp elt [⟨.Tuple [.Name x px, .Name x₂ px₂] tk tp, iter, [], 0⟩] scope pos) 0 (.ref I) acc { cenv with scope := relabel scope env }) (RR acc cenv.locals) s₄) E s₃) E s₂ := by
  refine wpAny_newObj_type (wpAny_newFunctionEnv hcell (by intro y hy; simp at hy) (fun h₁ hns₁ hsb₁ => ?_) hkind)
  dsimp only at hns₁ hsb₁ ⊢
  generalize hH2 : s₂.heap.push { cls := .type "list", dict := none, data := .seq ([] : List Value).toArray } = H2 at hns₁ hsb₁ ⊢
  have hC : H2.objs.size = s₂.heap.objs.size + 1 := by rw [← hH2, Heap.size_push]
  have hDC : s₂.heap.objs.size ≠ H2.objs.size := by rw [hC]; exact Nat.ne_of_lt (Nat.lt_succ_self _)
  have below : ∀ b, b < s₂.heap.objs.size → b ≠ H2.objs.size ∧ b ≠ s₂.heap.objs.size := fun b hb => ⟨by rw [hC]; exact Nat.ne_of_lt (Nat.lt_succ_of_lt hb), Nat.ne_of_lt hb⟩
  have hDf : s₂.heap.objs.size ∉ fp := fun hm => Nat.lt_irrefl _ (hfp _ hm)
  have hCf : H2.objs.size ∉ fp := fun hm => by have := hfp _ hm; rw [hC] at this; exact Nat.lt_irrefl _ (Nat.lt_of_succ_lt this)
  have hDw : s₂.heap.objs.size ∉ wr := fun hm => hDf (W.sub _ hm)
  have hCw : H2.objs.size ∉ wr := fun hm => hCf (W.sub _ hm)
  have old : ∀ b o, s₂.heap.get? b = some o → h₁.get? b = some o := fun b o e => hsb₁.extBut b o (below b (Heap.lt_size e)).1 (Heap.get?_push_of_some _ (hH2 ▸ Heap.get?_push_of_some _ e))
  have hacc : h₁.get? s₂.heap.objs.size = some (lst []) := hsb₁.extBut _ _ hDC (Heap.get?_push_of_some _ (hH2 ▸ Heap.get?_push_size _ rfl))
  have hst₁ : St 0 h₁ := W.frame _ _ _ hst fun b _ o e => old b o e
  have fresh : ∀ a, s₂.heap.objs.size ≤ a → s₂.heap.get? a = none := fun a ha => by
    cases e : s₂.heap.get? a with
    | none => rfl
    | some o' => exact absurd (Heap.lt_size e) (Nat.not_lt.mpr ha)
  have fresh₀ : ∀ a, s₂.heap.objs.size ≤ a → h₀.get? a = none := fun a ha => by
    cases e : h₀.get? a with
    | none => rfl
    | some o' => have := F.keep a o' e; rw [fresh a ha] at this; cases this
  have hD₀ : h₀.get? s₂.heap.objs.size = none := fresh₀ _ (Nat.le_refl _)
  have hC₀ : h₀.get? H2.objs.size = none := fresh₀ _ (by rw [hC]; exact Nat.le_succ _)
  have hLlt : L < s₂.heap.objs.size := F.ns.lt
  have hDL : s₂.heap.objs.size ≠ L := Ne.symm (below L hLlt).2
  have hCL : H2.objs.size ≠ L := Ne.symm (below L hLlt).1
  have off₀ : ∀ p ∈ news, p.1 ≠ H2.objs.size ∧ p.1 ≠ s₂.heap.objs.size ∧ p.1 ∉ wr := fun p hp => ⟨(below _ (Heap.lt_size (N p hp).1)).1, (below _ (Heap.lt_size (N p hp).1)).2, off p hp⟩
  have frw : ∀ {h h' : Heap}, Fr h₀ L h m → (∀ b o, b ∉ wr → h.get? b = some o → h'.get? b = some o) → Fr h₀ L h' m := fun F hk =>
    ⟨F.ns.at' fun o e => hk L o (fun q => hIL (W.sub _ q)) e, fun b o e => hk b o (fun hm => by rw [hI₀ b hm] at e; cases e) (F.keep b o e), F.above⟩
  have loop : ∀ s₃ : Shared, s₃ = { s₂ with heap := h₁, toks := s₂.toks + ([] : List (Str × Value)).length } →
      codeAny (model prog w) A (.compLoop (.ListComp elt [⟨.Tuple [.Name x px, .Name x₂ px₂] tk tp, iter, [], 0⟩] scope pos) 0 (.ref I) (.ref s₂.heap.objs.size) (compEnvC scope cl H2.objs.size env))
        (RR (.ref s₂.heap.objs.size) H2.objs.size) s₃ := by
    rintro s₃ rfl
    refine codeAny_compLoop_pair
      (fun k s' => ∃ h' tk i ys m' news', s' = { s₂ with heap := h', toks := tk } ∧ i ≤ n ∧ k = n + 1 - i ∧ ys.length = i ∧ St i h' ∧ Fr h₀ L h' m ∧ h'.Ns H2.objs.size m' ∧ News h₀ L h' ((s₂.heap.objs.size, lst ys) :: news') ∧
        (∀ p ∈ news', p.1 ≠ H2.objs.size ∧ p.1 ≠ s₂.heap.objs.size ∧ p.1 ∉ wr) ∧ J i ys news') ?_ (n + 1)
      ⟨h₁, _, 0, [], _, news, rfl, Nat.zero_le _, rfl, rfl, hst₁, F.keeps old, hns₁, fun p hp => ?_, off₀, hJ⟩
    · rintro k s' ⟨h', tk, i, ys, m', news', rfl, hi, rfl, hyl, hst', F', hn', N', off', J'⟩
      by_cases hlt : i < n
      · refine W.item i _ _ _ hlt hst' fun T vals h₂ tk₂ hP hTsz hTup hMid hk₂ => ?_
        obtain ⟨t, v, rfl, hPv⟩ := hPt i vals hP
        refine W.go _ _ _ i T _ _ _ hMid fun h₃ hst₃ hk₃ => ?_
        have hk : ∀ b o, b ∉ wr → h'.get? b = some o → h₃.get? b = some o := fun b o hb e => hk₃ b o hb (hk₂ b o hb e)
        have hTw := W.apart i T _ hMid
        have ht : IsTup h₃ T #[.int (i : Int) t, v] := let ⟨o, ho, r⟩ := hTup; ⟨o, hk₃ T o hTw ho, r⟩
        have F₃ := frw F' hk
        have N₃ : News h₀ L h₃ ((s₂.heap.objs.size, lst ys) :: news') := fun p hp => ⟨hk _ _ (by
          rcases List.mem_cons.mp hp with rfl | hp
          · exact hDw
          · exact (off' p hp).2.2) (N' p hp).1, (N' p hp).2⟩
        refine assign_Tuple_tuple hh ht rfl rfl fun h₅ he => ?_
        have he' : ∀ b o, h₃.get? b = some o → h₅.get? b = some o := fun b o e => he b o (Nat.ne_of_lt (Heap.lt_size e)) e
        refine assignInOrder_cons (wpAny_assign_Name (wpAny_storeName_local (lookup_relabel_local hx) ((hn'.at' fun o e => hk _ o hCw e).at' fun o e => he' _ o e) (fun h₆ hn₆ hs₆ => ?_) (by simp [compEnvC, relabel, hkind])))
        refine assignInOrder_cons (wpAny_assign_Name (wpAny_storeName_local (lookup_relabel_local hx₂) hn₆ (fun h₇ hn₇ hs₇ => ?_) (by simp [compEnvC, relabel, hkind])))
        refine assignInOrder_nil ?_
        have old3 : ∀ b o, b ≠ H2.objs.size → h₃.get? b = some o → h₇.get? b = some o := fun b o hb e => hs₇.extBut b o hb (hs₆.extBut b o hb (he' b o e))
        have hst₇ : St (i + 1) h₇ := W.frame _ _ _ hst₃ fun b hb o e => old3 b o (fun q => hCf (by rw [← q]; exact hb)) e
        obtain ⟨oC, heC, hoC⟩ := ns_obj hn₇
        have F₇ : Fr h₀ L h₇ m := (((F₃.keeps he').change hs₆ hCL hC₀).change hs₇ hCL hC₀)
        have N₇ : News h₀ L h₇ ((H2.objs.size, oC) :: (s₂.heap.objs.size, lst ys) :: news') := fun p hp => by
          rcases List.mem_cons.mp hp with rfl | hp
          · exact ⟨heC, hCL, hC₀⟩
          · have z := N₃ p hp
            refine ⟨old3 _ _ ?_ z.1, z.2⟩
            rcases List.mem_cons.mp hp with rfl | hp
            · exact hDC
            · exact (off' p hp).1
        have Nown : News h₀ L h₇ (PyProof.Rows.ownOf h₀ fp h₇) := news_ownOf hIL
        have Nall : News h₀ L h₇ ((H2.objs.size, oC) :: (s₂.heap.objs.size, lst ys) :: (news' ++ PyProof.Rows.ownOf h₀ fp h₇)) := fun p hp => by
          rcases List.mem_cons.mp hp with rfl | hp
          · exact N₇ _ List.mem_cons_self
          · rcases List.mem_cons.mp hp with rfl | hp
            · exact N₇ _ (List.mem_cons_of_mem _ List.mem_cons_self)
            · rcases List.mem_append.mp hp with hp | hp
              · exact N₇ _ (List.mem_cons_of_mem _ (List.mem_cons_of_mem _ hp))
              · exact Nown _ hp
        refine wpAny_mono (step i t v ys news' H2.objs.size oC s₂.heap.objs.size _ h₇ _ _ hlt hPv J' hoC (by simp [hxx]) (by simp) F₇ (news' ++ PyProof.Rows.ownOf h₀ fp h₇) (fun p hp => List.mem_append.mpr (.inl hp)) Nall) (fun y s₄ h₄ => ?_) fun _ _ e => e
        obtain ⟨T₈, oT, h₈, tk₈, rfl, F₈, N₈, n₈, rfl, J₈⟩ := h₄
        have zC := (N₈ (H2.objs.size, oC) (List.mem_cons_of_mem _ List.mem_cons_self)).1
        have zD := (N₈ (s₂.heap.objs.size, lst ys) (List.mem_cons_of_mem _ (List.mem_cons_of_mem _ List.mem_cons_self))).1
        have hst₈ : St (i + 1) h₈ := W.frame _ _ _ hst₇ fun b hb o e => by
          cases hn : h₀.get? b with
          | some o₀ =>
            have q := F₇.keep b o₀ hn
            rw [e] at q
            cases q
            exact F₈.keep b _ hn
          | none => exact (N₈ _ (List.mem_cons_of_mem _ (List.mem_cons_of_mem _ (List.mem_cons_of_mem _ (List.mem_append.mpr (.inr (mem_ownOf hb hn e))))))).1
        refine append_at (hsz := by show ys.toArray.size ≤ sizeLine; rw [List.size_toArray, hyl]; exact Nat.le_trans hi hsz) zD fun h₉ hs₉ hD₉ => ?_
        have offT : T₈ ≠ H2.objs.size ∧ T₈ ≠ s₂.heap.objs.size ∧ T₈ ∉ wr := by
          refine ⟨Ne.symm (n₈ _ List.mem_cons_self), Ne.symm (n₈ _ (List.mem_cons_of_mem _ List.mem_cons_self)), fun q => ?_⟩
          obtain ⟨o, e⟩ := hlive _ _ hst₇ _ q
          exact n₈ _ (List.mem_cons_of_mem _ (List.mem_cons_of_mem _ (List.mem_append.mpr (.inr (mem_ownOf (W.sub _ q) (hI₀ _ q) e))))) rfl
        refine ⟨n + 1 - (i + 1), by omega, h₉, tk₈, i + 1, ys ++ [.ref T₈], _, (T₈, oT) :: news', rfl, hlt, rfl, by rw [List.length_append, List.length_singleton, hyl], W.frame _ _ _ hst₈ fun b hb o e => hs₉.extBut b o (fun q => hDf (q ▸ hb)) e, F₈.change hs₉ hDL hD₀,
          (hoC.ns zC).sameBut hs₉ (Ne.symm hDC), fun p hp => ?_, fun p hp => ?_, J₈⟩
        · rcases List.mem_cons.mp hp with rfl | hp
          · exact ⟨hD₉.trans (congrArg some (lst_snoc ys _)), hDL, hD₀⟩
          · rcases List.mem_cons.mp hp with rfl | hp
            · have z := N₈ _ List.mem_cons_self
              exact ⟨hs₉.extBut _ _ offT.2.1 z.1, z.2⟩
            · have z := N₈ p (List.mem_cons_of_mem _ (List.mem_cons_of_mem _ (List.mem_cons_of_mem _ (List.mem_append.mpr (.inl hp)))))
              exact ⟨hs₉.extBut _ _ (off' p hp).2.1 z.1, z.2⟩
        · rcases List.mem_cons.mp hp with rfl | hp
          · exact offT
          · exact off' p hp
      · obtain rfl : i = n := Nat.le_antisymm hi (Nat.not_lt.mp hlt)
        refine W.done _ _ _ hst' fun h₂ tk₂ hk₂ => ?_
        exact hRR _ _ h₂ tk₂ _ ys news' (frw F' hk₂) (fun p hp => ⟨hk₂ _ _ (by
          rcases List.mem_cons.mp hp with rfl | hp
          · exact hDw
          · exact (off' p hp).2.2) (N' p hp).1, (N' p hp).2⟩) (hn'.at' fun o e => hk₂ _ o hCw e) hC₀ hD₀ hCL hDL (Ne.symm hDC) (fun p hp => ⟨(off' p hp).1, (off' p hp).2.1⟩) J'
    · rcases List.mem_cons.mp hp with rfl | hp
      · exact ⟨hacc, hDL, hD₀⟩
      · exact ⟨old _ _ (N p hp).1, (N p hp).2⟩
  exact codeAny_compStart_list (loop _ rfl) (W.self 0 _ _ _ hst₁ (loop _ rfl))
def EnumSrc (prog : Program) (w : World) (A : Around) (h₀ : Heap) (L : Addr) (m : Str → Option Value) (env : Env) (elt : Expr) (x x₂ y : Str) (scope : Scope) (cl : List (Str × Addr)) (Q : Flow → Shared → Prop) (xv : Value) (s₁ : Shared) : Prop :=
  ∃ (I : Addr) (fp wr : List Addr) (n : Nat) (Pt : Nat → Array Value → Prop) (St : Nat → Heap → Prop) (Mid : Nat → Addr → Heap → Prop) (P : Nat → Value → Prop) (news : List (Addr × Obj)), ∃ J : Nat → List Value → List (Addr × Obj) → Prop, xv = .ref I ∧ WalksT prog w A I fp wr n Pt St Mid ∧ (∀ i vals, Pt i vals → ∃ t v, vals = #[.int (i : Int) t, v] ∧ P i v) ∧ n ≤ sizeLine ∧ (∀ i h, St i h → ∀ b ∈ wr, ∃ o, h.get? b = some o) ∧ St 0 s₁.heap ∧ (∀ b ∈ fp, b < s₁.heap.objs.size) ∧
      Fr h₀ L s₁.heap m ∧ News h₀ L s₁.heap news ∧ L ∉ fp ∧ (∀ b ∈ wr, h₀.get? b = none) ∧ (∀ p ∈ news, p.1 ∉ wr) ∧ J 0 [] news ∧
      (∀ i t v ys news' C oC D m₂ h tk (E' : Value → Shared → Prop), i < n → P i v → J i ys news' → NsObj oC m₂ → m₂ x = some (.int (i : Int) t) → m₂ x₂ = some v → Fr h₀ L h m → ∀ rest, (∀ p ∈ news', p ∈ rest) → News h₀ L h ((C, oC) :: (D, lst ys) :: rest) →
        wpAny (model prog w) A (eval elt (compEnvC scope cl C env)) (EndT h₀ L m { s₁ with heap := h, toks := tk } ((C, oC) :: (D, lst ys) :: rest) fun y T oT => J (i + 1) (ys ++ [y]) ((T, oT) :: news')) E' { s₁ with heap := h, toks := tk }) ∧
      (∀ D ys news' h tk, Fr h₀ L h (fun z => if z = y then some (.ref D) else m z) → News h₀ L h ((D, lst ys) :: news') → (∀ p ∈ news', p.1 ≠ D) → J n ys news' → Q .next { s₁ with heap := h, toks := tk })
/-- a list made over the pairs of a counted tuple, set to a local name -/
theorem Assign_comp_enum {elt iter : Expr} {x x₂ y : Str} {px px₂ tp py : Pos} {tk} {scope : Scope} {cl : List (Str × Addr)} {pos spos : Pos} {Q : Flow → Shared → Prop} (_F₀ : Fr h₀ L s.heap m) (hLe : env.locals = L)
    (hsw : swapsWith (.ListComp elt [⟨.Tuple [.Name x px, .Name x₂ px₂] tk tp, iter, [], 0⟩] scope pos) (some (.Name y py)) spos.line env = pure true)
    (hclos : closureFor scope env = pure cl) (hcell : ∀ z ∈ scope.names, z.2 ≠ .cell) (hkind : scope.kind = .function)
    (hnames : ∀ z ∈ scope.names, z.2 = .local → scope.names.lookup z.1 = some .local) (hx : scope.names.lookup x = some .local) (hx₂ : scope.names.lookup x₂ = some .local) (hxx : x ≠ x₂)
    (hy : env.kindOf y = some .local) (hp : (env.scope.kind == .class || (env.scope.kind == .module && env.locals != env.globals)) = false) (hh : A.handled = none)
    (h : wpAny (model prog w) A (eval iter env) (EnumSrc prog w A h₀ L m env elt x x₂ y scope cl Q) E s)
    (hs : ∀ x, foldedSetIterable iter env x = pure x := by intro _; rfl) :
    wpAny (model prog w) A (exec (.Assign [.Name y py] (.ListComp elt [⟨.Tuple [.Name x px, .Name x₂ px₂] tk tp, iter, [], 0⟩] scope pos) spos) env) Q E s := by
  subst hLe
  rw [exec_Assign_Name_used _ _ _ _ hsw]
  refine wpAny_bind (wpAny_standAt (wpAny_bind ?_))
  show wpAny _ A (do let _ ← comprehension (.ListComp elt [⟨.Tuple [.Name x px, .Name x₂ px₂] tk tp, iter, [], 0⟩] scope pos) scope env _ (newList []) false (eval iter env) (some (assign (.Name y py) env))) _ _ s
  refine wpAny_bind (wpAny_mono (wpAny_comprehension_free (use := some (assign (.Name y py) env)) (Q := fun _ s' => Q .next s') rfl hs hclos hkind hnames
    (wpAny_mono h (fun xv s₁ h₁ => ?_) fun _ _ e => e)) (fun _ s' hq => wpAny_pure (wpAny_pure hq)) fun _ _ e => e)
  obtain ⟨I, fp, wr, n, Pt, St, Mid, P, news, J, rfl, W, hPt, hsz, hlive, hst, hfp, F, N, hIL, hI₀, off, hJ, step, hQ⟩ := h₁
  refine W.self 0 _ _ _ hst ?_
  refine block_T W hPt hsz hlive hcell hkind hx hx₂ hxx hh hst hfp F N hIL hI₀ off hJ step ?_
  intro D C h' tk m' ys news' F' N' hn hC₀ hD₀ hCL hDL hCD offC fin
  show wpAny _ A (assign (.Name y py) env (.ref D)) _ _ _
  refine wpAny_assign_Name (wpAny_storeName_local hy F'.ns (fun h₂ hn₂ hs₂ => ?_) hp)
  have hL₀ : h₀.get? env.locals = none := Heap.get?_none_of_le F'.above
  have F₂ : Fr h₀ env.locals h₂ (fun z => if z = y then some (.ref D) else m z) := ⟨hn₂, fun b o e => hs₂.extBut b o (fun q => by rw [q, hL₀] at e; cases e) (F'.keep b o e), F'.above⟩
  refine ⟨m', hn.sameBut hs₂ hCL, fun h'' hs'' => hQ D ys news' h'' _ (F₂.change hs'' hCL hC₀) (fun p hp => ?_) (fun p hp => (offC p hp).2) fin⟩
  have z : h₂.get? p.1 = some p.2 := hs₂.extBut _ _ (N' p hp).2.1 (N' p hp).1
  refine ⟨hs''.extBut _ _ ?_ z, (N' p hp).2⟩
  rcases List.mem_cons.mp hp with rfl | hp
  · exact Ne.symm hCD
  · exact (offC p hp).1
theorem free_at {h₀ h : Heap} {L : Addr} {m : Str → Option Value} (F : Fr h₀ L h m) (a : Addr) (hk : @LE.le Nat _ h.objs.size a) : h₀.get? a = none := by
  cases e : h₀.get? a with
  | none => rfl
  | some o => exact absurd (Heap.lt_size (F.keep _ _ e)) (Nat.not_lt.mpr hk)
theorem enum_call {elt : Expr} {x x₂ y : Str} {scope : Scope} {cl : List (Str × Addr)} {Q : Flow → Shared → Prop} {l : Addr} {vs : List Value} {k : Nat} {news : List (Addr × Obj)} (J : List (Addr × Obj) → Nat → List Value → List (Addr × Obj) → Prop) (hh : A.handled = none)
    (F : Fr h₀ L s.heap m) (N : News h₀ L s.heap news) (hl : (l, tup vs k) ∈ news) (hsz : vs.length ≤ sizeLine) (hJ : J news 0 [] news)
    (step : ∀ i t v ys news' C oC D m₂ h tk (E' : Value → Shared → Prop), i < vs.length → vs[i]? = some v → J news i ys news' → NsObj oC m₂ → m₂ x = some (.int (i : Int) t) → m₂ x₂ = some v → Fr h₀ L h m → ∀ rest, (∀ p ∈ news', p ∈ rest) → News h₀ L h ((C, oC) :: (D, lst ys) :: rest) →
        wpAny (model prog w) A (eval elt (compEnvC scope cl C env)) (EndT h₀ L m { s with heap := h, toks := tk } ((C, oC) :: (D, lst ys) :: rest) fun y T oT => J news (i + 1) (ys ++ [y]) ((T, oT) :: news')) E' { s with heap := h, toks := tk})
    (fin : ∀ D ys news' h tk, Fr h₀ L h (fun z => if z = y then some (.ref D) else m z) → News h₀ L h ((D, lst ys) :: news') → (∀ p ∈ news', p.1 ≠ D) → J news vs.length ys news' → Q .next { s with heap := h, toks := tk }) :
    wpAny (model prog w) A (call (.type "enumerate") [.ref l]) (EnumSrc prog w A h₀ L m env elt x x₂ y scope cl Q) E s := by
  have gl := (N _ hl).1
  have llt : @LT.lt Nat _ l s.heap.objs.size := Heap.lt_size gl
  have Llt : @LT.lt Nat _ L s.heap.objs.size := F.ns.lt
  refine call_enum_tup (isTup_of gl) fun h' he hit hz ext => ?_
  have hz' : @Eq Nat h'.objs.size (s.heap.objs.size + 2) := hz
  have esz : vs.toArray.size = vs.length := by simp
  refine ⟨_, _, _, _, _, _, _, fun i v => vs.toArray[i]? = some v, news, J news, rfl, WalksT.enumerateD (draws_tuple (A := A.in1) hh s.heap.objs.size l (neN (by omega)) vs.toArray) (s.heap.objs.size + 1) (neN (by omega)) ?_ List.mem_cons_self, ?_, by rw [esz]; exact hsz, ?_, ⟨⟨_, he⟩, hit, isTup_of (ext _ _ gl)⟩, ?_, F.keeps ext, N.grown ext, ?_, ?_, ?_, hJ, ?_, ?_⟩
  · intro hm
    rcases List.mem_cons.mp hm with e | hm
    · exact absurd e (neN (by omega))
    · exact absurd (List.mem_singleton.mp hm) (neN (by omega))
  · intro i vals hp
    obtain ⟨t, v, h1, h2⟩ := hp
    exact ⟨t, v, h2, h1⟩
  · rintro i h ⟨⟨old, e1⟩, ⟨o, e2, _⟩, _⟩ b hb
    rcases List.mem_cons.mp hb with rfl | hb
    · exact ⟨_, e1⟩
    · rw [List.mem_singleton.mp hb]; exact ⟨_, e2⟩
  · intro b hb
    show @LT.lt Nat _ b h'.objs.size
    rcases List.mem_cons.mp hb with rfl | hb
    · omega
    · rcases List.mem_cons.mp hb with rfl | hb
      · omega
      · rw [List.mem_singleton.mp hb]; omega
  · intro hm
    rcases List.mem_cons.mp hm with e | hm
    · exact absurd e (neN (by omega))
    · rcases List.mem_cons.mp hm with e | hm
      · exact absurd e (neN (by omega))
      · exact (N _ hl).2.1 (List.mem_singleton.mp hm).symm
  · intro b hb
    rcases List.mem_cons.mp hb with rfl | hb
    · exact free_at F _ (by omega)
    · rw [List.mem_singleton.mp hb]; exact free_at F _ (by omega)
  · intro p hp hm
    have plt : @LT.lt Nat _ p.1 s.heap.objs.size := Heap.lt_size (N p hp).1
    rcases List.mem_cons.mp hm with e | hm
    · exact absurd e (neN (by omega))
    · exact absurd (List.mem_singleton.mp hm) (neN (by omega))
  · intro i t v ys news' C oC D m₂ h tk E' hi hp hj hC h1 h2 F' rest hr N'
    exact step i t v ys news' C oC D m₂ h tk E' (by rwa [esz] at hi) (by simpa using hp) hj hC h1 h2 F' rest hr N'
  · intro D ys news' h tk F' N' off hj
    rw [esz] at hj
    exact fin D ys news' h tk F' N' off hj
theorem sum_keep {l : Addr} {vs : List Value} {ns : List Int} {Q : Value → Shared → Prop} (hh : A.handled = none) (hl : s.heap.IsList l vs.toArray) (hi : IntsAre vs ns)
    (h : ∀ h' tk t', Ext s.heap h' → Q (.int ns.sum t') { s with heap := h', toks := tk }) : wpAny (model prog w) A (call (.builtin "sum") [.ref l]) Q E s := by
  obtain ⟨xs, e⟩ := hi.allInts.items
  have en : (numsOf vs) = ns := hi.numsOf
  have e2 : vs = (intItems xs).toList := by rw [← e]
  rw [e] at hl
  refine sum_intListG hh hl fun h' tk t' hk => ?_
  have z := h h' tk t' hk
  rw [← en, e2, nums_intItems] at z
  rw [preSum_eq, List.take_of_length_le (by simp)]
  exact z
end
end Mine
/-! part Rj -/
namespace Mine
structure RowJ (base : List (Addr × Obj)) (i : Nat) (ys : List Value) (news : List (Addr × Obj)) : Prop where
  vs : ∃ vs : List (Addr × Int), vs.length = i ∧ ys = vs.map (fun p => Value.ref p.1) ∧ (∀ p ∈ base, p ∈ news) ∧ ∀ (j : Nat) (p : Addr × Int), vs[j]? = some p → 0 ≤ p.2 ∧ p.2 < 8 ∧ ∃ a b n, (p.1, tup [.int p.2 a, .int (j : Int) b] n) ∈ news
theorem allLt_mem {d : Nat} {l : List (Addr × Obj)} {p : Addr × Obj} (h : AllLt d l) (hp : p ∈ l) : @LT.lt Nat _ p.1 d := by
  induction l with
  | nil => cases hp
  | cons q r ih =>
    have h1 : @LT.lt Nat _ q.1 d ∧ AllLt d r := h
    cases List.mem_cons.mp hp with
    | inl e => rw [e]; exact h1.1
    | inr hp => exact ih h1.2 hp
theorem RowJ.base {base : List (Addr × Obj)} {i : Nat} {ys : List Value} {news : List (Addr × Obj)} (h : RowJ base i ys news) : ∀ p ∈ base, p ∈ news := by
  obtain ⟨vs, _, _, hb, _⟩ := h
  exact hb
theorem RowJ.snoc {base : List (Addr × Obj)} {i : Nat} {ys : List Value} {news : List (Addr × Obj)} (h : RowJ base i ys news) {T : Addr} {x : Int} {a b : Tok} {n : Nat} (h0 : 0 ≤ x) (h8 : x < 8) :
    RowJ base (i + 1) (ys ++ [.ref T]) ((T, tup [.int x a, .int (i : Int) b] n) :: news) := by
  obtain ⟨vs, hl, rfl, hb, hall⟩ := h
  refine ⟨vs ++ [(T, x)], by simp [hl], by simp, fun p hp => List.mem_cons_of_mem _ (hb p hp), fun j p hj => ?_⟩
  by_cases hjl : j < vs.length
  · rw [List.getElem?_append_left hjl] at hj
    obtain ⟨q1, q2, a, b, n, hm⟩ := hall j p hj
    exact ⟨q1, q2, a, b, n, List.mem_cons_of_mem _ hm⟩
  · rw [List.getElem?_append_right (by omega)] at hj
    have e0 : j - vs.length = 0 := by
      by_cases z : j - vs.length = 0
      · exact z
      · rw [List.getElem?_eq_none (by simp; omega)] at hj; cases hj
    have ej : j = i := by omega
    subst ej
    rw [e0] at hj
    cases hj
    exact ⟨h0, h8, _, _, _, List.mem_cons_self⟩
theorem _root_.PyProof.Rows.News.drop2 {h₀ h : Heap} {L : Addr} {x y : Addr × Obj} {l : List (Addr × Obj)} (N : News h₀ L h (x :: y :: l)) : News h₀ L h (x :: l) := fun p hp => N p (by
  rcases List.mem_cons.mp hp with rfl | hp
  · exact List.mem_cons_self
  · exact List.mem_cons_of_mem _ (List.mem_cons_of_mem _ hp))
theorem off_two {T C D : Addr} {oC oD : Obj} {l : List (Addr × Obj)} (h : C < T ∧ D < T ∧ AllLt T l) : ∀ p ∈ (C, oC) :: (D, oD) :: l, p.1 ≠ T := fun p hp => by
  rcases List.mem_cons.mp hp with rfl | hp
  · exact neN (Nat.ne_of_lt h.1)
  rcases List.mem_cons.mp hp with rfl | hp
  · exact neN (Nat.ne_of_lt h.2.1)
  · exact neN (Nat.ne_of_lt (allLt_mem h.2.2 hp))
theorem int5 {a b c d e : Int} {ta tb tc td te : Tok} {v : Value} : ∀ {i : Nat}, [Value.int a ta, .int b tb, .int c tc, .int d td, .int e te][i]? = some v → ∃ x t, v = .int x t
  | 0, h => ⟨_, _, (Option.some.inj h).symm⟩
  | 1, h => ⟨_, _, (Option.some.inj h).symm⟩
  | 2, h => ⟨_, _, (Option.some.inj h).symm⟩
  | 3, h => ⟨_, _, (Option.some.inj h).symm⟩
  | 4, h => ⟨_, _, (Option.some.inj h).symm⟩
  | _ + 5, h => by simp at h
theorem fm8 (a : Int) : 0 ≤ a.fmod 8 ∧ a.fmod 8 < 8 := by
  rw [Int.fmod_eq_emod_of_nonneg _ (by decide)]
  omega
theorem _root_.PyProof.Rows.News.put {h₀ h : Heap} {L : Addr} {l : List (Addr × Obj)} {p : Addr × Obj} (N : News h₀ L h l) (x : h.get? p.1 = some p.2 ∧ p.1 ≠ L ∧ h₀.get? p.1 = none) : News h₀ L h (p :: l) := fun q hq => by
  rcases List.mem_cons.mp hq with rfl | hq
  · exact x
  · exact N q hq
theorem RowJ.five {base : List (Addr × Obj)} {ys : List Value} {news : List (Addr × Obj)} (h : RowJ base 5 ys news) : ∃ p0 p1 p2 p3 p4 : Addr × Int, ys = [.ref p0.1, .ref p1.1, .ref p2.1, .ref p3.1, .ref p4.1] ∧
    (0 ≤ p0.2 ∧ p0.2 < 8) ∧ (0 ≤ p1.2 ∧ p1.2 < 8) ∧ (0 ≤ p2.2 ∧ p2.2 < 8) ∧ (0 ≤ p3.2 ∧ p3.2 < 8) ∧ (0 ≤ p4.2 ∧ p4.2 < 8) ∧
    (∃ a b n, (p0.1, tup [.int p0.2 a, .int 0 b] n) ∈ news) ∧ (∃ a b n, (p1.1, tup [.int p1.2 a, .int 1 b] n) ∈ news) ∧ (∃ a b n, (p2.1, tup [.int p2.2 a, .int 2 b] n) ∈ news) ∧ (∃ a b n, (p3.1, tup [.int p3.2 a, .int 3 b] n) ∈ news) ∧ (∃ a b n, (p4.1, tup [.int p4.2 a, .int 4 b] n) ∈ news) ∧ ∀ p ∈ base, p ∈ news := by
  obtain ⟨vs, hl, rfl, hb, hall⟩ := h
  match vs, hl with
  | [p0, p1, p2, p3, p4], _ =>
    have h0 := hall 0 p0 rfl
    have h1 := hall 1 p1 rfl
    have h2 := hall 2 p2 rfl
    have h3 := hall 3 p3 rfl
    have h4 := hall 4 p4 rfl
    exact ⟨p0, p1, p2, p3, p4, rfl, ⟨h0.1, h0.2.1⟩, ⟨h1.1, h1.2.1⟩, ⟨h2.1, h2.2.1⟩, ⟨h3.1, h3.2.1⟩, ⟨h4.1, h4.2.1⟩, h0.2.2, h1.2.2, h2.2.2, h3.2.2, h4.2.2, hb⟩
end Mine
/-! part Fg0 -/
namespace Mine
abbrev envLaw (L fa : Addr) : Env := envX (Str.ofString "law") (scopeOf lawS) L fa (.ref 69) [(Str.ofString "figure", L + 1 + 1), (Str.ofString "drawn", L + 1)]
def Ap (ds : List Addr) (st : List (Addr × Obj)) : Prop := ∀ p ∈ st, ∀ d ∈ ds, p.1 ≠ d
def TabJ (ps : Array Value) (st : List (Addr × Obj)) : Prop := ps = #[] ∨ ∃ c' oc vs t, ps = #[rawInt 48, rawInt 48, .ref c'] ∧ (c', oc) ∈ st ∧ oc.data = .fields vs ∧ vs[1]? = some (.str "law.<locals>.<lambda>" t)
theorem lam_make {M : Model} {A : Around} {E : Value → Shared → Prop} {s : Shared} {Q : Value → Shared → Prop} {g : Heap} {L fa : Addr} {m : Str → Option Value} {mg mb : Str → Option Value} {p : Program} {loose : List Str} {mean : ExcName → Option Value}
    {ps : Array Value} {st st₁ : List (Addr × Obj)} {a1 a2 a3 : Addr × Obj} (T : Top p loose mean mg mb g) (C : CodeHd g 69 67)
    (F : Fr g L s.heap m) (N : News g L s.heap (a1 :: a2 :: a3 :: (67, tabObj ps) :: st)) (n1 : a1.1 ≠ 67) (n2 : a2.1 ≠ 67) (n3 : a3.1 ≠ 67) (n4 : ∀ q ∈ st, q.1 ≠ 67) (ht : TabJ ps st₁) (hs1 : ∀ x ∈ st₁, x ∈ st)
    (h : ∀ lam c' pm ctv h' tk ps' nw, Fr g L h' m → News g L h' (nw ++ (a1 :: a2 :: a3 :: (67, tabObj ps') :: st)) → (∀ q ∈ nw, q.1 ≠ a1.1 ∧ q.1 ≠ a2.1 ∧ q.1 ≠ a3.1 ∧ q.1 ≠ 67 ∧ ∀ r ∈ st, q.1 ≠ r.1) → (lam, lamObj (L + 1 + 1) c' pm ctv) ∈ nw →
      h'.CodeRec (.ref c') "law.<locals>.<lambda>" → TabJ ps' (nw ++ st₁) → Q (.ref lam) { s with heap := h', toks := tk }) :
    wpAny M A (eval lamE (envLaw L fa)) Q E s := by
  simp only [lamE, secondArg, valueOf, envLaw, scopeOf, bodyOf, figS, lawS, stAt, PySem.Challenge.pw_kl0408_01, List.getElem?_cons_succ, List.getElem?_cons_zero]
  refine kla_eval rfl ?_
  rcases ht with rfl | ⟨c', oc, vs, t, rfl, hm, hd, hv⟩
  · have U : UpdF 67 (tabObj #[]) (a1 :: a2 :: a3 :: (67, tabObj #[]) :: st) (fun o' => a1 :: a2 :: a3 :: (67, o') :: st) := .tail n1 (.tail n2 (.tail n3 (.head n4)))
    refine kla_nest F N T C rfl U trivial rfl (clos := [(Str.ofString "figure", L + 1 + 1)]) rfl fun f c' oc vs t ctv h' tk F' N' hd hv l1 l2 => ?_
    have N2 : News g L h' ([(f, _), (c', oc)] ++ (a1 :: a2 :: a3 :: (67, tabObj _) :: st)) := N'
    refine h f c' _ ctv h' tk _ [(f, _), (c', oc)] F' N2 (fun q hq => ?_) List.mem_cons_self (codeRec_news N' (List.mem_cons_of_mem _ List.mem_cons_self) hd hv) (.inr ⟨c', oc, vs, t, rfl, List.mem_append.mpr (.inl (List.mem_cons_of_mem _ List.mem_cons_self)), hd, hv⟩)
    have big : @LE.le Nat _ c' q.1 := by
      rcases List.mem_cons.mp hq with rfl | hq
      · exact Nat.le_of_lt l2
      · rw [List.mem_singleton.mp hq]; exact Nat.le_refl _
    have ne : ∀ r ∈ (a1 :: a2 :: a3 :: (67, tabObj #[]) :: st), q.1 ≠ r.1 := fun r hr => neN (Nat.ne_of_gt (Nat.lt_of_lt_of_le (l1 r hr) big))
    exact ⟨ne _ List.mem_cons_self, ne _ (List.mem_cons_of_mem _ List.mem_cons_self), ne _ (List.mem_cons_of_mem _ (List.mem_cons_of_mem _ List.mem_cons_self)), ne _ (List.mem_cons_of_mem _ (List.mem_cons_of_mem _ (List.mem_cons_of_mem _ List.mem_cons_self))), fun r hr => ne r (List.mem_cons_of_mem _ (List.mem_cons_of_mem _ (List.mem_cons_of_mem _ (List.mem_cons_of_mem _ hr))))⟩
  · refine kla_hit (c' := c') F N T C rfl (List.mem_cons_of_mem _ (List.mem_cons_of_mem _ (List.mem_cons_of_mem _ List.mem_cons_self))) trivial rfl (clos := [(Str.ofString "figure", L + 1 + 1)]) rfl fun f ctv h' tk F' N' l1 => ?_
    have N2 : News g L h' ([(f, _)] ++ (a1 :: a2 :: a3 :: (67, tabObj #[rawInt 48, rawInt 48, .ref c']) :: st)) := N'
    refine h f c' _ ctv h' tk _ [(f, _)] F' N2 (fun q hq => ?_) List.mem_cons_self (codeRec_news N' (List.mem_cons_of_mem _ (List.mem_cons_of_mem _ (List.mem_cons_of_mem _ (List.mem_cons_of_mem _ (List.mem_cons_of_mem _ (hs1 _ hm)))))) hd hv) (.inr ⟨c', oc, vs, t, rfl, List.mem_append.mpr (.inr hm), hd, hv⟩)
    have ne : ∀ r ∈ (a1 :: a2 :: a3 :: (67, tabObj #[rawInt 48, rawInt 48, .ref c']) :: st), q.1 ≠ r.1 := fun r hr => by
      rw [List.mem_singleton.mp hq]; exact neN (Nat.ne_of_gt (l1 r hr))
    exact ⟨ne _ List.mem_cons_self, ne _ (List.mem_cons_of_mem _ List.mem_cons_self), ne _ (List.mem_cons_of_mem _ (List.mem_cons_of_mem _ List.mem_cons_self)), ne _ (List.mem_cons_of_mem _ (List.mem_cons_of_mem _ (List.mem_cons_of_mem _ List.mem_cons_self))), fun r hr => ne r (List.mem_cons_of_mem _ (List.mem_cons_of_mem _ (List.mem_cons_of_mem _ (List.mem_cons_of_mem _ hr))))⟩
theorem fresh_put {g h h' : Heap} {L y : Addr} {o : Obj} {m : Str → Option Value} (F : Fr g L h m) (e : h.get? y = none) (e' : h'.get? y = some o) : h'.get? y = some o ∧ y ≠ L ∧ g.get? y = none := by
  refine ⟨e', fun q => ?_, ?_⟩
  · obtain ⟨o, z, _⟩ := LCg.ns_obj F.ns
    rw [q, z] at e; cases e
  · cases z : g.get? y with
    | none => rfl
    | some o => rw [F.keep _ _ z] at e; cases e
theorem fresh_ne {g h : Heap} {L y : Addr} {news : List (Addr × Obj)} (N : News g L h news) (e : h.get? y = none) : ∀ q ∈ news, y ≠ q.1 := fun q hq z => by
  rw [z, (N q hq).1] at e; cases e
theorem assign_pairM {prog : Program} {w : World} {A : Around} {E : Value → Shared → Prop} {s : Shared} {h₀ : Heap} {L a : Addr} {m : Str → Option Value} {cn : Str} {cs : Scope} {ccd : Value} {cl : List (Str × Addr)} {news : List (Addr × Obj)} {Q : Unit → Shared → Prop}
    {x y : Str} {px py pos : Pos} {k n : Nat} {t : Addr} {u v : Value} (hh : A.handled = none) (F : Fr h₀ L s.heap m) (N : News h₀ L s.heap news) (ht : s.heap.get? t = some (tup [u, v] n)) (hxy : x ≠ y)
    (h : ∀ h' tk' m', Fr h₀ L h' m' → News h₀ L h' news → m' x = some u → m' y = some v → (∀ z, z ≠ x → z ≠ y → m' z = m z) → Q () { s with heap := h', toks := tk' })
    (hk : cs.kind = .function := by rfl) (hx : (envX cn cs L a ccd cl).kindOf x = some .local := by rfl) (hy : (envX cn cs L a ccd cl).kindOf y = some .local := by rfl) :
    wpAny (model prog w) A (assign (.Tuple [.Name x px, .Name y py] k pos) (envX cn cs L a ccd cl) (.ref t)) Q E s :=
  assign_pair hh F N ht (fun h' tk' F' N' => h h' tk' _ F' N' (by simp [hxy]) (by simp) (fun z h1 h2 => by simp [h1, h2])) hk hx hy
end Mine
/-! part Fig -/
namespace Mine
theorem fig_body {w : World} {A : Around} {E : Value → Shared → Prop} {s : Shared} {Q : Flow → Shared → Prop} {g : Heap} {L fa rw_ bf ra : Addr} {m : Str → Option Value} {mg mb : Str → Option Value} {p : Program} {loose : List Str} {mean : ExcName → Option Value}
    {oF : Obj} {rl bl : List Value} {nr nb na : Nat} {ps : Array Value} {st st₁ : List (Addr × Obj)} {vs : List (Addr × Int)} {f : Int} {tf : Tok} {pos : Pos} {v₀ : Option Value}
    (X : (hd.heap_39 w.params).In g) (T : Top p loose mean mg mb g) (C : CodeHd g 69 67) (hroom : A.depth + 10 < recursionLimit) (hh : A.handled = none)
    (F : Fr g L s.heap m) (N : News g L s.heap ((L + 1 + 1, oF) :: (rw_, listOf rl.toArray nr) :: (bf, listOf bl.toArray nb) :: (67, tabObj ps) :: st)) (dF : oF.data = .cell v₀)
    (n1 : L + 1 + 1 ≠ rw_ ∧ L + 1 + 1 ≠ bf ∧ L + 1 + 1 ≠ 67 ∧ rw_ ≠ bf ∧ rw_ ≠ 67 ∧ bf ≠ 67) (ap : Ap [L + 1 + 1, rw_, bf, 67] st) (mr : m (Str.ofString "rows") = some (.ref rw_)) (mbf : m (Str.ofString "before") = some (.ref bf))
    (hrl : rl.getLast? = some (.ref ra)) (hll : rl.length ≤ 5) (hbl : bl.length ≤ 5) (hra : (ra, listOf (vs.map fun p => Value.ref p.1).toArray na) ∈ st) (hvl : vs.length ≤ 5) (hth : ∀ p ∈ vs, 0 ≤ p.2 ∧ p.2 < 8 ∧ ∃ tn k nt, (p.1, tup [.int p.2 tn, k] nt) ∈ st)
    (ht : TabJ ps st₁) (hs1 : ∀ x ∈ st₁, x ∈ st) (hf0 : 1 ≤ f) (hf4 : f ≤ 4)
    (hQ : ∀ h' tk' m' oF' ps' nw ra' b' nr' nb' na' nv vals, Fr g L h' m' → News g L h' ((L + 1 + 1, oF') :: (rw_, listOf (rl ++ [Value.ref ra']).toArray nr') :: (bf, listOf (bl ++ [Value.ref b']).toArray nb') :: (67, tabObj ps') :: (nw ++ st)) → (∃ v, oF'.data = .cell v) →
      (∀ q ∈ nw, q.1 ≠ L + 1 + 1 ∧ q.1 ≠ rw_ ∧ q.1 ≠ bf ∧ q.1 ≠ 67 ∧ ∀ r ∈ st, q.1 ≠ r.1) → (ra', listOf (((vs.filter fun p => lacks f p.2) ++ vs.filter fun p => !lacks f p.2).map fun p => Value.ref p.1).toArray na') ∈ nw → (b', listOf (List.toArray vals) nv) ∈ nw → IntsAre vals (pre f (vs.map (·.2)) vs.length) →
      TabJ ps' (nw ++ st₁) → (∀ y, y ≠ Str.ofString "lacking" → y ≠ Str.ofString "having" → m' y = m y) → Q .next { s with heap := h', toks := tk' }) :
    wpAny (model PG w) A (assign (.Name (Str.ofString "figure") pos) (envLaw L fa) (.int f tf)) (fun _ s₂ => wpAny (model PG w) A (execs (bodyOf figS) (envLaw L fa)) Q E s₂) E s := by
  obtain ⟨d1, d2, d3, d4, d5, d6⟩ := n1
  have U0 : UpdF (L + 1 + 1) oF _ (fun o' => (L + 1 + 1, o') :: (rw_, listOf rl.toArray nr) :: (bf, listOf bl.toArray nb) :: (67, tabObj ps) :: st) := .head (by
    intro q hq
    rcases List.mem_cons.mp hq with rfl | hq
    · exact d1.symm
    rcases List.mem_cons.mp hq with rfl | hq
    · exact d2.symm
    rcases List.mem_cons.mp hq with rfl | hq
    · exact d3.symm
    exact ap q hq _ List.mem_cons_self)
  refine wpAny_assign_Name (storeX_C F N rfl U0 dF (fun h1 oF1 F1 N1 dF1 => ?_))
  clear F N U0
  simp only [envLaw, scopeOf, bodyOf, figS, lawS, stAt, PySem.Challenge.pw_kl0408_01, List.getElem?_cons_succ, List.getElem?_cons_zero]
  iterate 7 walk1
  refine nameX_L F1 mr ?_
  iterate 3 walk1
  have g1 := (N1 (rw_, listOf rl.toArray nr) (List.mem_cons_of_mem _ List.mem_cons_self)).1
  refine itemLast ⟨_, g1, rfl, _, rfl⟩ hrl ?_
  walk1
  refine lam_make T C F1 N1 d3 d5 d6 (fun q hq => ap q hq _ (by simp)) ht hs1 fun lam c' pm ctv h2 tk2 ps2 nw2 F2 N2 o2 hlam hrec ht2 => ?_
  clear F1 N1 g1
  walk1
  have i4 : ∀ x ∈ [(L + 1 + 1, oF1), (rw_, listOf rl.toArray nr), (bf, listOf bl.toArray nb), (67, tabObj ps2)], x ∈ nw2 ++ ((L + 1 + 1, oF1) :: (rw_, listOf rl.toArray nr) :: (bf, listOf bl.toArray nb) :: (67, tabObj ps2) :: st) := fun x hx => List.mem_append.mpr (.inr (by
    rcases List.mem_cons.mp hx with rfl | hx
    · exact List.mem_cons_self
    rcases List.mem_cons.mp hx with rfl | hx
    · exact List.mem_cons_of_mem _ List.mem_cons_self
    rcases List.mem_cons.mp hx with rfl | hx
    · exact List.mem_cons_of_mem _ (List.mem_cons_of_mem _ List.mem_cons_self)
    · rw [List.mem_singleton.mp hx]; exact List.mem_cons_of_mem _ (List.mem_cons_of_mem _ (List.mem_cons_of_mem _ List.mem_cons_self))))
  have ist : ∀ x ∈ st, x ∈ nw2 ++ ((L + 1 + 1, oF1) :: (rw_, listOf rl.toArray nr) :: (bf, listOf bl.toArray nb) :: (67, tabObj ps2) :: st) := fun x hx => List.mem_append.mpr (.inr (List.mem_cons_of_mem _ (List.mem_cons_of_mem _ (List.mem_cons_of_mem _ (List.mem_cons_of_mem _ hx)))))
  refine ⟨X.keeps F2.keep, wpAny_call (split_core (X.keeps F2.keep) (T.keeps F2.keep) (by omega) hh (N2 _ (ist _ hra)).1 hvl (fun q hq => ?_) (N2 _ (List.mem_append.mpr (.inl hlam))).1 (N2 _ (i4 _ List.mem_cons_self)).1 dF1 hrec hf0 hf4 ?_)⟩
  · obtain ⟨q1, q2, tn, k, nt, hm⟩ := hth q hq
    exact ⟨q1, q2, tn, k, nt, (N2 _ (ist _ hm)).1⟩
  intro h3 tk3 r y no a b e x3 gr gy gno ny nno nr_ lt1 lt2
  have F3 := F2.keeps x3
  have N3 := ((((N2.grown x3).put (p := (r, _)) (fresh_put F2 nr_ gr)).put (p := (no, _)) (fresh_put F2 nno gno)).put (p := (y, _)) (fresh_put F2 ny gy))
  have oy := fresh_ne N2 ny
  have ono := fresh_ne N2 nno
  refine assign_pairM hh F3 N3 gr (by decide) fun h4 tk4 m4 F4 N4 ml mh mrest => ?_
  clear F2 F3 N3
  have mb4 := (mrest (Str.ofString "before") (by decide) (by decide)).trans mbf
  have mr4 := (mrest (Str.ofString "rows") (by decide) (by decide)).trans mr
  iterate 3 walk1
  refine nameX_L F4 mb4 ?_
  have N5 : News g L h4 ((bf, listOf bl.toArray nb) :: (rw_, listOf rl.toArray nr) :: (L + 1 + 1, oF1) :: (67, tabObj ps2) :: (y, listOf (((vs.filter fun p => lacks f p.2).map fun p => Value.ref p.1).toArray) a) :: (no, listOf (((vs.filter fun p => !lacks f p.2).map fun p => Value.ref p.1).toArray) b) :: (nw2 ++ st)) := by
    have e3 : ∀ x, x ∈ nw2 ++ ((L + 1 + 1, oF1) :: (rw_, listOf rl.toArray nr) :: (bf, listOf bl.toArray nb) :: (67, tabObj ps2) :: st) → News g L h4 [x] := fun x hx z hz => by
      rw [List.mem_singleton.mp hz]
      exact N4 _ (List.mem_cons_of_mem _ (List.mem_cons_of_mem _ (List.mem_cons_of_mem _ hx)))
    intro x hx
    rcases List.mem_cons.mp hx with rfl | hx
    · exact e3 _ (i4 _ (by simp)) _ List.mem_cons_self
    rcases List.mem_cons.mp hx with rfl | hx
    · exact e3 _ (i4 _ (by simp)) _ List.mem_cons_self
    rcases List.mem_cons.mp hx with rfl | hx
    · exact e3 _ (i4 _ (by simp)) _ List.mem_cons_self
    rcases List.mem_cons.mp hx with rfl | hx
    · exact e3 _ (i4 _ (by simp)) _ List.mem_cons_self
    rcases List.mem_cons.mp hx with rfl | hx
    · exact N4 _ List.mem_cons_self
    rcases List.mem_cons.mp hx with rfl | hx
    · exact N4 _ (List.mem_cons_of_mem _ List.mem_cons_self)
    rcases List.mem_append.mp hx with hx | hx
    · exact e3 _ (List.mem_append.mpr (.inl hx)) _ List.mem_cons_self
    · exact e3 _ (ist _ hx) _ List.mem_cons_self
  clear N4
  refine getMethod_list_append (N5 _ List.mem_cons_self).1 rfl rfl ?_
  iterate 7 walk1
  refine nameX_L F4 mr4 ?_
  iterate 3 walk1
  refine itemLast ⟨_, (N5 _ (List.mem_cons_of_mem _ List.mem_cons_self)).1, rfl, _, rfl⟩ hrl ?_
  walk1
  refine nameX_C N5 rfl (List.mem_cons_of_mem _ (List.mem_cons_of_mem _ List.mem_cons_self)) dF1 ?_
  walk1
  have ist5 : ∀ x ∈ st, h4.get? x.1 = some x.2 := fun x hx => (N5 x (List.mem_cons_of_mem _ (List.mem_cons_of_mem _ (List.mem_cons_of_mem _ (List.mem_cons_of_mem _ (List.mem_cons_of_mem _ (List.mem_cons_of_mem _ (List.mem_append.mpr (.inr hx))))))))).1
  refine ⟨X.keeps F4.keep, wpAny_call (before_core (X.keeps F4.keep) (T.keeps F4.keep) (by omega) hh (ist5 _ hra) hvl (fun q hq => ?_) hf0 hf4 ?_)⟩
  · obtain ⟨q1, q2, tn, k, nt, hm⟩ := hth q hq
    exact ⟨q1, q2, tn, k, nt, ist5 _ hm⟩
  intro h5 tk5 b' vals nv x5 gb hvals nb'
  have F5 := F4.keeps x5
  have N6 := (N5.grown x5).put (p := (b', listOf (List.toArray vals) nv)) (fresh_put F4 nb' gb)
  have ob := fresh_ne N5 nb'
  clear F4 N5 ist5
  walk1
  have offN : ∀ z, (∀ x ∈ nw2 ++ ((L + 1 + 1, oF1) :: (rw_, listOf rl.toArray nr) :: (bf, listOf bl.toArray nb) :: (67, tabObj ps2) :: st), z ≠ x.1) → z ≠ L + 1 + 1 ∧ z ≠ rw_ ∧ z ≠ bf ∧ z ≠ 67 ∧ (∀ r ∈ st, z ≠ r.1) := fun z hz => ⟨hz _ (i4 (L + 1 + 1, oF1) (by simp)), hz _ (i4 (rw_, listOf rl.toArray nr) (by simp)), hz _ (i4 (bf, listOf bl.toArray nb) (by simp)), hz _ (i4 (67, tabObj ps2) (by simp)), fun r hr => hz _ (ist _ hr)⟩
  have oy1 := offN y oy
  have ono1 := offN no ono
  have ob1 : b' ≠ L + 1 + 1 ∧ b' ≠ rw_ ∧ b' ≠ bf ∧ b' ≠ 67 ∧ (∀ r ∈ st, b' ≠ r.1) := ⟨ob (L + 1 + 1, oF1) (by simp), ob (rw_, listOf rl.toArray nr) (by simp), ob (bf, listOf bl.toArray nb) (by simp), ob (67, tabObj ps2) (by simp), fun r hr => ob r (by simp [hr])⟩
  have U7 : Upd bf (listOf bl.toArray nb) (listOf (bl.toArray.push (.ref b')) (nb + 1)) ((b', listOf (List.toArray vals) nv) :: (bf, listOf bl.toArray nb) :: (rw_, listOf rl.toArray nr) :: (L + 1 + 1, oF1) :: (67, tabObj ps2) :: (y, listOf (((vs.filter fun p => lacks f p.2).map fun p => Value.ref p.1).toArray) a) :: (no, listOf (((vs.filter fun p => !lacks f p.2).map fun p => Value.ref p.1).toArray) b) :: (nw2 ++ st)) _ := .tail ob1.2.2.1 (.head (fun q hq => by
    rcases List.mem_cons.mp hq with rfl | hq
    · exact d4
    rcases List.mem_cons.mp hq with rfl | hq
    · exact d2
    rcases List.mem_cons.mp hq with rfl | hq
    · exact d6.symm
    rcases List.mem_cons.mp hq with rfl | hq
    · exact oy1.2.2.1
    rcases List.mem_cons.mp hq with rfl | hq
    · exact ono1.2.2.1
    rcases List.mem_append.mp hq with hq | hq
    · exact (o2 q hq).2.2.1
    · exact ap q hq _ (by simp)))
  refine append_K F5 N6 U7 (fun h7 F7 N7 => ?_) (by rw [List.size_toArray]; exact Nat.le_trans hbl (by decide))
  clear F5 N6 U7
  iterate 4 walk1
  refine nameX_L F7 mr4 ?_
  refine getMethod_list_append (N7 (rw_, _) (List.mem_cons_of_mem _ (List.mem_cons_of_mem _ List.mem_cons_self))).1 rfl rfl ?_
  iterate 3 walk1
  refine nameX_L F7 ml ?_
  refine nameX_L F7 mh ?_
  refine add_lists (hsz := ?hz) F7 N7 ⟨_, (N7 (y, _) (List.mem_cons_of_mem _ (List.mem_cons_of_mem _ (List.mem_cons_of_mem _ (List.mem_cons_of_mem _ (List.mem_cons_of_mem _ List.mem_cons_self)))))).1, rfl, _, rfl⟩ ⟨_, (N7 (no, _) (List.mem_cons_of_mem _ (List.mem_cons_of_mem _ (List.mem_cons_of_mem _ (List.mem_cons_of_mem _ (List.mem_cons_of_mem _ (List.mem_cons_of_mem _ List.mem_cons_self))))))).1, rfl, _, rfl⟩ (fun h8 F8 N8 => ?_)
  case hz =>
    have e1 := List.length_filter_le (fun p : Addr × Int => lacks f p.2) vs
    have e2 := List.length_filter_le (fun p : Addr × Int => !lacks f p.2) vs
    rw [List.length_map, List.length_map]
    exact Nat.le_trans (Nat.add_le_add e1 e2) (Nat.le_trans (Nat.add_le_add hvl hvl) (by decide))
  walk1
  have offD : ∀ q ∈ ((b', listOf (List.toArray vals) nv) :: (bf, listOf (bl.toArray.push (.ref b')) (nb + 1)) :: (rw_, listOf rl.toArray nr) :: (L + 1 + 1, oF1) :: (67, tabObj ps2) :: (y, listOf (((vs.filter fun p => lacks f p.2).map fun p => Value.ref p.1).toArray) a) :: (no, listOf (((vs.filter fun p => !lacks f p.2).map fun p => Value.ref p.1).toArray) b) :: (nw2 ++ st)), h7.objs.size ≠ q.1 := fun q hq => neN (Nat.ne_of_gt (Heap.lt_size (N7 q hq).1))
  have oD : h7.objs.size ≠ L + 1 + 1 ∧ h7.objs.size ≠ rw_ ∧ h7.objs.size ≠ bf ∧ h7.objs.size ≠ 67 ∧ (∀ r ∈ st, h7.objs.size ≠ r.1) := ⟨offD (L + 1 + 1, oF1) (by simp), offD (rw_, listOf rl.toArray nr) (by simp), offD (bf, listOf (bl.toArray.push (.ref b')) (nb + 1)) (by simp), offD (67, tabObj ps2) (by simp), fun r hr => offD r (by simp [hr])⟩
  clear offD
  dsimp only at N8
  generalize h7.objs.size = D at N8 oD ⊢
  have U9 : Upd rw_ (listOf rl.toArray nr) (listOf (rl.toArray.push (.ref D)) (nr + 1)) ((D, { cls := .type "list", data := .seq (((vs.filter fun p => lacks f p.2).map fun p => Value.ref p.1) ++ ((vs.filter fun p => !lacks f p.2).map fun p => Value.ref p.1)).toArray }) :: (b', listOf (List.toArray vals) nv) :: (bf, listOf (bl.toArray.push (.ref b')) (nb + 1)) :: (rw_, listOf rl.toArray nr) :: (L + 1 + 1, oF1) :: (67, tabObj ps2) :: (y, listOf (((vs.filter fun p => lacks f p.2).map fun p => Value.ref p.1).toArray) a) :: (no, listOf (((vs.filter fun p => !lacks f p.2).map fun p => Value.ref p.1).toArray) b) :: (nw2 ++ st)) _ := .tail oD.2.1 (.tail ob1.2.1 (.tail d4.symm (.head (fun q hq => by
    rcases List.mem_cons.mp hq with rfl | hq
    · exact d1
    rcases List.mem_cons.mp hq with rfl | hq
    · exact d5.symm
    rcases List.mem_cons.mp hq with rfl | hq
    · exact oy1.2.1
    rcases List.mem_cons.mp hq with rfl | hq
    · exact ono1.2.1
    rcases List.mem_append.mp hq with hq | hq
    · exact (o2 q hq).2.1
    · exact ap q hq _ (by simp)))))
  refine append_K F8 N8 U9 (fun h9 F9 N9 => ?_) (by rw [List.size_toArray]; exact Nat.le_trans hll (by decide))
  clear F8 N8 U9 F7 N7
  refine wpAny_execs_nil (hQ h9 _ m4 oF1 ps2 ((D, { cls := .type "list", data := .seq (((vs.filter fun p => lacks f p.2).map fun p => Value.ref p.1) ++ ((vs.filter fun p => !lacks f p.2).map fun p => Value.ref p.1)).toArray }) :: (b', listOf (List.toArray vals) nv) :: (y, listOf (((vs.filter fun p => lacks f p.2).map fun p => Value.ref p.1).toArray) a) :: (no, listOf (((vs.filter fun p => !lacks f p.2).map fun p => Value.ref p.1).toArray) b) :: nw2) D b' (nr + 1) (nb + 1) 0 nv vals F9 (fun q hq => N9 q ?_) ⟨_, dF1⟩ (fun q hq => ?_) ?_ (List.mem_cons_of_mem _ List.mem_cons_self) hvals ?_ mrest)
  · have e1 : (rl ++ [Value.ref D]).toArray = rl.toArray.push (.ref D) := by simp
    have e2 : (bl ++ [Value.ref b']).toArray = bl.toArray.push (.ref b') := by simp
    rw [e1, e2] at hq
    simp only [List.mem_cons, List.cons_append, List.mem_append] at hq ⊢
    grind
  · rcases List.mem_cons.mp hq with rfl | hq
    · exact oD
    rcases List.mem_cons.mp hq with rfl | hq
    · exact ob1
    rcases List.mem_cons.mp hq with rfl | hq
    · exact oy1
    rcases List.mem_cons.mp hq with rfl | hq
    · exact ono1
    · exact o2 q hq
  · rw [List.map_append]
    exact List.mem_cons_self
  · rcases ht2 with h | ⟨c, oc, cvs, t, h1, h2, h3, h4⟩
    · exact .inl h
    · exact .inr ⟨c, oc, cvs, t, h1, List.mem_cons_of_mem _ (List.mem_cons_of_mem _ (List.mem_cons_of_mem _ (List.mem_cons_of_mem _ h2))), h3, h4⟩
end Mine
/-! part Fl -/
namespace Mine
def part (f : Int) (vs : List (Addr × Int)) : List (Addr × Int) := (vs.filter fun p => lacks f p.2) ++ vs.filter fun p => !lacks f p.2
theorem part_length (f : Int) (vs : List (Addr × Int)) : (part f vs).length = vs.length := by
  induction vs with
  | nil => rfl
  | cons a r ih =>
    unfold part at ih ⊢
    rw [List.length_append] at ih ⊢
    cases h : lacks f a.2 <;> simp only [List.filter_cons, h, Bool.not_true, Bool.not_false, if_true, Bool.false_eq_true, if_false, List.length_cons] <;> omega
theorem part_mem {f : Int} {vs : List (Addr × Int)} {p : Addr × Int} (h : p ∈ part f vs) : p ∈ vs := by
  rcases List.mem_append.mp h with h | h <;> exact (List.mem_filter.mp h).1
structure FigS (L : Addr) (m : Str → Option Value) (rw_ bf : Addr) (rl : List Value) (ps : Array Value) (st : List (Addr × Obj)) (ra : Addr) (na : Nat) (vs : List (Addr × Int)) : Prop where
  ap : Ap [L + 1 + 1, rw_, bf, 67] st
  mr : m (Str.ofString "rows") = some (.ref rw_)
  mb : m (Str.ofString "before") = some (.ref bf)
  hrl : rl.getLast? = some (.ref ra)
  hra : (ra, listOf (vs.map fun p => Value.ref p.1).toArray na) ∈ st
  hvl : vs.length ≤ 5
  hth : ∀ p ∈ vs, 0 ≤ p.2 ∧ p.2 < 8 ∧ ∃ tn k nt, (p.1, tup [.int p.2 tn, k] nt) ∈ st
  ht : TabJ ps st
theorem fig_item {w : World} {A : Around} {E : Value → Shared → Prop} {s : Shared} {Q : Flow → Shared → Prop} {g : Heap} {L fa rw_ bf ra I : Addr} {m : Str → Option Value} {mg mb : Str → Option Value} {p : Program} {loose : List Str} {mean : ExcName → Option Value}
    {oF : Obj} {rl bl : List Value} {nr nb na : Nat} {ps : Array Value} {st keep : List (Addr × Obj)} {vs : List (Addr × Int)} {f : Int} {tf : Tok} {pos : Pos} {r : List Itm}
    (X : (hd.heap_39 w.params).In g) (T : Top p loose mean mg mb g) (C : CodeHd g 69 67) (hroom : A.depth + 10 < recursionLimit) (hh : A.handled = none)
    (Z : FigS L m rw_ bf rl ps st ra na vs) (dF : ∃ v, oF.data = .cell v) (n1 : L + 1 + 1 ≠ rw_ ∧ L + 1 + 1 ≠ bf ∧ L + 1 + 1 ≠ 67 ∧ rw_ ≠ bf ∧ rw_ ≠ 67 ∧ bf ≠ 67) (hll : rl.length ≤ 4) (hbl : bl.length ≤ 4)
    (hI : (∀ d ∈ [L + 1 + 1, rw_, bf, 67], I ≠ d) ∧ ∀ q ∈ st, q.1 ≠ I) (hkeep : SubL keep st) (hf0 : 1 ≤ f) (hf4 : f ≤ 4)
    (hK : ∀ m' oF' ps' nw ra' b' nr' nb' na' nv vals, FigS L m' rw_ bf (rl ++ [Value.ref ra']) ps' (nw ++ st) ra' na' (part f vs) → (∃ v, oF'.data = .cell v) → (b', listOf (List.toArray vals) nv) ∈ nw ++ st → IntsAre vals (pre f (vs.map (·.2)) vs.length) → (∀ q ∈ nw ++ st, q.1 ≠ I) → SubL keep (nw ++ st) →
      (∀ y, y ≠ Str.ofString "lacking" → y ≠ Str.ofString "having" → m' y = m y) →
      ItemsRest PG w A E g (envLaw L fa) (.Name (Str.ofString "figure") pos) (bodyOf figS) Q s [(I, "tuple_iterator")] keep r m' ((L + 1 + 1, oF') :: (rw_, listOf (rl ++ [Value.ref ra']).toArray nr') :: (bf, listOf (bl ++ [Value.ref b']).toArray nb') :: (67, tabObj ps') :: (nw ++ st))) :
    ItemsRest PG w A E g (envLaw L fa) (.Name (Str.ofString "figure") pos) (bodyOf figS) Q s [(I, "tuple_iterator")] keep (.val (.int f tf) :: r) m ((L + 1 + 1, oF) :: (rw_, listOf rl.toArray nr) :: (bf, listOf bl.toArray nb) :: (67, tabObj ps) :: st) := by
  obtain ⟨v₀, dF⟩ := dF
  refine ItemsRest.val fun h tk F => AllObj.cons fun oI hcI => AllObj.nil fun N => ?_
  have N' : News g L h ((L + 1 + 1, oF) :: (rw_, listOf rl.toArray nr) :: (bf, listOf bl.toArray nb) :: (67, tabObj ps) :: ((I, oI) :: st)) := fun q hq => N q (by
    simp only [List.mem_cons, List.cons_append, List.nil_append] at hq ⊢
    grind)
  refine fig_body (st := (I, oI) :: st) (st₁ := st) X T C hroom hh F N' dF n1 (fun q hq d hd => ?_) Z.mr Z.mb Z.hrl (by omega) (by omega) (List.mem_cons_of_mem _ Z.hra) Z.hvl (fun q hq => ?_) Z.ht (fun x hx => List.mem_cons_of_mem _ hx) hf0 hf4 ?_
  · rcases List.mem_cons.mp hq with rfl | hq
    · exact hI.1 d hd
    · exact Z.ap q hq d hd
  · obtain ⟨q1, q2, tn, k, nt, hm⟩ := Z.hth q hq
    exact ⟨q1, q2, tn, k, nt, List.mem_cons_of_mem _ hm⟩
  intro h' tk' m' oF' ps' nw ra' b' nr' nb' na' nv vals F' N'' dF' onw hra' hb' hvals ht' hm'
  have apst : ∀ q ∈ nw ++ st, q.1 ≠ I := fun q hq => by
    rcases List.mem_append.mp hq with hq | hq
    · exact (onw q hq).2.2.2.2 _ List.mem_cons_self
    · exact hI.2 q hq
  have hkeep' : SubL keep (nw ++ st) := by
    clear hK
    induction keep with
    | nil => trivial
    | cons k r ih => exact ⟨List.mem_append.mpr (.inr hkeep.1), ih hkeep.2⟩
  refine ⟨h', tk', m', (L + 1 + 1, oF') :: (rw_, listOf (rl ++ [Value.ref ra']).toArray nr') :: (bf, listOf (bl ++ [Value.ref b']).toArray nb') :: (67, tabObj ps') :: (nw ++ st), rfl, F', fun q hq => N'' q ?_, fun q hq z hz => ?_, ?_, hK m' oF' ps' nw ra' b' nr' nb' na' nv vals ⟨?_, ?_, ?_, ?_, ?_, ?_, ?_, ?_⟩ dF' (List.mem_append.mpr (.inl hb')) hvals apst hkeep' hm'⟩
  · simp only [List.mem_cons, List.cons_append, List.nil_append, List.mem_append] at hq ⊢
    grind
  · rw [List.mem_singleton.mp hz]
    rcases List.mem_cons.mp hq with rfl | hq
    · exact (hI.1 _ (by simp)).symm
    rcases List.mem_cons.mp hq with rfl | hq
    · exact (hI.1 _ (by simp)).symm
    rcases List.mem_cons.mp hq with rfl | hq
    · exact (hI.1 _ (by simp)).symm
    rcases List.mem_cons.mp hq with rfl | hq
    · exact (hI.1 _ (by simp)).symm
    · exact apst q hq
  · clear hK hkeep
    induction keep with
    | nil => trivial
    | cons k r ih => exact ⟨List.mem_cons_of_mem _ (List.mem_cons_of_mem _ (List.mem_cons_of_mem _ (List.mem_cons_of_mem _ hkeep'.1))), ih hkeep'.2⟩
  · intro q hq d hd
    rcases List.mem_append.mp hq with hq | hq
    · have z := onw q hq
      simp only [List.mem_cons, List.not_mem_nil, or_false] at hd
      rcases hd with rfl | rfl | rfl | rfl
      · exact z.1
      · exact z.2.1
      · exact z.2.2.1
      · exact z.2.2.2.1
    · exact Z.ap q hq d hd
  · exact (hm' _ (by decide) (by decide)).trans Z.mr
  · exact (hm' _ (by decide) (by decide)).trans Z.mb
  · simp
  · exact List.mem_append.mpr (.inl hra')
  · rw [part_length]; exact Z.hvl
  · intro q hq
    obtain ⟨q1, q2, tn, k, nt, hm⟩ := Z.hth q (part_mem hq)
    exact ⟨q1, q2, tn, k, nt, List.mem_append.mpr (.inr hm)⟩
  · exact ht'
end Mine
/-! part Fo -/
namespace Mine
theorem fig_loop {w : World} {A : Around} {E : Value → Shared → Prop} {s : Shared} {Q : Flow → Shared → Prop} {g : Heap} {L fa rw_ bf ra : Addr} {m : Str → Option Value} {mg mb : Str → Option Value} {p : Program} {loose : List Str} {mean : ExcName → Option Value}
    {oF : Obj} {nr nb na : Nat} {st : List (Addr × Obj)} {vs : List (Addr × Int)}
    (X : (hd.heap_39 w.params).In g) (T : Top p loose mean mg mb g) (C : CodeHd g 69 67) (hroom : A.depth + 10 < recursionLimit) (hh : A.handled = none) (hE : PassesOwn (model PG w) A (envLaw L fa) E)
    (F : Fr g L s.heap m) (N : News g L s.heap ((L + 1 + 1, oF) :: (rw_, listOf #[.ref ra] nr) :: (bf, listOf #[] nb) :: (67, tabObj #[]) :: st))
    (Z : FigS L m rw_ bf [.ref ra] #[] st ra na vs) (dF : ∃ v, oF.data = .cell v) (n1 : L + 1 + 1 ≠ rw_ ∧ L + 1 + 1 ≠ bf ∧ L + 1 + 1 ≠ 67 ∧ rw_ ≠ bf ∧ rw_ ≠ 67 ∧ bf ≠ 67)
    (hQ : ∀ h' tk' m' oF' ps' st' r1 r2 r3 b0 b1 b2 nr' nb' na' n0 n1 n2 v0 v1 v2, Fr g L h' m' → News g L h' ((L + 1 + 1, oF') :: (rw_, listOf [Value.ref ra, .ref r1, .ref r2, .ref r3].toArray nr') :: (bf, listOf [Value.ref b0, .ref b1, .ref b2].toArray nb') :: (67, tabObj ps') :: st') →
      (∀ x ∈ st, x ∈ st') → Ap [L + 1 + 1, rw_, bf, 67] st' → (r3, listOf ((part 1 (part 2 (part 4 vs))).map fun p => Value.ref p.1).toArray na') ∈ st' →
      ((b0, listOf (List.toArray v0) n0) ∈ st' ∧ IntsAre v0 (pre 4 (vs.map (·.2)) vs.length)) → ((b1, listOf (List.toArray v1) n1) ∈ st' ∧ IntsAre v1 (pre 2 ((part 4 vs).map (·.2)) (part 4 vs).length)) → ((b2, listOf (List.toArray v2) n2) ∈ st' ∧ IntsAre v2 (pre 1 ((part 2 (part 4 vs)).map (·.2)) (part 2 (part 4 vs)).length)) →
      (∀ y, y ≠ Str.ofString "lacking" → y ≠ Str.ofString "having" → m' y = m y) → Q .next { s with heap := h', toks := tk' }) :
    wpAny (model PG w) A (exec figS (envLaw L fa)) Q E s := by
  simp only [envLaw, scopeOf, bodyOf, figS, lawS, stAt, PySem.Challenge.pw_kl0408_01, List.getElem?_cons_succ, List.getElem?_cons_zero]
  refine For_turns (m := m) F ?_ (hE := hE)
  iterate 8 walk1
  refine newTuple_N F N (fun h1 F1 N1 => ?_) (by show 3 ≤ sizeLine; decide)
  have oD : ∀ q ∈ ((L + 1 + 1, oF) :: (rw_, listOf #[.ref ra] nr) :: (bf, listOf #[] nb) :: (67, tabObj #[]) :: st), s.heap.objs.size ≠ q.1 := fun q hq => neN (Nat.ne_of_gt (Heap.lt_size (N q hq).1))
  clear F N
  generalize s.heap.objs.size = D at N1 oD ⊢
  have N2 : News g L h1 ((L + 1 + 1, oF) :: (rw_, listOf #[.ref ra] nr) :: (bf, listOf #[] nb) :: (67, tabObj #[]) :: ((D, { cls := .type "tuple", data := .seq [Value.int 4 s.toks, Value.int 2 (s.toks + 1), Value.int 1 (s.toks + 1 + 1)].toArray }) :: st)) := fun q hq => N1 q (by
    simp only [List.mem_cons] at hq ⊢
    grind)
  clear N1
  refine iter_tupTurns hh F1 N2 (ax := D) (lo := { cls := .type "tuple", data := .seq [Value.int 4 s.toks, Value.int 2 (s.toks + 1), Value.int 1 (s.toks + 1 + 1)].toArray }) (vs := [Value.int 4 s.toks, Value.int 2 (s.toks + 1), Value.int 1 (s.toks + 1 + 1)]) (by simp) rfl rfl (fun I hI => ?_)
  have hI1 : (∀ d ∈ [L + 1 + 1, rw_, bf, 67], I ≠ d) ∧ ∀ q ∈ ((D, { cls := .type "tuple", data := .seq [Value.int 4 s.toks, Value.int 2 (s.toks + 1), Value.int 1 (s.toks + 1 + 1)].toArray }) :: st : List (Addr × Obj)), q.1 ≠ I := by
    have z : ∀ q ∈ ((L + 1 + 1, oF) :: (rw_, listOf #[.ref ra] nr) :: (bf, listOf #[] nb) :: (67, tabObj #[]) :: ((D, { cls := .type "tuple", data := .seq [Value.int 4 s.toks, Value.int 2 (s.toks + 1), Value.int 1 (s.toks + 1 + 1)].toArray }) :: st) : List (Addr × Obj)), q.1 ≠ I := fun q hq => neN (Nat.ne_of_lt (hI q hq))
    refine ⟨fun d hd => ?_, fun q hq => z q (List.mem_cons_of_mem _ (List.mem_cons_of_mem _ (List.mem_cons_of_mem _ (List.mem_cons_of_mem _ hq))))⟩
    simp only [List.mem_cons, List.not_mem_nil, or_false] at hd
    rcases hd with rfl | rfl | rfl | rfl
    · exact (z _ List.mem_cons_self).symm
    · exact (z _ (List.mem_cons_of_mem _ List.mem_cons_self)).symm
    · exact (z _ (List.mem_cons_of_mem _ (List.mem_cons_of_mem _ List.mem_cons_self))).symm
    · exact (z _ (List.mem_cons_of_mem _ (List.mem_cons_of_mem _ (List.mem_cons_of_mem _ List.mem_cons_self)))).symm
  have Z1 : FigS L m rw_ bf [.ref ra] #[] ((D, { cls := .type "tuple", data := .seq [Value.int 4 s.toks, Value.int 2 (s.toks + 1), Value.int 1 (s.toks + 1 + 1)].toArray }) :: st) ra na vs := by
    refine ⟨fun q hq d hd => ?_, Z.mr, Z.mb, Z.hrl, List.mem_cons_of_mem _ Z.hra, Z.hvl, fun q hq => ?_, .inl rfl⟩
    · rcases List.mem_cons.mp hq with rfl | hq
      · simp only [List.mem_cons, List.not_mem_nil, or_false] at hd
        rcases hd with e | e | e | e <;> rw [e]
        · exact oD (L + 1 + 1, oF) List.mem_cons_self
        · exact oD (rw_, listOf #[.ref ra] nr) (List.mem_cons_of_mem _ List.mem_cons_self)
        · exact oD (bf, listOf #[] nb) (List.mem_cons_of_mem _ (List.mem_cons_of_mem _ List.mem_cons_self))
        · exact oD (67, tabObj #[]) (List.mem_cons_of_mem _ (List.mem_cons_of_mem _ (List.mem_cons_of_mem _ List.mem_cons_self)))
      · exact Z.ap q hq d hd
    · obtain ⟨q1, q2, tn, k, nt, hm⟩ := Z.hth q hq
      exact ⟨q1, q2, tn, k, nt, List.mem_cons_of_mem _ hm⟩
  have hs0 : ∀ x ∈ st, x ∈ ((D, { cls := .type "tuple", data := .seq [Value.int 4 s.toks, Value.int 2 (s.toks + 1), Value.int 1 (s.toks + 1 + 1)].toArray }) :: st : List (Addr × Obj)) := fun x hx => List.mem_cons_of_mem _ hx
  clear Z oD hI N2 F1
  generalize hst1 : ((D, { cls := .type "tuple", data := .seq [Value.int 4 s.toks, Value.int 2 (s.toks + 1), Value.int 1 (s.toks + 1 + 1)].toArray }) :: st : List (Addr × Obj)) = st1 at Z1 hI1 hs0 ⊢
  have hk1 : SubL [(D, { cls := .type "tuple", data := .seq [Value.int 4 s.toks, Value.int 2 (s.toks + 1), Value.int 1 (s.toks + 1 + 1)].toArray })] st1 := by
    rw [← hst1]; exact ⟨List.mem_cons_self, trivial⟩
  clear hst1
  refine fig_item (rl := [.ref ra]) (bl := []) X T C hroom hh Z1 dF n1 (by simp) (by simp) hI1 hk1 (by decide) (by decide) ?_
  intro m2 oF2 ps2 nw2 r1 b0 nr2 nb2 na2 n0 v0 Z2 dF2 hb0 hv0 hI2 hk2 hm2
  refine fig_item (rl := [.ref ra, .ref r1]) (bl := [.ref b0]) X T C hroom hh Z2 dF2 n1 (by simp) (by simp) ⟨hI1.1, hI2⟩ hk2 (by decide) (by decide) ?_
  intro m3 oF3 ps3 nw3 r2 b1 nr3 nb3 na3 n1' v1 Z3 dF3 hb1 hv1 hI3 hk3 hm3
  refine fig_item (rl := [.ref ra, .ref r1, .ref r2]) (bl := [.ref b0, .ref b1]) X T C hroom hh Z3 dF3 n1 (by simp) (by simp) ⟨hI1.1, hI3⟩ hk3 (by decide) (by decide) ?_
  intro m4 oF4 ps4 nw4 r3 b2 nr4 nb4 na4 n2' v2 Z4 dF4 hb2 hv2 hI4 hk4 hm4
  refine ItemsRest.zero fun h tk F N => ?_
  exact hQ h tk m4 oF4 ps4 _ r1 r2 r3 b0 b1 b2 nr4 nb4 na4 n0 n1' n2' v0 v1 v2 F N (fun x hx => List.mem_append.mpr (.inr (List.mem_append.mpr (.inr (List.mem_append.mpr (.inr (hs0 x hx))))))) Z4.ap Z4.hra
    ⟨List.mem_append.mpr (.inr (List.mem_append.mpr (.inr hb0))), hv0⟩ ⟨List.mem_append.mpr (.inr hb1), hv1⟩ ⟨hb2, hv2⟩ (fun y h1 h2 => ((hm4 y h1 h2).trans (hm3 y h1 h2)).trans (hm2 y h1 h2))
end Mine
/-! part As -/
namespace Mine
section
variable {prog : Program} {w : World} {A : Around} {s : Shared} {R : Result → Shared → Prop} {name qual : Str} {params : Arguments} {body : List Stmt} {scope : Scope} {dV kV doc pm cdv ct : Value} {an : Option Addr} {f aT : Addr} {fo oT : Obj} {v1 v2 v3 : Value}
abbrev askCl (n : Nat) : List (Str × Addr) := [(Str.ofString "_law_look", n + 4), (Str.ofString "asked", n + 3), (Str.ofString "before", n + 2), (Str.ofString "rows", n + 1)]
/-- a call of the asker: four cells, three of them arguments; only a code table is no part of the ground -/
theorem enter_ask (ho : s.heap.get? f = some fo) (hd : fo.data = .func (fnX name qual params body scope [] dV kV doc pm an cdv ct)) (hlim : s.heap.NoLimit) (hlim' : (s.heap.hide aT).NoLimit) (hcd : s.heap.CodeRec cdv qual) (hroom : A.depth < recursionLimit)
    (hA : s.heap.get? aT = some oT)
    (hbind : BindsTo s (fnX name qual params body scope [] dV kV doc pm an cdv ct) ⟨[v1, v2, v3], []⟩ [(Str.ofString "rows", v1), (Str.ofString "before", v2), (Str.ofString "asked", v3)])
    (hcells : ∀ n, cellsFrom n scope.names [] = [(Str.ofString "_law_look", n + 3), (Str.ofString "asked", n + 2), (Str.ofString "before", n + 1), (Str.ofString "rows", n)])
    (hpush : ∀ h, pushCells h scope.names = (((h.push cell0).push cell0).push cell0).push cell0)
    (k1 : scope.names.lookup (Str.ofString "rows") = some NameKind.cell) (k2 : scope.names.lookup (Str.ofString "before") = some NameKind.cell) (k3 : scope.names.lookup (Str.ofString "asked") = some NameKind.cell)
    (hco : scope.isCoroutine = false) (hgen : scope.isGenerator = false) (hk : scope.kind = .function)
    (h : ∀ h₁ tk o1 o2 o3 o4, Fr (s.heap.hide aT) s.heap.objs.size h₁ (fun _ => none) →
      News (s.heap.hide aT) s.heap.objs.size h₁ [(s.heap.objs.size + 4, o4), (s.heap.objs.size + 3, o3), (s.heap.objs.size + 2, o2), (s.heap.objs.size + 1, o1), (aT, oT)] →
      o1.data = .cell (some v1) → o2.data = .cell (some v2) → o3.data = .cell (some v3) → o4.data = .cell none → aT < s.heap.objs.size →
      wpAny (model prog w) (A.deeper (envX qual scope s.heap.objs.size f cdv (askCl s.heap.objs.size)))
        (execs body (envX qual scope s.heap.objs.size f cdv (askCl s.heap.objs.size)))
        (fun fl s' => R (.ok (.ret (match fl with | .ret v => v | _ => .none))) s') (fun _ _ => False) { s with heap := h₁, toks := tk }) :
    codeAny (model prog w) A (.call (.ref f) ⟨[v1, v2, v3], []⟩) R s := by
  refine codeAny_call_function (fd := fnX name qual params body scope [] dV kV doc pm an cdv ct) (body := body) hroom ho hd hco hgen rfl hcd ?_
  refine hbind _ _ _ _ ?_
  simp only [newFunctionEnv, Option.isSome_none, Bool.false_eq_true, if_false]
  refine wpAny_bind (wpAny_alloc ?_)
  refine wpAny_bind (wpAny_layCells _ (fun name kind cells => by cases hkc : kind == NameKind.cell <;> simp [hkc]) _ _ _ _ ?_)
  rw [hcells, hpush]
  have hsz : (s.heap.push { cls := .type "frame", data := .dict #[] }).objs.size = s.heap.objs.size + 1 := Heap.size_push ..
  have hlt : @LT.lt Nat _ aT s.heap.objs.size := Heap.lt_size hA
  have e1 : ((s.heap.push { cls := .type "frame", data := .dict #[] }).push cell0).objs.size = s.heap.objs.size + 2 := by rw [Heap.size_push, hsz]
  have e2 : (((s.heap.push { cls := .type "frame", data := .dict #[] }).push cell0).push cell0).objs.size = s.heap.objs.size + 3 := by rw [Heap.size_push, e1]
  have e3 : ((((s.heap.push { cls := .type "frame", data := .dict #[] }).push cell0).push cell0).push cell0).objs.size = s.heap.objs.size + 4 := by rw [Heap.size_push, e2]
  have g1 : (((((s.heap.push { cls := .type "frame", data := .dict #[] }).push cell0).push cell0).push cell0).push cell0).get? (s.heap.objs.size + 1) = some cell0 :=
    Heap.get?_push_of_some _ (Heap.get?_push_of_some _ (Heap.get?_push_of_some _ (hsz ▸ Heap.get?_push_size _ rfl)))
  have g2 : (((((s.heap.push { cls := .type "frame", data := .dict #[] }).push cell0).push cell0).push cell0).push cell0).get? (s.heap.objs.size + 2) = some cell0 :=
    Heap.get?_push_of_some _ (Heap.get?_push_of_some _ (e1 ▸ Heap.get?_push_size _ rfl))
  have g3 : (((((s.heap.push { cls := .type "frame", data := .dict #[] }).push cell0).push cell0).push cell0).push cell0).get? (s.heap.objs.size + 3) = some cell0 := Heap.get?_push_of_some _ (e2 ▸ Heap.get?_push_size _ rfl)
  have g4 : (((((s.heap.push { cls := .type "frame", data := .dict #[] }).push cell0).push cell0).push cell0).push cell0).get? (s.heap.objs.size + 4) = some cell0 := e3 ▸ Heap.get?_push_size _ rfl
  have gk : ∀ b o, s.heap.get? b = some o → (((((s.heap.push { cls := .type "frame", data := .dict #[] }).push cell0).push cell0).push cell0).push cell0).get? b = some o :=
    fun b o e => Heap.get?_push_of_some _ (Heap.get?_push_of_some _ (Heap.get?_push_of_some _ (Heap.get?_push_of_some _ (Heap.get?_push_of_some _ e))))
  have gn : (((((s.heap.push { cls := .type "frame", data := .dict #[] }).push cell0).push cell0).push cell0).push cell0).Ns s.heap.objs.size fun _ => none :=
    ((((Heap.Ns.new s.heap (.type "frame")).push _).push _).push _).push _
  rw [show ({ s with heap := s.heap.push { cls := .type "frame", data := .dict #[] } } : Shared).heap.objs.size = s.heap.objs.size + 1 from hsz]
  generalize ((((s.heap.push { cls := .type "frame", data := .dict #[] }).push cell0).push cell0).push cell0).push cell0 = H at g1 g2 g3 g4 gk gn
  have fresh : ∀ b : Addr, @LE.le Nat _ s.heap.objs.size b → (s.heap.hide aT).get? b = none := fun b hb => by
    cases e : (s.heap.hide aT).get? b with
    | none => rfl
    | some o => exact absurd (Heap.lt_size (Heap.of_hide e)) (Nat.not_lt.mpr hb)
  have F0 : Fr (s.heap.hide aT) s.heap.objs.size H (fun _ => none) := ⟨gn, fun b o e => gk b o (Heap.of_hide e), Nat.le_of_eq (Heap.hide_size ..)⟩
  have N0 : News (s.heap.hide aT) s.heap.objs.size H [(s.heap.objs.size + 4, cell0), (s.heap.objs.size + 3, cell0), (s.heap.objs.size + 2, cell0), (s.heap.objs.size + 1, cell0), (aT, oT)] := by
    intro p hp
    rcases List.mem_cons.mp hp with rfl | hp
    · exact ⟨g4, neN (by dsimp only; omega), fresh _ (by dsimp only; omega)⟩
    rcases List.mem_cons.mp hp with rfl | hp
    · exact ⟨g3, neN (by dsimp only; omega), fresh _ (by dsimp only; omega)⟩
    rcases List.mem_cons.mp hp with rfl | hp
    · exact ⟨g2, neN (by dsimp only; omega), fresh _ (by dsimp only; omega)⟩
    rcases List.mem_cons.mp hp with rfl | hp
    · exact ⟨g1, neN (by dsimp only; omega), fresh _ (by dsimp only; omega)⟩
    rw [List.mem_singleton.mp hp]
    exact ⟨gk _ _ hA, neN (by dsimp only; omega), Heap.hide_self _ _⟩
  clear g1 g2 g3 g4 gk gn
  refine wpAny_bind ?_
  rw [List.forIn_cons]
  show wpAny (model prog w) A.in1 ((storeName (envX qual scope s.heap.objs.size f cdv [(Str.ofString "_law_look", s.heap.objs.size + 1 + 3), (Str.ofString "asked", s.heap.objs.size + 1 + 2), (Str.ofString "before", s.heap.objs.size + 1 + 1), (Str.ofString "rows", s.heap.objs.size + 1)]) (Str.ofString "rows") v1 >>= fun _ => pure (ForInStep.yield PUnit.unit)) >>= _) _ _ _
  have U1 : UpdF (s.heap.objs.size + 1) cell0 [(s.heap.objs.size + 4, cell0), (s.heap.objs.size + 3, cell0), (s.heap.objs.size + 2, cell0), (s.heap.objs.size + 1, cell0), (aT, oT)] (fun o' => [(s.heap.objs.size + 4, cell0), (s.heap.objs.size + 3, cell0), (s.heap.objs.size + 2, cell0), (s.heap.objs.size + 1, o'), (aT, oT)]) :=
    .tail (neN (by dsimp only; omega)) (.tail (neN (by dsimp only; omega)) (.tail (neN (by dsimp only; omega)) (.head (by intro p hp; rw [List.mem_singleton.mp hp]; exact neN (by dsimp only; omega)))))
  refine wpAny_bind (wpAny_bind (storeX_C F0 N0 rfl U1 rfl (fun H1 o1 F1 N1 d1 => wpAny_pure ?_) hk k1))
  dsimp only
  rw [List.forIn_cons]
  show wpAny (model prog w) A.in1 ((storeName (envX qual scope s.heap.objs.size f cdv [(Str.ofString "_law_look", s.heap.objs.size + 1 + 3), (Str.ofString "asked", s.heap.objs.size + 1 + 2), (Str.ofString "before", s.heap.objs.size + 1 + 1), (Str.ofString "rows", s.heap.objs.size + 1)]) (Str.ofString "before") v2 >>= fun _ => pure (ForInStep.yield PUnit.unit)) >>= _) _ _ _
  have U2 : UpdF (s.heap.objs.size + 2) cell0 [(s.heap.objs.size + 4, cell0), (s.heap.objs.size + 3, cell0), (s.heap.objs.size + 2, cell0), (s.heap.objs.size + 1, o1), (aT, oT)] (fun o' => [(s.heap.objs.size + 4, cell0), (s.heap.objs.size + 3, cell0), (s.heap.objs.size + 2, o'), (s.heap.objs.size + 1, o1), (aT, oT)]) :=
    .tail (neN (by dsimp only; omega)) (.tail (neN (by dsimp only; omega)) (.head (by
      intro p hp
      rcases List.mem_cons.mp hp with rfl | hp
      · exact neN (by dsimp only; omega)
      · rw [List.mem_singleton.mp hp]; exact neN (by dsimp only; omega))))
  refine wpAny_bind (wpAny_bind (storeX_C F1 N1 rfl U2 rfl (fun H2 o2 F2 N2 d2 => wpAny_pure ?_) hk k2))
  dsimp only
  rw [List.forIn_cons]
  show wpAny (model prog w) A.in1 ((storeName (envX qual scope s.heap.objs.size f cdv [(Str.ofString "_law_look", s.heap.objs.size + 1 + 3), (Str.ofString "asked", s.heap.objs.size + 1 + 2), (Str.ofString "before", s.heap.objs.size + 1 + 1), (Str.ofString "rows", s.heap.objs.size + 1)]) (Str.ofString "asked") v3 >>= fun _ => pure (ForInStep.yield PUnit.unit)) >>= _) _ _ _
  have U3 : UpdF (s.heap.objs.size + 3) cell0 [(s.heap.objs.size + 4, cell0), (s.heap.objs.size + 3, cell0), (s.heap.objs.size + 2, o2), (s.heap.objs.size + 1, o1), (aT, oT)] (fun o' => [(s.heap.objs.size + 4, cell0), (s.heap.objs.size + 3, o'), (s.heap.objs.size + 2, o2), (s.heap.objs.size + 1, o1), (aT, oT)]) :=
    .tail (neN (by dsimp only; omega)) (.head (by
      intro p hp
      rcases List.mem_cons.mp hp with rfl | hp
      · exact neN (by dsimp only; omega)
      rcases List.mem_cons.mp hp with rfl | hp
      · exact neN (by dsimp only; omega)
      · rw [List.mem_singleton.mp hp]; exact neN (by dsimp only; omega)))
  refine wpAny_bind (wpAny_bind (storeX_C F2 N2 rfl U3 rfl (fun H3 o3 F3 N3 d3 => wpAny_pure ?_) hk k3))
  dsimp only
  rw [List.forIn_nil]
  refine wpAny_pure (wpAny_pure ⟨?_, codeAny_func ?_⟩)
  · have hl : (s.heap.hide aT).NoLimit := hlim'
    exact hl.keeps F3.keep
  · exact wpAny_mono (h H3 _ o1 o2 o3 cell0 F3 N3 d1 d2 d3 rfl hlt) (fun _ _ x => x) (fun _ _ x => x.elim)
theorem enter_askK {K : Frag} {oc : Value} {od : Option Addr} {osl : Array (Option Value)} {mg mb : Str → Option Value} {p : Program} {loose : List Str} {mean : ExcName → Option Value}
    (X : K.In s.heap) (T : Top p loose mean mg mb s.heap) (hlim' : (s.heap.hide aT).NoLimit) (ho : K.lookup f = some ⟨oc, od, .func (fnX name qual params body scope [] dV kV doc pm an cdv ct), osl⟩) (hcd : codeIn K cdv qual = true) (hroom : A.depth < recursionLimit)
    (hA : s.heap.get? aT = some oT)
    (hbind : BindsTo s (fnX name qual params body scope [] dV kV doc pm an cdv ct) ⟨[v1, v2, v3], []⟩ [(Str.ofString "rows", v1), (Str.ofString "before", v2), (Str.ofString "asked", v3)])
    (hcells : ∀ n, cellsFrom n scope.names [] = [(Str.ofString "_law_look", n + 3), (Str.ofString "asked", n + 2), (Str.ofString "before", n + 1), (Str.ofString "rows", n)])
    (hpush : ∀ h, pushCells h scope.names = (((h.push cell0).push cell0).push cell0).push cell0)
    (k1 : scope.names.lookup (Str.ofString "rows") = some NameKind.cell) (k2 : scope.names.lookup (Str.ofString "before") = some NameKind.cell) (k3 : scope.names.lookup (Str.ofString "asked") = some NameKind.cell)
    (hco : scope.isCoroutine = false) (hgen : scope.isGenerator = false) (hk : scope.kind = .function)
    (h : ∀ h₁ tk o1 o2 o3 o4, Fr (s.heap.hide aT) s.heap.objs.size h₁ (fun _ => none) →
      News (s.heap.hide aT) s.heap.objs.size h₁ [(s.heap.objs.size + 4, o4), (s.heap.objs.size + 3, o3), (s.heap.objs.size + 2, o2), (s.heap.objs.size + 1, o1), (aT, oT)] →
      o1.data = .cell (some v1) → o2.data = .cell (some v2) → o3.data = .cell (some v3) → o4.data = .cell none → aT < s.heap.objs.size →
      wpAny (model prog w) (A.deeper (envX qual scope s.heap.objs.size f cdv (askCl s.heap.objs.size)))
        (execs body (envX qual scope s.heap.objs.size f cdv (askCl s.heap.objs.size)))
        (fun fl s' => R (.ok (.ret (match fl with | .ret v => v | _ => .none))) s') (fun _ _ => False) { s with heap := h₁, toks := tk }) :
    codeAny (model prog w) A (.call (.ref f) ⟨[v1, v2, v3], []⟩) R s :=
  enter_ask (X _ _ ho) rfl T.nolimit hlim' (codeRec_of X hcd) hroom hA hbind hcells hpush k1 k2 k3 hco hgen hk h
end
end Mine
/-! part As2 -/
namespace Mine
theorem ask_core {w : World} {A : Around} {s : Shared} {R : Result → Shared → Prop} {h₀ : Heap} {mg mb : Str → Option Value} {p : Program} {loose : List Str} {mean : ExcName → Option Value}
    (X₀ : (hd.heap_39 w.params).In h₀) (T₀ : Top p loose mean mg mb h₀) (C : CodeHd h₀ 64 60) (U : Und h₀ 60 s.heap) (hT : s.heap.get? 60 = some (tabObj #[])) {ra ba aa : Addr}
    (hroom : A.depth < recursionLimit) (hh : A.handled = none)
    (hQ : ∀ h' tk' ps (lk cd cL cA cB cR : Addr) (doc pm ctv : Value) o1 o2 o3 o4 oc cvs ct, ExtB 60 s.heap h' → h'.get? 60 = some (tabObj ps) → (∀ a ∈ [lk, cd, cL, cA, cB, cR], s.heap.get? a = none) →
      h'.get? lk = some (lookObj cL cA cB cR cd doc pm ctv) → (h'.get? cd = some oc ∧ oc.data = .fields cvs ∧ cvs[1]? = some (.str "_law_asker.<locals>._law_look" ct)) →
      (h'.get? cL = some o4 ∧ o4.data = .cell (some (.ref lk))) → (h'.get? cA = some o3 ∧ o3.data = .cell (some (.ref aa))) → (h'.get? cB = some o2 ∧ o2.data = .cell (some (.ref ba))) → (h'.get? cR = some o1 ∧ o1.data = .cell (some (.ref ra))) →
      R (.ok (.ret (.ref lk))) { s with heap := h', toks := tk' }) :
    codeAny (model PG w) A (.call (.ref 65) ⟨[.ref ra, .ref ba, .ref aa], []⟩) R s := by
  have X := X₀.keeps fun b o e => (U b o e).2
  have T := T₀.keeps fun b o e => (U b o e).2
  have Xh := X₀.keeps U.hid
  have Th := T₀.keeps U.hid
  have Ch : CodeHd (s.heap.hide 60) 64 60 := C.keeps U.hid
  refine' enter_askK (aT := 60) X T Th.nolimit ?k ?c hroom hT ?b ?c1 ?c2 ?c3 ?c4 ?c5 ?c6 ?c7 ?c8 (fun h₁ tk o1 o2 o3 o4 F N d1 d2 d3 d4 hlt => ?_)
  case k => k_is
  case c => k_is
  case b => exact BindsTo.of_eq rfl
  case c1 => exact fun _ => rfl
  case c2 => exact fun _ => rfl
  case c3 => rfl
  case c4 => rfl
  case c5 => rfl
  case c6 => rfl
  case c7 => rfl
  case c8 => rfl
  have hlt60 : @LT.lt Nat _ 60 s.heap.objs.size := hlt
  iterate 3 walk1
  iterate 3 walk1
  rename News _ _ _ _ => N9
  have z := (N9 _ List.mem_cons_self).1
  rename Fr _ _ _ _ => F9
  have m1 := N9 _ (List.mem_cons_of_mem _ List.mem_cons_self)
  have m2 := N9 _ (List.mem_cons_of_mem _ (List.mem_cons_of_mem _ List.mem_cons_self))
  have m3 := N9 _ (List.mem_cons_of_mem _ (List.mem_cons_of_mem _ (List.mem_cons_of_mem _ List.mem_cons_self)))
  have m4 := N9 _ (List.mem_cons_of_mem _ (List.mem_cons_of_mem _ (List.mem_cons_of_mem _ (List.mem_cons_of_mem _ List.mem_cons_self))))
  have m5 := N9 _ (List.mem_cons_of_mem _ (List.mem_cons_of_mem _ (List.mem_cons_of_mem _ (List.mem_cons_of_mem _ (List.mem_cons_of_mem _ List.mem_cons_self)))))
  have m6 := N9 _ (List.mem_cons_of_mem _ (List.mem_cons_of_mem _ (List.mem_cons_of_mem _ (List.mem_cons_of_mem _ (List.mem_cons_of_mem _ (List.mem_cons_of_mem _ List.mem_cons_self))))))
  have m0 := N9 _ List.mem_cons_self
  rename @LT.lt Nat _ _ _ ∧ @LT.lt Nat _ _ _ ∧ @LT.lt Nat _ _ _ ∧ @LT.lt Nat _ _ _ ∧ @LT.lt Nat _ _ _ => l1
  have fr : ∀ a : Addr, a ≠ 60 → (s.heap.hide 60).get? a = none → s.heap.get? a = none := fun a ha e => by rwa [Heap.hide_ne _ ha] at e
  refine hQ _ _ _ _ _ (s.heap.objs.size + 4) (s.heap.objs.size + 3) (s.heap.objs.size + 2) (s.heap.objs.size + 1) _ _ _ o1 o2 o3 _ _ _ _ (fun b o hb e => F9.keep b o ((Heap.hide_ne _ hb).trans e)) m6.1 (fun a ha => ?_) m0.1 ⟨m1.1, by assumption, by assumption⟩ ⟨m2.1, by assumption⟩ ⟨m3.1, d3⟩ ⟨m4.1, d2⟩ ⟨m5.1, d1⟩
  simp only [List.mem_cons, List.not_mem_nil, or_false] at ha
  rcases ha with rfl | rfl | rfl | rfl | rfl | rfl
  · exact fr _ (fun e => by have z := m0.1; dsimp only at z; rw [e, m6.1] at z; cases z) m0.2.2
  · exact fr _ (neN (by omega)) m1.2.2
  · exact fr _ (neN (by omega)) m2.2.2
  · exact fr _ (neN (by omega)) m3.2.2
  · exact fr _ (neN (by omega)) m4.2.2
  · exact fr _ (neN (by omega)) m5.2.2
end Mine
/-! part Rk -/
namespace Mine
def startS : Stmt := stAt (bodyOf lawS) 7
def behindS : Stmt := stAt (bodyOf startS) 0
def rankS : Stmt := stAt (bodyOf behindS) 1
theorem rank_body {w : World} {A : Around} {E : Value → Shared → Prop} {s : Shared} {Q : Flow → Shared → Prop} {g : Heap} {L fa dueA t : Addr} {m : Str → Option Value} {mg mb : Str → Option Value} {p : Program} {loose : List Str} {mean : ExcName → Option Value}
    {xs : List Value} {nx nd : Nat} {st st₀ : List (Addr × Obj)} {k : Lk} {C : Nat → List Int} {ts dts : List Addr} {rank start behind q1 q2 : Int} {tr ta tb u1 u2 : Tok} {nt : Nat}
    (X : (hd.heap_39 w.params).In g) (T : Top p loose mean mg mb g) (hroom : A.depth + 40 < recursionLimit) (hh : A.handled = none) (M : LookMem st₀ k C ts) (hst : ∀ x ∈ st₀, x ∈ st)
    (F : Fr g L s.heap m) (N : News g L s.heap ((k.ask, listOf (List.toArray xs) nx) :: st)) (hap : ∀ x ∈ st, x.1 ≠ k.ask) (hxs : xs.length ≤ 900)
    (ml : m (Str.ofString "look") = some (.ref k.look)) (mr : m (Str.ofString "rank") = some (.int rank tr)) (ms : m (Str.ofString "start") = some (.int start ta)) (mbh : m (Str.ofString "behind") = some (.int behind tb)) (md : m (Str.ofString "due") = some (.ref dueA))
    (hd' : (dueA, listOf (dts.map Value.ref).toArray nd) ∈ st) (htt : (t, tup [.int q1 u1, .int q2 u2] nt) ∈ st) (hu : A.units + 64 < cLine) (hr0 : 0 ≤ rank) (hr9 : rank < 1000) (hdt : dts[rank.toNat]? = some t) (hg : Good C ts 3 rank 0 start behind 5 t)
    (hQ : ∀ h' tk' m' vals n', Fr g L h' m' → News g L h' ((k.ask, listOf (List.toArray (xs ++ vals)) n') :: st) → IntsAre vals [0, 1, 2, 3] → (∀ y, y ≠ Str.ofString "told" → m' y = m y) → Q .next { s with heap := h', toks := tk' }) :
    wpAny (model PG w) A (execs (bodyOf rankS) (envLaw L fa)) Q E s := by
  have hfn := (N _ (List.mem_cons_of_mem _ (hst _ M.fn))).1
  simp only [envLaw, scopeOf, bodyOf, rankS, behindS, startS, lawS, stAt, PySem.Challenge.pw_kl0408_01, List.getElem?_cons_succ, List.getElem?_cons_zero]
  iterate 6 walk1
  refine nameX_L F mr ?_
  walk1
  refine nameX_L F ml ?_
  iterate 8 walk1
  refine nameX_L F ms ?_
  walk1
  refine nameX_L F mbh ?_
  iterate 3 walk1
  refine newList_K F N (fun D h1 F1 N1 off => ?_) (by show 4 ≤ sizeLine; decide)
  iterate 2 walk1
  have kD := N1 _ List.mem_cons_self
  have kA := N1 (k.ask, _) (List.mem_cons_of_mem _ List.mem_cons_self)
  have hDa : D ≠ k.ask := neN (Nat.ne_of_gt (off _ List.mem_cons_self))
  have U1 : Und g k.ask h1 := fun b o e => ⟨fun q => (by rw [q, kA.2.2] at e; cases e), F1.keep b o e⟩
  have S1 : Stat k.ask st₀ h1 := fun q hq => ⟨hap q (hst q hq), (N1 q (List.mem_cons_of_mem _ (List.mem_cons_of_mem _ (hst q hq)))).1⟩
  have ke := S1 _ M.fn
  refine wpAny_call (gni_core (a := k.ask) X T U1 ke.2 rfl ke.1 kA.1 (fun v o => v = .ref t ∧ ∃ vals n, o = listOf (List.toArray (xs ++ vals)) n ∧ IntsAre vals [0, 1, 2, 3]) (by omega) hh ?_ ?_)
  · intro A' h' tk' R' hd' hh' x' hc
    have e : (0 : Int) = 3 - ((3 : Nat) : Int) := by decide
    rw [e]
    refine look_all X T M (U1.ext (ExtB.of x')) (S1.ext (ExtB.of x')) (x' _ _ kA.1) (by omega) hDa (x' _ _ kD.1) hg (by rw [hd']; omega) hh' fun h2 tk2 vals n x2 g2 hi => ?_
    exact hc (.ref t) _ h2 tk2 x2 g2 ⟨rfl, vals, n, rfl, hi⟩
  intro v oA' h2 tk2 tu n x2 g2 pp gt fr
  obtain ⟨rfl, vals, n2, rfl, hi⟩ := pp
  have F2 : Fr g L h2 m := ⟨F1.ns.at' fun o e => x2 _ _ kA.2.1.symm e, fun b o e => x2 b o (U1 b o e).1 (F1.keep b o e), F1.above⟩
  have N2 : News g L h2 ((tu, tup [.ref t, .ref t] n) :: (k.ask, listOf (List.toArray (xs ++ vals)) n2) :: st) := fun q hq => by
    rcases List.mem_cons.mp hq with rfl | hq
    · exact fresh_put F1 fr gt
    rcases List.mem_cons.mp hq with rfl | hq
    · exact ⟨g2, kA.2⟩
    · have z := N1 q (List.mem_cons_of_mem _ (List.mem_cons_of_mem _ hq))
      exact ⟨x2 _ _ (hap q hq) z.1, z.2⟩
  clear F1 N1 kD kA U1 S1 ke
  refine storeX_L F2 N2 (fun h3 F3 N3 => ?_)
  clear F2 N2
  iterate 4 walk1
  have mt : (fun y => if y = Str.ofString "told" then some (Value.ref tu) else m y) (Str.ofString "due") = some (.ref dueA) := md
  have mr2 : (fun y => if y = Str.ofString "told" then some (Value.ref tu) else m y) (Str.ofString "rank") = some (.int rank tr) := mr
  refine nameX_L F3 rfl ?_
  iterate 2 walk1
  walk1
  refine nameX_L F3 mt ?_
  refine nameX_L F3 mr2 ?_
  refine itemN N3 (List.mem_cons_of_mem _ (List.mem_cons_of_mem _ hd')) hr0 (by omega) (by rw [List.getElem?_map, hdt]; rfl) ?_
  iterate 2 walk1
  refine nameX_L F3 mt ?_
  refine nameX_L F3 mr2 ?_
  refine itemN N3 (List.mem_cons_of_mem _ (List.mem_cons_of_mem _ hd')) hr0 (by omega) (by rw [List.getElem?_map, hdt]; rfl) ?_
  walk1
  refine newTuple_N F3 N3 (fun h4 F4 N4 => ?_) (by show 2 ≤ sizeLine; decide)
  have r1 : Reads h4 (.ref t) (.tuple [.int q1, .int q2]) _ := reads_tuple_at (N4 _ (List.mem_cons_of_mem _ (List.mem_cons_of_mem _ (List.mem_cons_of_mem _ htt)))).1 rfl rfl (.cons (.int _ _) (.cons (.int _ _) .nil))
  have r2 := reads_tuple_at (N4 _ List.mem_cons_self).1 rfl rfl (.cons r1 (.cons r1 .nil))
  have r3 := reads_tuple_at (N4 _ (List.mem_cons_of_mem _ List.mem_cons_self)).1 rfl rfl (.cons r1 (.cons r1 .nil))
  refine ne_dataH r3 r2 rfl rfl hu ?_
  have eb : (!PyData.eqv (.tuple [.tuple [.int q1, .int q2], .tuple [.int q1, .int q2]]) (.tuple [.tuple [.int q1, .int q2], .tuple [.int q1, .int q2]])) = false := by simp [PyData.eqv, PyData.eqvAll]
  rw [eb]
  iterate 4 walk1
  exact wpAny_execs_nil (hQ h4 _ _ vals n2 F4 (fun q hq => N4 q (List.mem_cons_of_mem _ (List.mem_cons_of_mem _ hq))) hi (fun y hy => if_neg hy))
end Mine
/-! part Rg -/
namespace Mine
section
variable {prog : Program} {w : World} {A : Around} {E : Value → Shared → Prop} {s : Shared} {env : Env} {h₀ : Heap} {x : Str} {body : List Stmt} {Q : Flow → Shared → Prop}
/-- a for over a range by an invariant over the frame's names and the ledger -/
theorem iterR {r : Addr} {a b : Int} {t u v : Tok} {n : Nat} {m₀ : Str → Option Value} {news : List (Addr × Obj)} (J : Nat → (Str → Option Value) → List (Addr × Obj) → Prop)
    (hh : A.handled = none) (hr : IsRange s.heap r a b 1 t u v) (hsm : Builtin.Range.small a b 1 = true) (hn : Builtin.Range.rangeSize a b 1 = ((n : Nat) : Int)) (F : Fr h₀ env.locals s.heap m₀) (N : News h₀ env.locals s.heap news) (hj : J 0 m₀ news)
    (turn : ∀ i v tv m₁ news₁ h tk own, i < n → v = .int (a + (i : Int)) tv → news₁.map (·.1) = news.map (·.1) → OwnOff own (news.map (·.1)) → J i m₁ news₁ → Fr h₀ env.locals h (fun y => if y = x then some v else m₁ y) → News h₀ env.locals h (news₁ ++ own) →
      wpAny (model prog w) A (execs body env) (InvPostN h₀ env.locals (J (i + 1)) own (news.map (·.1)) { s with heap := h, toks := tk } Q) E { s with heap := h, toks := tk })
    (done : ∀ m₁ news₁ h tk, J n m₁ news₁ → Fr h₀ env.locals h m₁ → News h₀ env.locals h news₁ → Q .next { s with heap := h, toks := tk }) :
    wpAny (model prog w) A (pyIter (.ref r)) (fun it s₂ => LoopAtV prog w A h₀ env x body Q E it s₂) E s := by
  refine wpAny_pyIter_range hr hsm ?_
  have up : ∀ b o, s.heap.get? b = some o → (s.heap.push { cls := .type "range_iterator", data := .fields #[.int a 0, .int n 0, .int 1 0] }).get? b = some o := fun b o e => Heap.get?_push_of_some _ e
  refine loop_invN J (LCg.range_walks hh a n) ?_ ?_ ?_ ?_ (by show IsRangeIter _ _ _ _ _; rw [hn]; simpa using Heap.get?_push_size _ rfl) (F.push _) (fun p hp => ⟨Heap.get?_push_of_some _ (N p hp).1, (N p hp).2⟩) hj ?_ ?_
  · intro hm
    exact absurd F.ns.lt ((List.mem_singleton.mp hm) ▸ Nat.lt_irrefl _)
  · intro b hb
    rw [List.mem_singleton.mp hb]
    exact next_is_new F
  · intro p hp hI
    exact absurd (Heap.lt_size (N p hp).1) ((List.mem_singleton.mp hI) ▸ Nat.lt_irrefl _)
  · intro q hq hI
    exact absurd (Heap.lt_size (N q hq).1) ((List.mem_singleton.mp hI) ▸ Nat.lt_irrefl _)
  · intro i v m₁ news₁ h tk own hi hP hadr hoff hJ F₁ N₁
    obtain ⟨tv, e⟩ := hP
    exact turn i v tv m₁ news₁ h tk own hi e hadr hoff hJ F₁ N₁
  · intro m₁ news₁ h tk hJ F₁ N₁
    exact done m₁ news₁ h tk hJ F₁ N₁
end
end Mine
/-! part Rl -/
namespace Mine
def flat4 : Nat → List Int
  | 0 => []
  | n + 1 => flat4 n ++ [0, 1, 2, 3]
theorem flat4_add (a : Nat) : ∀ b, flat4 a ++ flat4 b = flat4 (a + b)
  | 0 => by simp [flat4]
  | b + 1 => by rw [flat4, ← List.append_assoc, flat4_add a b]; rfl
theorem flat4_length : ∀ n, (flat4 n).length = 4 * n
  | 0 => rfl
  | n + 1 => by rw [flat4, List.length_append, flat4_length n]; simp; omega
theorem small5 : ∀ n : Nat, n ≤ 6 → Builtin.Range.small 0 (n : Int) 1 = true ∧ Builtin.Range.rangeSize 0 (n : Int) 1 = ((n : Nat) : Int) := by decide
theorem rank_loop {w : World} {A : Around} {E : Value → Shared → Prop} {s : Shared} {Q : Flow → Shared → Prop} {g : Heap} {L fa dueA : Addr} {m : Str → Option Value} {mg mb : Str → Option Value} {p : Program} {loose : List Str} {mean : ExcName → Option Value}
    {xs : List Value} {nx nd : Nat} {st st₀ : List (Addr × Obj)} {k : Lk} {C : Nat → List Int} {ts dts : List Addr} {start behind : Int} {ta tb : Tok}
    (X : (hd.heap_39 w.params).In g) (T : Top p loose mean mg mb g) (hroom : A.depth + 40 < recursionLimit) (hh : A.handled = none) (hE : PassesOwn (model PG w) A (envLaw L fa) E) (M : LookMem st₀ k C ts) (hst : ∀ x ∈ st₀, x ∈ st)
    (F : Fr g L s.heap m) (N : News g L s.heap ((k.ask, listOf (List.toArray xs) nx) :: st)) (hap : ∀ x ∈ st, x.1 ≠ k.ask) (hxs : xs.length + 4 * dts.length ≤ 900)
    (ml : m (Str.ofString "look") = some (.ref k.look)) (ms : m (Str.ofString "start") = some (.int start ta)) (mbh : m (Str.ofString "behind") = some (.int behind tb)) (md : m (Str.ofString "due") = some (.ref dueA))
    (hd' : (dueA, listOf (dts.map Value.ref).toArray nd) ∈ st) (hu : A.units + 64 < cLine) (hlen : dts.length ≤ 5)
    (hgd : ∀ (r : Nat) t, dts[r]? = some t → (∃ q1 u1 q2 u2 nt, (t, tup [.int q1 u1, .int q2 u2] nt) ∈ st) ∧ Good C ts 3 (r : Int) 0 start behind 5 t)
    (hQ : ∀ h' tk' m' vals n', Fr g L h' m' → News g L h' ((k.ask, listOf (List.toArray (xs ++ vals)) n') :: st) → IntsAre vals (flat4 dts.length) → (∀ y, y ≠ Str.ofString "told" → y ≠ Str.ofString "rank" → m' y = m y) → Q .next { s with heap := h', toks := tk' }) :
    wpAny (model PG w) A (exec rankS (envLaw L fa)) Q E s := by
  simp only [envLaw, scopeOf, bodyOf, rankS, behindS, startS, lawS, stAt, PySem.Challenge.pw_kl0408_01, List.getElem?_cons_succ, List.getElem?_cons_zero]
  refine For_invVF F rfl rfl ?_ (hE := hE)
  iterate 8 walk1
  refine nameX_L F md ?_
  walk1
  refine len_list ⟨_, (N _ (List.mem_cons_of_mem _ hd')).1, rfl, _, rfl⟩ (by rw [List.size_toArray, List.length_map]; omega) ?_
  rw [List.size_toArray, List.length_map]
  walk1
  refine range1_rows F N fun h1 tk1 t1 u1 v1 hr F1 N1 up => ?_
  refine iterR (env := envLaw L fa) (n := dts.length) (fun i m₁ news₁ => ∃ vals n', news₁ = (k.ask, listOf (List.toArray (xs ++ vals)) n') :: st ∧ IntsAre vals (flat4 i) ∧ ∀ y, y ≠ Str.ofString "told" → y ≠ Str.ofString "rank" → m₁ y = m y) hh hr (small5 _ (by omega)).1 (small5 _ (by omega)).2 F1 N1 ⟨[], nx, by simp, .nil, fun _ _ _ => rfl⟩ ?_ ?_
  · rintro i v tv m₁ news₁ h tk own hi rfl hadr hoff ⟨vals, n', rfl, hv, hm⟩ F2 N2
    have hvl := hv.length
    rw [flat4_length] at hvl
    obtain ⟨t, hdt⟩ : ∃ t, dts[i]? = some t := ⟨dts[i], List.getElem?_eq_getElem hi⟩
    obtain ⟨⟨q1, u1, q2, u2, nt, htt⟩, hG⟩ := hgd i t hdt
    have e0 : (0 : Int) + (i : Int) = (i : Int) := by omega
    rw [e0] at F2
    refine rank_body (st := st ++ own) X T hroom hh M (fun x hx => List.mem_append.mpr (.inl (hst x hx))) F2 N2 (fun x hx => ?_) (by rw [List.length_append]; omega) ((hm _ (by decide) (by decide)).trans ml) rfl ((hm _ (by decide) (by decide)).trans ms) ((hm _ (by decide) (by decide)).trans mbh) ((hm _ (by decide) (by decide)).trans md)
      (List.mem_append.mpr (.inl hd')) (List.mem_append.mpr (.inl htt)) hu (by omega) (by omega) (by simpa using hdt) hG ?_
    · rcases List.mem_append.mp hx with hx | hx
      · exact hap x hx
      · exact hoff x hx k.ask (by simp)
    · intro h' tk' m' vals' n'' F3 N3 hv' hm'
      refine ⟨h', tk', m', ((k.ask, listOf (List.toArray (xs ++ (vals ++ vals'))) n'') :: st) ++ own, (k.ask, listOf (List.toArray (xs ++ (vals ++ vals'))) n'') :: st, rfl, F3, ?_, fun q hq => List.mem_append.mpr (.inl hq), fun q hq => List.mem_append.mpr (.inr hq), rfl, ⟨vals ++ vals', n'', rfl, hv.append hv', fun y h1 h2 => ?_⟩⟩
      · rw [← List.append_assoc]; exact N3
      · rw [hm' y h1]
        exact (if_neg h2).trans (hm y h1 h2)
  · rintro m₁ news₁ h tk ⟨vals, n', rfl, hv, hm⟩ F2 N2
    exact hQ h tk m₁ vals n' F2 N2 hv hm
end Mine
/-! part Srt0 -/
namespace Mine
def runT {α : Type} (lt : Nat → Nat → Bool) : KasT α → α
  | .ret a => a
  | .ask i j k => runT lt (k (lt i j))
def okT {α : Type} (n : Nat) : KasT α → Bool
  | .ret _ => true
  | .ask i j k => decide (i < n) && decide (j < n) && decide (i ≠ j) && okT n (k true) && okT n (k false)
theorem run_wp {α : Type} {cmp : Nat → Nat → (Bool → Shared → Prop) → Shared → Prop} {lt : Nat → Nat → Bool} {n : Nat} {s : Shared} {Q : α → Shared → Prop}
    (hc : ∀ i j, i < n → j < n → i ≠ j → ∀ C : Bool → Shared → Prop, C (lt i j) s → cmp i j C s) : ∀ t : KasT α, okT n t = true → Q (runT lt t) s → t.kasWp cmp Q s
  | .ret _, _, h => h
  | .ask i j k, ho, h => by
    simp only [okT, Bool.and_eq_true, decide_eq_true_eq] at ho
    obtain ⟨⟨⟨⟨h1, h2⟩, h3⟩, h4⟩, h5⟩ := ho
    refine hc i j h1 h2 h3 _ ?_
    cases hb : lt i j with
    | true => exact run_wp hc (k true) h4 (by simpa [runT, hb] using h)
    | false => exact run_wp hc (k false) h5 (by simpa [runT, hb] using h)
theorem ok2 : okT 2 (kas_sort 2) = true := by decide +kernel
theorem ok3 : okT 3 (kas_sort 3) = true := by decide +kernel
theorem ok4 : okT 4 (kas_sort 4) = true := by decide +kernel
def rad {α : Type} (key : α → Int) : List Int → List α → List α
  | [], S => S
  | f :: fs, S => rad key fs (S.filter fun p => lacks f (key p)) ++ rad key fs (S.filter fun p => !lacks f (key p))
def ltL (ns : List Int) (i j : Nat) : Bool := decide (ns.getD i 0 < ns.getD j 0) || (decide (ns.getD i 0 = ns.getD j 0) && decide (i < j))
def key8 (ns : List Int) (i : Nat) : Int := ns.getD i 0
end Mine
/-! part Srt4 -/
namespace Mine
theorem run_congr {α : Type} {lt lt' : Nat → Nat → Bool} {n : Nat} (hc : ∀ i j, i < n → j < n → i ≠ j → lt i j = lt' i j) : ∀ t : KasT α, okT n t = true → runT lt t = runT lt' t
  | .ret _, _ => rfl
  | .ask i j k, ho => by
    simp only [okT, Bool.and_eq_true, decide_eq_true_eq] at ho
    obtain ⟨⟨⟨⟨h1, h2⟩, h3⟩, h4⟩, h5⟩ := ho
    show runT lt (k (lt i j)) = runT lt' (k (lt' i j))
    rw [← hc i j h1 h2 h3]
    cases lt i j with
    | true => exact run_congr hc (k true) h4
    | false => exact run_congr hc (k false) h5
def ltB (a b c d e f : Bool) : Nat → Nat → Bool
  | 0, 1 => a | 0, 2 => b | 0, 3 => c | 1, 2 => d | 1, 3 => e | 2, 3 => f
  | 1, 0 => !a | 2, 0 => !b | 3, 0 => !c | 2, 1 => !d | 3, 1 => !e | 3, 2 => !f
  | _, _ => false
def trB (x y z : Bool) : Bool := (!(x && y) || z) && ((x || y) || !z)
theorem kas4 : ∀ a b c d e f : Bool, (trB a d b && trB a e c && (trB b f c && trB d f e)) = true →
    (runT (ltB a b c d e f) (kas_sort 4)).toList.Pairwise (fun i j => ltB a b c d e f i j = true) ∧ (runT (ltB a b c d e f) (kas_sort 4)).toList.Perm [0, 1, 2, 3] := by decide +kernel
theorem kas3 : ∀ a b d : Bool, trB a d b = true →
    (runT (ltB a b true d true true) (kas_sort 3)).toList.Pairwise (fun i j => ltB a b true d true true i j = true) ∧ (runT (ltB a b true d true true) (kas_sort 3)).toList.Perm [0, 1, 2] := by decide +kernel
theorem kas2 : ∀ a : Bool, (runT (ltB a true true true true true) (kas_sort 2)).toList.Pairwise (fun i j => ltB a true true true true true i j = true) ∧ (runT (ltB a true true true true true) (kas_sort 2)).toList.Perm [0, 1] := by decide +kernel
theorem ltL_iff (ns : List Int) (i j : Nat) : ltL ns i j = true ↔ (ns.getD i 0 < ns.getD j 0 ∨ (ns.getD i 0 = ns.getD j 0 ∧ i < j)) := by
  simp only [ltL, Bool.or_eq_true, Bool.and_eq_true, decide_eq_true_eq]
theorem ltL_not (ns : List Int) (i j : Nat) (h : i < j) : ltL ns j i = !ltL ns i j := by
  rw [Bool.eq_iff_iff, Bool.not_eq_true', ← Bool.not_eq_true, ltL_iff, ltL_iff]
  omega
theorem ltL_tr (ns : List Int) (i j k : Nat) (h : i < j) (h' : j < k) : trB (ltL ns i j) (ltL ns j k) (ltL ns i k) = true := by
  have e1 := ltL_iff ns i j
  have e2 := ltL_iff ns j k
  have e3 := ltL_iff ns i k
  generalize ns.getD i 0 = a at *
  generalize ns.getD j 0 = b at *
  generalize ns.getD k 0 = c at *
  cases h1 : ltL ns i j <;> cases h2 : ltL ns j k <;> cases h3 : ltL ns i k <;> first
    | rfl
    | (exfalso; simp only [h1, h2, h3, true_iff, false_iff, Bool.false_eq_true] at e1 e2 e3; omega)
theorem pw_ext {lt lt' : Nat → Nat → Bool} {n : Nat} (hc : ∀ i j, i < n → j < n → i ≠ j → lt i j = lt' i j) {l : List Nat} (hp : l.Perm (List.range n)) (hl : l.Pairwise fun i j => lt' i j = true) : l.Pairwise fun i j => lt i j = true := by
  have hn : l.Pairwise fun i j => i ≠ j := hp.symm.pairwise (List.nodup_range) (fun h => Ne.symm h)
  have hm : ∀ x ∈ l, x < n := fun x hx => List.mem_range.mp (hp.mem_iff.mp hx)
  refine (hl.and hn).imp_of_mem ?_
  intro i j hi hj hij
  rw [hc i j (hm i hi) (hm j hj) hij.2]
  exact hij.1
theorem runS (ns : List Int) : ∀ n, 2 ≤ n → n ≤ 4 → okT n (kas_sort n) = true ∧ (runT (ltL ns) (kas_sort n)).toList.Pairwise (fun i j => ltL ns i j = true) ∧ (runT (ltL ns) (kas_sort n)).toList.Perm (List.range n) := by
  intro n h2 h4
  have n10 := ltL_not ns 0 1 (by decide)
  have n20 := ltL_not ns 0 2 (by decide)
  have n30 := ltL_not ns 0 3 (by decide)
  have n21 := ltL_not ns 1 2 (by decide)
  have n31 := ltL_not ns 1 3 (by decide)
  have n32 := ltL_not ns 2 3 (by decide)
  match n, h2, h4 with
  | 2, _, _ =>
    have hc : ∀ i j, i < 2 → j < 2 → i ≠ j → ltL ns i j = ltB (ltL ns 0 1) true true true true true i j
      | 0, 0, _, _, h => absurd rfl h
      | 0, 1, _, _, _ => rfl
      | 1, 0, _, _, _ => n10
      | 1, 1, _, _, h => absurd rfl h
      | i + 2, _, h, _, _ => absurd h (by omega)
      | _, j + 2, _, h, _ => absurd h (by omega)
    have k := kas2 (ltL ns 0 1)
    rw [← run_congr hc _ ok2] at k
    exact ⟨ok2, pw_ext hc k.2 k.1, k.2⟩
  | 3, _, _ =>
    have hc : ∀ i j, i < 3 → j < 3 → i ≠ j → ltL ns i j = ltB (ltL ns 0 1) (ltL ns 0 2) true (ltL ns 1 2) true true i j
      | 0, 0, _, _, h => absurd rfl h
      | 0, 1, _, _, _ => rfl
      | 0, 2, _, _, _ => rfl
      | 1, 0, _, _, _ => n10
      | 1, 1, _, _, h => absurd rfl h
      | 1, 2, _, _, _ => rfl
      | 2, 0, _, _, _ => n20
      | 2, 1, _, _, _ => n21
      | 2, 2, _, _, h => absurd rfl h
      | i + 3, _, h, _, _ => absurd h (by omega)
      | _, j + 3, _, h, _ => absurd h (by omega)
    have k := kas3 (ltL ns 0 1) (ltL ns 0 2) (ltL ns 1 2) (ltL_tr ns 0 1 2 (by decide) (by decide))
    rw [← run_congr hc _ ok3] at k
    exact ⟨ok3, pw_ext hc k.2 k.1, k.2⟩
  | 4, _, _ =>
    have hc : ∀ i j, i < 4 → j < 4 → i ≠ j → ltL ns i j = ltB (ltL ns 0 1) (ltL ns 0 2) (ltL ns 0 3) (ltL ns 1 2) (ltL ns 1 3) (ltL ns 2 3) i j
      | 0, 0, _, _, h => absurd rfl h
      | 0, 1, _, _, _ => rfl
      | 0, 2, _, _, _ => rfl
      | 0, 3, _, _, _ => rfl
      | 1, 0, _, _, _ => n10
      | 1, 1, _, _, h => absurd rfl h
      | 1, 2, _, _, _ => rfl
      | 1, 3, _, _, _ => rfl
      | 2, 0, _, _, _ => n20
      | 2, 1, _, _, _ => n21
      | 2, 2, _, _, h => absurd rfl h
      | 2, 3, _, _, _ => rfl
      | 3, 0, _, _, _ => n30
      | 3, 1, _, _, _ => n31
      | 3, 2, _, _, _ => n32
      | 3, 3, _, _, h => absurd rfl h
      | i + 4, _, h, _, _ => absurd h (by omega)
      | _, j + 4, _, h, _ => absurd h (by omega)
    have k := kas4 (ltL ns 0 1) (ltL ns 0 2) (ltL ns 0 3) (ltL ns 1 2) (ltL ns 1 3) (ltL ns 2 3) (by rw [ltL_tr ns 0 1 2 (by decide) (by decide), ltL_tr ns 0 1 3 (by decide) (by decide), ltL_tr ns 0 2 3 (by decide) (by decide), ltL_tr ns 1 2 3 (by decide) (by decide)]; rfl)
    rw [← run_congr hc _ ok4] at k
    exact ⟨ok4, pw_ext hc k.2 k.1, k.2⟩
theorem rad_perm {α : Type} (key : α → Int) : ∀ (fs : List Int) (S : List α), (rad key fs S).Perm S
  | [], _ => .refl _
  | _ :: fs, S => ((rad_perm key fs _).append (rad_perm key fs _)).trans (List.filter_append_perm _ S)
/-- one turn of the parting: what lacks the figure lies below the middle -/
theorem rad_pw {ns : List Int} {f lo mid hi : Int} {fs : List Int} {S : List Nat} (hk : ∀ i ∈ S, lo ≤ ns.getD i 0 ∧ ns.getD i 0 < hi) (hl : ∀ k, lo ≤ k → k < hi → (lacks f k = true ↔ k < mid)) (hS : S.Pairwise (· < ·))
    (h1 : ∀ T : List Nat, T.Pairwise (· < ·) → (∀ i ∈ T, lo ≤ ns.getD i 0 ∧ ns.getD i 0 < mid) → (rad (key8 ns) fs T).Pairwise (fun i j => ltL ns i j = true))
    (h2 : ∀ T : List Nat, T.Pairwise (· < ·) → (∀ i ∈ T, mid ≤ ns.getD i 0 ∧ ns.getD i 0 < hi) → (rad (key8 ns) fs T).Pairwise (fun i j => ltL ns i j = true)) :
    (rad (key8 ns) (f :: fs) S).Pairwise (fun i j => ltL ns i j = true) := by
  have a1 : ∀ i ∈ S.filter (fun p => lacks f (key8 ns p)), lo ≤ ns.getD i 0 ∧ ns.getD i 0 < mid := fun i hi => by
    obtain ⟨m, e⟩ := List.mem_filter.mp hi
    exact ⟨(hk i m).1, (hl _ (hk i m).1 (hk i m).2).mp e⟩
  have a2 : ∀ i ∈ S.filter (fun p => !lacks f (key8 ns p)), mid ≤ ns.getD i 0 ∧ ns.getD i 0 < hi := fun i hi => by
    obtain ⟨m, e⟩ := List.mem_filter.mp hi
    have q := hl _ (hk i m).1 (hk i m).2
    have e' : ¬ lacks f (ns.getD i 0) = true := by
      intro z
      simp only [key8, z] at e
      cases e
    exact ⟨Int.not_lt.mp fun z => e' (q.mpr z), (hk i m).2⟩
  refine List.pairwise_append.mpr ⟨h1 _ (hS.filter _) a1, h2 _ (hS.filter _) a2, fun i hi j hj => ?_⟩
  have x := (a1 i ((rad_perm _ fs _).mem_iff.mp hi)).2
  have y := (a2 j ((rad_perm _ fs _).mem_iff.mp hj)).1
  exact (ltL_iff ns i j).mpr (.inl (Int.lt_of_lt_of_le x y))
theorem lac : ∀ k : Fin 8, ((lacks 4 k.val = true) ↔ (k.val : Int) < 4) ∧ ((lacks 2 k.val = true) ↔ ((k.val : Int) < 2 ∨ (4 ≤ (k.val : Int) ∧ (k.val : Int) < 6))) ∧ ((lacks 1 k.val = true) ↔ ((k.val : Int) = 0 ∨ (k.val : Int) = 2 ∨ (k.val : Int) = 4 ∨ (k.val : Int) = 6)) := by decide +kernel
theorem lacI {k : Int} (h0 : 0 ≤ k) (h8 : k < 8) : ((lacks 4 k = true) ↔ k < 4) ∧ ((lacks 2 k = true) ↔ (k < 2 ∨ (4 ≤ k ∧ k < 6))) ∧ ((lacks 1 k = true) ↔ (k = 0 ∨ k = 2 ∨ k = 4 ∨ k = 6)) := by
  obtain ⟨n, rfl⟩ := Int.eq_ofNat_of_zero_le h0
  exact lac ⟨n, by omega⟩
theorem rad0 {ns : List Int} {q : Int} {S : List Nat} (hS : S.Pairwise (· < ·)) (hk : ∀ i ∈ S, q ≤ ns.getD i 0 ∧ ns.getD i 0 < q + 1) : (rad (key8 ns) [] S).Pairwise (fun i j => ltL ns i j = true) :=
  hS.imp_of_mem fun {i j} hi hj h => (ltL_iff ns i j).mpr (.inr ⟨by have := hk i hi; have := hk j hj; omega, h⟩)
theorem rad1 {ns : List Int} {q : Int} (hq : q = 0 ∨ q = 2 ∨ q = 4 ∨ q = 6) (S : List Nat) (hS : S.Pairwise (· < ·)) (hk : ∀ i ∈ S, q ≤ ns.getD i 0 ∧ ns.getD i 0 < q + 2) : (rad (key8 ns) [1] S).Pairwise (fun i j => ltL ns i j = true) :=
  rad_pw (mid := q + 1) hk (fun k a b => (lacI (k := k) (by omega) (by omega)).2.2.trans (by constructor <;> omega)) hS (fun T hT h => rad0 hT h) (fun T hT h => rad0 (q := q + 1) hT (fun i hi => by have := h i hi; omega))
theorem rad2 {ns : List Int} {q : Int} (hq : q = 0 ∨ q = 4) (S : List Nat) (hS : S.Pairwise (· < ·)) (hk : ∀ i ∈ S, q ≤ ns.getD i 0 ∧ ns.getD i 0 < q + 4) : (rad (key8 ns) [2, 1] S).Pairwise (fun i j => ltL ns i j = true) :=
  rad_pw (mid := q + 2) hk (fun k a b => (lacI (k := k) (by omega) (by omega)).2.1.trans (by constructor <;> omega)) hS (fun T hT h => rad1 (by omega) T hT h) (fun T hT h => rad1 (q := q + 2) (by omega) T hT (fun i hi => by have := h i hi; omega))
theorem rad3 {ns : List Int} (S : List Nat) (hS : S.Pairwise (· < ·)) (hk : ∀ i ∈ S, 0 ≤ ns.getD i 0 ∧ ns.getD i 0 < 8) : (rad (key8 ns) [4, 2, 1] S).Pairwise (fun i j => ltL ns i j = true) :=
  rad_pw (mid := 4) hk (fun _ a b => (lacI a b).1) hS (fun T hT h => rad2 (q := 0) (.inl rfl) T hT h) (fun T hT h => rad2 (q := 4) (.inr rfl) T hT h)
/-- the tree's order is the radix order -/
theorem pureN (ns : List Int) (h2 : 2 ≤ ns.length) (h4 : ns.length ≤ 4) (hk : ∀ x ∈ ns, 0 ≤ x ∧ x < 8) : okT ns.length (kas_sort ns.length) = true ∧ (runT (ltL ns) (kas_sort ns.length)).toList = rad (key8 ns) [4, 2, 1] (List.range ns.length) := by
  obtain ⟨o, p, q⟩ := runS ns ns.length h2 h4
  refine ⟨o, List.Perm.eq_of_pairwise (le := fun i j => ltL ns i j = true) ?_ p (rad3 _ List.pairwise_lt_range fun i hi => ?_) (q.trans (rad_perm _ _ _).symm)⟩
  · intro i j _ _ h h'
    have := (ltL_iff ns i j).mp h
    have := (ltL_iff ns j i).mp h'
    omega
  · have hi := List.mem_range.mp hi
    have e : ns.getD i 0 = ns[i] := by simp [List.getD, hi]
    rw [e]
    exact hk _ (List.getElem_mem hi)
end Mine
/-! part Srt1 -/
namespace Mine
section
variable {prog : Program} {w : World} {A : Around} {E : Value → Shared → Prop} {s : Shared}
theorem lt_tup {x y : Addr} {a c p q : Int} {t1 t2 t3 t4 : Tok} {n1 n2 : Nat} {Q : Bool → Shared → Prop} (hx : s.heap.get? x = some (tup [.int a t1, .int p t2] n1)) (hy : s.heap.get? y = some (tup [.int c t3, .int q t4] n2)) (hpq : p ≠ q)
    (h : Q (decide (a < c) || (decide (a = c) && decide (p < q))) s) : wpAny (model prog w) A (keyLt' (tuples' true) (.ref x) (.ref y)) Q E s := by
  refine kat_lt hx rfl hy rfl ?_
  refine kat_cons (wpAny_eqBool_int ?_)
  by_cases e : a = c
  · subst e
    have e1 : (a == a) = true := by simp
    rw [e1]
    refine kat_yes (kat_cons (wpAny_eqBool_int ?_))
    have e2 : (p == q) = false := by simpa using hpq
    rw [e2]
    refine kat_no ?_
    have h' : Q (decide (p < q)) s := by simpa using h
    exact kat_one _ _ (lt_int h')
  · have e1 : (a == c) = false := by simpa using e
    rw [e1]
    refine kat_no ?_
    have h' : Q (decide (a < c)) s := by simpa [e] using h
    exact oneLt_int h'
theorem kind_tups {S : List (Addr × Int)} {Q : SortKind → Shared → Prop} (h2 : 2 ≤ S.length) (hth : ∀ p ∈ S, ∃ tn k nt, s.heap.get? p.1 = some (tup [.int p.2 tn, k] nt)) (h : Q (tuples' true) s) :
    wpAny (model prog w) A (keyKind' (S.map fun p => Value.ref p.1).toArray) Q E s := by
  have hk : ∃ fs : List Value, KatTups s.heap (S.map fun p => Value.ref p.1) fs ∧ fs.length = S.length ∧ ∀ v ∈ fs, ∃ x t, v = .int x t := by
    clear h h2
    induction S with
    | nil => exact ⟨[], KatTups.nil, rfl, fun v hv => by cases hv⟩
    | cons a r ih =>
      obtain ⟨fs, h1, h2, h3⟩ := ih fun p hp => hth p (List.mem_cons_of_mem _ hp)
      obtain ⟨tn, k, nt, e⟩ := hth a List.mem_cons_self
      refine ⟨.int a.2 tn :: fs, KatTups.cons e rfl rfl rfl h1, by simp [h2], fun v hv => ?_⟩
      rcases List.mem_cons.mp hv with rfl | hv
      · exact ⟨_, _, rfl⟩
      · exact h3 v hv
  obtain ⟨fs, h1, h3, h4⟩ := hk
  refine kat_kind (T := .type "int") h1 (by omega) (fun v hv => ?_) rfl h
  obtain ⟨x, t, rfl⟩ := h4 v hv
  exact .now
end
end Mine
/-! part Srt2 -/
namespace Mine
theorem rad_map {α β : Type} (key : β → Int) (f : α → β) : ∀ (fs : List Int) (L : List α), (rad (fun x => key (f x)) fs L).map f = rad key fs (L.map f)
  | [], _ => rfl
  | g :: fs, L => by
    simp only [rad, List.map_append, rad_map key f fs, List.filter_map]
    rfl
theorem rad_mem {α : Type} {key : α → Int} : ∀ {fs : List Int} {L : List α} {x : α}, x ∈ rad key fs L → x ∈ L
  | [], _, _, h => h
  | _ :: _, _, _, h => by
    rcases List.mem_append.mp h with h | h
    · exact (List.mem_filter.mp (rad_mem h)).1
    · exact (List.mem_filter.mp (rad_mem h)).1
theorem rad_range (S : List (Addr × Int)) : (rad (key8 (S.map (·.2))) [4, 2, 1] (List.range S.length)).map (fun i => S.getD i (0, 0)) = rad (·.2) [4, 2, 1] S := by
  have e : key8 (S.map (·.2)) = fun i => (S.getD i (0, 0)).2 := by
    funext i
    simp only [key8, List.getD, List.getElem?_map]
    cases S[i]? <;> rfl
  rw [e, rad_map (fun p : Addr × Int => p.2) (fun i => S.getD i (0, 0))]
  congr 1
  apply List.ext_getElem?
  intro i
  rw [List.getElem?_map]
  by_cases h : i < S.length
  · rw [List.getElem?_range h]
    simp [List.getD, h]
  · rw [List.getElem?_eq_none (by simp; omega), List.getElem?_eq_none (by omega)]
    rfl
section
variable {prog : Program} {w : World} {A : Around} {E : Value → Shared → Prop} {s : Shared} {g : Heap} {L : Addr} {m : Str → Option Value} {news : List (Addr × Obj)}
theorem sort_core {l : Addr} {S : List (Addr × Int)} {nl : Nat} {pl : Nat → Int} {Q : Value → Shared → Prop} (F : Fr g L s.heap m) (N : News g L s.heap news) (hl : s.heap.get? l = some (listOf (S.map fun p => Value.ref p.1).toArray nl)) (h2 : 2 ≤ S.length) (h4 : S.length ≤ 4)
    (hth : ∀ (i : Nat) p, S[i]? = some p → 0 ≤ p.2 ∧ p.2 < 8 ∧ ∃ tn tk nt, (p.1, tup [.int p.2 tn, .int (pl i) tk] nt) ∈ news) (hpl : ∀ i j, i < j → j < S.length → pl i < pl j)
    (h : ∀ D h' c, Fr g L h' m → News g L h' ((D, listOf ((rad (·.2) [4, 2, 1] S).map fun p => Value.ref p.1).toArray c) :: news) → (∀ q ∈ news, q.1 < D) → Q (.ref D) { s with heap := h' }) :
    wpAny (model prog w) A (call (.builtin "sorted") [.ref l]) Q E s := by
  have hb : ∀ x ∈ S.map (·.2), 0 ≤ x ∧ x < 8 := fun x hx => by
    obtain ⟨p, hp, rfl⟩ := List.mem_map.mp hx
    obtain ⟨i, hi, e⟩ := List.getElem_of_mem hp
    have z := hth i p (by rw [List.getElem?_eq_getElem hi, e])
    exact ⟨z.1, z.2.1⟩
  obtain ⟨hok, hrun⟩ := pureN (S.map (·.2)) (by simpa using h2) (by simpa using h4) hb
  rw [List.length_map] at hok hrun
  refine kat_sorted (vs := S.map fun p => Value.ref p.1) F N ⟨_, hl, rfl, _, rfl⟩ (by simpa using h2) (by rw [List.length_map]; omega) (fun D e1 h' F' N' off => ?_)
  refine kind_tups (s := { s with heap := h' }) h2 (fun p hp => ?_) ?_
  · obtain ⟨i, hi, e⟩ := List.getElem_of_mem hp
    obtain ⟨_, _, tn, tk, nt, hm⟩ := hth i p (by rw [List.getElem?_eq_getElem hi, e])
    exact ⟨tn, _, nt, (N' _ (List.mem_cons_of_mem _ hm)).1⟩
  rw [List.length_map]
  refine run_wp (lt := ltL (S.map (·.2))) (n := S.length) (fun i j hi hj hij C hC => ?_) _ hok ?_
  · obtain ⟨_, _, tn, tk, nt, hm⟩ := hth i S[i] (List.getElem?_eq_getElem hi)
    obtain ⟨_, _, tn', tk', nt', hm'⟩ := hth j S[j] (List.getElem?_eq_getElem hj)
    have ei : (S.map fun p => Value.ref p.1).getD i Value.none = .ref S[i].1 := by simp [List.getD, hi]
    have ej : (S.map fun p => Value.ref p.1).getD j Value.none = .ref S[j].1 := by simp [List.getD, hj]
    unfold kas_ask
    rw [ei, ej]
    have hne : pl i ≠ pl j := by
      rcases Nat.lt_or_gt_of_ne hij with q | q
      · have := hpl i j q hj; omega
      · have := hpl j i q hi; omega
    refine lt_tup (N' _ (List.mem_cons_of_mem _ hm)).1 (N' _ (List.mem_cons_of_mem _ hm')).1 hne ?_
    have e : (decide (S[i].2 < S[j].2) || (decide (S[i].2 = S[j].2) && decide (pl i < pl j))) = ltL (S.map (·.2)) i j := by
      have el : decide (pl i < pl j) = decide (i < j) := by
        rcases Nat.lt_or_gt_of_ne hij with q | q
        · have := hpl i j q hj
          simp [q, this]
        · have := hpl j i q hi
          have n1 : ¬ pl i < pl j := by omega
          have n2 : ¬ i < j := by omega
          simp [n1, n2]
      rw [el]
      simp [ltL, List.getD, hi, hj]
    rw [e]
    exact hC
  · refine KasFin.intro F' N' (.head fun q hq => neN (Nat.ne_of_lt (off q hq))) fun h'' c F'' N'' => ?_
    rw [hrun] at N''
    have e : (rad (key8 (S.map (·.2))) [4, 2, 1] (List.range S.length)).map (fun i => (S.map fun p => Value.ref p.1).getD i Value.none) = (rad (·.2) [4, 2, 1] S).map fun p => Value.ref p.1 := by
      rw [← rad_range, List.map_map]
      refine List.map_congr_left fun i hi => ?_
      have hlt := List.mem_range.mp (rad_mem hi)
      simp [List.getD, hlt]
    rw [e] at N''
    exact h D h'' c F'' N'' off
end
end Mine
/-! part Srt3 -/
namespace Mine
section
variable {prog : Program} {w : World} {A : Around} {E : Value → Shared → Prop} {s : Shared} {g : Heap} {L : Addr} {m : Str → Option Value} {news : List (Addr × Obj)}
theorem list_sort_short {a : Addr} {vs : List Value} {n : Nat} {P : PySem.Fin → Shared → Prop} (ho : s.heap.get? a = some (seqObj "list" vs.toArray n))
    (h1 : vs.length < 2) (h : P (.done (.ret .none)) { s with heap := sortedHeap s.heap a vs vs.toArray }) :
    wpAny (model prog w) A (Builtin.«list.sort» ⟨[.ref a], []⟩) P E s := by
  rw [list_sort_plain]
  have ha : a < s.heap.objs.size := Heap.lt_size ho
  refine wpAny_bind (listItems_at ho rfl ?_)
  refine wpAny_bind (listUpdate_at ho rfl ?_)
  obtain ⟨e1, ho1⟩ : ∃ e1, (s.heap.update a (Obj.mapSeq fun _ => #[])).get? a = some (seqObj "list" #[] e1) := ⟨_, get?_update_seq ho (fun _ => #[])⟩
  refine wpAny_bind (seqEpoch_at ho1 rfl ?_)
  refine wpAny_bind (wpAny_newTuple ?_ (by show vs.length ≤ _; rw [sizeLine_eq]; omega))
  refine wpAny_bind (wpAny_newList ?_ (Nat.zero_le _))
  refine wpAny_holding ?_
  have ho6 : (((s.heap.update a (Obj.mapSeq fun _ => #[])).push (seqObj "tuple" vs.toArray 0)).push (seqObj "list" #[] 0)).get? a = some (seqObj "list" #[] e1) := by
    rw [Heap.get?_push_ne _ _ _ (by rw [size_push', Heap.size_update]; exact Nat.ne_of_lt (Nat.lt_succ_of_lt ha)), Heap.get?_push_ne _ _ _ (by rw [Heap.size_update]; exact Nat.ne_of_lt ha)]
    exact ho1
  show wpAny (model prog w) A _ P E { s with heap := ((s.heap.update a (Obj.mapSeq fun _ => #[])).push (seqObj "tuple" vs.toArray 0)).push (seqObj "list" #[] 0) }
  dsimp only
  have h2 : vs.toArray.size < 2 := by simpa using h1
  rw [if_pos h2, if_pos h2]
  refine wpAny_bind (wpAny_pure ?_)
  rw [StateT.run_pure]
  refine wpAny_bind (wpAny_pure ?_)
  dsimp only
  refine wpAny_bind (seqEpoch_at ho6 rfl ?_)
  refine wpAny_bind (listUpdate_at ho6 rfl ?_ (hsz2 := by rw [Array.size_map]; show (pairsOf vs).size ≤ _; rw [pairsOf_size, sizeLine_eq]; omega))
  simp only [bne_self_eq_false, Bool.false_eq_true, if_false]
  refine wpAny_pure ?_
  have e : (arrOf (SortSt.mk' general' (vs.toArray.zip vs.toArray) #[] 7 none)).map (·.2) = vs.toArray := by
    show (vs.toArray.zip vs.toArray).map (·.2) = vs.toArray
    exact Array.map_snd_zip (Nat.le_refl _)
  rw [e]
  exact h
theorem sorted_short {l : Addr} {vs : List Value} {Q : Value → Shared → Prop} (hl : s.heap.IsList l vs.toArray) (h1 : vs.length < 2)
    (h : Q (.ref (s.heap.objs.size + 1)) { s with heap := sortedAll s.heap vs vs.toArray }) :
    wpAny (model prog w) A (call (.builtin "sorted") [.ref l]) Q E s := by
  refine Calls.call_function_entry kind_sorted plain_sorted entry_sorted (args_sorted1 _) ?_
  unfold Builtin.«sorted»
  refine wpAny_bind (m := checkCount "sorted" 1 1 _) (wpAny_pure ?_)
  refine wpAny_bind (collect_list hl ?_ (by rw [sizeLine_eq]; omega))
  refine wpAny_bind (wpAny_newList ?_ (by rw [sizeLine_eq]; omega))
  have hsz : ((s.heap.push (seqObj "list" #[] 0)).update s.heap.objs.size (Obj.mapSeq (· ++ vs.toArray))).objs.size = s.heap.objs.size + 1 := by
    rw [Heap.size_update, size_push']
  have hoL : (((s.heap.push (seqObj "list" #[] 0)).update s.heap.objs.size (Obj.mapSeq (· ++ vs.toArray))).push (seqObj "list" vs.toArray 0)).get? (s.heap.objs.size + 1) = some (seqObj "list" vs.toArray 0) := by
    rw [← hsz]; exact Heap.get?_push_size _ rfl
  show wpAny _ _ _ _ _ { s with heap := ((s.heap.push (seqObj "list" #[] 0)).update s.heap.objs.size (Obj.mapSeq (· ++ vs.toArray))).push (seqObj "list" vs.toArray 0) }
  rw [hsz]
  refine wpAny_bind (wpAny_holding (wpAny_call_entry slot_list_sort ⟨_, hoL, rfl⟩ entry_list_sort (list_sort_short hoL h1 ⟨_, rfl, ?_⟩) (args_list_sort _)))
  exact wpAny_pure ⟨_, rfl, h⟩
theorem rad_nil {α : Type} (key : α → Int) : ∀ fs, rad key fs ([] : List α) = []
  | [] => rfl
  | _ :: fs => by simp [rad, rad_nil key fs]
theorem rad_one {α : Type} (key : α → Int) (a : α) : ∀ fs, rad key fs [a] = [a]
  | [] => rfl
  | f :: fs => by
    cases h : lacks f (key a) <;> simp [rad, h, rad_nil key fs, rad_one key a fs]
theorem sort_any {l : Addr} {S : List (Addr × Int)} {nl : Nat} {pl : Nat → Int} {Q : Value → Shared → Prop} (F : Fr g L s.heap m) (N : News g L s.heap news) (hl : s.heap.get? l = some (listOf (S.map fun p => Value.ref p.1).toArray nl)) (h4 : S.length ≤ 4)
    (hth : ∀ (i : Nat) p, S[i]? = some p → 0 ≤ p.2 ∧ p.2 < 8 ∧ ∃ tn tk nt, (p.1, tup [.int p.2 tn, .int (pl i) tk] nt) ∈ news) (hpl : ∀ i j, i < j → j < S.length → pl i < pl j)
    (h : ∀ D h' c, Fr g L h' m → News g L h' ((D, listOf ((rad (·.2) [4, 2, 1] S).map fun p => Value.ref p.1).toArray c) :: news) → (∀ q ∈ news, q.1 < D) → Q (.ref D) { s with heap := h' }) :
    wpAny (model prog w) A (call (.builtin "sorted") [.ref l]) Q E s := by
  by_cases h2 : 2 ≤ S.length
  · exact sort_core F N hl h2 h4 hth hpl h
  · refine sorted_short (vs := S.map fun p => Value.ref p.1) ⟨_, hl, rfl, _, rfl⟩ (by rw [List.length_map]; omega) ?_
    obtain ⟨e, he⟩ := sortedAll_at s.heap (S.map fun p => Value.ref p.1) (S.map fun p => Value.ref p.1).toArray
    have er : rad (·.2) [4, 2, 1] S = S := by
      match S, h2 with
      | [], _ => exact rad_nil _ _
      | [a], _ => exact rad_one _ a _
      | _ :: _ :: _, h2 => simp at h2
    refine h _ _ e (F.kept fun _ _ => sortedAll_old) (by rw [er]; exact N.kept_cons F (fun _ _ => sortedAll_old) (Nat.le_succ _) he) (fun q hq => Nat.lt_succ_of_lt (Heap.lt_size (N q hq).1))
end
end Mine
/-! part Bh -/
namespace Mine
abbrev outs (R : List (Addr × Int)) (a b : Nat) : List (Addr × Int) := R.take a ++ R.drop b
theorem rad_length {α : Type} (key : α → Int) : ∀ (fs : List Int) (S : List α), (rad key fs S).length = S.length
  | [], _ => rfl
  | f :: fs, S => by
    rw [rad, List.length_append, rad_length key fs, rad_length key fs]
    induction S with
    | nil => rfl
    | cons a r ih => cases h : lacks f (key a) <;> simp only [List.filter_cons, h, Bool.not_true, Bool.not_false, if_true, Bool.false_eq_true, if_false, List.length_cons] <;> omega
theorem behind_body {w : World} {A : Around} {E : Value → Shared → Prop} {s : Shared} {Q : Flow → Shared → Prop} {g : Heap} {L fa rowA : Addr} {m : Str → Option Value} {mg mb : Str → Option Value} {p : Program} {loose : List Str} {mean : ExcName → Option Value}
    {xs : List Value} {nx n0 : Nat} {st st₀ : List (Addr × Obj)} {k : Lk} {C : Nat → List Int} {ts : List Addr} {R : List (Addr × Int)} {a b : Nat} {ta tb : Tok}
    (X : (hd.heap_39 w.params).In g) (T : Top p loose mean mg mb g) (hroom : A.depth + 40 < recursionLimit) (hh : A.handled = none) (hE : PassesOwn (model PG w) A (envLaw L fa) E) (M : LookMem st₀ k C ts) (hst : ∀ x ∈ st₀, x ∈ st)
    (F : Fr g L s.heap m) (N : News g L s.heap ((k.ask, listOf (List.toArray xs) nx) :: st)) (hap : ∀ x ∈ st, x.1 ≠ k.ask) (hxs : xs.length + 40 ≤ 900)
    (ml : m (Str.ofString "look") = some (.ref k.look)) (ms : m (Str.ofString "start") = some (.int (a : Int) ta)) (mbh : m (Str.ofString "behind") = some (.int (b : Int) tb)) (mrow : m (Str.ofString "row") = some (.ref rowA))
    (hrow : (rowA, listOf (R.map fun p => Value.ref p.1).toArray n0) ∈ st) (hR : R.length = 5) (hab : a < b) (hb5 : b ≤ 5) (hu : A.units + 64 < cLine)
    (hth : ∀ (i : Nat) p, R[i]? = some p → 0 ≤ p.2 ∧ p.2 < 8 ∧ ∃ tn tk nt, (p.1, tup [.int p.2 tn, .int (i : Int) tk] nt) ∈ st)
    (hgood : ∀ (r : Nat) q, (rad (·.2) [4, 2, 1] (outs R a b))[r]? = some q → Good C ts 3 (r : Int) 0 a b 5 q.1)
    (hQ : ∀ h' tk' m' vals n', Fr g L h' m' → News g L h' ((k.ask, listOf (List.toArray (xs ++ vals)) n') :: st) → IntsAre vals (flat4 (5 - (b - a))) → (∀ y, y ≠ Str.ofString "told" → y ≠ Str.ofString "rank" → y ≠ Str.ofString "due" → m' y = m y) → Q .next { s with heap := h', toks := tk' }) :
    wpAny (model PG w) A (execs (bodyOf behindS) (envLaw L fa)) Q E s := by
  simp only [envLaw, scopeOf, bodyOf, behindS, startS, lawS, stAt, PySem.Challenge.pw_kl0408_01, List.getElem?_cons_succ, List.getElem?_cons_zero]
  iterate 8 walk1
  refine nameX_L F mrow ?_
  iterate 3 walk1
  refine nameX_L F ms ?_
  walk1
  have grow := (N _ (List.mem_cons_of_mem _ hrow)).1
  have hv5 : (R.map fun p => Value.ref p.1).toArray.size ≤ sizeLine := by rw [List.size_toArray, List.length_map, hR]; decide
  refine slice_list3 F N ⟨_, grow, rfl, _, rfl⟩ .none (.int _ _) .none (by decide) (fun h1 F1 N1 => ?_) (hsz := hv5)
  rw [slicePick_upto', ← List.map_take] at N1
  walk1
  refine nameX_L F1 mrow ?_
  iterate 2 walk1
  refine nameX_L F1 mbh ?_
  iterate 2 walk1
  have grow1 := (N1 _ (List.mem_cons_of_mem _ (List.mem_cons_of_mem _ hrow))).1
  refine slice_list3 F1 N1 ⟨_, grow1, rfl, _, rfl⟩ (.int _ _) .none .none (by decide) (fun h2 F2 N2 => ?_) (hsz := hv5)
  rw [slicePick_from', ← List.map_drop] at N2
  refine add_lists (hsz := ?hz) F2 N2 ⟨_, (N2 _ (List.mem_cons_of_mem _ List.mem_cons_self)).1, rfl, _, rfl⟩ ⟨_, (N2 _ List.mem_cons_self).1, rfl, _, rfl⟩ (fun h3 F3 N3 => ?_)
  case hz => rw [List.length_map, List.length_map, List.length_take, List.length_drop, hR]; exact Nat.le_trans (show min a 5 + (5 - b) ≤ 10 by omega) (by decide)
  rw [← List.map_append] at N3
  clear F N F1 N1 F2 N2 grow grow1
  walk1
  have hS : (outs R a b).length = 5 - (b - a) := by simp [outs, hR]; omega
  have hget : ∀ (i : Nat), i < (outs R a b).length → (outs R a b)[i]? = R[if i < a then i else i + (b - a)]? := by
    intro i hi
    by_cases h : i < a
    · rw [if_pos h, List.getElem?_append_left (by rw [List.length_take, hR]; omega), List.getElem?_take_of_lt h]
    · rw [if_neg h, List.getElem?_append_right (by rw [List.length_take, hR]; omega), List.getElem?_drop, List.length_take, hR]
      congr 1
      omega
  refine sort_any (S := outs R a b) (pl := fun i => ((if i < a then i else i + (b - a) : Nat) : Int)) F3 N3 (N3 _ List.mem_cons_self).1 (by omega) (fun i q hq => ?_) (fun i j hij hj => ?_) (fun D h4 c F4 N4 off => ?_)
  · have hi : i < (outs R a b).length := by
      by_cases h : i < (outs R a b).length
      · exact h
      · rw [List.getElem?_eq_none (by omega)] at hq; cases hq
    rw [hget i hi] at hq
    obtain ⟨q1, q2, tn, tk, nt, hm⟩ := hth _ q hq
    exact ⟨q1, q2, tn, tk, nt, List.mem_cons_of_mem _ (List.mem_cons_of_mem _ (List.mem_cons_of_mem _ (List.mem_cons_of_mem _ hm)))⟩
  · by_cases h1 : i < a <;> by_cases h2 : j < a <;> simp only [h1, h2, if_true, if_false] <;> omega
  have hD : D ≠ k.ask := neN (Nat.ne_of_gt (off (k.ask, _) (List.mem_cons_of_mem _ (List.mem_cons_of_mem _ (List.mem_cons_of_mem _ List.mem_cons_self)))))
  have hrl : (rad (fun x : Addr × Int => x.2) [4, 2, 1] (outs R a b)).length = 5 - (b - a) := by rw [rad_length, hS]
  refine storeX_L F4 N4 (fun h5 F5 N5 => ?_)
  clear F3 N3 F4 N4
  have N6 : News g L h5 ((k.ask, listOf (List.toArray xs) nx) :: (D, listOf (((rad (fun x : Addr × Int => x.2) [4, 2, 1] (outs R a b)).map (·.1)).map Value.ref).toArray c) :: st) := fun q hq => by
    rw [List.map_map] at hq
    rcases List.mem_cons.mp hq with rfl | hq
    · exact N5 _ (List.mem_cons_of_mem _ (List.mem_cons_of_mem _ (List.mem_cons_of_mem _ (List.mem_cons_of_mem _ List.mem_cons_self))))
    rcases List.mem_cons.mp hq with rfl | hq
    · exact N5 _ List.mem_cons_self
    · exact N5 _ (List.mem_cons_of_mem _ (List.mem_cons_of_mem _ (List.mem_cons_of_mem _ (List.mem_cons_of_mem _ (List.mem_cons_of_mem _ hq)))))
  clear N5
  walk1
  have hlen : ((rad (fun x : Addr × Int => x.2) [4, 2, 1] (outs R a b)).map (·.1)).length = 5 - (b - a) := by rw [List.length_map, hrl]
  refine rank_loop (st := (D, listOf (((rad (fun x : Addr × Int => x.2) [4, 2, 1] (outs R a b)).map (·.1)).map Value.ref).toArray c) :: st) (start := (a : Int)) (behind := (b : Int)) X T hroom hh hE M (fun x hx => List.mem_cons_of_mem _ (hst x hx)) F5 N6 (fun x hx => ?_) (by rw [hlen]; omega) ml ms mbh rfl List.mem_cons_self hu (by rw [hlen]; omega) (fun r t ht => ?_) ?_
  · rcases List.mem_cons.mp hx with rfl | hx
    · exact hD
    · exact hap x hx
  · rw [List.getElem?_map] at ht
    obtain ⟨q, hq, rfl⟩ := Option.map_eq_some_iff.mp ht
    refine ⟨?_, hgood r q hq⟩
    have hm : q ∈ R := by
      have z := rad_mem (List.mem_of_getElem? hq)
      rcases List.mem_append.mp z with z | z
      · exact List.mem_of_mem_take z
      · exact List.mem_of_mem_drop z
    obtain ⟨i, hi, e⟩ := List.getElem_of_mem hm
    obtain ⟨_, _, tn, tk, nt, hmm⟩ := hth i q (by rw [List.getElem?_eq_getElem hi, e])
    exact ⟨_, _, _, _, _, List.mem_cons_of_mem _ hmm⟩
  · intro h' tk' m' vals n' F7 N7 hv hm'
    rw [hlen] at hv
    refine wpAny_execs_nil (hQ h' tk' m' vals n' F7 (fun q hq => N7 q ?_) hv (fun y h1 h2 h3 => (hm' y h1 h2).trans (if_neg h3)))
    rcases List.mem_cons.mp hq with rfl | hq
    · exact List.mem_cons_self
    · exact List.mem_cons_of_mem _ (List.mem_cons_of_mem _ hq)
end Mine
/-! part Bl -/
namespace Mine
def cntJ : Nat → Nat
  | 0 => 0
  | j + 1 => cntJ j + (4 - j)
theorem small6 : ∀ a : Nat, a ≤ 4 → Builtin.Range.small ((a : Int) + 1) 6 1 = true ∧ Builtin.Range.rangeSize ((a : Int) + 1) 6 1 = ((5 - a : Nat) : Int) := by decide
theorem cntJ_le : ∀ j : Nat, j ≤ 5 → cntJ j ≤ 10 := by decide
theorem behind_loop {w : World} {A : Around} {E : Value → Shared → Prop} {s : Shared} {Q : Flow → Shared → Prop} {g : Heap} {L fa rowA : Addr} {m : Str → Option Value} {mg mb : Str → Option Value} {p : Program} {loose : List Str} {mean : ExcName → Option Value}
    {xs : List Value} {nx n0 : Nat} {st st₀ : List (Addr × Obj)} {k : Lk} {C : Nat → List Int} {ts : List Addr} {R : List (Addr × Int)} {a : Nat} {ta : Tok}
    (X : (hd.heap_39 w.params).In g) (T : Top p loose mean mg mb g) (hroom : A.depth + 40 < recursionLimit) (hh : A.handled = none) (hE : PassesOwn (model PG w) A (envLaw L fa) E) (M : LookMem st₀ k C ts) (hst : ∀ x ∈ st₀, x ∈ st)
    (F : Fr g L s.heap m) (N : News g L s.heap ((k.ask, listOf (List.toArray xs) nx) :: st)) (hap : ∀ x ∈ st, x.1 ≠ k.ask) (hxs : xs.length ≤ 400)
    (ml : m (Str.ofString "look") = some (.ref k.look)) (ms : m (Str.ofString "start") = some (.int (a : Int) ta)) (mrow : m (Str.ofString "row") = some (.ref rowA))
    (hrow : (rowA, listOf (R.map fun p => Value.ref p.1).toArray n0) ∈ st) (hR : R.length = 5) (ha4 : a ≤ 4) (hu : A.units + 64 < cLine)
    (hth : ∀ (i : Nat) p, R[i]? = some p → 0 ≤ p.2 ∧ p.2 < 8 ∧ ∃ tn tk nt, (p.1, tup [.int p.2 tn, .int (i : Int) tk] nt) ∈ st)
    (hgood : ∀ (a b r : Nat) q, a < b → b ≤ 5 → (rad (·.2) [4, 2, 1] (outs R a b))[r]? = some q → Good C ts 3 (r : Int) 0 a b 5 q.1)
    (hQ : ∀ h' tk' m' vals n', Fr g L h' m' → News g L h' ((k.ask, listOf (List.toArray (xs ++ vals)) n') :: st) → IntsAre vals (flat4 (cntJ (5 - a))) → (∀ y, y ≠ Str.ofString "told" → y ≠ Str.ofString "rank" → y ≠ Str.ofString "due" → y ≠ Str.ofString "behind" → m' y = m y) → Q .next { s with heap := h', toks := tk' }) :
    wpAny (model PG w) A (exec behindS (envLaw L fa)) Q E s := by
  simp only [envLaw, scopeOf, bodyOf, behindS, startS, lawS, stAt, PySem.Challenge.pw_kl0408_01, List.getElem?_cons_succ, List.getElem?_cons_zero]
  refine For_invVF F rfl rfl ?_ (hE := hE)
  iterate 5 walk1
  refine nameX_L F ms ?_
  iterate 5 walk1
  refine range2_rows F N fun h1 tk1 t1 u1 v1 hr F1 N1 up => ?_
  refine iterR (env := envLaw L fa) (n := 5 - a) (fun i m₁ news₁ => ∃ vals n', news₁ = (k.ask, listOf (List.toArray (xs ++ vals)) n') :: st ∧ IntsAre vals (flat4 (cntJ i)) ∧ ∀ y, y ≠ Str.ofString "told" → y ≠ Str.ofString "rank" → y ≠ Str.ofString "due" → y ≠ Str.ofString "behind" → m₁ y = m y) hh hr (small6 _ ha4).1 (small6 _ ha4).2 F1 N1 ⟨[], nx, by simp, .nil, fun _ _ _ _ _ => rfl⟩ ?_ ?_
  · rintro i v tv m₁ news₁ h tk own hi rfl hadr hoff ⟨vals, n', rfl, hv, hm⟩ F2 N2
    have hvl := hv.length
    rw [flat4_length] at hvl
    have hcj := cntJ_le i (by omega)
    have e0 : (a : Int) + 1 + (i : Int) = ((a + 1 + i : Nat) : Int) := by omega
    rw [e0] at F2
    refine behind_body (st := st ++ own) (a := a) (b := a + 1 + i) X T hroom hh hE M (fun x hx => List.mem_append.mpr (.inl (hst x hx))) F2 N2 (fun x hx => ?_) (by rw [List.length_append]; omega) ((hm _ (by decide) (by decide) (by decide) (by decide)).trans ml) ((hm _ (by decide) (by decide) (by decide) (by decide)).trans ms) rfl ((hm _ (by decide) (by decide) (by decide) (by decide)).trans mrow)
      (List.mem_append.mpr (.inl hrow)) hR (by omega) (by omega) hu (fun j q hj => ?_) (fun r q hq => hgood a (a + 1 + i) r q (by omega) (by omega) hq) ?_
    · rcases List.mem_append.mp hx with hx | hx
      · exact hap x hx
      · exact hoff x hx k.ask (by simp)
    · obtain ⟨q1, q2, tn, tk, nt, hmm⟩ := hth j q hj
      exact ⟨q1, q2, tn, tk, nt, List.mem_append.mpr (.inl hmm)⟩
    · intro h' tk' m' vals' n'' F3 N3 hv' hm'
      have e5 : 5 - (a + 1 + i - a) = 4 - i := by omega
      rw [e5] at hv'
      refine ⟨h', tk', m', ((k.ask, listOf (List.toArray (xs ++ (vals ++ vals'))) n'') :: st) ++ own, (k.ask, listOf (List.toArray (xs ++ (vals ++ vals'))) n'') :: st, rfl, F3, ?_, fun q hq => List.mem_append.mpr (.inl hq), fun q hq => List.mem_append.mpr (.inr hq), rfl, ⟨vals ++ vals', n'', rfl, ?_, fun y h1 h2 h3 h4 => ?_⟩⟩
      · rw [← List.append_assoc]; exact N3
      · rw [cntJ, ← flat4_add]; exact hv.append hv'
      · rw [hm' y h1 h2 h3]
        exact (if_neg h4).trans (hm y h1 h2 h3 h4)
  · rintro m₁ news₁ h tk ⟨vals, n', rfl, hv, hm⟩ F2 N2
    exact hQ h tk m₁ vals n' F2 N2 hv hm
end Mine
/-! part Sl -/
namespace Mine
def cntS : Nat → Nat
  | 0 => 0
  | j + 1 => cntS j + cntJ (5 - j)
theorem cntS_le : ∀ j : Nat, j ≤ 5 → cntS j ≤ 40 := by decide
theorem start_loop {w : World} {A : Around} {E : Value → Shared → Prop} {s : Shared} {Q : Flow → Shared → Prop} {g : Heap} {L fa rowA : Addr} {m : Str → Option Value} {mg mb : Str → Option Value} {p : Program} {loose : List Str} {mean : ExcName → Option Value}
    {nx n0 : Nat} {st st₀ : List (Addr × Obj)} {k : Lk} {C : Nat → List Int} {ts : List Addr} {R : List (Addr × Int)}
    (X : (hd.heap_39 w.params).In g) (T : Top p loose mean mg mb g) (hroom : A.depth + 40 < recursionLimit) (hh : A.handled = none) (hE : PassesOwn (model PG w) A (envLaw L fa) E) (M : LookMem st₀ k C ts) (hst : ∀ x ∈ st₀, x ∈ st)
    (F : Fr g L s.heap m) (N : News g L s.heap ((k.ask, listOf #[] nx) :: st)) (hap : ∀ x ∈ st, x.1 ≠ k.ask)
    (ml : m (Str.ofString "look") = some (.ref k.look)) (mrow : m (Str.ofString "row") = some (.ref rowA))
    (hrow : (rowA, listOf (R.map fun p => Value.ref p.1).toArray n0) ∈ st) (hR : R.length = 5) (hu : A.units + 64 < cLine)
    (hth : ∀ (i : Nat) p, R[i]? = some p → 0 ≤ p.2 ∧ p.2 < 8 ∧ ∃ tn tk nt, (p.1, tup [.int p.2 tn, .int (i : Int) tk] nt) ∈ st)
    (hgood : ∀ (a b r : Nat) q, a < b → b ≤ 5 → (rad (·.2) [4, 2, 1] (outs R a b))[r]? = some q → Good C ts 3 (r : Int) 0 a b 5 q.1)
    (hQ : ∀ h' tk' m' vals n', Fr g L h' m' → News g L h' ((k.ask, listOf (List.toArray vals) n') :: st) → IntsAre vals (flat4 40) → (∀ y, y ≠ Str.ofString "told" → y ≠ Str.ofString "rank" → y ≠ Str.ofString "due" → y ≠ Str.ofString "behind" → y ≠ Str.ofString "start" → m' y = m y) → Q .next { s with heap := h', toks := tk' }) :
    wpAny (model PG w) A (exec startS (envLaw L fa)) Q E s := by
  simp only [envLaw, scopeOf, bodyOf, startS, lawS, stAt, PySem.Challenge.pw_kl0408_01, List.getElem?_cons_succ, List.getElem?_cons_zero]
  refine For_invVF F rfl rfl ?_ (hE := hE)
  iterate 6 walk1
  refine range1_rows F N fun h1 tk1 t1 u1 v1 hr F1 N1 up => ?_
  refine iterR (env := envLaw L fa) (n := 5) (fun i m₁ news₁ => ∃ vals n', news₁ = (k.ask, listOf (List.toArray vals) n') :: st ∧ IntsAre vals (flat4 (cntS i)) ∧ ∀ y, y ≠ Str.ofString "told" → y ≠ Str.ofString "rank" → y ≠ Str.ofString "due" → y ≠ Str.ofString "behind" → y ≠ Str.ofString "start" → m₁ y = m y) hh hr (by decide) (by decide) F1 N1 ⟨[], nx, rfl, .nil, fun _ _ _ _ _ _ => rfl⟩ ?_ ?_
  · rintro i v tv m₁ news₁ h tk own hi rfl hadr hoff ⟨vals, n', rfl, hv, hm⟩ F2 N2
    have hvl := hv.length
    rw [flat4_length] at hvl
    have hcs := cntS_le i (by omega)
    have e0 : (0 : Int) + (i : Int) = (i : Int) := by omega
    rw [e0] at F2
    walk1
    refine behind_loop (st := st ++ own) (a := i) X T hroom hh hE M (fun x hx => List.mem_append.mpr (.inl (hst x hx))) F2 N2 (fun x hx => ?_) (by omega) ((hm _ (by decide) (by decide) (by decide) (by decide) (by decide)).trans ml) rfl ((hm _ (by decide) (by decide) (by decide) (by decide) (by decide)).trans mrow)
      (List.mem_append.mpr (.inl hrow)) hR (by omega) hu (fun j q hj => ?_) hgood ?_
    · rcases List.mem_append.mp hx with hx | hx
      · exact hap x hx
      · exact hoff x hx k.ask (by simp)
    · obtain ⟨q1, q2, tn, tk, nt, hmm⟩ := hth j q hj
      exact ⟨q1, q2, tn, tk, nt, List.mem_append.mpr (.inl hmm)⟩
    · intro h' tk' m' vals' n'' F3 N3 hv' hm'
      refine wpAny_execs_nil ⟨h', tk', m', ((k.ask, listOf (List.toArray (vals ++ vals')) n'') :: st) ++ own, (k.ask, listOf (List.toArray (vals ++ vals')) n'') :: st, rfl, F3, N3, fun q hq => List.mem_append.mpr (.inl hq), fun q hq => List.mem_append.mpr (.inr hq), rfl, ⟨vals ++ vals', n'', rfl, ?_, fun y h1 h2 h3 h4 h5 => ?_⟩⟩
      · rw [cntS, ← flat4_add]; exact hv.append hv'
      · rw [hm' y h1 h2 h3 h4]
        exact (if_neg h5).trans (hm y h1 h2 h3 h4 h5)
  · rintro m₁ news₁ h tk ⟨vals, n', rfl, hv, hm⟩ F2 N2
    exact hQ h tk m₁ vals n' F2 N2 hv hm
end Mine
/-! part Pl -/
namespace Mine
/-- how many of the first things lack the figure -/
def zc (f : Int) (V : List (Addr × Int)) (e : Nat) : Nat := ((V.take e).filter fun p => lacks f p.2).length
theorem lack_bit (f n : Int) : 1 - bit f n = if lacks f n then 1 else 0 := by
  unfold bit lacks
  generalize n.fdiv f = x
  rw [Int.fmod_eq_emod_of_nonneg _ (by decide), Int.fmod_eq_emod_of_nonneg _ (by decide)]
  by_cases h : x % 2 = 0
  · have e : (x + 1) % 2 = 1 := by omega
    simp [h, e]
  · have e1 : x % 2 = 1 := by omega
    have e : (x + 1) % 2 = 0 := by omega
    simp [e1, e]
theorem cnt_filter (f : Int) : ∀ V : List (Addr × Int), cnt f (V.map (·.2)) = ((V.filter fun p => lacks f p.2).length : Int)
  | [] => rfl
  | a :: r => by
    have ih := cnt_filter f r
    unfold cnt at ih ⊢
    rw [List.map_cons, List.map_cons, List.sum_cons, ih, lack_bit]
    cases h : lacks f a.2 <;> simp only [List.filter_cons, h, if_true, Bool.false_eq_true, if_false, List.length_cons] <;> omega
theorem pre_getD (f : Int) (V : List (Addr × Int)) (e n : Nat) (he : e ≤ n) : (pre f (V.map (·.2)) n).getD e 0 = (zc f V e : Int) := by
  unfold pre zc
  rw [← cnt_filter]
  simp [List.getD, show e < n + 1 by omega]
def slc {α : Type} (V : List α) (a b : Nat) : List α := (V.drop a).take (b - a)
theorem cut3 {α : Type} (V : List α) (a b : Nat) (hab : a ≤ b) : V = V.take a ++ slc V a b ++ V.drop b := by
  unfold slc
  rw [List.append_assoc]
  conv => lhs; rw [← List.take_append_drop a V]
  congr 1
  conv => lhs; rw [← List.take_append_drop (b - a) (V.drop a)]
  rw [List.drop_drop]
  congr 2
  omega
theorem zc_mono {f : Int} {V : List (Addr × Int)} {a b : Nat} (hab : a ≤ b) : zc f V b = zc f V a + ((slc V a b).filter fun p => lacks f p.2).length := by
  unfold zc slc
  have e : V.take b = V.take a ++ (V.drop a).take (b - a) := by
    conv => lhs; rw [show b = a + (b - a) by omega]
    rw [List.take_add]
  rw [e, List.filter_append, List.length_append]
theorem slc_mid {α : Type} (A B D : List α) : slc (A ++ B ++ D) A.length (A.length + B.length) = B := by
  unfold slc
  rw [List.append_assoc, List.drop_left, Nat.add_sub_cancel_left, List.take_left]
theorem part_lack {f : Int} {V : List (Addr × Int)} {a b : Nat} (hab : a ≤ b) : slc (part f V) (zc f V a) (zc f V b) = (slc V a b).filter fun p => lacks f p.2 := by
  have e : part f V = ((V.take a).filter fun p => lacks f p.2) ++ ((slc V a b).filter fun p => lacks f p.2) ++ (((V.drop b).filter fun p => lacks f p.2) ++ V.filter fun p => !lacks f p.2) := by
    unfold part
    conv => lhs; lhs; rw [cut3 V a b hab]
    simp only [List.filter_append, List.append_assoc]
  rw [e, zc_mono hab]
  exact slc_mid _ _ _
theorem have_len (f : Int) (V : List (Addr × Int)) : (V.filter fun p => !lacks f p.2).length + (V.filter fun p => lacks f p.2).length = V.length := by
  have z := part_length f V
  unfold part at z
  rw [List.length_append] at z
  omega
theorem part_have {f : Int} {V : List (Addr × Int)} {a b n : Nat} (hab : a ≤ b) (hb : b ≤ V.length) (hn : n = V.length) : slc (part f V) (zc f V n + a - zc f V a) (zc f V n + b - zc f V b) = (slc V a b).filter fun p => !lacks f p.2 := by
  have e : part f V = ((V.filter fun p => lacks f p.2) ++ (V.take a).filter fun p => !lacks f p.2) ++ ((slc V a b).filter fun p => !lacks f p.2) ++ ((V.drop b).filter fun p => !lacks f p.2) := by
    unfold part
    conv => lhs; rhs; rw [cut3 V a b hab]
    simp only [List.filter_append, List.append_assoc]
  have hz : zc f V n = (V.filter fun p => lacks f p.2).length := by unfold zc; rw [hn, List.take_length]
  have ha := have_len f (V.take a)
  rw [List.length_take] at ha
  have hs := have_len f (slc V a b)
  have hsl : (slc V a b).length = b - a := by unfold slc; rw [List.length_take, List.length_drop]; omega
  have l1 : zc f V n + a - zc f V a = ((V.filter fun p => lacks f p.2) ++ (V.take a).filter fun p => !lacks f p.2).length := by
    rw [List.length_append, hz]; unfold zc; omega
  have l2 : zc f V n + b - zc f V b = ((V.filter fun p => lacks f p.2) ++ (V.take a).filter fun p => !lacks f p.2).length + ((slc V a b).filter fun p => !lacks f p.2).length := by
    rw [zc_mono hab, ← l1]
    have : zc f V a ≤ a := by unfold zc; omega
    omega
  rw [l1, l2, e]
  exact slc_mid _ _ _
theorem zc_le {f : Int} {V : List (Addr × Int)} (a : Nat) : zc f V a ≤ a := by
  unfold zc
  exact Nat.le_trans (List.length_filter_le ..) (by rw [List.length_take]; omega)
theorem zc_le2 {f : Int} {V : List (Addr × Int)} {a b : Nat} (h : a ≤ b) : zc f V a ≤ zc f V b := by
  rw [zc_mono h]; omega
/-- what was not lacking before stays in order -/
theorem zc_gap {f : Int} {V : List (Addr × Int)} {a b : Nat} (h : a ≤ b) (hb : b ≤ V.length) : zc f V b - zc f V a ≤ b - a := by
  rw [zc_mono h]
  have hs := have_len f (slc V a b)
  have hsl : (slc V a b).length = b - a := by unfold slc; rw [List.length_take, List.length_drop]; omega
  omega
theorem good_of {C : Nat → List Int} {ts : List Addr} {W : Nat → List (Addr × Int)} {fig : Nat → Int} (hW : ∀ k, k < 3 → W k = part (fig (k + 1)) (W (k + 1))) (hC : ∀ k, k < 3 → C (2 - k) = pre (fig (k + 1)) ((W (k + 1)).map (·.2)) 5) (hlen : ∀ k, k ≤ 3 → (W k).length = 5) (hts : ts = (W 0).map (·.1)) (fs : Nat → List Int) (hf0 : fs 0 = []) (hfs : ∀ k, fs (k + 1) = fig (k + 1) :: fs k) :
    ∀ (k : Nat), k ≤ 3 → ∀ (r n0 n1 n2 n3 : Nat) (q : Addr × Int), n0 ≤ n1 → n1 ≤ 5 → n2 ≤ n3 → n3 ≤ 5 → (rad (·.2) (fs k) (slc (W k) n0 n1 ++ slc (W k) n2 n3))[r]? = some q → Good C ts k (r : Int) n0 n1 n2 n3 q.1
  | 0, _, r, n0, n1, n2, n3, q, h01, h1, h23, h3, hq => by
    rw [hf0] at hq
    have hq' : (slc (W 0) n0 n1 ++ slc (W 0) n2 n3)[r]? = some q := hq
    have hr : r < (slc (W 0) n0 n1 ++ slc (W 0) n2 n3).length := by
      by_cases h : r < (slc (W 0) n0 n1 ++ slc (W 0) n2 n3).length
      · exact h
      · rw [List.getElem?_eq_none (by omega)] at hq'; cases hq'
    have hl : (slc (W 0) n0 n1 ++ slc (W 0) n2 n3).length ≤ 10 := by
      have e := hlen 0 (by omega)
      simp only [slc, List.length_append, List.length_take, List.length_drop, e]
      omega
    refine ⟨⟨⟨by omega, by omega⟩, ⟨by omega, by omega⟩, ⟨by omega, by omega⟩, ⟨by omega, by omega⟩⟩, by omega, by omega, ?_⟩
    have e : sl ts n0 n1 ++ sl ts n2 n3 = (slc (W 0) n0 n1 ++ slc (W 0) n2 n3).map (·.1) := by
      rw [hts]
      simp only [sl, slc, List.map_append, List.map_take, List.map_drop, Int.toNat_natCast]
    rw [e, List.getElem?_map, Int.toNat_natCast, hq']
    rfl
  | k + 1, hk, r, n0, n1, n2, n3, q, h01, h1, h23, h3, hq => by
    have hw := hlen (k + 1) hk
    have g : ∀ e : Nat, e ≤ 5 → (C (2 - k)).getD ((e : Int).toNat) 0 = (zc (fig (k + 1)) (W (k + 1)) e : Int) := fun e he => by
      rw [hC k (by omega), Int.toNat_natCast, pre_getD _ _ _ _ he]
    have g5 : (C (2 - k)).getD 5 0 = (zc (fig (k + 1)) (W (k + 1)) 5 : Int) := g 5 (by omega)
    refine ⟨⟨⟨by omega, by omega⟩, ⟨by omega, by omega⟩, ⟨by omega, by omega⟩, ⟨by omega, by omega⟩⟩, ?_⟩
    dsimp only
    have g0' := g n0 (by omega)
    have g1' := g n1 h1
    have g2' := g n2 (by omega)
    have g3' := g n3 h3
    rw [hfs, rad] at hq
    simp only [List.filter_append] at hq
    rw [← part_lack h01, ← part_lack h23, ← part_have (n := 5) h01 (by omega) hw.symm, ← part_have (n := 5) h23 (by omega) hw.symm, ← hW k (by omega)] at hq
    have m01 := zc_mono (f := fig (k + 1)) (V := W (k + 1)) h01
    have m23 := zc_mono (f := fig (k + 1)) (V := W (k + 1)) h23
    have l0 := zc_le (f := fig (k + 1)) (V := W (k + 1)) n0
    have l1 := zc_le (f := fig (k + 1)) (V := W (k + 1)) n1
    have l2 := zc_le (f := fig (k + 1)) (V := W (k + 1)) n2
    have l3 := zc_le (f := fig (k + 1)) (V := W (k + 1)) n3
    have p01 := zc_gap (f := fig (k + 1)) (V := W (k + 1)) h01 (by omega)
    have p23 := zc_gap (f := fig (k + 1)) (V := W (k + 1)) h23 (by omega)
    have t1 := zc_le2 (f := fig (k + 1)) (V := W (k + 1)) h1
    have t3 := zc_le2 (f := fig (k + 1)) (V := W (k + 1)) h3
    have p15 := zc_gap (f := fig (k + 1)) (V := W (k + 1)) h1 (by omega)
    have p35 := zc_gap (f := fig (k + 1)) (V := W (k + 1)) h3 (by omega)
    have hwk := hlen k (by omega)
    have len1 : (rad (fun x : Addr × Int => x.2) (fs k) (slc (W k) (zc (fig (k + 1)) (W (k + 1)) n0) (zc (fig (k + 1)) (W (k + 1)) n1) ++ slc (W k) (zc (fig (k + 1)) (W (k + 1)) n2) (zc (fig (k + 1)) (W (k + 1)) n3))).length = (zc (fig (k + 1)) (W (k + 1)) n1 - zc (fig (k + 1)) (W (k + 1)) n0) + (zc (fig (k + 1)) (W (k + 1)) n3 - zc (fig (k + 1)) (W (k + 1)) n2) := by
      rw [rad_length]
      simp only [slc, List.length_append, List.length_take, List.length_drop, hwk]
      omega
    split
    · rename_i hlt
      rw [g0', g1', g2', g3'] at hlt
      rw [g0', g1', g2', g3']
      rw [List.getElem?_append_left (by omega)] at hq
      exact good_of hW hC hlen hts fs hf0 hfs k (by omega) r _ _ _ _ q (by omega) (by omega) (by omega) (by omega) hq
    · rename_i hge
      rw [g0', g1', g2', g3'] at hge
      rw [g0', g1', g2', g3', g5]
      rw [List.getElem?_append_right (by omega), len1] at hq
      have z := good_of hW hC hlen hts fs hf0 hfs k (by omega) _ _ _ _ _ q (by omega) (by omega) (by omega) (by omega) hq
      have e1 : ((r - (zc (fig (k + 1)) (W (k + 1)) n1 - zc (fig (k + 1)) (W (k + 1)) n0 + (zc (fig (k + 1)) (W (k + 1)) n3 - zc (fig (k + 1)) (W (k + 1)) n2)) : Nat) : Int) = (r : Int) - ((zc (fig (k + 1)) (W (k + 1)) n1 : Int) - zc (fig (k + 1)) (W (k + 1)) n0 + zc (fig (k + 1)) (W (k + 1)) n3 - zc (fig (k + 1)) (W (k + 1)) n2) := by omega
      have ee : ∀ n : Nat, n ≤ 5 → zc (fig (k + 1)) (W (k + 1)) n ≤ n → ((zc (fig (k + 1)) (W (k + 1)) 5 + n - zc (fig (k + 1)) (W (k + 1)) n : Nat) : Int) = (zc (fig (k + 1)) (W (k + 1)) 5 : Int) + n - zc (fig (k + 1)) (W (k + 1)) n := fun n _ _ => by omega
      rw [e1, ee n0 (by omega) l0, ee n1 h1 l1, ee n2 (by omega) l2, ee n3 h3 l3] at z
      exact z
end Mine
/-! part Lt3 -/
namespace Mine
def CW (R : List (Addr × Int)) : Nat → List Int
  | 0 => pre 4 (R.map (·.2)) 5
  | 1 => pre 2 ((part 4 R).map (·.2)) 5
  | _ => pre 1 ((part 2 (part 4 R)).map (·.2)) 5
def WW (R : List (Addr × Int)) : Nat → List (Addr × Int)
  | 0 => part 1 (part 2 (part 4 R))
  | 1 => part 2 (part 4 R)
  | 2 => part 4 R
  | _ => R
def figW : Nat → Int
  | 1 => 1
  | 2 => 2
  | _ => 4
def fsW : Nat → List Int
  | 0 => []
  | k + 1 => figW (k + 1) :: fsW k
theorem good_law {R : List (Addr × Int)} (hR : R.length = 5) (a b r : Nat) (q : Addr × Int) (hab : a < b) (hb : b ≤ 5) (hq : (rad (·.2) [4, 2, 1] (outs R a b))[r]? = some q) :
    Good (CW R) ((part 1 (part 2 (part 4 R))).map (·.1)) 3 (r : Int) 0 a b 5 q.1 := by
  refine good_of (W := WW R) (fig := figW) ?_ ?_ ?_ rfl fsW rfl (fun _ => rfl) 3 (Nat.le_refl _) r 0 a b 5 q (by omega) (by omega) hb (by omega) ?_
  · intro k hk
    match k, hk with
    | 0, _ => rfl
    | 1, _ => rfl
    | 2, _ => rfl
  · intro k hk
    match k, hk with
    | 0, _ => rfl
    | 1, _ => rfl
    | 2, _ => rfl
  · intro k hk
    match k, hk with
    | 0, _ => simp only [WW, part_length]; exact hR
    | 1, _ => simp only [WW, part_length]; exact hR
    | 2, _ => simp only [WW, part_length]; exact hR
    | 3, _ => exact hR
  · have e : slc R 0 a ++ slc R b 5 = outs R a b := by
      unfold slc outs
      rw [List.drop_zero, Nat.sub_zero]
      congr 1
      exact List.take_of_length_le (by rw [List.length_drop, hR]; omega)
    show (rad (·.2) [4, 2, 1] (slc R 0 a ++ slc R b 5))[r]? = some q
    rw [e]
    exact hq
end Mine
/-! part Lt4 -/
namespace Mine
theorem law_tail {w : World} {A : Around} {E : Value → Shared → Prop} {s : Shared} {Q : Flow → Shared → Prop} {g : Heap} {L fa rowA rw_ bf : Addr} {m : Str → Option Value} {mg mb : Str → Option Value} {p : Program} {loose : List Str} {mean : ExcName → Option Value}
    {oF : Obj} {nr nb n0 : Nat} {st : List (Addr × Obj)} {R : List (Addr × Int)}
    (X : (hd.heap_39 w.params).In g) (T : Top p loose mean mg mb g) (C67 : CodeHd g 69 67) (C60 : CodeHd g 64 60) (hroom : A.depth + 50 < recursionLimit) (hh : A.handled = none) (hE : PassesOwn (model PG w) A (envLaw L fa) E) (hu : A.units + 64 < cLine)
    (F : Fr g L s.heap m) (N : News g L s.heap ((L + 1 + 1, oF) :: (rw_, listOf #[.ref rowA] nr) :: (bf, listOf #[] nb) :: (67, tabObj #[]) :: (60, tabObj #[]) :: st)) (dF : ∃ v, oF.data = .cell v)
    (n1 : L + 1 + 1 ≠ rw_ ∧ L + 1 + 1 ≠ bf ∧ L + 1 + 1 ≠ 67 ∧ rw_ ≠ bf ∧ rw_ ≠ 67 ∧ bf ≠ 67) (ap : Ap [L + 1 + 1, rw_, bf, 67] ((60, tabObj #[]) :: st))
    (mr : m (Str.ofString "rows") = some (.ref rw_)) (mbf : m (Str.ofString "before") = some (.ref bf)) (mrow : m (Str.ofString "row") = some (.ref rowA))
    (hrow : (rowA, listOf (R.map fun p => Value.ref p.1).toArray n0) ∈ st) (hR : R.length = 5)
    (hth : ∀ (i : Nat) p, R[i]? = some p → 0 ≤ p.2 ∧ p.2 < 8 ∧ ∃ tn tk nt, (p.1, tup [.int p.2 tn, .int (i : Int) tk] nt) ∈ st)
    (hQ : ∀ h' tk' m' ps ps', Fr g L h' m' → News g L h' [(60, tabObj ps), (67, tabObj ps')] → Q (.ret (.bool true)) { s with heap := h', toks := tk' }) :
    wpAny (model PG w) A (execs (List.drop 4 (bodyOf lawS)) (envLaw L fa)) Q E s := by
  simp only [envLaw, scopeOf, bodyOf, lawS, stAt, PySem.Challenge.pw_kl0408_01, List.getElem?_cons_succ, List.getElem?_cons_zero, List.drop_succ_cons, List.drop_zero]
  walk1
  refine fig_loop (vs := R) (ra := rowA) X T C67 (by omega) hh hE F N ⟨ap, mr, mbf, rfl, List.mem_cons_of_mem _ hrow, by omega, fun q hq => ?_, .inl rfl⟩ dF n1 ?_
  · obtain ⟨i, hi, e⟩ := List.getElem_of_mem hq
    obtain ⟨q1, q2, tn, tk, nt, hm⟩ := hth i q (by rw [List.getElem?_eq_getElem hi, e])
    exact ⟨q1, q2, tn, _, nt, List.mem_cons_of_mem _ hm⟩
  intro h1 tk1 m1 oF1 ps1 st1 r1 r2 r3 b0 b1 b2 nr1 nb1 na1 k0 k1 k2 v0 v1 v2 F1 N1 hsub ap1 hr3 hb0 hb1 hb2 hm1
  clear F N ap
  have mr1 := (hm1 (Str.ofString "rows") (by decide) (by decide)).trans mr
  have mb1 := (hm1 (Str.ofString "before") (by decide) (by decide)).trans mbf
  have mrow1 := (hm1 (Str.ofString "row") (by decide) (by decide)).trans mrow
  iterate 4 walk1
  refine newList_K F1 N1 (fun askA h2 F2 N2 off2 => ?_) (Nat.zero_le _)
  refine storeX_L F2 N2 (fun h3 F3 N3 => ?_)
  clear F1 N1 F2 N2
  iterate 7 walk1
  refine nameX_L F3 mr1 ?_
  walk1
  refine nameX_L F3 mb1 ?_
  walk1
  refine nameX_L F3 rfl ?_
  walk1
  have h60 : (60, tabObj #[]) ∈ st1 := hsub _ List.mem_cons_self
  have m60 := N3 (60, tabObj #[]) (List.mem_cons_of_mem _ (List.mem_cons_of_mem _ (List.mem_cons_of_mem _ (List.mem_cons_of_mem _ (List.mem_cons_of_mem _ h60)))))
  have mA := N3 _ List.mem_cons_self
  have U60 : Und g 60 h3 := fun b o e => ⟨fun q => (by rw [q, m60.2.2] at e; cases e), F3.keep b o e⟩
  have hA60 : askA ≠ 60 := neN (Nat.ne_of_gt (off2 (60, tabObj #[]) (List.mem_cons_of_mem _ (List.mem_cons_of_mem _ (List.mem_cons_of_mem _ (List.mem_cons_of_mem _ h60))))))
  refine ⟨X.keeps F3.keep, wpAny_call (ask_core X T C60 U60 m60.1 (by omega) hh fun h4 tk4 ps lk cd cL cA cB cR doc pm ctv o1 o2 o3 o4 oc cvs ct x4 g60 fr glk gcd gcL gcA gcB gcR => ?_)⟩
  generalize hold : ((L + 1 + 1, oF1) :: (rw_, listOf [Value.ref rowA, .ref r1, .ref r2, .ref r3].toArray nr1) :: (bf, listOf [Value.ref b0, .ref b1, .ref b2].toArray nb1) :: (67, tabObj ps1) :: st1 : List (Addr × Obj)) = old at N3 off2
  have hst1 : ∀ x ∈ st1, x ∈ old := fun x hx => by rw [← hold]; exact List.mem_cons_of_mem _ (List.mem_cons_of_mem _ (List.mem_cons_of_mem _ (List.mem_cons_of_mem _ hx)))
  have F4 : Fr g L h4 _ := ⟨F3.ns.at' fun o e => x4 _ _ m60.2.1.symm e, fun b o e => x4 b o (U60 b o e).1 (F3.keep b o e), F3.above⟩
  have keep : ∀ x ∈ old, x.2.data ≠ (tabObj #[]).data → x ∈ old.filter fun x => x.1 != 60 := fun x hx hc => List.mem_filter.mpr ⟨hx, by
    have z : x.1 ≠ 60 := fun e => hc (by
      have q := (N3 x (List.mem_cons_of_mem _ hx)).1
      rw [e, m60.1] at q
      rw [← Option.some.inj q])
    simpa using z⟩
  have N4 : News g L h4 ((askA, listOf [].toArray 0) :: (lk, lookObj cL cA cB cR cd doc pm ctv) :: (cd, oc) :: (cL, o4) :: (cA, o3) :: (cB, o2) :: (cR, o1) :: (60, tabObj ps) :: (old.filter fun x => x.1 != 60)) := by
    intro x hx
    rcases List.mem_cons.mp hx with rfl | hx
    · exact ⟨x4 _ _ hA60 mA.1, mA.2⟩
    rcases List.mem_cons.mp hx with rfl | hx
    · exact fresh_put F3 (fr _ (by simp)) glk
    rcases List.mem_cons.mp hx with rfl | hx
    · exact fresh_put F3 (fr _ (by simp)) gcd.1
    rcases List.mem_cons.mp hx with rfl | hx
    · exact fresh_put F3 (fr _ (by simp)) gcL.1
    rcases List.mem_cons.mp hx with rfl | hx
    · exact fresh_put F3 (fr _ (by simp)) gcA.1
    rcases List.mem_cons.mp hx with rfl | hx
    · exact fresh_put F3 (fr _ (by simp)) gcB.1
    rcases List.mem_cons.mp hx with rfl | hx
    · exact fresh_put F3 (fr _ (by simp)) gcR.1
    rcases List.mem_cons.mp hx with rfl | hx
    · exact ⟨g60, m60.2⟩
    · obtain ⟨h1, h2⟩ := List.mem_filter.mp hx
      have z := N3 x (List.mem_cons_of_mem _ h1)
      exact ⟨x4 _ _ (by simpa using h2) z.1, z.2⟩
  have hap : ∀ x ∈ ((lk, lookObj cL cA cB cR cd doc pm ctv) :: (cd, oc) :: (cL, o4) :: (cA, o3) :: (cB, o2) :: (cR, o1) :: (60, tabObj ps) :: (old.filter fun x => x.1 != 60) : List (Addr × Obj)), x.1 ≠ askA := by
    have ne : ∀ y : Addr, h3.get? y = none → y ≠ askA := fun y e q => by rw [q, mA.1] at e; cases e
    intro x hx
    rcases List.mem_cons.mp hx with rfl | hx
    · exact ne _ (fr _ (by simp))
    rcases List.mem_cons.mp hx with rfl | hx
    · exact ne _ (fr _ (by simp))
    rcases List.mem_cons.mp hx with rfl | hx
    · exact ne _ (fr _ (by simp))
    rcases List.mem_cons.mp hx with rfl | hx
    · exact ne _ (fr _ (by simp))
    rcases List.mem_cons.mp hx with rfl | hx
    · exact ne _ (fr _ (by simp))
    rcases List.mem_cons.mp hx with rfl | hx
    · exact ne _ (fr _ (by simp))
    rcases List.mem_cons.mp hx with rfl | hx
    · exact hA60.symm
    · exact neN (Nat.ne_of_lt (off2 x (List.mem_filter.mp hx).1))
  have dl : ∀ (xs : Array Value) n, (listOf xs n).data ≠ (tabObj #[]).data := fun xs n e => by cases e
  have dt : ∀ (xs : List Value) n, (tup xs n).data ≠ (tabObj #[]).data := fun xs n e => by cases e
  have in8 : ∀ {x : Addr × Obj}, x ∈ (old.filter fun x => x.1 != 60) → x ∈ ((lk, lookObj cL cA cB cR cd doc pm ctv) :: (cd, oc) :: (cL, o4) :: (cA, o3) :: (cB, o2) :: (cR, o1) :: (60, tabObj ps) :: (old.filter fun x => x.1 != 60) : List (Addr × Obj)) := fun h => List.mem_cons_of_mem _ (List.mem_cons_of_mem _ (List.mem_cons_of_mem _ (List.mem_cons_of_mem _ (List.mem_cons_of_mem _ (List.mem_cons_of_mem _ (List.mem_cons_of_mem _ h))))))
  have M : LookMem ((lk, lookObj cL cA cB cR cd doc pm ctv) :: (cd, oc) :: (cL, o4) :: (cA, o3) :: (cB, o2) :: (cR, o1) :: (60, tabObj ps) :: (old.filter fun x => x.1 != 60)) ⟨lk, cL, cA, cB, cR, cd, askA, bf, rw_, fun i => match i with | 0 => b0 | 1 => b1 | _ => b2, r3, doc, pm, ctv⟩ (CW R) ((part 1 (part 2 (part 4 R))).map (·.1)) := by
    have e5 : ∀ f : Int, ∀ l : List Int, (pre f l 5).length = 6 := fun f l => by simp [pre]
    refine ⟨List.mem_cons_self, ⟨oc, cvs, ct, List.mem_cons_of_mem _ List.mem_cons_self, gcd.2.1, gcd.2.2⟩, ⟨o4, by simp, gcL.2⟩, ⟨o3, by simp, gcA.2⟩, ⟨o2, by simp, gcB.2⟩, ⟨o1, by simp, gcR.2⟩,
      ⟨nb1, in8 (keep _ (by rw [← hold]; simp) (dl _ _))⟩, ⟨nr1, _, _, _, in8 (keep (rw_, listOf [Value.ref rowA, .ref r1, .ref r2, .ref r3].toArray nr1) (by rw [← hold]; simp) (dl _ _))⟩, fun i hi => ?_, ⟨na1, ?_, ?_⟩⟩
    · match i, hi with
      | 0, _ => exact ⟨v0, k0, in8 (keep _ (hst1 _ hb0.1) (dl _ _)), by have z := hb0.2; rw [hR] at z; exact z, e5 _ _⟩
      | 1, _ => exact ⟨v1, k1, in8 (keep _ (hst1 _ hb1.1) (dl _ _)), by have z := hb1.2; rw [part_length, hR] at z; exact z, e5 _ _⟩
      | 2, _ => exact ⟨v2, k2, in8 (keep _ (hst1 _ hb2.1) (dl _ _)), by have z := hb2.2; rw [part_length, part_length, hR] at z; exact z, e5 _ _⟩
    · rw [List.map_map]; exact in8 (keep _ (hst1 _ hr3) (dl _ _))
    · rw [List.length_map, part_length, part_length, part_length, hR]
  refine storeX_L F4 N4 (fun h5 F5 N5 => ?_)
  clear F3 N3 F4 N4
  iterate 2 walk1
  refine start_loop (R := R) (n0 := n0) X T (by omega) hh hE M (fun _ h => h) F5 N5 hap rfl mrow1 (in8 (keep _ (hst1 _ (hsub _ (List.mem_cons_of_mem _ hrow))) (dl _ _))) hR hu (fun i q hq => ?_) (fun a b r q hab hb hq => good_law hR a b r q hab hb hq) ?_
  · obtain ⟨q1, q2, tn, tk, nt, hm⟩ := hth i q hq
    exact ⟨q1, q2, tn, tk, nt, in8 (keep _ (hst1 _ (hsub _ (List.mem_cons_of_mem _ hm))) (dt _ _))⟩
  intro h6 tk6 m6 vals n6 F6 N6 hv hm6
  have mask := hm6 (Str.ofString "asked") (by decide) (by decide) (by decide) (by decide) (by decide)
  have mask' : m6 (Str.ofString "asked") = some (.ref askA) := mask
  iterate 3 walk1
  refine nameX_L F6 mask' ?_
  iterate 14 walk1
  rename Fr _ _ _ _ => F7
  rename News _ _ _ _ => N7
  rename IntsAre _ (List.flatten _) => i1
  have ef : flat4 40 = (List.replicate (Int.toNat 40) [0, 1, 2, 3]).flatten := by decide
  refine ke_eq_ints (xs := vals) ⟨_, (N7 _ (List.mem_cons_of_mem _ (List.mem_cons_of_mem _ List.mem_cons_self))).1, rfl, _, rfl⟩ ⟨_, (N7 _ List.mem_cons_self).1, rfl, _, rfl⟩ hv i1 hu ?_
  rw [decide_eq_true ef]
  refine hQ _ _ m6 ps ps1 F7 (fun x hx => ?_)
  have in10 : ∀ {x : Addr × Obj}, x ∈ ((lk, lookObj cL cA cB cR cd doc pm ctv) :: (cd, oc) :: (cL, o4) :: (cA, o3) :: (cB, o2) :: (cR, o1) :: (60, tabObj ps) :: (old.filter fun x => x.1 != 60) : List (Addr × Obj)) → _ := fun {x} h => N7 x (List.mem_cons_of_mem _ (List.mem_cons_of_mem _ (List.mem_cons_of_mem _ h)))
  rcases List.mem_cons.mp hx with rfl | hx
  · exact in10 (by simp)
  · rw [List.mem_singleton.mp hx]
    exact in10 (in8 (List.mem_filter.mpr ⟨by rw [← hold]; simp, by rfl⟩))
end Mine
/-! part Wk5 -/
namespace Mine
theorem hth5 {p0 p1 p2 p3 p4 : Addr × Int} {P : Nat → Addr × Int → Prop} (h0 : P 0 p0) (h1 : P 1 p1) (h2 : P 2 p2) (h3 : P 3 p3) (h4 : P 4 p4) : ∀ (i : Nat) p, [p0, p1, p2, p3, p4][i]? = some p → P i p
  | 0, _, h => Option.some.inj h ▸ h0
  | 1, _, h => Option.some.inj h ▸ h1
  | 2, _, h => Option.some.inj h ▸ h2
  | 3, _, h => Option.some.inj h ▸ h3
  | 4, _, h => Option.some.inj h ▸ h4
  | _ + 5, _, h => by simp at h
theorem six {a r b : Nat} (h1 : 67 < a) (h2 : a + 1 + 1 < r) (h3 : r < b) : a + 1 + 1 ≠ r ∧ a + 1 + 1 ≠ b ∧ a + 1 + 1 ≠ 67 ∧ r ≠ b ∧ r ≠ 67 ∧ b ≠ 67 := by
  refine ⟨?_, ?_, ?_, ?_, ?_, ?_⟩ <;> omega
theorem apart1 {g h : Heap} {L F r b : Addr} {oF : Obj} {l : List (Addr × Obj)} {x : Addr × Obj} (N : News g L h l) (m1 : (F, oF) ∈ l) (m2 : (67, tabObj #[]) ∈ l) (m3 : x ∈ l) (dF : ∃ v, oF.data = .cell v)
    (c1 : ∀ v, x.2.data ≠ .cell v) (c2 : x.2.data ≠ (tabObj #[]).data) (l1 : @LT.lt Nat _ x.1 r) (l2 : @LT.lt Nat _ x.1 b) : ∀ d ∈ [F, r, b, 67], x.1 ≠ d := by
  intro d hd e
  have q := (N x m3).1
  rcases List.mem_cons.mp hd with rfl | hd
  · obtain ⟨v, hv⟩ := dF
    rw [e, (N _ m1).1] at q
    cases q
    exact c1 v hv
  rcases List.mem_cons.mp hd with rfl | hd
  · exact absurd l1 (by rw [e]; exact Nat.lt_irrefl _)
  rcases List.mem_cons.mp hd with rfl | hd
  · exact absurd l2 (by rw [e]; exact Nat.lt_irrefl _)
  · rw [List.mem_singleton.mp hd] at e
    rw [e, (N _ m2).1] at q
    exact c2 (by rw [← Option.some.inj q])
theorem ap60 {a r b : Nat} (h1 : 67 < a) (h2 : a + 1 + 1 < r) (h3 : r < b) : ∀ d ∈ ([a + 1 + 1, r, b, 67] : List Addr), (60 : Addr) ≠ d := by
  intro d hd
  rcases List.mem_cons.mp hd with rfl | hd
  · exact neN (by omega)
  rcases List.mem_cons.mp hd with rfl | hd
  · exact neN (by omega)
  rcases List.mem_cons.mp hd with rfl | hd
  · exact neN (by omega)
  · rw [List.mem_singleton.mp hd]; decide
theorem ap_cons {ds : List Addr} {x : Addr × Obj} {l : List (Addr × Obj)} (h : ∀ d ∈ ds, x.1 ≠ d) (h' : Ap ds l) : Ap ds (x :: l) := fun p hp => by
  rcases List.mem_cons.mp hp with rfl | hp
  · exact h
  · exact h' p hp
theorem ap_nil {ds : List Addr} : Ap ds [] := fun p hp => by cases hp
theorem t0 : PySem.Challenge.rw_kl0408_01.Holds := hd (by
  k_go0
  (all_goals try k_fold)
  iterate 12 walk1
  rename Fr _ _ _ _ => Fa
  rename News _ _ _ _ => Na
  refine Assign_comp_enum Fa (hLe := rfl) (by with_unfolding_all rfl) (by with_unfolding_all rfl) (by decide) (by rfl) (by decide) (by rfl) (by rfl) (by decide) (by rfl) (by rfl) (by rfl) ?_
  iterate 18 walk1
  rename Fr _ _ _ _ => Fb
  rename News _ _ _ _ => Nb
  rename IntsAre _ (List.take 60 _) => hIs
  refine' enum_call (vs := [.int 5 _, .int 2 _, .int 7 _, .int 2 _, .int 4 _]) RowJ ?hh ?F ?N ?hl ?sz ?j ?step ?fin
  case hh => rfl
  case F => exact Fb
  case N => exact Nb
  case hl => exact List.mem_cons_self
  case sz => show 5 ≤ sizeLine; decide
  case j => exact ⟨[], rfl, rfl, fun _ h => h, fun j p h => by simp at h⟩
  case step =>
    rintro i t v ys news' C oC D m₂ h tk E' hi hv hRJ hC h1 h2 F3 rest hr N3
    have hb := hRJ.base
    obtain ⟨xv, tv, rfl⟩ := int5 hv
    have hib : (i : Int) < 2 ^ 63 := by have : i < 5 := hi; omega
    iterate 4 walk1
    refine name_ownC N3 List.mem_cons_self hC h2 ?_
    walk1
    walk1
    walk1
    walk1
    walk1
    refine lcf_cell N3 rfl (List.mem_cons_of_mem _ (List.mem_cons_of_mem _ (hr _ (hb _ (by repeat (first | exact List.Mem.head _ | apply List.Mem.tail)))))) (by assumption) ?_ rfl rfl
    walk1
    walk1
    refine name_ownC N3 List.mem_cons_self hC h1 ?_
    iterate 3 walk1
    have hld := (N3 _ (List.mem_cons_of_mem _ (List.mem_cons_of_mem _ (hr _ (hb _ (List.mem_cons_of_mem _ List.mem_cons_self)))))).1
    refine slice_list3 F3 N3 ⟨_, hld, rfl, _, rfl⟩ (.int _ _) .none (.int _ _) (by decide) (fun h4 F4 N4 => ?_) (hsz := ?hz)
    case hz => rw [List.size_toArray, hIs.length]; exact Nat.le_trans (List.length_take_le ..) (by decide)
    walk1
    have F4' := F4
    refine sum_keep (vs := (slicePick _ (some (i : Int)) none (some 5)).toList) rfl ⟨_, (N4 _ List.mem_cons_self).1, rfl, _, rfl⟩ (hIs.pick _ _ _) (fun h5 tk5 t5 x5 => ?_)
    have F5 := F4.keeps x5
    have N5 := N4.grown x5
    clear F4 N4 F4'
    iterate 4 walk1
    refine name_ownC N5 (List.mem_cons_of_mem _ List.mem_cons_self) hC h1 ?_
    iterate 2 walk1
    rename Fr _ _ _ _ => F6
    rename News _ _ _ _ => N6
    (with_reducible rename _ ∧ _ ∧ _ ∧ AllLt _ _ => hlt6)
    refine ⟨_, _, _, _, rfl, F6, N6.drop2, off_two hlt6.2, rfl, hRJ.snoc (fm8 _).1 (fm8 _).2⟩
  case fin =>
    intro D ys news' h tk F3 N3 off hRJ
    obtain ⟨p0, p1, p2, p3, p4, rfl, b0, b1, b2, b3, b4, ⟨a0, c0, n0, m0⟩, ⟨a1, c1, n1, m1⟩, ⟨a2, c2, n2, m2⟩, ⟨a3, c3, n3, m3⟩, ⟨a4, c4, n4, m4⟩, hb⟩ := hRJ.five
    clear hRJ
    have hb1 := hb _ (List.mem_cons_of_mem _ (List.mem_cons_of_mem _ List.mem_cons_self))
    have hb2 := hb _ (List.mem_cons_of_mem _ (List.mem_cons_of_mem _ (List.mem_cons_of_mem _ (List.mem_cons_of_mem _ List.mem_cons_self))))
    have hb3 := hb _ (List.mem_cons_of_mem _ (List.mem_cons_of_mem _ (List.mem_cons_of_mem _ (List.mem_cons_of_mem _ (List.mem_cons_of_mem _ List.mem_cons_self)))))
    have N4 := (((((((((News.nil (h₀ := _) (L := _) (h := h)).put (N3 _ (List.mem_cons_of_mem _ hb3))).put (N3 _ (List.mem_cons_of_mem _ hb2))).put (N3 _ (List.mem_cons_of_mem _ hb1))).put (N3 _ (List.mem_cons_of_mem _ m4))).put (N3 _ (List.mem_cons_of_mem _ m3))).put (N3 _ (List.mem_cons_of_mem _ m2))).put (N3 _ (List.mem_cons_of_mem _ m1))).put (N3 _ (List.mem_cons_of_mem _ m0))).put (N3 _ List.mem_cons_self)
    clear N3 hb1 hb2 hb3 m0 m1 m2 m3 m4 hb off news'
    iterate 16 walk1
    rename Fr _ _ _ _ => F5
    rename News _ _ _ _ => N5
    rename _ ∧ _ ∧ _ ∧ _ ∧ _ ∧ _ ∧ _ ∧ _ ∧ _ ∧ _ => lts
    have N6 := ((((((((((((News.nil (h₀ := _) (L := _) (h := _)).put (N5 _ (List.mem_cons_of_mem _ (List.mem_cons_of_mem _ (List.mem_cons_of_mem _ (List.mem_cons_of_mem _ (List.mem_cons_of_mem _ (List.mem_cons_of_mem _ (List.mem_cons_of_mem _ List.mem_cons_self))))))))).put (N5 _ (List.mem_cons_of_mem _ (List.mem_cons_of_mem _ (List.mem_cons_of_mem _ (List.mem_cons_of_mem _ (List.mem_cons_of_mem _ (List.mem_cons_of_mem _ List.mem_cons_self)))))))).put (N5 _ (List.mem_cons_of_mem _ (List.mem_cons_of_mem _ (List.mem_cons_of_mem _ (List.mem_cons_of_mem _ (List.mem_cons_of_mem _ List.mem_cons_self))))))).put (N5 _ (List.mem_cons_of_mem _ (List.mem_cons_of_mem _ (List.mem_cons_of_mem _ (List.mem_cons_of_mem _ List.mem_cons_self)))))).put (N5 _ (List.mem_cons_of_mem _ (List.mem_cons_of_mem _ (List.mem_cons_of_mem _ List.mem_cons_self))))).put (N5 _ (List.mem_cons_of_mem _ (List.mem_cons_of_mem _ List.mem_cons_self)))).put (N5 _ (List.mem_cons_of_mem _ (List.mem_cons_of_mem _ (List.mem_cons_of_mem _ (List.mem_cons_of_mem _ (List.mem_cons_of_mem _ (List.mem_cons_of_mem _ (List.mem_cons_of_mem _ (List.mem_cons_of_mem _ (List.mem_cons_of_mem _ List.mem_cons_self))))))))))).put (N5 _ (List.mem_cons_of_mem _ (List.mem_cons_of_mem _ (List.mem_cons_of_mem _ (List.mem_cons_of_mem _ (List.mem_cons_of_mem _ (List.mem_cons_of_mem _ (List.mem_cons_of_mem _ (List.mem_cons_of_mem _ (List.mem_cons_of_mem _ (List.mem_cons_of_mem _ List.mem_cons_self)))))))))))).put (N5 _ List.mem_cons_self)).put (N5 _ (List.mem_cons_of_mem _ List.mem_cons_self))).put (N5 _ (List.mem_cons_of_mem _ (List.mem_cons_of_mem _ (List.mem_cons_of_mem _ (List.mem_cons_of_mem _ (List.mem_cons_of_mem _ (List.mem_cons_of_mem _ (List.mem_cons_of_mem _ (List.mem_cons_of_mem _ List.mem_cons_self))))))))))
    clear N5
    obtain ⟨z1, z2, z3, z4, z5, z6, z7, z8, z9, z10⟩ := lts
    (with_reducible rename _ ∧ _ ∧ _ ∧ _ ∧ _ ∧ _ ∧ _ ∧ _ ∧ _ => lts1)
    obtain ⟨y1, y2, y3, y4, y5, y6, y7, y8, y9⟩ := lts1
    have l67 := Heap.lt_size (hT8 67 (List.mem_cons_of_mem _ List.mem_cons_self))
    refine law_tail (R := [p0, p1, p2, p3, p4]) (by assumption) (by assumption) (by assumption) (by assumption) ?room rfl (by passes_own) ?un F5 N6 ⟨_, by assumption⟩ ?n1 ?ap rfl rfl rfl List.mem_cons_self rfl ?hth ?fin2
    case room => first | decide | exact Nat.le_of_ble_eq_true rfl
    case un => first | units_room | exact Nat.le_of_ble_eq_true rfl
    case n1 => exact six l67 y7 z1
    case ap =>
      refine ap_cons (ap60 l67 y7 z1) (ap_cons (apart1 N6 (List.mem_cons_self) (List.mem_cons_of_mem _ (List.mem_cons_of_mem _ (List.mem_cons_of_mem _ (List.mem_cons_self)))) (List.mem_cons_of_mem _ (List.mem_cons_of_mem _ (List.mem_cons_of_mem _ (List.mem_cons_of_mem _ (List.mem_cons_of_mem _ (List.mem_cons_self)))))) ⟨_, by assumption⟩ (fun _ q => by cases q) (fun q => by cases q) y1 z2) (ap_cons (apart1 N6 (List.mem_cons_self) (List.mem_cons_of_mem _ (List.mem_cons_of_mem _ (List.mem_cons_of_mem _ (List.mem_cons_self)))) (List.mem_cons_of_mem _ (List.mem_cons_of_mem _ (List.mem_cons_of_mem _ (List.mem_cons_of_mem _ (List.mem_cons_of_mem _ (List.mem_cons_of_mem _ (List.mem_cons_self))))))) ⟨_, by assumption⟩ (fun _ q => by cases q) (fun q => by cases q) y2 z3) (ap_cons (apart1 N6 (List.mem_cons_self) (List.mem_cons_of_mem _ (List.mem_cons_of_mem _ (List.mem_cons_of_mem _ (List.mem_cons_self)))) (List.mem_cons_of_mem _ (List.mem_cons_of_mem _ (List.mem_cons_of_mem _ (List.mem_cons_of_mem _ (List.mem_cons_of_mem _ (List.mem_cons_of_mem _ (List.mem_cons_of_mem _ (List.mem_cons_self)))))))) ⟨_, by assumption⟩ (fun _ q => by cases q) (fun q => by cases q) y3 z4) (ap_cons (apart1 N6 (List.mem_cons_self) (List.mem_cons_of_mem _ (List.mem_cons_of_mem _ (List.mem_cons_of_mem _ (List.mem_cons_self)))) (List.mem_cons_of_mem _ (List.mem_cons_of_mem _ (List.mem_cons_of_mem _ (List.mem_cons_of_mem _ (List.mem_cons_of_mem _ (List.mem_cons_of_mem _ (List.mem_cons_of_mem _ (List.mem_cons_of_mem _ (List.mem_cons_self))))))))) ⟨_, by assumption⟩ (fun _ q => by cases q) (fun q => by cases q) y4 z5) (ap_cons (apart1 N6 (List.mem_cons_self) (List.mem_cons_of_mem _ (List.mem_cons_of_mem _ (List.mem_cons_of_mem _ (List.mem_cons_self)))) (List.mem_cons_of_mem _ (List.mem_cons_of_mem _ (List.mem_cons_of_mem _ (List.mem_cons_of_mem _ (List.mem_cons_of_mem _ (List.mem_cons_of_mem _ (List.mem_cons_of_mem _ (List.mem_cons_of_mem _ (List.mem_cons_of_mem _ (List.mem_cons_self)))))))))) ⟨_, by assumption⟩ (fun _ q => by cases q) (fun q => by cases q) y5 z6) (ap_cons (apart1 N6 (List.mem_cons_self) (List.mem_cons_of_mem _ (List.mem_cons_of_mem _ (List.mem_cons_of_mem _ (List.mem_cons_self)))) (List.mem_cons_of_mem _ (List.mem_cons_of_mem _ (List.mem_cons_of_mem _ (List.mem_cons_of_mem _ (List.mem_cons_of_mem _ (List.mem_cons_of_mem _ (List.mem_cons_of_mem _ (List.mem_cons_of_mem _ (List.mem_cons_of_mem _ (List.mem_cons_of_mem _ (List.mem_cons_self))))))))))) ⟨_, by assumption⟩ (fun _ q => by cases q) (fun q => by cases q) y6 z7) ap_nil))))))
    case hth =>
      refine hth5 (P := fun i p => 0 ≤ p.2 ∧ p.2 < 8 ∧ ∃ tn tk nt, (p.1, tup [.int p.2 tn, .int (i : Int) tk] nt) ∈ _) ?_ ?_ ?_ ?_ ?_
      · exact ⟨b0.1, b0.2, _, _, _, (List.mem_cons_of_mem _ List.mem_cons_self)⟩
      · exact ⟨b1.1, b1.2, _, _, _, (List.mem_cons_of_mem _ (List.mem_cons_of_mem _ List.mem_cons_self))⟩
      · exact ⟨b2.1, b2.2, _, _, _, (List.mem_cons_of_mem _ (List.mem_cons_of_mem _ (List.mem_cons_of_mem _ List.mem_cons_self)))⟩
      · exact ⟨b3.1, b3.2, _, _, _, (List.mem_cons_of_mem _ (List.mem_cons_of_mem _ (List.mem_cons_of_mem _ (List.mem_cons_of_mem _ List.mem_cons_self))))⟩
      · exact ⟨b4.1, b4.2, _, _, _, (List.mem_cons_of_mem _ (List.mem_cons_of_mem _ (List.mem_cons_of_mem _ (List.mem_cons_of_mem _ (List.mem_cons_of_mem _ List.mem_cons_self)))))⟩
    case fin2 =>
      intro h' tk' m' ps ps' F9 N9
      refine ⟨?_, ?_⟩
      · (first | (k_end; kc_close) | kc_close)
      · exact ⟨GrownAt.of N9 List.mem_cons_self, GrownAt.of N9 (List.mem_cons_of_mem _ List.mem_cons_self), trivial⟩)
end Mine
theorem PySem.Challenge.cw_kl0408_01_holds : PySem.Challenge.rw_kl0408_01.Holds := by
  exact Mine.t0
