import PyProof.Rows.All
import Wide.All
import OpenK.AllK
import Wide.FinOn
import PySem.Challenge.RW_iv0023_01
set_option Elab.async false
set_option maxRecDepth 100000
set_option maxHeartbeats 4000000
set_option linter.all false
set_option compiler.extract_closed false
set_option genSizeOf false
open PySem PySem.W PyProof.Rows PySem.Calls
open_top Mine.hdTop for PySem.Challenge.rw_iv0023_01
section Body
section PartBs
namespace Mine
theorem lt_room {a b c n : Nat} (h : a + b < n) (hc : c ≤ b) : a + c < n := Nat.lt_of_le_of_lt (Nat.add_le_add_left hc a) h
/-- what a callee stands on: g is all that stays -/
structure Cx (w : World) (A : Around) (base : Heap) (outer : List Env) (p : Program) (loose : List Str) (mean : ExcName → Option Value) (mg mb : Str → Option Value) (g h : Heap) : Prop where
  B : Below A base outer g
  st : g.StaysIn h
  sz : g.objs.size ≤ h.objs.size
  X : (hdTop.heap_39 w.params).In g
  T : Top p loose mean mg mb g
  hh : A.handled = none
/-- a call comes back: a value, a heap that keeps g, what is said of both -/
inductive Ret (s : Shared) (g : Heap) (Post : Value → Heap → Prop) (r : Result) (s' : Shared) : Prop
  | ctr (v : Value) (h' : Heap) (tk' : Nat) (e1 : r = .ok (.ret v)) (e2 : s' = { s with heap := h', toks := tk' }) (k : g.StaysIn h') (p : Post v h') : Ret s g Post r s'
section
variable {prog : Program} {w : World} {A : Around} {base g : Heap} {outer : List Env} {p : Program} {loose : List Str} {mean : ExcName → Option Value} {mg mb : Str → Option Value} {s : Shared}
  {Post : Value → Heap → Prop} {name qual : Str} {params : Arguments} {body : List Stmt} {scope : Scope} {cl : List (Str × Addr)} {dV kV doc pm cdv ct : Value} {an : Option Addr} {f : Addr} {args : Args} {binds : List (Str × Value)} {fo : Obj} {sm : List (Addr × Obj)}
/-- into a def (also one that closes over cells) -/
theorem enterX (C : Cx w A base outer p loose mean mg mb g s.heap) (N : ∀ q ∈ sm, s.heap.get? q.1 = some q.2 ∧ g.get? q.1 = none)
    (ho : s.heap.get? f = some fo) (hd : fo.data = .func (fnX name qual params body scope cl dV kV doc pm an cdv ct)) (hcd : s.heap.CodeRec cdv qual) (hroom : A.depth < recursionLimit)
    (hbind : BindsTo s (fnX name qual params body scope cl dV kV doc pm an cdv ct) args binds) (hloc : ∀ y ∈ binds, scope.names.lookup y.1 = some .local)
    (h : ∀ h₁, Fr g s.heap.objs.size h₁ (fun y => binds.reverse.lookup y) → News g s.heap.objs.size h₁ sm → (∀ b o, s.heap.get? b = some o → h₁.get? b = some o) →
      ∀ R : Flow → Shared → Prop, (∀ fl s', Ret s g Post (.ok (.ret (match fl with | .ret v => v | _ => .none))) s' → R fl s') →
      wpAny (model prog w) (A.deeper (envX qual scope s.heap.objs.size f cdv cl)) (execs body (envX qual scope s.heap.objs.size f cdv cl))
        R (fun _ _ => False)
        { s with heap := h₁, toks := s.toks + binds.length })
    (hcell : ∀ x ∈ scope.names, x.2 ≠ .cell) (hco : scope.isCoroutine = false := by rfl) (hgen : scope.isGenerator = false := by rfl) (hk : scope.kind = .function := by rfl) :
    codeAny (model prog w) A (.call (.ref f) args) (Ret s g Post) s := by
  refine codeAny_call_def (fd := fnX name qual params body scope cl dV kV doc pm an cdv ct) (body := body) (binds := binds) hroom ho hd (C.T.nolimit.keeps C.st) hcd rfl hbind hcell hloc (fun h₁ hns hk₁ => ?_) hco hgen hk
  exact wpAny_mono (h h₁ ⟨hns, fun b o e => hk₁ b o (C.st b o e), C.sz⟩
    (fun q hq => ⟨hk₁ _ _ (N q hq).1, Nat.ne_of_lt (Heap.lt_size (N q hq).1), (N q hq).2⟩) hk₁ _ fun _ _ x => x) (fun _ _ x => x) fun _ _ x => x.elim
theorem enterK {oc : Value} {od : Option Addr} {osl : Array (Option Value)} (C : Cx w A base outer p loose mean mg mb g s.heap) (N : ∀ q ∈ sm, s.heap.get? q.1 = some q.2 ∧ g.get? q.1 = none)
    (ho : (hdTop.heap_39 w.params).lookup f = some ⟨oc, od, .func (fnX name qual params body scope cl dV kV doc pm an cdv ct), osl⟩) (hcd : codeIn (hdTop.heap_39 w.params) cdv qual = true) (hroom : A.depth < recursionLimit)
    (hbind : BindsTo s (fnX name qual params body scope cl dV kV doc pm an cdv ct) args binds) (hloc : ∀ y ∈ binds, scope.names.lookup y.1 = some .local)
    (h : ∀ h₁, Fr g s.heap.objs.size h₁ (fun y => binds.reverse.lookup y) → News g s.heap.objs.size h₁ sm → (∀ b o, s.heap.get? b = some o → h₁.get? b = some o) →
      ∀ R : Flow → Shared → Prop, (∀ fl s', Ret s g Post (.ok (.ret (match fl with | .ret v => v | _ => .none))) s' → R fl s') →
      wpAny (model prog w) (A.deeper (envX qual scope s.heap.objs.size f cdv cl)) (execs body (envX qual scope s.heap.objs.size f cdv cl))
        R (fun _ _ => False)
        { s with heap := h₁, toks := s.toks + binds.length })
    (hcell : ∀ x ∈ scope.names, x.2 ≠ .cell) (hco : scope.isCoroutine = false := by rfl) (hgen : scope.isGenerator = false := by rfl) (hk : scope.kind = .function := by rfl) :
    codeAny (model prog w) A (.call (.ref f) args) (Ret s g Post) s :=
  enterX C N (C.st _ _ (C.X _ _ ho)) rfl ((codeRec_of C.X hcd).keeps C.st) hroom hbind hloc h hcell hco hgen hk
end
section
variable {prog : Program} {w : World} {A A₀ : Around} {base h₀ : Heap} {outer : List Env} {env : Env} {p : Program} {loose : List Str} {mean : ExcName → Option Value} {mg mb : Str → Option Value} {s : Shared}
  {Post : Value → Heap → Prop} {f : Value} {args : List Value} {L : Addr} {m : Str → Option Value} {news : List (Addr × Obj)} {Q E : Value → Shared → Prop}
/-- a call by its contract -/
theorem call_con (D : List Addr) (B : Below A₀ base outer h₀) (F : Fr h₀ L s.heap m) (X : (hdTop.heap_39 w.params).In h₀) (T : Top p loose mean mg mb h₀) (hh : A.handled = none) (hA : A.frames = some (env :: outer)) (hf : env.frame = some L) (hke : env.scope.kind = .function)
    (hD : ∀ d ∈ D, d ≠ L ∧ h₀.get? d = none)
    (C : ∀ g, Cx w A base (env :: outer) p loose mean mg mb g s.heap → h₀.StaysIn g → (∀ b o, b ∉ D → s.heap.get? b = some o → g.get? b = some o) → (∀ d ∈ D, g.get? d = none) →
      codeAny (model prog w) A (.call f ⟨args, []⟩) (Ret s g Post) s)
    (h : ∀ v h' tk', Fr h₀ L h' m → (∀ b o, b ∉ D → s.heap.get? b = some o → h'.get? b = some o) → Post v h' → Q v { s with heap := h', toks := tk' }) :
    wpAny (model prog w) A (call f args) Q E s := by
  have nm : ∀ b o, h₀.get? b = some o → b ∉ D := fun b o e q => by rw [(hD b q).2] at e; cases e
  have st : h₀.StaysIn (hideAll s.heap D) := fun b o e => hideAll_get _ (F.keep b o e) (nm b o e)
  obtain ⟨oL, es, ep, hL, hLd, hLk, hLf⟩ := F.ns
  have nL : L ∉ D := fun q => (hD L q).1 rfl
  have hLg := hideAll_get D hL nL
  have B₁ := pushX B F hf hke
  have B₂ : Below A base (env :: outer) (hideAll s.heap D) := ⟨hA, fun b o e => st b o (B.stays b o e), funFrames_hideAll B₁.frames fun env' he b hb hf' => by
    cases he with
    | head => exact nL ((Option.some.inj (hf.symm.trans hf') : L = b) ▸ hb)
    | tail _ he =>
      obtain ⟨L₁, o₁, hf₁, ho₁⟩ := funFrames_in B.frames env' he
      rw [hf₁] at hf'
      exact nm L₁ o₁ ho₁ ((Option.some.inj hf' : L₁ = b) ▸ hb)⟩
  refine wpAny_call (codeAny_mono (C (hideAll s.heap D) ⟨B₂, fun b o e => of_hideAll _ e, Nat.le_of_eq (hideAll_size _ _), X.keeps st, T.keeps st, hh⟩ st (fun b o hb e => hideAll_get _ e hb) fun d hd => hideAll_none _ hd) fun r s' hr => ?_)
  obtain ⟨v, h', tk', rfl, rfl, k, P⟩ := hr
  exact h v h' tk' ⟨⟨oL, es, ep, k _ _ hLg, hLd, hLk, hLf⟩, fun b o e => k b o (st b o e), F.above⟩ (fun b o hb e => k b o (hideAll_get _ e hb)) P
end
theorem enterC {oc : Value} {od : Option Addr} {osl : Array (Option Value)} {w : World} {prog : Program} {A : Around} {base g : Heap} {outer : List Env} {p : Program} {loose : List Str} {mean : ExcName → Option Value} {mg mb : Str → Option Value} {s : Shared}
    {Post : Value → Heap → Prop} {name qual : Str} {params : Arguments} {body : List Stmt} {scope : Scope} {dV kV doc pm cdv ct : Value} {an : Option Addr} {f : Addr} {args : Args} {binds : List (Str × Value)} {sm : List (Addr × Obj)}
    (C : Cx w A base outer p loose mean mg mb g s.heap) (N : ∀ q ∈ sm, s.heap.get? q.1 = some q.2 ∧ g.get? q.1 = none)
    (ho : (hdTop.heap_39 w.params).lookup f = some ⟨oc, od, .func (fnX name qual params body scope [] dV kV doc pm an cdv ct), osl⟩) (hcd : codeIn (hdTop.heap_39 w.params) cdv qual = true) (hroom : A.depth < recursionLimit)
    (hbind : BindsTo s (fnX name qual params body scope [] dV kV doc pm an cdv ct) args binds) (hkind : (binds.all fun y => scope.names.lookup y.1 == some .local || scope.names.lookup y.1 == some .cell) = true)
    (hnd : ((cellsFrom 0 scope.names []).map (·.1)).Nodup)
    (h : ∀ h₁ tk cells, Fr g s.heap.objs.size h₁ (bindL (envOfC qual scope s.heap.objs.size f cdv).kindOf binds fun _ => none) → News g s.heap.objs.size h₁ (cells ++ sm) →
      CellsAre (bindC (envOfC qual scope s.heap.objs.size f cdv).kindOf binds fun _ => none) (cellsFrom (s.heap.objs.size + 1) scope.names []) cells → (∀ b o, s.heap.get? b = some o → h₁.get? b = some o) →
      ∀ R : Flow → Shared → Prop, (∀ fl s', Ret s g Post (.ok (.ret (match fl with | .ret v => v | _ => .none))) s' → R fl s') →
      wpAny (model prog w) (A.deeper (envOfC qual scope s.heap.objs.size f cdv)) (execs body (envOfC qual scope s.heap.objs.size f cdv))
        R (fun _ _ => False)
        { s with heap := h₁, toks := tk })
    (hco : scope.isCoroutine = false := by rfl) (hgen : scope.isGenerator = false := by rfl) (hk : scope.kind = .function := by rfl) :
    codeAny (model prog w) A (.call (.ref f) args) (Ret s g Post) s := by
  have hlim : s.heap.NoLimit := C.T.nolimit.keeps C.st
  refine codeAny_call_function (fd := fnX name qual params body scope [] dV kV doc pm an cdv ct) hroom (C.st _ _ (C.X _ _ ho)) rfl hco hgen rfl ((codeRec_of C.X hcd).keeps C.st) (hbind _ _ _ _ ?_)
  refine wpAny_newFunctionEnv_cells hk (kindsX hkind _) fun env' he s' x => ?_
  subst he
  refine ⟨hlim.keeps x.toInCall.keep, codeAny_func ?_⟩
  obtain ⟨h₁, tk, rfl, _⟩ := x.done
  have hk₁ := x.toInCall.keep
  obtain ⟨cells, NC, Y⟩ := Cl.news (h₀ := s.heap) (Nat.le_refl _) fun n c hm => ⟨x.cell n c (lookup_of_mem_nodup (cellsFrom_names scope.names 0 (s.heap.objs.size + 1) [] [] rfl ▸ hnd) hm), x.above n c hm⟩
  have gnone : ∀ b, s.heap.get? b = none → g.get? b = none := fun b e => by
    cases q : g.get? b with
    | none => rfl
    | some o => rw [C.st _ _ q] at e; cases e
  refine wpAny_mono (h h₁ tk cells ⟨x.toInCall.ns, fun b o e => hk₁ b o (C.st b o e), C.sz⟩ (fun q hq => ?_) Y hk₁ _ fun _ _ x => x) (fun _ _ y => y) fun _ _ y => y.elim
  rcases List.mem_append.mp hq with hq | hq
  · exact ⟨(NC q hq).1, (NC q hq).2.1, gnone _ (NC q hq).2.2⟩
  · exact ⟨hk₁ _ _ (N q hq).1, Nat.ne_of_lt (Heap.lt_size (N q hq).1), (N q hq).2⟩
end Mine
end PartBs
section PartNd
namespace Mine
/-- a node of the machine that the law builds -/
inductive NodeAt (w : World) (h : Heap) (a : Addr) (as : List Value) : Prop
  | ctr (dx al : Addr) (t1 t2 t3 n n' : Nat) (h1 : h.get? a = some (instObj 67 dx)) (h2 : h.get? dx = some (dictOf [⟨PyData.keyHash w.params "from_rule", .str "from_rule" t1, .str "r" t2⟩, ⟨PyData.keyHash w.params "arcs", .str "arcs" t3, .ref al⟩] n)) (h3 : h.get? al = some (W.listOf as.toArray n')) : NodeAt w h a as
abbrev Arc := Nat × Str × Nat
def LabV (lv : Value) (lab : Str) : Prop := (lab = "" ∧ lv = .none) ∨ (lab ≠ "" ∧ ∃ t, lv = .str lab t)
inductive ArcAt (w : World) (h : Heap) (nd : Nat → Addr) (v : Value) (a : Arc) : Prop
  | ctr (x dx : Addr) (t1 t2 n : Nat) (lv : Value) (e : v = .ref x) (h1 : h.get? x = some (instObj 38 dx)) (h2 : h.get? dx = some (dictOf [⟨PyData.keyHash w.params "next", .str "next" t1, .ref (nd a.2.2)⟩, ⟨PyData.keyHash w.params "nonterminal_or_string", .str "nonterminal_or_string" t2, lv⟩] n)) (h3 : LabV lv a.2.1) : ArcAt w h nd v a
def outOf (AL : List Arc) (i : Nat) : List Arc := AL.filter (fun a => a.1 == i)
structure GraphAt (w : World) (h : Heap) (nd : Nat → Addr) (cnt : Nat) (AL : List Arc) : Prop where
  node : ∀ i, i < cnt → ∃ as, NodeAt w h (nd i) as ∧ as.length = (outOf AL i).length ∧ ∀ (k : Nat) v, as[k]? = some v → ∃ a, (outOf AL i)[k]? = some a ∧ ArcAt w h nd v a
  inj : ∀ i j, i < cnt → j < cnt → nd i = nd j → i = j
  arcs : ∀ a ∈ AL, a.1 < cnt ∧ a.2.2 < cnt
theorem NodeAt.keeps {w : World} {h h' : Heap} {a : Addr} {as : List Value} (x : NodeAt w h a as) (k : h.StaysIn h') : NodeAt w h' a as :=
  let ⟨dx, al, t1, t2, t3, n, n', e1, e2, e3⟩ := x; ⟨dx, al, t1, t2, t3, n, n', k _ _ e1, k _ _ e2, k _ _ e3⟩
theorem ArcAt.keeps {w : World} {h h' : Heap} {nd : Nat → Addr} {v : Value} {a : Arc} (x : ArcAt w h nd v a) (k : h.StaysIn h') : ArcAt w h' nd v a :=
  let ⟨x, dx, t1, t2, n, lv, e0, e1, e2, e3⟩ := x; ⟨x, dx, t1, t2, n, lv, e0, k _ _ e1, k _ _ e2, e3⟩
theorem GraphAt.keeps {w : World} {h h' : Heap} {nd : Nat → Addr} {cnt : Nat} {AL : List Arc} (x : GraphAt w h nd cnt AL) (k : h.StaysIn h') : GraphAt w h' nd cnt AL :=
  ⟨fun i hi => let ⟨as, a, b, c⟩ := x.node i hi; ⟨as, a.keeps k, b, fun j v e => let ⟨a, p, q⟩ := c j v e; ⟨a, p, q.keeps k⟩⟩, x.inj, x.arcs⟩
theorem cmp_mk {h : Heap} {x C N : Addr} {bm : List Value} {o : Obj} {nm q : Str} {bs : List Value} {hdct : Bool} {sn : List Str} {sub : List Value} {ab : Bool} {col : Option Bool} {dd : Option Addr} {k0 k1 k2 k3 k5 : Option Value} {newId : String} {mN : Str → Option Value}
    (h1 : h.get? x = some o) (h2 : o.cls = .ref C) (h3 : h.get? C = some (excClassObj nm q C N bs bm hdct sn sub ab col dd k0 k1 k2 k3 k5 newId)) (h4 : h.Ns N mN) (h5 : mN "__eq__" = none) (h6 : mN "__ne__" = none) : h.CmpInst x C bm :=
  ⟨o, nm, q, N, bs, hdct, sn, sub, ab, col, dd, k0, k1, k2, k3, k5, newId, mN, h1, h2, h3, h4, h5, h6⟩
theorem node_cmp {w : World} {h : Heap} (X : (hdTop.heap_39 w.params).In h) {x dx : Addr} (hx : h.get? x = some (instObj 67 dx)) : h.CmpInst x 67 [.type "object"] := by
  refine' cmp_mk (N := 66) hx rfl (X _ _ ?k1) (.of_isNs (isNs_of_in X ?k2)) (nsMap_none_of_in X ?k3 ?k4) (nsMap_none_of_in X ?k5 ?k6)
  case k1 => k_is
  case k2 => kernel_rfl
  case k3 => kernel_rfl
  case k4 => k_is
  case k5 => kernel_rfl
  case k6 => k_is
theorem nodes_ne {w : World} {A : Around} {s : Shared} (X : (hdTop.heap_39 w.params).In s.heap) {x y dx dy : Addr} (hx : s.heap.get? x = some (instObj 67 dx)) (hy : s.heap.get? y = some (instObj 67 dy)) (hxy : x ≠ y) (hu : A.units < cLine) :
    SeqAt.EqAt A s (.ref x) (.ref y) false :=
  SeqAt.EqAt.of_refs hxy fun _ _ _ _ h => richCompare_eq_other F.cmp_object F.cmp_object (node_cmp X hx) (node_cmp X hy) hxy hu h
abbrev refsOf (nd : Nat → Addr) (B : List Nat) : List Value := B.map fun j => .ref (nd j)
theorem any_refs {nd : Nat → Addr} {cnt : Nat} (inj : ∀ i j, i < cnt → j < cnt → nd i = nd j → i = j) {B : List Nat} (hB : ∀ j ∈ B, j < cnt) {i : Nat} (hi : i < cnt) :
    ((refsOf nd B).toArray.any fun v => v == .ref (nd i)) = decide (i ∈ B) := by
  rw [List.any_toArray]
  induction B with
  | nil => rfl
  | cons b r ih =>
    show (List.any (Value.ref (nd b) :: refsOf nd r) _) = _
    rw [List.any_cons, ih fun j hj => hB j (.tail _ hj)]
    by_cases h : i = b
    · subst h; simp
    · have : (Value.ref (nd b) == Value.ref (nd i)) = false := by
        cases q : (Value.ref (nd b) == Value.ref (nd i)) with
        | false => rfl
        | true =>
          have e : Value.ref (nd b) = Value.ref (nd i) := eq_of_beq q
          injection e with e
          exact absurd (inj b i (hB b (.head _)) hi e).symm h
      rw [this]; simp [h]
section
variable {prog : Program} {w : World} {A : Around} {E : Value → Shared → Prop} {s : Shared} {Q : Value → Shared → Prop}
theorem eqs_nodes {nd : Nat → Addr} {cnt : Nat} {AL : List Arc} (X : (hdTop.heap_39 w.params).In s.heap) (G : GraphAt w s.heap nd cnt AL) {B : List Nat} (hB : ∀ j ∈ B, j < cnt) {i : Nat} (hi : i < cnt) (hu : A.units < cLine) :
    ∀ y, y ∈ (refsOf nd B).toArray → SeqAt.EqAt A s y (.ref (nd i)) (y == .ref (nd i)) := by
  intro y hy
  obtain ⟨j, hj, rfl⟩ := List.mem_map.mp (List.mem_toArray.mp hy)
  by_cases e : nd j = nd i
  · rw [e, beq_self_eq_true]; exact SeqAt.EqAt.same _
  · have : (Value.ref (nd j) == Value.ref (nd i)) = false := by
      cases q : (Value.ref (nd j) == Value.ref (nd i)) with
      | false => rfl
      | true =>
        have e' : Value.ref (nd j) = Value.ref (nd i) := eq_of_beq q
        injection e' with e'
        exact absurd e' e
    rw [this]
    obtain ⟨_, ⟨dx, _, _, _, _, _, _, h1, _⟩, _⟩ := G.node j (hB j hj)
    obtain ⟨_, ⟨dy, _, _, _, _, _, _, h2, _⟩, _⟩ := G.node i hi
    exact nodes_ne X h1 h2 e hu
theorem in_nodes {nd : Nat → Addr} {cnt : Nat} {AL : List Arc} (X : (hdTop.heap_39 w.params).In s.heap) (G : GraphAt w s.heap nd cnt AL) {B : List Nat} (hB : ∀ j ∈ B, j < cnt) {i : Nat} (hi : i < cnt) {l : Addr} (hl : s.heap.IsList l (refsOf nd B).toArray) (hu : A.units + 1 < cLine)
    (h : Q (.bool (decide (i ∈ B))) s) : wpAny (model prog w) A (compareOp .In (.ref (nd i)) (.ref l)) Q E s :=
  SeqAt.in_listAt (fun v => v == .ref (nd i)) hl (eqs_nodes (A := A.in1) X G hB hi hu) (by rw [any_refs G.inj hB hi]; exact h)
theorem notIn_nodes {nd : Nat → Addr} {cnt : Nat} {AL : List Arc} (X : (hdTop.heap_39 w.params).In s.heap) (G : GraphAt w s.heap nd cnt AL) {B : List Nat} (hB : ∀ j ∈ B, j < cnt) {i : Nat} (hi : i < cnt) {l : Addr} (hl : s.heap.IsList l (refsOf nd B).toArray) (hu : A.units + 1 < cLine)
    (h : Q (.bool (!decide (i ∈ B))) s) : wpAny (model prog w) A (compareOp .NotIn (.ref (nd i)) (.ref l)) Q E s :=
  SeqAt.notIn_listAt (fun v => v == .ref (nd i)) hl (eqs_nodes (A := A.in1) X G hB hi hu) (by rw [any_refs G.inj hB hi]; exact h)
end
end Mine
end PartNd
section PartLp
namespace Mine
/-- the iterators' classes -/
def isIt (o : Obj) : Bool := match o.cls with
  | .type n => n == "list_iterator" || n == "range_iterator" || n == "dict_itemiterator"
  | _ => false
/-- what the frame at L has made itself, iterators aside -/
def OwnN (h₀ : Heap) (L : Addr) (h : Heap) (a : Addr) (o : Obj) : Prop := h.get? a = some o ∧ a ≠ L ∧ h₀.get? a = none ∧ isIt o = false
theorem OwnN.news {h₀ h : Heap} {L a : Addr} {o : Obj} {r : List (Addr × Obj)} (x : OwnN h₀ L h a o) (N : News h₀ L h r) : News h₀ L h ((a, o) :: r) := fun p hp => by
  rcases List.mem_cons.mp hp with rfl | hp
  · exact ⟨x.1, x.2.1, x.2.2.1⟩
  · exact N p hp
theorem OwnN.of {h₀ h : Heap} {L a : Addr} {o : Obj} {r : List (Addr × Obj)} (N : News h₀ L h r) (hm : (a, o) ∈ r) (hi : isIt o = false) : OwnN h₀ L h a o := ⟨(N _ hm).1, (N _ hm).2.1, (N _ hm).2.2, hi⟩
section
variable {prog : Program} {w : World} {A : Around} {s : Shared} {env : Env} {h₀ : Heap} {Q : Flow → Shared → Prop} {E : Value → Shared → Prop}
def Turn (s : Shared) (h₀ : Heap) (L : Addr) (Q : Flow → Shared → Prop) (K : Heap → (Str → Option Value) → Prop) (f : Flow) (s₃ : Shared) : Prop :=
  match f with
  | .brk => Q .next s₃
  | .ret v => Q (.ret v) s₃
  | _ => ∃ h' tk' m₂, s₃ = { s with heap := h', toks := tk' } ∧ Fr h₀ L h' m₂ ∧ K h' m₂
/-- a for, by what holds between its turns -/
theorem forW {target : Expr} {body orelse : List Stmt} {I : Addr} {fp wr : List Addr} {n : Nat} {P : Nat → Value → Prop} {St : Nat → Heap → Prop} {m : Str → Option Value}
    (W : Walks prog w A I fp wr n P St) (hE : PassesOwn (model prog w) A env E) (hwr : ∀ b ∈ wr, b = I) (hIo : ∀ i h, St i h → ∃ o, h.get? I = some o ∧ isIt o = true)
    (hgo : ∀ i (s' : Shared) v (Q' : Unit → Shared → Prop), St i s'.heap → Q' () s' → wpAny (model prog w) A (letOwnedTupleGo target (.ref I) v) Q' E s')
    (hst : St 0 s.heap) (hI0 : h₀.get? I = none)
    (J : Nat → (Str → Option Value) → (Addr → Obj → Prop) → Prop) (mono : ∀ i m P P', (∀ a o, P a o → P' a o) → J i m P → J i m P')
    (F : Fr h₀ env.locals s.heap m) (hIL : I ≠ env.locals) (h0 : J 0 m (OwnN h₀ env.locals s.heap))
    (turn : ∀ i v m₁ h tk, i < n → P i v → Fr h₀ env.locals h m₁ → J i m₁ (OwnN h₀ env.locals h) → St (i + 1) h → ∀ R : Flow → Shared → Prop, (∀ f s', Turn s h₀ env.locals Q (fun h' m₂ => St (i + 1) h' ∧ J (i + 1) m₂ (OwnN h₀ env.locals h')) f s' → R f s') →
      wpAny (model prog w) A (assign target env v) (fun _ s₂ => wpAny (model prog w) A (execs body env) R E s₂) E { s with heap := h, toks := tk })
    (done : ∀ m₁ h tk, Fr h₀ env.locals h m₁ → J n m₁ (OwnN h₀ env.locals h) → wpAny (model prog w) A (execs orelse env) Q E { s with heap := h, toks := tk }) :
    codeAny (model prog w) A (.forLoop target (.ref I) body orelse env) (fun r s' => match r with | .ok f => Q f s' | .error e => cameBackBy (model prog w) A env E e s') s := by
  refine codeAny_forLoop_any (fun k s' => ∃ h' tk m' i, s' = { s with heap := h', toks := tk } ∧ St i h' ∧ Fr h₀ env.locals h' m' ∧ J i m' (OwnN h₀ env.locals h') ∧ i ≤ n ∧ k = n + 1 - i) ?_ (n + 1)
    ⟨s.heap, s.toks, m, 0, rfl, hst, F, h0, Nat.zero_le _, rfl⟩
  rintro k s' ⟨h', tk, m', i, rfl, hst', F', hJ, hi, rfl⟩
  have next : ∀ h₁ : Heap, (∀ b o, b ∉ wr → h'.get? b = some o → h₁.get? b = some o) → Fr h₀ env.locals h₁ m' ∧ J i m' (OwnN h₀ env.locals h₁) := fun h₁ hk₁ => by
    have k : ∀ b o, b ≠ I → h'.get? b = some o → h₁.get? b = some o := fun b o hb e => hk₁ b o (fun q => hb (hwr b q)) e
    obtain ⟨oI, hoI, hit⟩ := hIo _ _ hst'
    refine ⟨⟨F'.ns.at' fun o e => k _ o (Ne.symm hIL) e, fun b o e => k b o (fun q => by rw [q, hI0] at e; cases e) (F'.keep b o e), F'.above⟩, mono _ _ _ _ (fun a o x => ⟨k a o (fun q => ?_) x.1, x.2⟩) hJ⟩
    have e := x.1
    rw [q, hoI] at e
    have e2 := x.2.2.2
    rw [← Option.some.inj e, hit] at e2
    cases e2
  by_cases hlt : i < n
  · refine W.item i _ _ _ hlt hst' fun v h₁ tk₁ hP hst₁ hk₁ => ?_
    obtain ⟨F₁, J₁⟩ := next h₁ hk₁
    refine wpAny_passesOwn hE (hgo (i + 1) _ v _ hst₁ ?_)
    refine wpAny_mono (turn i v m' h₁ tk₁ hlt hP F₁ J₁ hst₁ _ fun _ _ x => x) (fun _ s₂ h₂ => wpAny_mono h₂ (fun f s₃ h₃ => ?_) hE) hE
    cases f with
    | brk => exact h₃
    | ret v => exact h₃
    | next => obtain ⟨h₃', tk₃, m₂, e, F₃, hst₃, hJ₃⟩ := h₃; exact ⟨n + 1 - (i + 1), by omega, h₃', tk₃, m₂, i + 1, e, hst₃, F₃, hJ₃, hlt, rfl⟩
    | cont => obtain ⟨h₃', tk₃, m₂, e, F₃, hst₃, hJ₃⟩ := h₃; exact ⟨n + 1 - (i + 1), by omega, h₃', tk₃, m₂, i + 1, e, hst₃, F₃, hJ₃, hlt, rfl⟩
  · have hin : i = n := by omega
    subst hin
    refine W.done _ _ _ hst' fun h₁ tk₁ hk₁ => ?_
    obtain ⟨F₁, J₁⟩ := next h₁ hk₁
    exact wpAny_passesOwn hE (done m' h₁ tk₁ F₁ J₁)
/-- over a list -/
theorem for_list {target : Expr} {body orelse : List Stmt} {l : Addr} {vs : List Value} {m : Str → Option Value}
    (hh : A.handled = none) (hE : PassesOwn (model prog w) A env E) (hl : s.heap.IsList l vs.toArray)
    (J : Nat → (Str → Option Value) → (Addr → Obj → Prop) → Prop) (mono : ∀ i m P P', (∀ a o, P a o → P' a o) → J i m P → J i m P')
    (F : Fr h₀ env.locals s.heap m) (h0 : J 0 m (OwnN h₀ env.locals s.heap))
    (turn : ∀ I i v m₁ h tk, vs[i]? = some v → I ≠ env.locals → h₀.get? I = none → Fr h₀ env.locals h m₁ → J i m₁ (OwnN h₀ env.locals h) → h.IsListIter I l (i + 1) → h.IsList l vs.toArray → ∀ R : Flow → Shared → Prop, (∀ f s', Turn s h₀ env.locals Q (fun h' m₂ => (h'.IsListIter I l (i + 1) ∧ h'.IsList l vs.toArray) ∧ J (i + 1) m₂ (OwnN h₀ env.locals h')) f s' → R f s') →
      wpAny (model prog w) A (assign target env v) (fun _ s₂ => wpAny (model prog w) A (execs body env) R E s₂) E { s with heap := h, toks := tk })
    (done : ∀ m₁ h tk, Fr h₀ env.locals h m₁ → J vs.length m₁ (OwnN h₀ env.locals h) → wpAny (model prog w) A (execs orelse env) Q E { s with heap := h, toks := tk }) :
    wpAny (model prog w) A (pyIter (.ref l)) (fun it s₂ => codeAny (model prog w) A (.forLoop target it body orelse env) (fun r s' => match r with | .ok f => Q f s' | .error e => cameBackBy (model prog w) A env E e s') s₂) E s := by
  refine wpAny_pyIter_list hl ?_
  obtain ⟨ol, hol, _⟩ := id hl
  have hne : l ≠ s.heap.objs.size := Nat.ne_of_lt (Heap.lt_size hol)
  have W := Walks.list (prog := prog) (w := w) hh s.heap.objs.size l hne vs.toArray
  have hlen : vs.toArray.size = vs.length := by simp
  rw [hlen] at W
  have hIL : s.heap.objs.size ≠ env.locals := Nat.ne_of_gt F.ns.lt
  have hI0 : h₀.get? s.heap.objs.size = none := next_is_new F
  refine forW W hE (fun b hb => List.mem_singleton.mp hb) (fun i h st => ?_) (fun i s' v Q' st hQ' => letGo_listiter st.1 hQ')
    ⟨⟨_, Heap.get?_push_size _ rfl, rfl, rfl⟩, hl.at fun o e => Heap.get?_push_of_some _ e⟩ hI0 J mono (F.push _) hIL
    (mono _ _ _ _ (fun a o x => ⟨Heap.get?_push_of_some _ x.1, x.2⟩) h0) (fun i v m₁ h tk hi hP F₁ hJ st R hR => ?_) done
  · obtain ⟨o, ho, hc, _⟩ := st.1
    exact ⟨o, ho, by unfold isIt; rw [hc]; rfl⟩
  · exact turn _ i v m₁ h tk (by simpa using hP) hIL hI0 F₁ hJ st.1 st.2 R hR
end
/-- all else that the heap holds, the frame, what stays and the addresses D aside -/
theorem zed (h₀ : Heap) (L : Addr) (h : Heap) (D : List Addr) : ∃ Z : List (Addr × Obj), News h₀ L h Z ∧ (∀ d ∈ D, ∀ p ∈ Z, p.1 ≠ d) ∧ (∀ p ∈ Z, p.1 < h.objs.size) ∧ ∀ a o, h.get? a = some o → a ≠ L → h₀.get? a = none → a ∉ D → (a, o) ∈ Z := by
  refine ⟨(List.range h.objs.size).filterMap fun a => if a ≠ L ∧ h₀.get? a = none ∧ a ∉ D then (h.get? a).map fun o => (a, o) else none, ?_, ?_, ?_, ?_⟩
  · intro p hp
    obtain ⟨a, ha, e⟩ := List.mem_filterMap.mp hp
    by_cases c : a ≠ L ∧ h₀.get? a = none ∧ a ∉ D
    · rw [if_pos c] at e
      cases ho : h.get? a with
      | none => rw [ho] at e; cases e
      | some o => rw [ho] at e; cases e; exact ⟨ho, c.1, c.2.1⟩
    · rw [if_neg c] at e; cases e
  · intro d hd p hp
    obtain ⟨a, ha, e⟩ := List.mem_filterMap.mp hp
    by_cases c : a ≠ L ∧ h₀.get? a = none ∧ a ∉ D
    · rw [if_pos c] at e
      cases ho : h.get? a with
      | none => rw [ho] at e; cases e
      | some o => rw [ho] at e; cases e; exact fun q => c.2.2 ((show a = d from q) ▸ hd)
    · rw [if_neg c] at e; cases e
  · intro p hp
    obtain ⟨a, ha, e⟩ := List.mem_filterMap.mp hp
    by_cases c : a ≠ L ∧ h₀.get? a = none ∧ a ∉ D
    · rw [if_pos c] at e
      cases ho : h.get? a with
      | none => rw [ho] at e; cases e
      | some o => rw [ho] at e; cases e; exact Heap.lt_size ho
    · rw [if_neg c] at e; cases e
  · intro a o ho h1 h2 h3
    exact List.mem_filterMap.mpr ⟨a, List.mem_range.mpr (Heap.lt_size ho), by rw [if_pos ⟨h1, h2, h3⟩, ho]; rfl⟩
section
variable {prog : Program} {w : World} {A : Around} {s : Shared} {env : Env} {h₀ : Heap} {Q : Flow → Shared → Prop} {E : Value → Shared → Prop}
abbrev ovr (xs : List Str) (u m : Str → Option Value) : Str → Option Value := fun y => if xs.contains y then u y else m y
theorem ovr_self (xs : List Str) (u m : Str → Option Value) (h : ∀ y, xs.contains y = false → u y = m y) : ovr xs u m = u := by
  funext y
  unfold ovr
  cases q : xs.contains y with
  | true => rfl
  | false => exact (h y q).symm
/-- over a list; the body stores the names xs alone -/
theorem for_listS (xs : List Str) {target : Expr} {body orelse : List Stmt} {l : Addr} {vs : List Value} {m : Str → Option Value}
    (hh : A.handled = none) (hE : PassesOwn (model prog w) A env E) (hl : s.heap.IsList l vs.toArray)
    (J : Nat → (Str → Option Value) → (Addr → Obj → Prop) → Prop) (mono : ∀ i m P P', (∀ a o, P a o → P' a o) → J i m P → J i m P')
    (F : Fr h₀ env.locals s.heap m) (h0 : J 0 m (OwnN h₀ env.locals s.heap))
    (turn : ∀ I i v u h tk, vs[i]? = some v → I ≠ env.locals → h₀.get? I = none → Fr h₀ env.locals h (ovr xs u m) → J i u (OwnN h₀ env.locals h) → h.IsListIter I l (i + 1) → h.IsList l vs.toArray → ∀ R : Flow → Shared → Prop, (∀ f s', Turn s h₀ env.locals Q (fun h' m₂ => (h'.IsListIter I l (i + 1) ∧ h'.IsList l vs.toArray) ∧ J (i + 1) m₂ (OwnN h₀ env.locals h') ∧ ∀ y, xs.contains y = false → m₂ y = m y) f s' → R f s') →
      wpAny (model prog w) A (assign target env v) (fun _ s₂ => wpAny (model prog w) A (execs body env) R E s₂) E { s with heap := h, toks := tk })
    (done : ∀ u h tk, Fr h₀ env.locals h (ovr xs u m) → J vs.length u (OwnN h₀ env.locals h) → wpAny (model prog w) A (execs orelse env) Q E { s with heap := h, toks := tk }) :
    wpAny (model prog w) A (pyIter (.ref l)) (fun it s₂ => codeAny (model prog w) A (.forLoop target it body orelse env) (fun r s' => match r with | .ok f => Q f s' | .error e => cameBackBy (model prog w) A env E e s') s₂) E s := by
  refine for_list hh hE hl (fun i m₁ P => J i m₁ P ∧ ∀ y, xs.contains y = false → m₁ y = m y) (fun i m P P' k x => ⟨mono i m P P' k x.1, x.2⟩) F ⟨h0, fun _ _ => rfl⟩
    (fun I i v m₁ h tk hv hI hI0 F₁ hJ hit hl' R hR => ?_) fun m₁ h tk F₁ hJ => ?_
  · exact turn I i v m₁ h tk hv hI hI0 (by rw [ovr_self xs m₁ m hJ.2]; exact F₁) hJ.1 hit hl' R hR
  · exact done m₁ h tk (by rw [ovr_self xs m₁ m hJ.2]; exact F₁) hJ.1
end
section
variable {prog : Program} {w : World} {A : Around} {E : Value → Shared → Prop} {s : Shared} {h₀ : Heap} {L D : Addr} {m : Str → Option Value} {news news' : List (Addr × Obj)}
theorem append_L {vs : List Value} {n : Nat} {x : Value} {Q : Value → Shared → Prop} (F : Fr h₀ L s.heap m) (N : News h₀ L s.heap news) (U : Upd D (W.listOf vs.toArray n) (W.listOf (vs ++ [x]).toArray (n + 1)) news news')
    (h : ∀ h', Fr h₀ L h' m → News h₀ L h' news' → Q .none { s with heap := h' }) (hsz : vs.length ≤ 1000) : wpAny (model prog w) A (call (.builtin "list.append") [.ref D, x]) Q E s :=
  append_K (its := vs.toArray) (n := n) F N (by simpa using U) h (by rw [sizeLine_eq, List.size_toArray]; omega)
end
section
variable {M : Model} {A : Around} {E : Value → Shared → Prop} {s : Shared} {h₀ : Heap} {L a : Addr} {m : Str → Option Value} {cn : Str} {cs : Scope} {ccd : Value} {cl : List (Str × Addr)} {x : Str} {pos : Pos} {v : Value} {Q : Value → Shared → Prop} {c : Addr} {o : Obj}
theorem nameX_g (F : Fr h₀ L s.heap m) (hc : cl.lookup x = some c) (hm : h₀.get? c = some o) (hd : o.data = .cell (some v)) (h : Q v s)
    (hk : cs.kind = .function := by rfl) (hx : (envX cn cs L a ccd cl).kindOf x = some .free := by rfl) (hb : (x == ("__debug__" : Str)) = false := by decide) (hn : (x == ("__classdict__" : Str)) = false := by decide) :
    wpAny M A (eval (.Name x pos) (envX cn cs L a ccd cl)) Q E s := wpAny_Name (wpAny_loadName_free hk hx hc ⟨o, F.keep _ _ hm, hd⟩ h hn) hb
end
theorem InstAt.of_kept {h₀ h : Heap} {L x C dx : Addr} {m : Str → Option Value} {od : Obj} {sl : Array (Option Value)} (F : Fr h₀ L h m) (h1 : h₀.get? x = some (⟨.ref C, some dx, .plain, sl⟩ : Obj)) (h2 : h₀.get? dx = some od) :
    InstAt h x ⟨.ref C, some dx, .plain, sl⟩ C (some od) := ⟨F.keep _ _ h1, rfl, rfl, F.keep _ _ h2⟩
theorem FnAt.of_kept {h₀ h : Heap} {L f : Addr} {m : Str → Option Value} {oc : Value} {od : Option Addr} {fd : FuncData} {sl : Array (Option Value)} (F : Fr h₀ L h m) (h1 : h₀.get? f = some (⟨oc, od, .func fd, sl⟩ : Obj)) : FnAt f h := ⟨oc, od, fd, sl, F.keep _ _ h1⟩
theorem gone_of {h₀ h : Heap} {L : Addr} {news : List (Addr × Obj)} (N : News h₀ L h news) {D : List Addr} (hD : ∀ d ∈ D, ∃ o, (d, o) ∈ news) : ∀ d ∈ D, d ≠ L ∧ h₀.get? d = none := fun d hd => let ⟨_, ho⟩ := hD d hd; (N _ ho).2
theorem Turn.next {s : Shared} {h₀ : Heap} {L : Addr} {Q : Flow → Shared → Prop} {K : Heap → (Str → Option Value) → Prop} {h' : Heap} {tk' : Nat} {m₂ : Str → Option Value} (F : Fr h₀ L h' m₂) (k : K h' m₂) : Turn s h₀ L Q K .next { s with heap := h', toks := tk' } :=
  ⟨h', tk', m₂, rfl, F, k⟩
theorem Turn.cont {s : Shared} {h₀ : Heap} {L : Addr} {Q : Flow → Shared → Prop} {K : Heap → (Str → Option Value) → Prop} {h' : Heap} {tk' : Nat} {m₂ : Str → Option Value} (F : Fr h₀ L h' m₂) (k : K h' m₂) : Turn s h₀ L Q K .cont { s with heap := h', toks := tk' } :=
  ⟨h', tk', m₂, rfl, F, k⟩
theorem ovr_base {xs : List Str} {u m : Str → Option Value} : ∀ y, xs.contains y = false → ovr xs u m y = m y := fun y h => by unfold ovr; rw [h]; rfl
theorem ovr_if {xs : List Str} {x : Str} {v : Option Value} {f m : Str → Option Value} (hx : xs.contains x = true) (h : ∀ y, xs.contains y = false → f y = m y) : ∀ y, xs.contains y = false → (if y = x then v else f y) = m y := fun y hy => by
  by_cases q : y = x
  · rw [q, hx] at hy; cases hy
  · rw [if_neg q]; exact h y hy
theorem ovr_after {xs : List Str} {u m' m : Str → Option Value} (h : ∀ y, xs.contains y = false → m' y = m y) : ∀ y, xs.contains y = false → ovr xs u m' y = m y := fun y hy => (ovr_base y hy).trans (h y hy)
theorem iter_stays {h h' : Heap} {I l : Addr} {i : Nat} {oI : Obj} (hit : h.IsListIter I l i) (hI : h.get? I = some oI) (hI' : h'.get? I = some oI) : h'.IsListIter I l i := hit.at fun o e => by rw [hI] at e; cases e; exact hI'
theorem list_kept {h₀ h : Heap} {L l : Addr} {m : Str → Option Value} {vs : List Value} {n : Nat} (F : Fr h₀ L h m) (e : h₀.get? l = some (W.listOf vs.toArray n)) : h.IsList l vs.toArray := ⟨_, F.keep _ _ e, rfl, _, rfl⟩
theorem ret_intro {s s' : Shared} {g : Heap} {Post : Value → Heap → Prop} {v : Value} {L : Addr} {h' : Heap} {m : Str → Option Value} {tk' : Nat} (F : Fr g L h' m) (hs : s' = { s with heap := h', toks := tk' }) (P : Post v h') : Ret s g Post (.ok (.ret v)) s' :=
  ⟨v, h', tk', rfl, hs, F.keep, P⟩
section
variable {prog : Program} {w : World} {A : Around} {s : Shared} {env : Env} {h₀ : Heap} {Q : Flow → Shared → Prop} {E : Value → Shared → Prop}
/-- over range(n); the body stores the names xs alone -/
theorem for_rangeS (xs : List Str) {x : Str} {px : Pos} {body orelse : List Stmt} {r : Addr} {n : Nat} {b₀ : Int} {t₀ u₀ v₀ : Tok} {m : Str → Option Value}
    (hh : A.handled = none) (hE : PassesOwn (model prog w) A env E) (hr : IsRange s.heap r 0 b₀ 1 t₀ u₀ v₀) (hb : b₀ = (n : Int)) (hn : n ≤ 1000000)
    (J : Nat → (Str → Option Value) → (Addr → Obj → Prop) → Prop) (mono : ∀ i m P P', (∀ a o, P a o → P' a o) → J i m P → J i m P')
    (F : Fr h₀ env.locals s.heap m) (h0 : J 0 m (OwnN h₀ env.locals s.heap))
    (turn : ∀ I i t u h tk, i < n → I ≠ env.locals → h₀.get? I = none → Fr h₀ env.locals h (ovr xs u m) → J i u (OwnN h₀ env.locals h) → IsRangeIter h I (0 + ((i + 1 : Nat) : Int) * 1) ((n : Int) - ((i + 1 : Nat) : Int)) 1 → ∀ R : Flow → Shared → Prop, (∀ f s', Turn s h₀ env.locals Q (fun h' m₂ => IsRangeIter h' I (0 + ((i + 1 : Nat) : Int) * 1) ((n : Int) - ((i + 1 : Nat) : Int)) 1 ∧ J (i + 1) m₂ (OwnN h₀ env.locals h') ∧ ∀ y, xs.contains y = false → m₂ y = m y) f s' → R f s') →
      wpAny (model prog w) A (storeName env x (.int (i : Int) t)) (fun _ s₂ => wpAny (model prog w) A (execs body env) R E s₂) E { s with heap := h, toks := tk })
    (done : ∀ u h tk, Fr h₀ env.locals h (ovr xs u m) → J n u (OwnN h₀ env.locals h) → wpAny (model prog w) A (execs orelse env) Q E { s with heap := h, toks := tk }) :
    wpAny (model prog w) A (pyIter (.ref r)) (fun it s₂ => codeAny (model prog w) A (.forLoop (.Name x px) it body orelse env) (fun r s' => match r with | .ok f => Q f s' | .error e => cameBackBy (model prog w) A env E e s') s₂) E s := by
  subst hb
  have hsz : Builtin.Range.rangeSize 0 (n : Int) 1 = (n : Int) := by rw [rangeSize_one]; split <;> omega
  refine wpAny_pyIter_range hr (small_one (by omega) (by omega) (by omega) (by omega)) ?_
  have W := Walks.range (prog := prog) (w := w) hh s.heap.objs.size 0 1 n
  have hIL : s.heap.objs.size ≠ env.locals := Nat.ne_of_gt F.ns.lt
  have hI0 : h₀.get? s.heap.objs.size = none := next_is_new F
  refine forW W hE (fun b hb => List.mem_singleton.mp hb) (fun i h st => ⟨_, st, rfl⟩) (fun i s' v Q' st hQ' => wpAny_of_eq rfl hQ')
    (by rw [hsz]; simpa using Heap.get?_push_size _ rfl) hI0 (fun i m₁ P => J i m₁ P ∧ ∀ y, xs.contains y = false → m₁ y = m y) (fun i m P P' k x => ⟨mono i m P P' k x.1, x.2⟩) (F.push _) hIL
    ⟨mono _ _ _ _ (fun a o x => ⟨Heap.get?_push_of_some _ x.1, x.2⟩) h0, fun _ _ => rfl⟩ (fun i v m₁ h tk hi hP F₁ hJ st R hR => ?_) fun m₁ h tk F₁ hJ => ?_
  · obtain ⟨t, rfl⟩ := hP
    have e : (0 + (i : Int) * 1) = (i : Int) := by omega
    rw [e]
    exact wpAny_assign_Name (turn _ i t m₁ h tk hi hIL hI0 (by rw [ovr_self xs m₁ m hJ.2]; exact F₁) hJ.1 st R hR)
  · exact done m₁ h tk (by rw [ovr_self xs m₁ m hJ.2]; exact F₁) hJ.1
end
section
variable {prog : Program} {w : World} {A : Around} {E : Value → Shared → Prop} {s : Shared}
theorem item_L {value slice : PySem.Expr} {l : Addr} {vs : List Value} {k : Nat} {u : Tok} {v : Value} {Q : Value → Shared → Prop}
    (hl : s.heap.IsList l vs.toArray) (hx : vs[k]? = some v) (hk : k ≤ 1000000) (h : Q v s)
    (hs : subscripted slice false (.ref l) (.int (k : Int) u) = operate [.ref l, .int (k : Int) u] (getItem (.ref l) (.int (k : Int) u)) := by with_unfolding_all rfl) :
    wpAny (model prog w) A (subscriptTail value slice (.ref l) (.int (k : Int) u)) Q E s :=
  tail_any hl.typeIs slot_list_getitem.lookup (wpAny_getItem_list hl (by omega) (by omega) (by simpa using hx) h) hs
end
section
variable {prog : Program} {w : World} {A : Around} {s : Shared} {env : Env} {h₀ : Heap} {Q : Flow → Shared → Prop} {E : Value → Shared → Prop}
/-- a while, by what holds at its head and a number that every turn lowers; the body stores the names xs alone -/
theorem while_S (xs : List Str) {test : PySem.Expr} {body orelse : List Stmt} {pos : Pos} {m : Str → Option Value} (hE : PassesOwn (model prog w) A env E)
    (J : Nat → (Str → Option Value) → (Addr → Obj → Prop) → Prop) (F : Fr h₀ env.locals s.heap m) (k₀ : Nat) (h0 : J k₀ m (OwnN h₀ env.locals s.heap))
    (turn : ∀ k u h tk, Fr h₀ env.locals h (ovr xs u m) → J k u (OwnN h₀ env.locals h) → ∀ R : Flow → Shared → Prop, (∀ f s', Turn s h₀ env.locals Q (fun h' m₂ => (∃ k', k' < k ∧ J k' m₂ (OwnN h₀ env.locals h')) ∧ ∀ y, xs.contains y = false → m₂ y = m y) f s' → R f s') →
      wpAny (model prog w) A (isTrue test env (eval test env)) (fun b s₂ =>
        if b then wpAny (model prog w) A (execs body env) R E s₂
        else wpAny (model prog w) A (execs orelse env) Q E s₂) E { s with heap := h, toks := tk }) :
    wpAny (model prog w) A (exec (.While test body orelse pos) env) Q E s := by
  refine wpAny_While (codeAny_whileLoop (fun k s' => ∃ h' tk m', s' = { s with heap := h', toks := tk } ∧ Fr h₀ env.locals h' m' ∧ J k m' (OwnN h₀ env.locals h') ∧ ∀ y, xs.contains y = false → m' y = m y) ?_ k₀ ⟨s.heap, s.toks, m, rfl, F, h0, fun _ _ => rfl⟩)
  rintro k s' ⟨h', tk, m', rfl, F', hJ, hm⟩
  refine wpAny_mono (turn k m' h' tk (by rw [ovr_self xs m' m hm]; exact F') hJ _ fun _ _ x => x) (fun b s₂ h₂ => ?_) hE
  cases b with
  | false =>
    simp only [Bool.false_eq_true, if_false] at h₂ ⊢
    exact wpAny_passesOwn hE h₂
  | true =>
    simp only [if_true] at h₂ ⊢
    refine wpAny_mono h₂ (fun f s₃ h₃ => ?_) hE
    cases f with
    | brk => exact h₃
    | ret v => exact h₃
    | next => obtain ⟨h₃', tk₃, m₂, e, F₃, ⟨k', hk, hJ₃⟩, hm₃⟩ := h₃; exact ⟨k', hk, h₃', tk₃, m₂, e, F₃, hJ₃, hm₃⟩
    | cont => obtain ⟨h₃', tk₃, m₂, e, F₃, ⟨k', hk, hJ₃⟩, hm₃⟩ := h₃; exact ⟨k', hk, h₃', tk₃, m₂, e, F₃, hJ₃, hm₃⟩
end
/-- a mark at which the walk stops -/
def Stopped (P : Prop) : Prop := P
theorem stop_here {P : Prop} (h : Stopped P) : P := h
def ovl : List Str → (Str → Option Value) → (Str → Option Value) → Str → Option Value
  | [], _, m => m
  | x :: r, u, m => fun y => if y = x then u x else ovl r u m y
theorem ovr_ovl (xs : List Str) (u m : Str → Option Value) : ovr xs u m = ovl xs u m := by
  funext y
  induction xs with
  | nil => rfl
  | cons x r ih =>
    unfold ovr at ih ⊢
    show _ = if y = x then u x else ovl r u m y
    by_cases q : y = x
    · subst q; simp
    · rw [if_neg q, ← ih]
      have : (y == x) = false := by simpa using q
      simp only [List.contains_cons, this, Bool.false_or]
/-- an own class called: its __init__ by its contract -/
theorem make_gen {prog : Program} {w : World} {A : Around} {s : Shared} {g : Heap} {K : Frag} {C fI : Addr} {rest : List Value} {Post : Value → Heap → Prop} (X : K.In s.heap) (hm : makesIn K C = true)
    (hi : findIn K (.ref C) "__init__" = some (some (.ref fI))) (hf : typeIn K (.ref fI) = some (.type "function"))
    (h : ∀ s₂ : Shared, s₂ = { s with heap := (s.heap.push emptyDict).push (instObj C s.heap.objs.size) } → (∀ b o, s.heap.get? b = some o → s₂.heap.get? b = some o) → s₂.heap.get? s.heap.objs.size = some (dictOf [] 0) → s₂.heap.get? (s.heap.objs.size + 1) = some (instObj C s.heap.objs.size) →
      s₂.heap.objs.size = s.heap.objs.size + 2 →
      codeAny (model prog w) (A.under (.builtin "type.__call__" ⟨.ref C :: rest, []⟩)) (.call (.ref fI) ⟨.ref (s.heap.objs.size + 1) :: rest, []⟩) (Ret s₂ g fun v h' => v = .none ∧ Post (.ref (s.heap.objs.size + 1)) h') s₂) :
    codeAny (model prog w) A (.call (.ref C) ⟨rest, []⟩) (Ret s g Post) s := by
  obtain ⟨hh, gens, dr, tk, os⟩ := s
  refine make_core (makes_of X hm) (looks_findIn X hi) (fun self => bind_fn X self hf) (.inl rfl) ?_
  refine codeAny_mono (h _ rfl (fun b o e => Heap.get?_push_of_some _ (Heap.get?_push_of_some _ e)) (Heap.get?_push_of_some _ (Heap.get?_push_size _ rfl)) ?_ ?_) fun r s' hr => ?_
  · have := Heap.get?_push_size (hh.push emptyDict) (o := instObj C hh.objs.size) rfl
    rwa [Heap.size_push] at this
  · show ((hh.push emptyDict).push _).objs.size = _
    rw [Heap.size_push, Heap.size_push]
  · obtain ⟨v, h', tk', rfl, rfl, k, rfl, P⟩ := hr
    exact ⟨rfl, _, h', tk', rfl, rfl, k, P⟩
theorem looks_kept {M : Model} {h₀ h : Heap} {L a : Addr} {m : Str → Option Value} {o : Obj} (F : Fr h₀ L h m) (e : h₀.get? a = some o) : Looks M h (typeOf (.ref a)) o.cls := (Looks.ld (F.keep _ _ e)).andThen .now
end Mine
end PartLp
section PartPl
namespace Mine
/-! the plain law: what shutting under arcs without a label gives -/
abbrev epsA (x y : Nat) : Arc := (x, Str.ofString "", y)
inductive Reach (AL : List Arc) : Nat → Nat → Prop
  | refl (i : Nat) : Reach AL i i
  | step {i j k : Nat} : epsA i j ∈ AL → Reach AL j k → Reach AL i k
theorem Reach.trans {AL : List Arc} {i j k : Nat} (x : Reach AL i j) (y : Reach AL j k) : Reach AL i k := by
  induction x with
  | refl => exact y
  | step h _ ih => exact .step h (ih y)
theorem Reach.lt {AL : List Arc} {cnt i j : Nat} (hA : ∀ a ∈ AL, a.1 < cnt ∧ a.2.2 < cnt) (x : Reach AL i j) (hi : i < cnt) : j < cnt := by
  induction x with
  | refl => exact hi
  | step h _ ih => exact ih (hA _ h).2
/-- shutting i into B gives B' -/
structure Clos (AL : List Arc) (i : Nat) (B B' : List Nat) : Prop where
  sub : ∀ x ∈ B, x ∈ B'
  nodup : B'.Nodup
  mem : i ∈ B'
  old : ∀ x ∈ B', x ∈ B ∨ Reach AL i x
  shut : ∀ x ∈ B', x ∉ B → ∀ y, epsA x y ∈ AL → y ∈ B'
  len : B.length ≤ B'.length
theorem Clos.here {AL : List Arc} {i : Nat} {B : List Nat} (hB : B.Nodup) (h : i ∈ B) : Clos AL i B B :=
  ⟨fun _ h => h, hB, h, fun _ h => .inl h, fun x h h' => absurd h h', Nat.le_refl _⟩
theorem Clos.lt {AL : List Arc} {cnt i : Nat} {B B' : List Nat} (x : Clos AL i B B') (hA : ∀ a ∈ AL, a.1 < cnt ∧ a.2.2 < cnt) (hB : ∀ j ∈ B, j < cnt) (hi : i < cnt) : ∀ j ∈ B', j < cnt :=
  fun j hj => (x.old j hj).elim (hB j) fun r => r.lt hA hi
/-- in the midst: some of i's arcs have been taken -/
structure Mid (AL : List Arc) (i : Nat) (B : List Nat) (taken : List Arc) (B' : List Nat) : Prop where
  sub : ∀ x ∈ B, x ∈ B'
  nodup : B'.Nodup
  mem : i ∈ B'
  old : ∀ x ∈ B', x ∈ B ∨ Reach AL i x
  shut : ∀ x ∈ B', x ∉ B → x ≠ i → ∀ y, epsA x y ∈ AL → y ∈ B'
  took : ∀ a ∈ taken, a.2.1 = Str.ofString "" → a.2.2 ∈ B'
  len : B.length + 1 ≤ B'.length
theorem Mid.start {AL : List Arc} {i : Nat} {B : List Nat} (hB : B.Nodup) (h : i ∉ B) : Mid AL i B [] (B ++ [i]) where
  sub := fun x h => List.mem_append_left _ h
  nodup := List.nodup_append.mpr ⟨hB, List.nodup_cons.mpr ⟨List.not_mem_nil, List.nodup_nil⟩, fun a ha b hb => by rw [List.mem_singleton.mp hb]; rintro rfl; exact h ha⟩
  mem := by simp
  old := fun x hx => (List.mem_append.mp hx).elim .inl fun q => by rw [List.mem_singleton.mp q]; exact .inr (.refl _)
  shut := fun x hx h1 h2 => by
    rcases List.mem_append.mp hx with q | q
    · exact absurd q h1
    · exact absurd (List.mem_singleton.mp q) h2
  took := fun a h => nomatch h
  len := by simp
theorem Mid.skip {AL : List Arc} {i : Nat} {B B' : List Nat} {taken : List Arc} {a : Arc} (x : Mid AL i B taken B') (ha : a.2.1 ≠ Str.ofString "") : Mid AL i B (taken ++ [a]) B' :=
  ⟨x.sub, x.nodup, x.mem, x.old, x.shut, fun b hb e => (List.mem_append.mp hb).elim (fun h => x.took b h e) fun h => by rw [List.mem_singleton.mp h] at e; exact absurd e ha, x.len⟩
theorem Mid.step {AL : List Arc} {i : Nat} {B B' B'' : List Nat} {taken : List Arc} {a : Arc} (x : Mid AL i B taken B') (hm : a ∈ AL) (hi : a.1 = i) (ha : a.2.1 = Str.ofString "") (c : Clos AL a.2.2 B' B'') : Mid AL i B (taken ++ [a]) B'' where
  sub := fun y h => c.sub y (x.sub y h)
  nodup := c.nodup
  mem := c.sub _ x.mem
  old := fun y h => (c.old y h).elim (x.old y) fun r => .inr (.step (show epsA i a.2.2 ∈ AL from by (have e : epsA i a.2.2 = a := by rw [← hi]; show (a.1, Str.ofString "", a.2.2) = a; rw [← ha]); rw [e]; exact hm) r)
  shut := fun y h h1 h2 z hz => by
    by_cases q : y ∈ B'
    · exact c.sub _ (x.shut y q h1 h2 z hz)
    · exact c.shut y h q z hz
  took := fun b hb e => (List.mem_append.mp hb).elim (fun h => c.sub _ (x.took b h e)) fun h => by rw [List.mem_singleton.mp h]; exact c.mem
  len := Nat.le_trans x.len c.len
theorem Mid.fin {AL : List Arc} {i : Nat} {B B' : List Nat} (x : Mid AL i B (outOf AL i) B') : Clos AL i B B' where
  sub := x.sub
  nodup := x.nodup
  mem := x.mem
  old := x.old
  shut := fun y h h1 z hz => by
    by_cases q : y = i
    · subst q
      exact x.took (epsA y z) (List.mem_filter.mpr ⟨hz, by simp⟩) rfl
    · exact x.shut y h h1 q z hz
  len := Nat.le_of_succ_le x.len
theorem len_le_of_nodup : ∀ {n : Nat} {B : List Nat}, B.Nodup → (∀ j ∈ B, j < n) → B.length ≤ n := by
  intro n
  induction n with
  | zero => intro B _ h; cases B with | nil => exact Nat.le_refl _ | cons b r => exact absurd (h b (.head _)) (Nat.not_lt_zero _)
  | succ n ih =>
    intro B hB h
    have h1 : (B.erase n).length ≤ n := ih (hB.erase _) fun j hj => by
      have := h j (List.mem_of_mem_erase hj)
      have ne : j ≠ n := fun q => by subst q; exact (List.Nodup.not_mem_erase hB) hj
      omega
    have h2 := List.length_erase_of_mem (a := n) (l := B)
    by_cases q : n ∈ B
    · have := h2 q; have := List.length_pos_of_mem q; omega
    · rw [List.erase_of_not_mem q] at h1; omega
end Mine
end PartPl
local macro_rules | `(tactic| k_inst) => `(tactic| refine Mine.InstAt.of_kept (by k_asm) (by assumption) (by assumption))
local macro_rules | `(tactic| k_units) => `(tactic| ((try dsimp only [Around.deeper, Around.in1, Around.mark] at *); omega))
local macro_rules | `(tactic| walk_at "call builtin:list.append") => `(tactic| (k_dflt (refine Mine.append_L (by k_asm) (by k_asm) (by k_upd) ?_ (by ((try simp only [List.length_map]); omega))); intro h' F' N'; try k_sweep))
local macro_rules | `(tactic| walk_at "exec For Name Attribute cons nil") => `(tactic| k_dflt (refine wpAny_For ?_ (by intro _; rfl)))
section PartAc
namespace Mine
theorem offAc : True := by (w_top off; exact True.intro)
def defParts : Stmt → Option (Str × Arguments × List Stmt × Scope)
  | .FunctionDef name params body _ _ _ scope _ _ _ => some (name, params, body, scope)
  | _ => none
def makeBody : List Stmt := ((PySem.Challenge.pw_iv0023_01.main.body[7]?).bind defParts).elim [] fun x => x.2.2.1
def addDef : Option (Str × Arguments × List Stmt × Scope) := (makeBody[2]?).bind defParts
local macro_rules | `(tactic| walk_at "compareOp In ref ref") => `(tactic| k_dflt (refine in_nodes (by k_in) (by exact GraphAt.keeps (by assumption) (Fr.keep (by assumption))) (by assumption) (by assumption) (by is_list) (by k_units) ?_))
local macro_rules | `(tactic| walk_at "eval Name") => `(tactic| k_dflt (refine' nameX_g ?F ?c ?m ?d ?_ ?a ?b; (case a => rfl); (case b => rfl); (case F => k_asm); (case c => rfl); (case m => assumption); (case d => k_asm); k_whole))
local macro_rules | `(tactic| walk_at "callWith ref") => `(tactic| k_dflt (refine callWith_F (by exact FnAt.of_kept (by k_asm) (by assumption)) ?_))
local macro_rules | `(tactic| walk_at "FnAt") => `(tactic| k_dflt (exact FnAt.of_kept (by k_asm) (by assumption)))
theorem add_con {w : World} {p : Program} {loose : List Str} {mean : ExcName → Option Value} {mg mb : Str → Option Value} {nd : Nat → Addr} {cnt : Nat} {AL : List Arc}
    (hc5 : cnt ≤ 5) {params : Arguments} {body : List Stmt} {scope : Scope} (hS : addDef = some (Str.ofString "addclosure", params, body, scope)) {f cl c' : Addr} {qual : Str} {ctv doc pm : Value} {oc : Obj} :
    ∀ (k : Nat) {A : Around} {base g : Heap} {outer : List Env} {s : Shared} {l : Addr} {n : Nat} {B : List Nat} {i : Nat}
    (_ : Cx w A base outer p loose mean mg mb g s.heap) (_ : A.depth + k + 4 < recursionLimit) (_ : A.units + 8 * k + 40 < cLine)
    (_ : GraphAt w g nd cnt AL) (_ : i < cnt)
    (_ : g.get? f = some (fnMade "addclosure" qual params body scope [("addclosure", cl)] doc pm c' ctv)) (_ : g.get? cl = some oc) (_ : oc.data = .cell (some (.ref f))) (_ : g.CodeRec (.ref c') qual)
    (_ : g.get? l = none) (_ : s.heap.get? l = some (W.listOf (refsOf nd B).toArray n)) (_ : B.Nodup) (_ : ∀ j ∈ B, j < cnt) (_ : cnt ≤ B.length + k),
    codeAny (model PySem.Challenge.rw_iv0023_01.row.prog w) A (.call (.ref f) ⟨[.ref (nd i), .ref l], []⟩)
      (Ret s g (fun v h' => v = .none ∧ ∃ B' n', h'.get? l = some (W.listOf (refsOf nd B').toArray n') ∧ Clos AL i B B')) s := by
  cases hS
  intro k
  induction k using Nat.strongRecOn with
  | ind k IH =>
  intro A base g outer s l n B i C hroom hun G hi hf hcl hoc hcd hgl hl hB hBc hk
  obtain ⟨hd, dp, fr, gd, un⟩ := A
  obtain rfl : fr = some outer := C.B.stack
  obtain rfl : hd = none := C.hh
  have X := C.X
  have T := C.T
  have B' := C.B
  have hroom' : dp < recursionLimit := Nat.lt_of_le_of_lt (by show dp ≤ dp + k + 4; omega) hroom
  refine' enterX (sm := [(l, W.listOf (refsOf nd B).toArray n)]) C ?N (C.st _ _ hf) rfl (hcd.keeps C.st) hroom' ?hbind ?hloc ?h ?hcell ?a ?b ?c
  case N => intro q hq; cases hq with | head => exact ⟨hl, hgl⟩ | tail _ h => cases h
  case hbind => exact BindsTo.of_eq rfl
  case hloc => exact locs rfl
  case hcell => decide
  case a => exact rfl
  case b => exact rfl
  case c => exact rfl
  intro h₁ F N hk R0 hR0
  obtain ⟨as, ⟨d1, a1, t1, t2, t3, n1, n1', i1, i2, i3⟩, hlen, hitem⟩ := G.node i hi
  have hBl : B.length ≤ 5 := Nat.le_trans (len_le_of_nodup hB hBc) hc5
  have hun' : un + 8 * k + 40 < cLine := hun
  have hroom2 : dp + k + 4 < recursionLimit := hroom
  clear hun hroom
  k_steps
  · (rename i ∈ B => hiB)
    refine hR0 _ _ ?_
    exact ret_intro (by assumption) rfl ⟨rfl, B, n, N.get (.head _), Clos.here hB hiB⟩
  (rename ¬i ∈ B => hiB); (rename Fr _ _ _ _ => F'); (rename News _ _ _ _ => N')
  refine for_listS ["nfa_arc"] rfl PassesOwn.never (list_kept F' i3)
    (fun idx u P => ∃ Bk n', P l (W.listOf (refsOf nd Bk).toArray n') ∧ Mid AL i B ((outOf AL i).take idx) Bk) (fun idx m P P' k => by rintro ⟨Bk, n', h1, h2⟩; exact ⟨Bk, n', k _ _ h1, h2⟩) F' ?h0 ?turn ?done
  case h0 => exact ⟨B ++ [i], _, OwnN.of N' (by rw [show refsOf nd (B ++ [i]) = refsOf nd B ++ [.ref (nd i)] from List.map_append]; exact .head _) rfl, Mid.start hB hiB⟩
  case done =>
    rintro u h₂ tk F₂ ⟨Bk, n', hP, hM⟩
    rw [hlen, List.take_length] at hM
    dsimp only at F₂ hP ⊢
    k_steps
    refine hR0 _ _ ?_
    exact ret_intro F₂ rfl ⟨rfl, Bk, n', hP.1, hM.fin⟩
  case turn =>
    intro I idx v u h₂ tk hv hIL hI0 F₂ hJ hit hla R1 hR1
    obtain ⟨a, ha, x, dx, t1', t2', n2, lv, rfl, x1, x2, hlab⟩ := hitem _ _ hv
    obtain ⟨Bk, n3, hP, hM⟩ := hJ
    obtain ⟨oI, hoI, hoIc, hoId⟩ := id hit
    dsimp only at hIL F₂ hP ⊢
    have N₂ : News g s.heap.objs.size h₂ [(l, W.listOf (refsOf nd Bk).toArray n3), (I, oI)] := hP.news fun p hp => by
      cases hp with
      | head => exact ⟨hoI, hIL, hI0⟩
      | tail _ h => cases h
    have l0 : l ≠ I := fun q => by rw [← q, hP.1] at hoI; cases hoI; exact absurd hoIc (by simp)
    have hmem : a ∈ outOf AL i := List.mem_of_getElem? ha
    have ham : a ∈ AL ∧ a.1 = i := by
      obtain ⟨h1, h2⟩ := List.mem_filter.mp hmem
      exact ⟨h1, by simpa using h2⟩
    have htake : (outOf AL i).take (idx + 1) = (outOf AL i).take idx ++ [a] := by rw [List.take_add_one, ha]; rfl
    clear F' N' hP
    rcases hlab with ⟨hlab, rfl⟩ | ⟨hlab, t9, rfl⟩
    · have hBk : ∀ j ∈ Bk, j < cnt := fun j hj => (hM.old j hj).elim (hBc j) fun r => r.lt G.arcs hi
      have hl1 := hM.len
      have hl2 := len_le_of_nodup hM.nodup hBk
      k_steps
      (rename Fr _ _ _ _ => F'); (rename News _ _ _ _ => N')
      refine call_con [l] B' F' X T rfl rfl rfl rfl (gone_of N' (by intro d hd; rw [List.mem_singleton.mp hd]; exact ⟨_, .head _⟩))
        (fun g2 C2 st2 kp hn => IH (k - 1) (by omega) C2 (by show dp + 1 + (k - 1) + 4 < _; omega) (by show un + 3 + 8 * (k - 1) + 40 < _; omega) (G.keeps st2) (G.arcs a ham.1).2 (st2 _ _ hf) (st2 _ _ hcl) hoc (hcd.keeps st2)
          (hn l (.head _)) (N'.get (.head _)) hM.nodup hBk (by omega)) ?_
      rintro v h3 tk3 F3 kp ⟨rfl, B3, n3', hl3, hc3⟩
      have hI3 : h3.get? I = some oI := kp _ _ (by simpa using Ne.symm l0) (N'.get (.tail _ (.head _)))
      k_steps
      refine hR1 _ _ ?_
      refine Turn.next F3 ⟨⟨iter_stays hit hoI hI3, list_kept F3 i3⟩, ⟨B3, n3', ⟨hl3, (N' _ (.head _)).2.1, hgl, rfl⟩, ?_⟩, ovr_if rfl ovr_base⟩
      rw [htake]
      exact hM.step ham.1 ham.2 hlab hc3
    · k_steps
      (rename Fr _ _ _ _ => F'); (rename News _ _ _ _ => N')
      refine hR1 _ _ ?_
      refine Turn.next F' ⟨⟨iter_stays hit hoI (N'.get (.tail _ (.head _))), list_kept F' i3⟩, ⟨Bk, n3, OwnN.of N' (.head _) rfl, ?_⟩, ovr_if rfl ovr_base⟩
      rw [htake]
      exact hM.skip hlab
end Mine
end PartAc
local macro_rules | `(tactic| is_list) => `(tactic| exact Mine.list_kept (by k_asm) (by assumption))
local macro_rules | `(tactic| walk_at "call builtin:len") => `(tactic| k_dflt (refine Calls.call_len_list (by is_list) (by (simp only [List.size_toArray, List.length_map]; omega)) ?_))
section PartSm
namespace Mine
theorem offSm : True := by (w_top off; exact True.intro)
local macro_rules | `(tactic| walk_at "compareOp NotIn ref ref") => `(tactic| k_dflt (refine' notIn_nodes ?X ?G ?hB ?hi ?hl ?hu ?_; (case X => k_in); (case G => exact GraphAt.keeps (by assumption) (Fr.keep (by assumption))); (case hl => is_list); (case hB => assumption); (case hi => assumption);  (case hu => k_units); k_whole))
local macro_rules | `(tactic| walk_at "exec For Name Name cons nil") => `(tactic| k_dflt (refine wpAny_For ?_ (by intro _; rfl)))
theorem same_con {w : World} {p : Program} {loose : List Str} {mean : ExcName → Option Value} {mg mb : Str → Option Value} {nd : Nat → Addr} {cnt : Nat} {AL : List Arc}
    {A : Around} {base g : Heap} {outer : List Env} {s : Shared} {l1 l2 : Addr} {n1 n2 : Nat} {B1 B2 : List Nat}
    (C : Cx w A base outer p loose mean mg mb g s.heap) (hroom : A.depth + 4 < recursionLimit) (hun : A.units + 40 < cLine)
    (G : GraphAt w g nd cnt AL)
    (hl1 : g.get? l1 = some (W.listOf (refsOf nd B1).toArray n1)) (hl2 : g.get? l2 = some (W.listOf (refsOf nd B2).toArray n2)) (hB1 : ∀ j ∈ B1, j < cnt) (hB2 : ∀ j ∈ B2, j < cnt) (h15 : B1.length ≤ 5) (h25 : B2.length ≤ 5) :
    codeAny (model PySem.Challenge.rw_iv0023_01.row.prog w) A (.call (.ref 120) ⟨[.ref l1, .ref l2], []⟩)
      (Ret s g (fun v h' => ∃ b, v = .bool b ∧ (b = true ↔ B1.length = B2.length ∧ ∀ x ∈ B1, x ∈ B2))) s := by
  obtain ⟨hd, dp, fr, gd, un⟩ := A
  obtain rfl : fr = some outer := C.B.stack
  obtain rfl : hd = none := C.hh
  have X := C.X
  have T := C.T
  have B' := C.B
  have hroom' : dp < recursionLimit := Nat.lt_of_le_of_lt (by show dp ≤ dp + 4; omega) hroom
  have hun' : un + 40 < cLine := hun
  clear hun hroom
  refine' enterK (sm := []) C ?N ?ho ?hcd hroom' ?hbind ?hloc ?h ?hcell ?a ?b ?c
  case ho => k_is
  case hcd => k_is
  case N => intro q hq; cases hq
  case hbind => exact BindsTo.of_eq rfl
  case hloc => exact locs rfl
  case hcell => decide
  case a => exact rfl
  case b => exact rfl
  case c => exact rfl
  intro h₁ F N hk R0 hR0
  k_steps
  · (rename _ ≠ _ => hne)
    simp only [List.size_toArray, List.length_map] at hne
    refine hR0 _ _ ?_
    exact ret_intro F rfl ⟨false, rfl, ⟨fun h => (nomatch h), fun h => absurd (by rw [h.1]) hne⟩⟩
  (rename _ = _ => hne)
  simp only [List.size_toArray, List.length_map] at hne
  have hle : B1.length = B2.length := by omega
  clear hne
  refine for_listS ["nfa_state"] rfl PassesOwn.never (list_kept F hl1) (fun idx u P => ∀ x ∈ B1.take idx, x ∈ B2) (fun _ _ _ _ _ h => h) F ?h0 ?turn ?done
  case h0 => intro x hx; rw [List.take_zero] at hx; cases hx
  case done =>
    intro u h₂ tk F₂ hJ
    rw [List.length_map, List.take_length] at hJ
    dsimp only at F₂ ⊢
    k_steps
    refine hR0 _ _ ?_
    exact ret_intro F₂ rfl ⟨true, rfl, ⟨fun _ => ⟨hle, hJ⟩, fun _ => rfl⟩⟩
  case turn =>
    intro I idx v u h₂ tk hv hIL hI0 F₂ hJ hit hla R1 hR1
    obtain ⟨oI, hoI, hoIc, hoId⟩ := id hit
    dsimp only at hIL F₂ ⊢
    have N₂ : News g s.heap.objs.size h₂ [(I, oI)] := fun p hp => by
      cases hp with
      | head => exact ⟨hoI, hIL, hI0⟩
      | tail _ h => cases h
    rw [List.getElem?_map] at hv
    obtain ⟨i, hi0, rfl⟩ := Option.map_eq_some_iff.mp hv
    have hi : i < cnt := hB1 i (List.mem_of_getElem? hi0)
    have htake : B1.take (idx + 1) = B1.take idx ++ [i] := by rw [List.take_add_one, hi0]; rfl
    clear F N
    k_steps
    · (rename i ∈ B2 => hn); (rename Fr _ _ _ _ => F'); (rename News _ _ _ _ => N')
      refine hR1 _ _ ?_
      refine Turn.next F' ⟨⟨iter_stays hit hoI (N'.get (.head _)), list_kept F' hl1⟩, ?_, ovr_if rfl ovr_base⟩
      rw [htake]
      intro x hx
      exact (List.mem_append.mp hx).elim (hJ x) fun q => by rw [List.mem_singleton.mp q]; exact hn
    · (rename ¬i ∈ B2 => hn); (rename Fr _ _ _ _ => F')
      refine hR1 _ _ ?_
      change R0 _ _
      refine hR0 _ _ ?_
      exact ret_intro F' rfl ⟨false, rfl, ⟨fun h => (nomatch h), fun h => absurd (h.2 i (List.mem_of_getElem? hi0)) hn⟩⟩
end Mine
end PartSm
local macro_rules | `(tactic| walk_at "exec For Name Call cons nil") => `(tactic| k_dflt (refine wpAny_For ?_ (by intro _; rfl)))
local macro_rules | `(tactic| walk_at "subscriptTail Name Name ref int") => `(tactic| k_dflt (refine Mine.item_L (by is_list) (by assumption) (by omega) ?_ (by with_unfolding_all rfl)))
section PartPc
namespace Mine
theorem offPc : True := by (w_top off; exact True.intro)
local macro_rules | `(tactic| walk_at "compareOp Is ref ref") => `(tactic| k_dflt (first | refine wpAny_is_ref_self ?_ | (refine wpAny_is_ref_other (by assumption) (by exact Fr.keep (by k_asm) _ _ (by assumption)) (by exact Fr.keep (by k_asm) _ _ (by assumption)) (by (intro q; cases q)) ?_)))
theorem place_con {w : World} {p : Program} {loose : List Str} {mean : ExcName → Option Value} {mg mb : Str → Option Value}
    {A : Around} {base g : Heap} {outer : List Env} {s : Shared} {l : Addr} {n : Nat} {as : List Addr} {j : Nat} {x : Addr}
    (C : Cx w A base outer p loose mean mg mb g s.heap) (hroom : A.depth + 4 < recursionLimit) (hun : A.units + 40 < cLine)
    (hl1 : g.get? l = some (W.listOf (as.map Value.ref).toArray n)) (h15 : as.length ≤ 1000) (hnd : as.Nodup) (hj : as[j]? = some x) (hob : ∀ a ∈ as, ∃ dx, g.get? a = some (instObj 109 dx)) :
    codeAny (model PySem.Challenge.rw_iv0023_01.row.prog w) A (.call (.ref 148) ⟨[.ref l, .ref x], []⟩)
      (Ret s g (fun v h' => ∃ t, v = .int j t)) s := by
  obtain ⟨hd, dp, fr, gd, un⟩ := A
  obtain rfl : fr = some outer := C.B.stack
  obtain rfl : hd = none := C.hh
  have X := C.X
  have T := C.T
  have B' := C.B
  have hroom' : dp < recursionLimit := Nat.lt_of_le_of_lt (by show dp ≤ dp + 4; omega) hroom
  have hun' : un + 40 < cLine := hun
  clear hun hroom
  refine' enterK (sm := []) C ?N ?ho ?hcd hroom' ?hbind ?hloc ?h ?hcell ?a ?b ?c
  case ho => k_is
  case hcd => k_is
  case N => intro q hq; cases hq
  case hbind => exact BindsTo.of_eq rfl
  case hloc => exact locs rfl
  case hcell => decide
  case a => exact rfl
  case b => exact rfl
  case c => exact rfl
  intro h₁ F N hk R0 hR0
  k_steps
  (rename IsRange _ _ _ _ _ _ _ _ => hr); (rename Fr _ _ _ _ => F'); (rename News _ _ _ _ => N')
  have hjl : j < as.length := by
    rcases Nat.lt_or_ge j as.length with q | q
    · exact q
    · rw [List.getElem?_eq_none q] at hj; cases hj
  refine for_rangeS ["k"] (n := as.length) rfl PassesOwn.never hr (by simp) (by omega) (fun idx u P => idx ≤ j) (fun _ _ _ _ _ h => h) F' (Nat.zero_le _) ?turn ?done
  case done =>
    intro u h₂ tk F₂ hJ
    omega
  case turn =>
    intro I idx t u h₂ tk hidx hIL hI0 F₂ hJ hit R1 hR1
    dsimp only at hIL F₂ hit ⊢
    have N₂ : News g s.heap.objs.size h₂ [(I, _)] := fun p hp => by
      cases hp with
      | head => exact ⟨hit, hIL, hI0⟩
      | tail _ h => cases h
    clear F' N'
    obtain ⟨y, hy⟩ : ∃ y, as[idx]? = some y := ⟨_, List.getElem?_eq_getElem hidx⟩
    have hy' : (as.map Value.ref)[idx]? = some (.ref y) := by rw [List.getElem?_map, hy]; rfl
    obtain ⟨dy, hdy⟩ := hob y (List.mem_of_getElem? hy)
    obtain ⟨dx, hdx⟩ := hob x (List.mem_of_getElem? hj)
    rcases Nat.lt_or_eq_of_le hJ with hlt | rfl
    · have hne : y ≠ x := by
        rintro rfl
        have h1 := List.getElem?_eq_some_iff.mp hy
        have h2 := List.getElem?_eq_some_iff.mp hj
        obtain ⟨p1, e1⟩ := h1
        obtain ⟨p2, e2⟩ := h2
        have := (List.getElem_inj (xs := as) (i := idx) (j := j) hnd).mp (e1.trans e2.symm)
        omega
      k_steps
      (rename Fr _ _ _ _ => F'); (rename News _ _ _ _ => N')
      refine hR1 _ _ ?_
      exact Turn.next F' ⟨N'.get (.head _), hlt, ovr_if rfl ovr_base⟩
    · obtain rfl : y = x := by rw [hy] at hj; exact Option.some.inj hj
      k_steps
      (rename Fr _ _ _ _ => F')
      refine hR1 _ _ ?_
      change R0 _ _
      refine hR0 _ _ ?_
      exact ret_intro F' rfl ⟨t, rfl⟩
end Mine
end PartPc
section PartTk
namespace Mine
theorem offTk : True := by (w_top off; exact True.intro)
theorem take_con {w : World} {A : Around} {base g : Heap} {outer : List Env} {p : Program} {loose : List Str} {mean : ExcName → Option Value} {mg mb : Str → Option Value} {s : Shared}
   {n at_ : Int} {c sl : Addr} {tn t k : Nat} {vs : List Value} {ns : List Int}
   (C : Cx w A base outer p loose mean mg mb g s.heap) (hn : 0 < n) (h0 : 0 ≤ at_) (h1 : at_ ≤ 1000)
   (hroom : A.depth + 4 < recursionLimit) (hun : A.units + 40 < cLine)
   (hg : g.get? c = none)
   (hc : s.heap.get? c = some (listOf #[.ref sl, .int at_ t] k)) (hsl : g.IsList sl vs.toArray) (hi : IntsAre vs ns) (hl : ns.length ≤ 30) :
   codeAny (model PySem.Challenge.rw_iv0023_01.row.prog w) A (.call (.ref 134) ⟨[.ref c, .int n tn], []⟩)
     (Ret s g (fun v h' => ∃ r t' k' t2, v = .int r t' ∧ 0 ≤ r ∧ r < n ∧ h'.get? c = some (listOf #[.ref sl, .int (at_ + 1) t2] k'))) s := by
  obtain ⟨hd, dp, fr, gd, un⟩ := A
  obtain rfl : fr = some outer := C.B.stack
  obtain rfl : hd = none := C.hh
  refine' enterK (sm := [(c, listOf #[.ref sl, .int at_ t] k)]) C ?N ?ho ?hcd ?hroom ?hbind ?hloc ?h ?hcell ?a ?b ?c
  case ho => k_is
  case hcd => k_is
  case N => intro q hq; cases hq with | head => exact ⟨hc, hg⟩ | tail _ h => cases h
  case hroom => exact Nat.lt_of_le_of_lt (Nat.le_add_right _ 4) hroom
  case hbind => exact BindsTo.of_eq rfl
  case hloc => exact locs rfl
  case hcell => decide
  case a => exact rfl
  case b => exact rfl
  case c => exact rfl
  have X := C.X
  have T := C.T
  have B := C.B
  intro h₁ F N hk R0 hR0
  k_steps
  · (rename Fr _ _ _ _ => F'); (rename News _ _ _ _ => N')
    refine hR0 _ _ ?_
    exact ret_intro F' rfl ⟨_, _, _, _, rfl, fmod_lo _ hn, fmod_hi _ hn, N'.get (.head _)⟩
  · (rename Fr _ _ _ _ => F'); (rename News _ _ _ _ => N')
    refine hR0 _ _ ?_
    exact ret_intro F' rfl ⟨_, _, _, _, rfl, Int.le_refl _, hn, N'.get (.head _)⟩
end Mine
end PartTk
local macro_rules | `(tactic| walk_at "exec For Tuple Name cons nil") => `(tactic| k_dflt (refine wpAny_For ?_ (by intro _; rfl)))
local macro_rules | `(tactic| walk_at "call builtin:sorted") => `(tactic| refine Mine.stop_here ?_)
local macro_rules | `(tactic| walk_at "exec While") => `(tactic| refine Mine.stop_here ?_)
local macro_rules | `(tactic| walk_at "binaryOp Add ref ref") => `(tactic| (k_dflt (refine kmk_add_ints (by k_asm) (by k_asm) (by exact News.isList (by k_asm) (by k_mem)) (by exact News.isList (by k_asm) (by k_mem)) (by l_ints) (by l_ints) ?_ (by (rw [sizeLine_eq]; simp only [List.length_cons, List.length_nil]; omega))); intro D' ws' h' F' N' l1 hI'; (try k_lt l1); try k_sweep))
section PartSh
namespace Mine
theorem offSh : True := by (w_top off; exact True.intro)
/-- the law's own tuples -/
def ATup (h : Heap) (v : Value) (a : Arc) : Prop := ∃ x t1 t2 t3 n, v = .ref x ∧ h.get? x = some { cls := .type "tuple", data := .seq #[.int (a.1 : Int) t1, .str a.2.1 t2, .int (a.2.2 : Int) t3] n }
def ArcsAt (h : Heap) (al : Addr) (AL : List Arc) : Prop := ∃ (vs : List Value) (n : Nat), h.get? al = some (W.listOf vs.toArray n) ∧ vs.length = AL.length ∧ ∀ (k : Nat) v, vs[k]? = some v → ∃ a, AL[k]? = some a ∧ ATup h v a
abbrev nats (H : List Nat) : List Int := List.map (fun (x : Nat) => (x : Int)) H
theorem sort_nats {ns : List Int} {H : List Nat} (hp : ns.Perm (nats H)) (hs : ns.Pairwise (· ≤ ·)) (hnd : H.Nodup) : ∃ S : List Nat, ns = nats S ∧ S.Pairwise (· < ·) ∧ ∀ x, x ∈ S ↔ x ∈ H := by
  have e : ns = nats (ns.map Int.toNat) := by
    rw [nats, List.map_map]
    refine ((List.map_id _).symm.trans (List.map_congr_left fun x hx => ?_))
    obtain ⟨n, _, rfl⟩ := List.mem_map.mp (hp.subset hx)
    simp
  have hp2 : (ns.map Int.toNat).Perm H := by
    have := hp.map Int.toNat
    have e2 : (nats H).map Int.toNat = H := by
      rw [nats, List.map_map]
      exact (List.map_congr_left fun x _ => by simp).trans (List.map_id _)
    rwa [e2] at this
  refine ⟨ns.map Int.toNat, e, ?_, fun x => hp2.mem_iff⟩
  have hnd2 : (ns.map Int.toNat).Nodup := hp2.nodup_iff.mpr hnd
  have hle : (ns.map Int.toNat).Pairwise (· ≤ ·) := List.pairwise_map.mpr (hs.imp fun {a b} h => by omega)
  exact (hle.and hnd2).imp fun {a b} h => by omega
local macro_rules | `(tactic| k_same2) => `(tactic| repeat (first | exact fun _ _ => rfl | exact ovr_base | refine ovr_if rfl ?_ | refine ovr_after ?_))
structure ShutIn (AL : List Arc) (H0 H : List Nat) : Prop where
  nodup : H.Nodup
  sub : ∀ x ∈ H0, x ∈ H
  old : ∀ x ∈ H, ∃ y ∈ H0, Reach AL y x
theorem any_nats (H : List Nat) (i : Nat) : ((nats H).any fun x => x == (i : Int)) = decide (i ∈ H) := by
  induction H with
  | nil => rfl
  | cons b r ih =>
    show (((b : Int) == (i : Int)) || (nats r).any fun x => x == (i : Int)) = _
    rw [ih]
    by_cases h : i = b
    · subst h; simp
    · have : ((b : Int) == (i : Int)) = false := by simpa using fun q => h (by omega)
      rw [this]; simp [h]
theorem ShutIn.add {AL : List Arc} {H0 H : List Nat} {a : Arc} (x : ShutIn AL H0 H) (ha : a ∈ AL) (he : a.2.1 = Str.ofString "") (h1 : a.1 ∈ H) (h2 : a.2.2 ∉ H) : ShutIn AL H0 (H ++ [a.2.2]) where
  nodup := List.nodup_append.mpr ⟨x.nodup, List.nodup_cons.mpr ⟨List.not_mem_nil, List.nodup_nil⟩, fun c hc b hb => by rw [List.mem_singleton.mp hb]; rintro rfl; exact h2 hc⟩
  sub := fun y h => List.mem_append_left _ (x.sub y h)
  old := fun y h => by
    rcases List.mem_append.mp h with q | q
    · exact x.old y q
    · rw [List.mem_singleton.mp q]
      obtain ⟨z, hz, r⟩ := x.old _ h1
      have e : epsA a.1 a.2.2 = a := by show (a.1, Str.ofString "", a.2.2) = a; rw [← he]
      exact ⟨z, hz, r.trans (.step (e ▸ ha) (.refl _))⟩
theorem shut_reach {AL : List Arc} {H : List Nat} (hc : ∀ a ∈ AL, a.2.1 = Str.ofString "" → a.1 ∈ H → a.2.2 ∈ H) {y x : Nat} (r : Reach AL y x) : y ∈ H → x ∈ H := by
  induction r with
  | refl => exact id
  | step h1 _ ih => exact fun h => ih (hc _ h1 rfl h)
theorem shut_con {w : World} {p : Program} {loose : List Str} {mean : ExcName → Option Value} {mg mb : Str → Option Value}
    {A : Around} {base g : Heap} {outer : List Env} {s : Shared} {al hl : Addr} {n : Nat} {vs0 : List Value} {H0 : List Nat} {AL : List Arc} {cnt : Nat}
    (C : Cx w A base outer p loose mean mg mb g s.heap) (hroom : A.depth + 4 < recursionLimit) (hun : A.units + 200 < cLine) (hc5 : cnt ≤ 5)
    (hA : ArcsAt g al AL) (hAL : ∀ a ∈ AL, a.1 < cnt ∧ a.2.2 < cnt) (hg : g.get? hl = none) (hh : s.heap.get? hl = some (W.listOf vs0.toArray n)) (hi : IntsAre vs0 (nats H0)) (hnd : H0.Nodup) (hlt : ∀ x ∈ H0, x < cnt) :
    codeAny (model PySem.Challenge.rw_iv0023_01.row.prog w) A (.call (.ref 141) ⟨[.ref al, .ref hl], []⟩)
      (Ret s g (fun v h' => ∃ r vs' n' S, v = .ref r ∧ s.heap.get? r = none ∧ h'.get? r = some (W.listOf vs'.toArray n') ∧ IntsAre vs' (nats S) ∧ S.Pairwise (· < ·) ∧ (∀ x, x ∈ S ↔ ∃ y ∈ H0, Reach AL y x) ∧ h'.get? hl = some (W.listOf vs0.toArray n))) s := by
  obtain ⟨hd, dp, fr, gd, un⟩ := A
  obtain rfl : fr = some outer := C.B.stack
  obtain rfl : hd = none := C.hh
  have X := C.X
  have T := C.T
  have B' := C.B
  have hroom' : dp < recursionLimit := Nat.lt_of_le_of_lt (by show dp ≤ dp + 4; omega) hroom
  have hun' : un + 200 < cLine := hun
  clear hun hroom
  refine' enterK (sm := [(hl, W.listOf vs0.toArray n)]) C ?N ?ho ?hcd hroom' ?hbind ?hloc ?h ?hcell ?a ?b ?c
  case ho => k_is
  case hcd => k_is
  case N => intro q hq; cases hq with | head => exact ⟨hh, hg⟩ | tail _ h => cases h
  case hbind => exact BindsTo.of_eq rfl
  case hloc => exact locs rfl
  case hcell => decide
  case a => exact rfl
  case b => exact rfl
  case c => exact rfl
  intro h₁ F N hk R0 hR0
  k_steps
  (rename Fr _ _ _ _ => F'); (rename News _ _ _ _ => N')
  change wpAny _ _ _ _ _ _
  obtain ⟨vs, n1, ha1, ha2, ha3⟩ := hA
  let J : Nat → (Str → Option Value) → (Addr → Obj → Prop) → Prop := fun k u P => ∃ b l1 vs1 n1 H, u "again" = some (.bool b) ∧ u "held" = some (.ref l1) ∧ P l1 (W.listOf vs1.toArray n1) ∧ IntsAre vs1 (nats H) ∧ ShutIn AL H0 H ∧ (b = false → ∀ a ∈ AL, a.2.1 = Str.ofString "" → a.1 ∈ H → a.2.2 ∈ H) ∧ 2 * (cnt - H.length) + (if b then 1 else 0) ≤ k ∧ P hl (W.listOf vs0.toArray n)
  refine while_S ["again", "held", "one", "label", "to"] PassesOwn.never J F' (2 * cnt + 1) ?h0 ?turn
  case h0 => exact ⟨true, hl, vs0, n, H0, rfl, rfl, OwnN.of N' (.head _) rfl, hi, ⟨hnd, fun _ h => h, fun x hx => ⟨x, hx, .refl _⟩⟩, (fun h => nomatch h), by simp only [if_true]; omega, OwnN.of N' (.head _) rfl⟩
  case turn =>
    rintro k u h₂ tk F₂ ⟨b, l1, vs1, n1', H, hb, hl1, hP, hi1, hS, hcl, hk2, hPh⟩ R1 hR1
    dsimp only at F₂ hP ⊢
    rw [ovr_ovl] at F₂
    simp only [ovl, hb, hl1] at F₂
    have N₂ : News g s.heap.objs.size h₂ [(l1, W.listOf vs1.toArray n1'), (hl, W.listOf vs0.toArray n)] := hP.news (hPh.news fun p hp => nomatch hp)
    clear F' N'
    have hHlt : ∀ x ∈ H, x < cnt := fun x hx => let ⟨y, hy, r⟩ := hS.old x hx; r.lt hAL (hlt y hy)
    have hHl := len_le_of_nodup hS.nodup hHlt
    have hHv : vs1.length = H.length := by rw [hi1.length, nats, List.length_map]
    cases b with
    | false =>
      k_steps
      (rename Fr _ _ _ _ => F₂); (rename News _ _ _ _ => N₂)
      change wpAny _ _ _ _ _ _
      refine sorted_N F₂ N₂ (N₂.isList (.head _)) hi1 (by omega) fun h' vs' ns' e F' N' hI' hp hs => ?_
      obtain ⟨S, rfl, hS1, hS2⟩ := sort_nats hp hs hS.nodup
      refine hR0 _ _ ?_
      refine ret_intro F' rfl ⟨_, vs', e, S, rfl, Heap.get?_none_of_le (Nat.le_of_lt (Nat.lt_succ_of_lt F₂.ns.lt)), N'.get (.head _), hI', hS1, fun x => ?_, N'.get (.tail _ (.tail _ (.head _)))⟩
      rw [hS2]
      refine ⟨hS.old x, fun ⟨y, hy, r⟩ => ?_⟩
      exact shut_reach (hcl rfl) r (hS.sub y hy)
    | true =>
      k_steps
      (rename Fr _ _ _ _ => F'); (rename News _ _ _ _ => N')
      let Jf : Nat → (Str → Option Value) → (Addr → Obj → Prop) → Prop := fun idx u P => ∃ b l2 vs2 n2 H2, u "again" = some (.bool b) ∧ u "held" = some (.ref l2) ∧ P l2 (W.listOf vs2.toArray n2) ∧ IntsAre vs2 (nats H2) ∧ ShutIn AL H0 H2 ∧
        (b = false → H2 = H ∧ ∀ a ∈ AL.take idx, a.2.1 = Str.ofString "" → a.1 ∈ H → a.2.2 ∈ H) ∧ (b = true → H.length < H2.length) ∧ P hl (W.listOf vs0.toArray n)
      refine for_listS ["again", "held", "one", "label", "to"] rfl PassesOwn.never (list_kept F' ha1) Jf (fun idx m P P' k => by rintro ⟨b, l2, vs2, n2, H2, e1, e2, e3, r1, r2, r3, r4, r5⟩; exact ⟨b, l2, vs2, n2, H2, e1, e2, k _ _ e3, r1, r2, r3, r4, k _ _ r5⟩) F' ?h0 ?turn ?done
      case h0 => exact ⟨false, l1, vs1, n1', H, rfl, rfl, OwnN.of N' (.head _) rfl, hi1, hS, fun _ => ⟨rfl, fun a ha => by rw [List.take_zero] at ha; cases ha⟩, (fun h => nomatch h), OwnN.of N' (.tail _ (.head _)) rfl⟩
      case done =>
        rintro u3 h3 tk3 F3 ⟨b, l2, vs2, n2, H2, hb2, hl2, hP2, hi2, hS2, hf, ht, hPh2⟩
        rw [ha2, List.take_length] at hf
        dsimp only at F3 hP2 ⊢
        k_steps
        refine hR1 _ _ ?_
        refine Turn.next F3 ⟨?_, ?_⟩
        · cases b with
          | false =>
            obtain ⟨rfl, hf⟩ := hf rfl
            exact ⟨2 * (cnt - H2.length), by simp only [if_true] at hk2; omega, false, l2, vs2, n2, H2, hb2, hl2, hP2, hi2, hS2, fun _ => hf, Nat.le_refl _, hPh2⟩
          | true =>
            have := ht rfl
            have hH2lt : ∀ x ∈ H2, x < cnt := fun x hx => let ⟨y, hy, r⟩ := hS2.old x hx; r.lt hAL (hlt y hy)
            have hH2l := len_le_of_nodup hS2.nodup hH2lt
            exact ⟨2 * (cnt - H2.length) + 1, by simp only [if_true] at hk2; omega, true, l2, vs2, n2, H2, hb2, hl2, hP2, hi2, hS2, (fun h => nomatch h), Nat.le_refl _, hPh2⟩
        · k_same2
      case turn =>
        rintro I idx v u3 h3 tk3 hv hIL hI0 F3 ⟨b, l2, vs2, n2, H2, hb2, hl2, hP2, hi2, hS2, hf, ht, hPh2⟩ hit hla R2 hR2
        obtain ⟨a, ha, x, t1, t2, t3, n9, rfl, hx⟩ := ha3 _ _ hv
        have hT : IsTup g x #[.int (a.1 : Int) t1, .str a.2.1 t2, .int (a.2.2 : Int) t3] := ⟨_, hx, rfl, _, rfl⟩
        obtain ⟨oI, hoI, hoIc, hoId⟩ := id hit
        dsimp only at hIL F3 hP2 ⊢
        rw [ovr_ovl] at F3
        simp only [ovl, hb2, hl2] at F3
        have N3 : News g s.heap.objs.size h3 [(l2, W.listOf vs2.toArray n2), (I, oI), (hl, W.listOf vs0.toArray n)] := hP2.news fun p hp => by
          cases hp with
          | head => exact ⟨hoI, hIL, hI0⟩
          | tail _ h => exact (hPh2.news (News.nil)) _ h
        have l0 : l2 ≠ I := fun q => by rw [← q, hP2.1] at hoI; cases hoI; exact absurd hoIc (by simp)
        clear F' N'
        have hH2lt : ∀ x ∈ H2, x < cnt := fun x hx => let ⟨y, hy, r⟩ := hS2.old x hx; r.lt hAL (hlt y hy)
        have hH2l := len_le_of_nodup hS2.nodup hH2lt
        have hH2n : (nats H2).length ≤ 5 := by rw [List.length_map]; omega
        have htake : AL.take (idx + 1) = AL.take idx ++ [a] := by rw [List.take_add_one, ha]; rfl
        have ham : a ∈ AL := List.mem_of_getElem? ha
        have hstep : (H2 = H → a.2.1 = Str.ofString "" → a.1 ∈ H2 → a.2.2 ∈ H2) → b = false → H2 = H ∧ ∀ c ∈ AL.take (idx + 1), c.2.1 = Str.ofString "" → c.1 ∈ H → c.2.2 ∈ H := fun hn hb0 => by
          obtain ⟨e, hf'⟩ := hf hb0
          refine ⟨e, fun c hc => ?_⟩
          rw [htake] at hc
          rcases List.mem_append.mp hc with q | q
          · exact hf' c q
          · rw [List.mem_singleton.mp q, ← e]; exact hn e
        k_steps
        · (rename _ = true => hany); (rename Fr _ _ _ _ => F'); (rename News _ _ _ _ => N')
          rw [any_nats] at hany
          refine hR2 _ _ ?_
          exact Turn.next F' ⟨⟨iter_stays hit hoI (N'.get (.tail _ (.head _))), list_kept F' ha1⟩, ⟨b, l2, vs2, n2, H2, rfl, rfl, OwnN.of N' (.head _) rfl, hi2, hS2, hstep fun _ _ _ => of_decide_eq_true hany, ht, OwnN.of N' (.tail _ (.tail _ (.head _))) rfl⟩, by k_same2⟩
        · (rename _ = false => hany2); (rename ((nats H2).any _) = true => hany); (rename ((_ : Str) == _) = true => he); (rename Fr _ _ _ _ => F'); (rename News _ _ _ _ => N'); (rename IntsAre _ (nats H2 ++ _) => hi3)
          rw [any_nats] at hany hany2
          refine hR2 _ _ ?_
          refine Turn.next F' ⟨⟨iter_stays hit hoI (N'.get (.tail _ (.tail _ (.tail _ (.head _))))), list_kept F' ha1⟩, ⟨true, _, _, _, H2 ++ [a.2.2], rfl, rfl, OwnN.of N' (.head _) rfl, by simpa [nats] using hi3, hS2.add ham (eq_of_beq he) (of_decide_eq_true hany) (of_decide_eq_false hany2), (fun h => nomatch h), fun _ => ?_, OwnN.of N' (.tail _ (.tail _ (.tail _ (.tail _ (.head _))))) rfl⟩, by k_same2⟩
          rw [List.length_append]
          cases b with
          | true => have := ht rfl; simp only [List.length_cons, List.length_nil]; omega
          | false => obtain ⟨e, _⟩ := hf rfl; rw [e]; simp
        · (rename _ = false => hany2); (rename Fr _ _ _ _ => F'); (rename News _ _ _ _ => N')
          rw [any_nats] at hany2
          refine hR2 _ _ ?_
          exact Turn.next F' ⟨⟨iter_stays hit hoI (N'.get (.tail _ (.head _))), list_kept F' ha1⟩, ⟨b, l2, vs2, n2, H2, rfl, rfl, OwnN.of N' (.head _) rfl, hi2, hS2, hstep fun _ _ h => absurd h (of_decide_eq_false hany2), ht, OwnN.of N' (.tail _ (.tail _ (.head _))) rfl⟩, by k_same2⟩
        · (rename _ = false => he); (rename Fr _ _ _ _ => F'); (rename News _ _ _ _ => N')
          refine hR2 _ _ ?_
          exact Turn.next F' ⟨⟨iter_stays hit hoI (N'.get (.tail _ (.head _))), list_kept F' ha1⟩, ⟨b, l2, vs2, n2, H2, rfl, rfl, OwnN.of N' (.head _) rfl, hi2, hS2, hstep (fun _ h _ => by rw [h, beq_self_eq_true] at he; cases he), ht, OwnN.of N' (.tail _ (.tail _ (.head _))) rfl⟩, by k_same2⟩
end Mine
end PartSh
local macro_rules | `(tactic| k_units) => `(tactic| first | exact Mine.lt_room (by assumption) (by decide) | ((try simp only [Around.deeper_units, units_under_make, Around.in1_units, Around.mark_units]); omega))
section PartDf
namespace Mine
theorem offDf : True := by (w_top off; exact True.intro)
local macro_rules | `(tactic| walk_at "compareOp In ref ref") => `(tactic| k_dflt (refine' in_nodes ?X ?G ?hB ?hi ?hl ?hu ?_; (case X => k_in); (case G => exact GraphAt.keeps (by assumption) (Fr.keep (by assumption))); (case hl => is_list); (case hB => assumption); (case hi => assumption); (case hu => k_units); k_whole))
local macro_rules | `(tactic| walk_at "subscriptTail Name Constant ref int") => `(tactic| k_dflt (refine item_L (k := 0) (by is_list) (rfl) (by omega) ?_ (by with_unfolding_all rfl)))
/-- the dict of a state of the result -/
abbrev dfaDict (w : World) (t1 t2 t3 t4 t5 t6 t7 : Nat) (sl ad nad td : Addr) (fin : Bool) : List DictEntry :=
  [⟨PyData.keyHash w.params "from_rule", .str "from_rule" t1, .str "r" t2⟩, ⟨PyData.keyHash w.params "nfa_set", .str "nfa_set" t3, .ref sl⟩, ⟨PyData.keyHash w.params "arcs", .str "arcs" t4, .ref ad⟩,
   ⟨PyData.keyHash w.params "nonterminal_arcs", .str "nonterminal_arcs" t5, .ref nad⟩, ⟨PyData.keyHash w.params "transitions", .str "transitions" t6, .ref td⟩, ⟨PyData.keyHash w.params "is_final", .str "is_final" t7, .bool fin⟩]
theorem dfa_con {w : World} {p : Program} {loose : List Str} {mean : ExcName → Option Value} {mg mb : Str → Option Value} {nd : Nat → Addr} {cnt : Nat} {AL : List Arc}
    {A : Around} {base g : Heap} {outer : List Env} {s : Shared} {sl : Addr} {n t e b : Nat} {S : List Nat}
    (C : Cx w A base outer p loose mean mg mb g s.heap) (hroom : A.depth + 9 < recursionLimit) (hun : A.units + 80 < cLine)
    (G : GraphAt w g nd cnt AL) (hsl : g.get? sl = some (W.listOf (refsOf nd (b :: S)).toArray n)) (hS : ∀ j ∈ b :: S, j < cnt) (he : e < cnt) :
    codeAny (model PySem.Challenge.rw_iv0023_01.row.prog w) A (.call (.ref 109) ⟨[.str "r" t, .ref sl, .ref (nd e)], []⟩)
      (Ret s g (fun v h' => ∃ x dx ad nad td t1 t2 t3 t4 t5 t6 t7 n o, v = .ref x ∧ s.heap.objs.size ≤ dx ∧ dx < x ∧ x < ad ∧ h'.get? x = some (instObj 109 dx) ∧
        h'.get? dx = some (dictOf (dfaDict w t1 t2 t3 t4 t5 t6 t7 sl ad nad td (decide (e ∈ b :: S))) n) ∧ h'.get? ad = some o ∧ o.IsDictOf (strKind PySem.Challenge.rw_iv0023_01.row.prog w) [] ∧ (ad == sysModules) = false)) s := by
  obtain ⟨hd, dp, fr, gd, un⟩ := A
  obtain rfl : fr = some outer := C.B.stack
  obtain rfl : hd = none := C.hh
  have X := C.X
  have T := C.T
  have B' := C.B
  have Xs := X.keeps C.st
  have hun' : un + 80 < cLine := hun
  have hroom' : dp + 9 < recursionLimit := hroom
  clear hun hroom
  have hb := hS b (.head _)
  obtain ⟨asb, ⟨db, ab, w1, w2, w3, w4, w5, bi1, bi2, bi3⟩, _⟩ := G.node b hb
  obtain ⟨ase, ⟨de, ae, v1, v2, v3, v4, v5, ei1, ei2, ei3⟩, _⟩ := G.node e he
  refine' make_gen Xs ?mk ?fi ?bf ?main
  case mk => k_is
  case fi => k_is
  case bf => k_is
  case main =>
    intro s₂ hs₂ hkp hdx hx hsz
    have gn : ∀ a, s.heap.objs.size ≤ a → g.get? a = none := fun a ha => Heap.get?_none_of_le (Nat.le_trans C.sz ha)
    have C2 : Cx w (({ handled := none, depth := dp, frames := some outer, guards := gd, units := un } : Around).under (.builtin "type.__call__" ⟨.ref 109 :: [.str "r" t, .ref sl, .ref (nd e)], []⟩)) base outer p loose mean mg mb g s₂.heap :=
      ⟨⟨rfl, B'.stays, B'.frames⟩, fun b o e => hkp b o (C.st b o e), by rw [hsz]; exact Nat.le_succ_of_le (Nat.le_succ_of_le C.sz), X, T, rfl⟩
    refine' enterK (sm := [(s.heap.objs.size + 1, instObj 109 s.heap.objs.size), (s.heap.objs.size, dictOf [] 0)]) C2 ?N ?ho ?hcd ?hr ?hbind ?hloc ?h ?hcell ?a ?b ?c
    case ho => k_is
    case hcd => k_is
    case N =>
      intro q hq
      cases hq with
      | head => exact ⟨hx, gn _ (Nat.le_succ _)⟩
      | tail _ h => cases h with
        | head => exact ⟨hdx, gn _ (Nat.le_refl _)⟩
        | tail _ h => cases h
    case hr => rw [depth_under_make]; show dp + 1 < _; omega
    case hbind => exact BindsTo.of_eq rfl
    case hloc => exact locs rfl
    case hcell => decide
    case a => exact rfl
    case b => exact rfl
    case c => exact rfl
    intro h₁ F N hk R0 hR0
    clear C C2 Xs
    have hLst : g.IsList sl (refsOf nd (b :: S)).toArray := ⟨_, hsl, rfl, _, rfl⟩
    generalize hbase : s.heap.objs.size = bs at *
    have l0 : bs < bs + 1 := Nat.lt_succ_self _
    k_steps
    (rename Fr _ _ _ _ => F'); (rename News _ _ _ _ => N')
    refine hR0 _ _ ?_
    refine ret_intro F' rfl ⟨rfl, _, bs, _, _, _, _, _, _, _, _, _, _, _, _, rfl, Nat.le_refl _, Nat.lt_succ_self _, ?_, N'.get (by k_mem), N'.get (by k_mem), N'.get (by k_mem), by assumption, by assumption⟩
    refine ltN ?_; omega
end Mine
end PartDf
local macro_rules | `(tactic| walk_at "setItem ref str") => `(tactic| (k_dflt (refine kda_set (knd := strKind _ _) (by k_asm) (by k_asm) (by k_updF) (by assumption) (strKind_is _ _ _ _) (by (rw [sizeLine_eq]; (try rw [List.length_map]); omega)) ?_); intro h' o' F' N' hd'; (try dsimp only at N'); try k_sweep))
section PartDadd
namespace Mine
theorem offDadd : True := by (w_top off; exact True.intro)
local macro_rules | `(tactic| walk_at "idle") => `(tactic| fail "idle")
local macro_rules | `(tactic| walk_at "compareOp NotIn str ref") => `(tactic| k_dflt (refine kdg_notin (knd := strKind _ _) (by k_asm) (by k_mem) (by assumption) (by assumption) (strKind_is _ _ _ _) false (by assumption) ?_))
theorem addarc_con {w : World} {p : Program} {loose : List Str} {mean : ExcName → Option Value} {mg mb : Str → Option Value}
    {A : Around} {base g : Heap} {outer : List Env} {s : Shared} {st dx nx dx2 sl ad nad td : Addr} {t t1 t2 t3 t4 t5 t6 t7 n : Nat} {fin : Bool} {lab : Str} {o od2 : Obj} {E : List (Str × Value)}
    (C : Cx w A base outer p loose mean mg mb g s.heap) (hroom : A.depth + 9 < recursionLimit) (hun : A.units + 80 < cLine)
    (h1 : g.get? st = some (instObj 109 dx)) (h2 : g.get? dx = some (dictOf (dfaDict w t1 t2 t3 t4 t5 t6 t7 sl ad nad td fin) n)) (h3 : g.get? nx = some (instObj 109 dx2)) (h4 : g.get? dx2 = some od2)
    (ha : s.heap.get? ad = some o) (hga : g.get? ad = none) (hd : o.IsDictOf (strKind PySem.Challenge.rw_iv0023_01.row.prog w) E) (hlo : (ad == sysModules) = false) (hv : valueAt E lab = none) (hE : E.length ≤ 100) :
    codeAny (model PySem.Challenge.rw_iv0023_01.row.prog w) A (.call (.ref 92) ⟨[.ref st, .ref nx, .str lab t], []⟩)
      (Ret s g (fun v h' => v = .none ∧ ∃ o', h'.get? ad = some o' ∧ o'.IsDictOf (strKind PySem.Challenge.rw_iv0023_01.row.prog w) (stored E lab (.ref nx)))) s := by
  obtain ⟨hh, dp, fr, gd, un⟩ := A
  obtain rfl : fr = some outer := C.B.stack
  obtain rfl : hh = none := C.hh
  have X := C.X
  have T := C.T
  have B' := C.B
  have hun' : un + 80 < cLine := hun
  have hroom' : dp + 9 < recursionLimit := hroom
  clear hun hroom
  refine' enterK (sm := [(ad, o)]) C ?N ?ho ?hcd ?hr ?hbind ?hloc ?h ?hcell ?a ?b ?c
  case ho => k_is
  case hcd => k_is
  case N => intro q hq; cases hq with | head => exact ⟨ha, hga⟩ | tail _ h => cases h
  case hr => show dp < _; omega
  case hbind => exact BindsTo.of_eq rfl
  case hloc => exact locs rfl
  case hcell => decide
  case a => exact rfl
  case b => exact rfl
  case c => exact rfl
  intro h₁ F N hk R0 hR0
  clear C
  have hvs : (valueAt E lab).isSome = false := by rw [hv]; rfl
  k_steps
  (rename Fr _ _ _ _ => F'); (rename News _ _ _ _ => N')
  refine hR0 _ _ ?_
  exact ret_intro F' rfl ⟨rfl, _, N'.get (.head _), by assumption⟩
end Mine
end PartDadd
local macro_rules | `(tactic| k_room) => `(tactic| first | exact Mine.lt_room (by assumption) (by decide) | ((try simp only [depth_under_make, depth_under_kw, depth_in1, depth_deeper, depth_caller]); omega))
section PartNa
namespace Mine
theorem offNa : True := by (w_top off; exact True.intro)
abbrev arcDict (w : World) (t1 t2 : Nat) (to : Addr) (lv : Value) : List DictEntry :=
  [⟨PyData.keyHash w.params "next", .str "next" t1, .ref to⟩, ⟨PyData.keyHash w.params "nonterminal_or_string", .str "nonterminal_or_string" t2, lv⟩]
theorem naddarc_con {w : World} {p : Program} {loose : List Str} {mean : ExcName → Option Value} {mg mb : Str → Option Value}
    {A : Around} {base g : Heap} {outer : List Env} {s : Shared} {a b dx dx2 al al2 : Addr} {t1 t2 t3 u1 u2 u3 n n' n2 : Nat} {as ex : List Value} {lv : Value}
    (C : Cx w A base outer p loose mean mg mb g s.heap) (hroom : A.depth + 9 < recursionLimit) (hun : A.units + 80 < cLine)
    (h1 : g.get? a = some (instObj 67 dx)) (h2 : g.get? dx = some (dictOf [⟨PyData.keyHash w.params "from_rule", .str "from_rule" t1, .str "r" t2⟩, ⟨PyData.keyHash w.params "arcs", .str "arcs" t3, .ref al⟩] n))
    (h3 : g.get? b = some (instObj 67 dx2)) (h4 : g.get? dx2 = some (dictOf [⟨PyData.keyHash w.params "from_rule", .str "from_rule" u1, .str "r" u2⟩, ⟨PyData.keyHash w.params "arcs", .str "arcs" u3, .ref al2⟩] n2))
    (hal : s.heap.get? al = some (W.listOf as.toArray n')) (hga : g.get? al = none) (hlen : as.length ≤ 100) (hkp : ∀ b o, b ≠ al → s.heap.get? b = some o → g.get? b = some o) (hex : (ex = [] ∧ lv = .none) ∨ ∃ lab t, ex = [.str lab t] ∧ lv = .str lab t) :
    codeAny (model PySem.Challenge.rw_iv0023_01.row.prog w) A (.call (.ref 64) ⟨Value.ref a :: Value.ref b :: ex, []⟩)
      (Ret s g (fun v h' => v = .none ∧ ∃ x dxa v1 v2 m m', h'.get? al = some (W.listOf (as ++ [Value.ref x]).toArray m) ∧ h'.get? x = some (instObj 38 dxa) ∧ h'.get? dxa = some (dictOf (arcDict w v1 v2 b lv) m') ∧ s.heap.get? x = none ∧ s.heap.get? dxa = none ∧ x ≠ al ∧ dxa ≠ al)) s := by
  obtain ⟨hh, dp, fr, gd, un⟩ := A
  obtain rfl : fr = some outer := C.B.stack
  obtain rfl : hh = none := C.hh
  have X := C.X
  have T := C.T
  have B' := C.B
  have hun' : un + 80 < cLine := hun
  have hroom' : dp + 9 < recursionLimit := hroom
  have hgo : ∀ c, g.get? c = none → c ≠ al → s.heap.get? c = none := fun c hc hn => by
    cases q : s.heap.get? c with
    | none => rfl
    | some o => rw [hkp c o hn q] at hc; cases hc
  clear hun hroom
  rcases hex with ⟨rfl, rfl⟩ | ⟨lab, t, rfl, rfl⟩
  all_goals
    refine' enterK (sm := [(al, W.listOf as.toArray n')]) C ?N ?ho ?hcd ?hr ?hbind ?hloc ?h ?hcell ?a ?b ?c
    case ho => k_is
    case hcd => k_is
    case N => intro q hq; cases hq with | head => exact ⟨hal, hga⟩ | tail _ h => cases h
    case hr => show dp < _; omega
    case hbind => first | exact BindsTo.of_eq rfl | exact binds_K (X.keeps C.st) rfl (by k_is) rfl rfl rfl
    case hloc => exact locs rfl
    case hcell => decide
    case a => exact rfl
    case b => exact rfl
    case c => exact rfl
    intro h₁ F N hk R0 hR0
    clear C
    k_steps
    (rename Fr _ _ _ _ => F'); (rename News _ _ _ _ => N')
    refine hR0 _ _ ?_
    refine ret_intro F' rfl ⟨rfl, _, _, _, _, _, _, N'.get (.tail _ (.tail _ (.head _))), N'.get (.head _), N'.get (.tail _ (.head _)), hgo _ (N'.fresh (.head _)) ?_, hgo _ (N'.fresh (.tail _ (.head _))) ?_, ?_, ?_⟩ <;> (refine neN ?_; omega)
end Mine
end PartNa
section PartLq
namespace Mine
theorem all_nil {α : Type} {p : α → Prop} : ∀ x ∈ ([] : List α), p x := fun _ h => nomatch h
theorem all_cons {α : Type} {p : α → Prop} {a : α} {l : List α} (h : p a) (t : ∀ x ∈ l, p x) : ∀ x ∈ a :: l, p x := fun x hx => by
  rcases List.mem_cons.mp hx with rfl | hx
  · exact h
  · exact t x hx
/-- what the frame at L has made itself -/
def OwnA (h₀ : Heap) (L : Addr) (h : Heap) (a : Addr) (o : Obj) : Prop := h.get? a = some o ∧ a ≠ L ∧ h₀.get? a = none
def OwnI (I : Addr) (h₀ : Heap) (L : Addr) (h : Heap) (a : Addr) (o : Obj) : Prop := OwnA h₀ L h a o ∧ a ≠ I
theorem OwnA.of {h₀ h : Heap} {L a : Addr} {o : Obj} {r : List (Addr × Obj)} (N : News h₀ L h r) (hm : (a, o) ∈ r) : OwnA h₀ L h a o := N _ hm
theorem OwnA.news {h₀ h : Heap} {L a : Addr} {o : Obj} {r : List (Addr × Obj)} (x : OwnA h₀ L h a o) (N : News h₀ L h r) : News h₀ L h ((a, o) :: r) := fun p hp => by
  rcases List.mem_cons.mp hp with rfl | hp
  · exact x
  · exact N p hp
section
variable {prog : Program} {w : World} {A : Around} {s : Shared} {env : Env} {h₀ : Heap} {Q : Flow → Shared → Prop} {E : Value → Shared → Prop}
theorem forT {target : Expr} {body orelse : List Stmt} {I : Addr} {fp : List Addr} {n : Nat} {P Md : Nat → Value → Heap → Prop} {St : Nat → Heap → Prop} {m : Str → Option Value}
    (W : KTurns prog w A target I fp [I] n P Md St) (hE : PassesOwn (model prog w) A env E) (hst : St 0 s.heap) (hI0 : h₀.get? I = none)
    (J : Nat → (Str → Option Value) → (Addr → Obj → Prop) → Prop) (mono : ∀ i m P P', (∀ a o, P a o → P' a o) → J i m P → J i m P')
    (F : Fr h₀ env.locals s.heap m) (hIL : I ≠ env.locals) (h0 : J 0 m (OwnI I h₀ env.locals s.heap))
    (turn : ∀ i v m₁ h tk, i < n → P i v h → Fr h₀ env.locals h m₁ → J i m₁ (OwnI I h₀ env.locals h) → St (i + 1) h → ∀ R : Flow → Shared → Prop, (∀ f s', Turn s h₀ env.locals Q (fun h' m₂ => St (i + 1) h' ∧ J (i + 1) m₂ (OwnI I h₀ env.locals h')) f s' → R f s') →
      wpAny (model prog w) A (assign target env v) (fun _ s₂ => wpAny (model prog w) A (execs body env) R E s₂) E { s with heap := h, toks := tk })
    (done : ∀ m₁ h tk, Fr h₀ env.locals h m₁ → J n m₁ (OwnI I h₀ env.locals h) → wpAny (model prog w) A (execs orelse env) Q E { s with heap := h, toks := tk }) :
    codeAny (model prog w) A (.forLoop target (.ref I) body orelse env) (fun r s' => match r with | .ok f => Q f s' | .error e => cameBackBy (model prog w) A env E e s') s := by
  refine codeAny_forLoop_any (fun k s' => ∃ h' tk m' i, s' = { s with heap := h', toks := tk } ∧ St i h' ∧ Fr h₀ env.locals h' m' ∧ J i m' (OwnI I h₀ env.locals h') ∧ i ≤ n ∧ k = n + 1 - i) ?_ (n + 1)
    ⟨s.heap, s.toks, m, 0, rfl, hst, F, h0, Nat.zero_le _, rfl⟩
  rintro k s' ⟨h', tk, m', i, rfl, hst', F', hJ, hi, rfl⟩
  have next : ∀ h₁ h₂ : Heap, (∀ b o, b ∉ [I] → h₁.get? b = some o → h₂.get? b = some o) → Fr h₀ env.locals h₁ m' ∧ J i m' (OwnI I h₀ env.locals h₁) → Fr h₀ env.locals h₂ m' ∧ J i m' (OwnI I h₀ env.locals h₂) := fun h₁ h₂ hk₁ ⟨F', hJ⟩ => by
    have k : ∀ b o, b ≠ I → h₁.get? b = some o → h₂.get? b = some o := fun b o hb e => hk₁ b o (fun q => hb (List.mem_singleton.mp q)) e
    exact ⟨⟨F'.ns.at' fun o e => k _ o (Ne.symm hIL) e, fun b o e => k b o (fun q => by rw [q, hI0] at e; cases e) (F'.keep b o e), F'.above⟩, mono _ _ _ _ (fun a o x => ⟨⟨k a o x.2 x.1.1, x.1.2⟩, x.2⟩) hJ⟩
  by_cases hlt : i < n
  · refine W.item i _ _ _ hlt hst' fun v h₁ tk₁ hP hk₁ => ?_
    refine wpAny_passesOwn hE (W.go i v _ _ _ hP fun h₂ hP₂ hst₂ hk₂ => ?_)
    obtain ⟨F₂, J₂⟩ := next _ _ hk₂ (next _ _ hk₁ ⟨F', hJ⟩)
    refine wpAny_mono (turn i v m' h₂ tk₁ hlt hP₂ F₂ J₂ hst₂ _ fun _ _ x => x) (fun _ s₂ h₂ => wpAny_mono h₂ (fun f s₃ h₃ => ?_) hE) hE
    cases f with
    | brk => exact h₃
    | ret v => exact h₃
    | next => obtain ⟨h₃', tk₃, m₂, e, F₃, hst₃, hJ₃⟩ := h₃; exact ⟨n + 1 - (i + 1), by omega, h₃', tk₃, m₂, i + 1, e, hst₃, F₃, hJ₃, hlt, rfl⟩
    | cont => obtain ⟨h₃', tk₃, m₂, e, F₃, hst₃, hJ₃⟩ := h₃; exact ⟨n + 1 - (i + 1), by omega, h₃', tk₃, m₂, i + 1, e, hst₃, F₃, hJ₃, hlt, rfl⟩
  · have hin : i = n := by omega
    subst hin
    refine W.done _ _ _ hst' fun h₁ tk₁ hk₁ => ?_
    obtain ⟨F₁, J₁⟩ := next _ _ hk₁ ⟨F', hJ⟩
    exact wpAny_passesOwn hE (done m' h₁ tk₁ F₁ J₁)
theorem keepI {h₀ h h' : Heap} {L : Addr} (k : ∀ b o, h.get? b = some o → h'.get? b = some o) : ∀ a o, OwnA h₀ L h a o → OwnA h₀ L h' a o := fun a o x => ⟨k a o x.1, x.2⟩
/-- over a list; the body stores the names xs alone -/
theorem for_listT (xs : List Str) {target : Expr} {body orelse : List Stmt} {l : Addr} {vs : List Value} {m : Str → Option Value}
    (hh : A.handled = none) (hE : PassesOwn (model prog w) A env E) (hl : s.heap.IsList l vs.toArray)
    (J : Nat → (Str → Option Value) → (Addr → Obj → Prop) → Prop) (mono : ∀ i m P P', (∀ a o, P a o → P' a o) → J i m P → J i m P')
    (F : Fr h₀ env.locals s.heap m) (h0 : J 0 m (OwnA h₀ env.locals s.heap))
    (turn : ∀ I i v u h tk, vs[i]? = some v → I ≠ env.locals → h₀.get? I = none → s.heap.get? I = none → Fr h₀ env.locals h (ovr xs u m) → J i u (OwnI I h₀ env.locals h) → h.IsListIter I l (i + 1) → h.IsList l vs.toArray → ∀ R : Flow → Shared → Prop, (∀ f s', Turn s h₀ env.locals Q (fun h' m₂ => (h'.IsListIter I l (i + 1) ∧ h'.IsList l vs.toArray) ∧ J (i + 1) m₂ (OwnI I h₀ env.locals h') ∧ ∀ y, xs.contains y = false → m₂ y = m y) f s' → R f s') →
      wpAny (model prog w) A (assign target env v) (fun _ s₂ => wpAny (model prog w) A (execs body env) R E s₂) E { s with heap := h, toks := tk })
    (done : ∀ u h tk, Fr h₀ env.locals h (ovr xs u m) → J vs.length u (OwnA h₀ env.locals h) → wpAny (model prog w) A (execs orelse env) Q E { s with heap := h, toks := tk }) :
    wpAny (model prog w) A (pyIter (.ref l)) (fun it s₂ => codeAny (model prog w) A (.forLoop target it body orelse env) (fun r s' => match r with | .ok f => Q f s' | .error e => cameBackBy (model prog w) A env E e s') s₂) E s := by
  refine wpAny_pyIter_list hl ?_
  obtain ⟨ol, hol, _⟩ := id hl
  have hne : l ≠ s.heap.objs.size := Nat.ne_of_lt (Heap.lt_size hol)
  have W := Walks.list (prog := prog) (w := w) hh s.heap.objs.size l hne vs.toArray
  have hlen : vs.toArray.size = vs.length := by simp
  rw [hlen] at W
  have hIL : s.heap.objs.size ≠ env.locals := Nat.ne_of_gt F.ns.lt
  have hI0 : h₀.get? s.heap.objs.size = none := next_is_new F
  refine forT (KTurns.ofWalks W fun i v s Q E st q => letGo_listiter st.1 q) hE
    ⟨⟨_, Heap.get?_push_size _ rfl, rfl, rfl⟩, hl.at fun o e => Heap.get?_push_of_some _ e⟩ hI0 (fun i m₁ P => J i m₁ P ∧ ∀ y, xs.contains y = false → m₁ y = m y) (fun i m P P' k x => ⟨mono i m P P' k x.1, x.2⟩) (F.push _) hIL
    ⟨mono _ _ _ _ (fun a o x => ⟨⟨Heap.get?_push_of_some _ x.1, x.2⟩, Nat.ne_of_lt (Heap.lt_size x.1)⟩) h0, fun _ _ => rfl⟩ (fun i v m₁ h tk hi hP F₁ hJ st R hR => ?_) fun m₁ h tk F₁ hJ => ?_
  · exact turn _ i v m₁ h tk (by simpa using hP) hIL hI0 (Heap.get?_none_of_le (Nat.le_refl _)) (by rw [ovr_self xs m₁ m hJ.2]; exact F₁) hJ.1 st.1 st.2 R hR
  · exact done m₁ h tk (by rw [ovr_self xs m₁ m hJ.2]; exact F₁) (mono _ _ _ _ (fun _ _ x => x.1) hJ.1)
theorem itemTurns {K : Type} [DecidableEq K] {knd : KeyKind prog w K} {elts : List Expr} {kk : Nat} {pos : Pos} (hh : A.handled = none) (I d : Addr) (hne : d ≠ I) (kvs : List (K × Value)) (ep : Nat) :
    KTurns prog w A (.Tuple elts kk pos) I [I, d] [I] kvs.length
      (fun i v h => ∃ T key k x, v = .ref T ∧ kvs[i]? = some (k, x) ∧ knd.is k key = true ∧ h.get? T = some { cls := .type "tuple", data := .seq #[key, x] } ∧ @LT.lt Nat _ I T)
      (fun i v h => ∃ T key k x ok ov, v = .ref T ∧ kvs[i]? = some (k, x) ∧ knd.is k key = true ∧ h.get? T = some { cls := .type "tuple", data := .seq #[key, x] } ∧ IsItemIterOut h I d (i + 1) kvs.length ep ok ov T ∧ h.DictAt knd d kvs ep ∧ @LT.lt Nat _ I T)
      (fun i h => (∃ ok ov, IsItemIter h I d i kvs.length ep ok ov) ∧ h.DictAt knd d kvs ep) where
  sub := fun b hb => by simp at hb; simp [hb]
  frame := fun i h h' st hk => by
    obtain ⟨⟨ok, ov, he⟩, hm⟩ := st
    exact ⟨⟨ok, ov, hk I (by simp) _ he⟩, hm.at' fun o e => hk d (by simp) o e⟩
  item := fun i s Q E hi st hQ => by
    obtain ⟨⟨ok, ov, he⟩, hm⟩ := st
    obtain ⟨⟨k, x⟩, hx⟩ : ∃ p, kvs[i]? = some p := ⟨kvs[i], by simp [hi]⟩
    refine wpAny_pyNext_items_item he hm hx fun key h' hkey ho hT hsz hk => ?_
    exact hQ (.ref s.heap.objs.size) h' s.toks ⟨s.heap.objs.size, key, k, x, key, x, rfl, hx, hkey, hT, ho, hm.at' (fun o e => hk d o hne e), Heap.lt_size he⟩ fun b o hb e => hk b o (fun h => hb (by simp [h])) e
  go := fun i v s Q E hm hQ => by
    obtain ⟨T, key, k, x, ok, ov, rfl, hx, hkey, hT, ho, hd, hTI⟩ := hm
    refine wpAny_letOwnedTupleGo_items ho fun h' he hs => ?_
    exact hQ h' ⟨T, key, k, x, rfl, hx, hkey, hs.extBut T _ (Nat.ne_of_gt hTI) hT, hTI⟩ ⟨⟨ok, ov, he⟩, hd.extBut hs.extBut hne⟩ fun b o hb e => hs.extBut b o (fun h => hb (by simp [h])) e
  done := fun s Q E st hQ => by
    obtain ⟨⟨ok, ov, he⟩, hm⟩ := st
    exact wpAny_pyNext_items_end hh he hm (by simp) fun h' hx => hQ h' s.toks fun b o hb e => hx b o (fun h => hb (by simp [h])) e
/-- over the items of a dict with keys of text; the body stores the names xs alone -/
theorem for_itemsT (xs : List Str) {elts : List Expr} {kk : Nat} {pos : Pos} {body orelse : List Stmt} {vw d : Addr} {kvs : List (Str × Value)} {m : Str → Option Value}
    (hh : A.handled = none) (hE : PassesOwn (model prog w) A env E) (hv : s.heap.IsItemsView vw d) {od : Obj} (hod : s.heap.get? d = some od) (hdi : od.IsDictOf (strKind prog w) kvs) (hdL : d ≠ env.locals) (hd0 : h₀.get? d = none)
    (J : Nat → (Str → Option Value) → (Addr → Obj → Prop) → Prop) (mono : ∀ i m P P', (∀ a o, P a o → P' a o) → J i m P → J i m P')
    (F : Fr h₀ env.locals s.heap m) (h0 : J 0 m (OwnA h₀ env.locals s.heap))
    (turn : ∀ I i T k t x u h tk oI, kvs[i]? = some (k, x) → I ≠ env.locals → h₀.get? I = none → s.heap.get? I = none → Fr h₀ env.locals h (ovr xs u m) → J i u (OwnI I h₀ env.locals h) → h.get? I = some oI → h.get? d = some od → OwnA h₀ env.locals h T { cls := .type "tuple", data := .seq #[.str k t, x] } → @LT.lt Nat _ I T → ∀ R : Flow → Shared → Prop, (∀ f s', Turn s h₀ env.locals Q (fun h' m₂ => (h'.get? I = some oI ∧ h'.get? d = some od) ∧ J (i + 1) m₂ (OwnI I h₀ env.locals h') ∧ ∀ y, xs.contains y = false → m₂ y = m y) f s' → R f s') →
      wpAny (model prog w) A (assign (.Tuple elts kk pos) env (.ref T)) (fun _ s₂ => wpAny (model prog w) A (execs body env) R E s₂) E { s with heap := h, toks := tk })
    (done : ∀ u h tk, Fr h₀ env.locals h (ovr xs u m) → J kvs.length u (OwnA h₀ env.locals h) → wpAny (model prog w) A (execs orelse env) Q E { s with heap := h, toks := tk }) :
    wpAny (model prog w) A (pyIter (.ref vw)) (fun it s₂ => codeAny (model prog w) A (.forLoop (.Tuple elts kk pos) it body orelse env) (fun r s' => match r with | .ok f => Q f s' | .error e => cameBackBy (model prog w) A env E e s') s₂) E s := by
  have hdo : s.heap.DictOf (strKind prog w) d kvs := Heap.dictOf_iff.mpr ⟨od, hod, hdi⟩
  obtain ⟨ep, hat⟩ := hdo.dictAt
  have hne : d ≠ s.heap.objs.size := Nat.ne_of_lt hat.lt_size
  refine wpAny_pyIter_items hv hat ?_
  have hIL : s.heap.objs.size ≠ env.locals := Nat.ne_of_gt F.ns.lt
  have hI0 : h₀.get? s.heap.objs.size = none := next_is_new F
  have hLI : @LT.lt Nat _ env.locals s.heap.objs.size := F.ns.lt
  refine forT (itemTurns (knd := strKind prog w) hh s.heap.objs.size d hne kvs ep) hE
    ⟨⟨.none, .none, Heap.get?_push_size _ rfl⟩, hat.push _⟩ hI0 (fun i m₁ P => (J i m₁ P ∧ P d od) ∧ ∀ y, xs.contains y = false → m₁ y = m y) (fun i m P P' k x => ⟨⟨mono i m P P' k x.1.1, k _ _ x.1.2⟩, x.2⟩) (F.push _) hIL
    ⟨⟨mono _ _ _ _ (fun a o x => ⟨⟨Heap.get?_push_of_some _ x.1, x.2⟩, Nat.ne_of_lt (Heap.lt_size x.1)⟩) h0, ⟨⟨Heap.get?_push_of_some _ hod, hdL, hd0⟩, hne⟩⟩, fun _ _ => rfl⟩ (fun i v m₁ h tk hi hP F₁ hJ st R hR => ?_) fun m₁ h tk F₁ hJ => ?_
  · obtain ⟨T, key, k, x, rfl, hx, hkey, hT, hTI⟩ := hP
    obtain ⟨t, rfl⟩ := Value.isStrOf_shape hkey
    obtain ⟨⟨ok, ov, he⟩, hda⟩ := st
    have hTL : T ≠ env.locals := Nat.ne_of_gt (Nat.lt_trans hLI hTI)
    have hT0 : h₀.get? T = none := Heap.get?_none_of_le (Nat.le_trans F.above (Nat.le_of_lt (Nat.lt_trans hLI hTI)))
    refine wpAny_mono (turn _ i T k t x m₁ h tk _ hx hIL hI0 (Heap.get?_none_of_le (Nat.le_refl _)) (by rw [ovr_self xs m₁ m hJ.2]; exact F₁) hJ.1.1 he hJ.1.2.1.1 ⟨hT, hTL, hT0⟩ hTI _ fun _ _ x => x) (fun _ s₂ h₂ => wpAny_mono h₂ (fun f s₃ h₃ => hR _ _ ?_) fun _ _ x => x) fun _ _ x => x
    have fin : ∀ h' m₂, (h'.get? s.heap.objs.size = some _ ∧ h'.get? d = some od) ∧ J (i + 1) m₂ (OwnI s.heap.objs.size h₀ env.locals h') ∧ (∀ y, xs.contains y = false → m₂ y = m y) →
        ((∃ ok ov, IsItemIter h' s.heap.objs.size d (i + 1) kvs.length ep ok ov) ∧ h'.DictAt (strKind prog w) d kvs ep) ∧ (J (i + 1) m₂ (OwnI s.heap.objs.size h₀ env.locals h') ∧ OwnI s.heap.objs.size h₀ env.locals h' d od) ∧ ∀ y, xs.contains y = false → m₂ y = m y := fun h' m₂ ⟨⟨a, b⟩, c, e⟩ =>
      ⟨⟨⟨ok, ov, a⟩, hda.at' fun o q => by rw [hJ.1.2.1.1] at q; rw [b]; exact q⟩, ⟨c, ⟨⟨b, hdL, hd0⟩, hne⟩⟩, e⟩
    cases f with
    | brk => exact h₃
    | ret v => exact h₃
    | next => obtain ⟨h', tk', m₂, e, F₂, k⟩ := h₃; exact ⟨h', tk', m₂, e, F₂, fin h' m₂ k⟩
    | cont => obtain ⟨h', tk', m₂, e, F₂, k⟩ := h₃; exact ⟨h', tk', m₂, e, F₂, fin h' m₂ k⟩
  · exact done m₁ h tk (by rw [ovr_self xs m₁ m hJ.2]; exact F₁) (mono _ _ _ _ (fun _ _ x => x.1) hJ.1.1)
/-- a while, by what holds at its head and a number that every turn lowers; the body stores the names xs alone -/
theorem while_T (xs : List Str) {test : PySem.Expr} {body orelse : List Stmt} {pos : Pos} {m : Str → Option Value} (hE : PassesOwn (model prog w) A env E)
    (J : Nat → (Str → Option Value) → Heap → Prop) (F : Fr h₀ env.locals s.heap m) (k₀ : Nat) (h0 : J k₀ m s.heap)
    (turn : ∀ k u h tk, Fr h₀ env.locals h (ovr xs u m) → J k u h → ∀ R : Flow → Shared → Prop, (∀ f s', Turn s h₀ env.locals Q (fun h' m₂ => (∃ k', k' < k ∧ J k' m₂ h') ∧ ∀ y, xs.contains y = false → m₂ y = m y) f s' → R f s') →
      wpAny (model prog w) A (isTrue test env (eval test env)) (fun b s₂ =>
        if b then wpAny (model prog w) A (execs body env) R E s₂
        else wpAny (model prog w) A (execs orelse env) Q E s₂) E { s with heap := h, toks := tk }) :
    wpAny (model prog w) A (exec (.While test body orelse pos) env) Q E s := by
  refine wpAny_While (codeAny_whileLoop (fun k s' => ∃ h' tk m', s' = { s with heap := h', toks := tk } ∧ Fr h₀ env.locals h' m' ∧ J k m' h' ∧ ∀ y, xs.contains y = false → m' y = m y) ?_ k₀ ⟨s.heap, s.toks, m, rfl, F, h0, fun _ _ => rfl⟩)
  rintro k s' ⟨h', tk, m', rfl, F', hJ, hm⟩
  refine wpAny_mono (turn k m' h' tk (by rw [ovr_self xs m' m hm]; exact F') hJ _ fun _ _ x => x) (fun b s₂ h₂ => ?_) hE
  cases b with
  | false =>
    simp only [Bool.false_eq_true, if_false] at h₂ ⊢
    exact wpAny_passesOwn hE h₂
  | true =>
    simp only [if_true] at h₂ ⊢
    refine wpAny_mono h₂ (fun f s₃ h₃ => ?_) hE
    cases f with
    | brk => exact h₃
    | ret v => exact h₃
    | next => obtain ⟨h₃', tk₃, m₂, e, F₃, ⟨k', hk, hJ₃⟩, hm₃⟩ := h₃; exact ⟨k', hk, h₃', tk₃, m₂, e, F₃, hJ₃, hm₃⟩
    | cont => obtain ⟨h₃', tk₃, m₂, e, F₃, ⟨k', hk, hJ₃⟩, hm₃⟩ := h₃; exact ⟨k', hk, h₃', tk₃, m₂, e, F₃, hJ₃, hm₃⟩
end
/-- what a piece that touches D alone leaves -/
def Kept (D : List Addr) (h₀ : Heap) (L : Addr) (h h' : Heap) : Prop := ∀ a o, OwnA h₀ L h a o → a ∉ D → OwnA h₀ L h' a o
theorem Kept.trans {D : List Addr} {h₀ h₁ h₂ h₃ : Heap} {L : Addr} (x : Kept D h₀ L h₁ h₂) (y : Kept D h₀ L h₂ h₃) : Kept D h₀ L h₁ h₃ := fun a o e n => y a o (x a o e n) n
theorem Kept.of_zed {D : List Addr} {h₀ h h' : Heap} {L : Addr} {Z r : List (Addr × Obj)} (hZ : ∀ a o, h.get? a = some o → a ≠ L → h₀.get? a = none → a ∉ D → (a, o) ∈ Z) (N : News h₀ L h' r) (hs : ∀ p ∈ Z, p ∈ r) : Kept D h₀ L h h' := fun a o e n => N _ (hs _ (hZ a o e.1 e.2.1 e.2.2 n))
theorem Kept.of_call {D : List Addr} {h₀ h h' : Heap} {L : Addr} (kp : ∀ b o, b ∉ D → h.get? b = some o → h'.get? b = some o) : Kept D h₀ L h h' := fun a o e n => ⟨kp a o n e.1, e.2⟩
theorem allLt_mem {d : Addr} : ∀ {Z : List (Addr × Obj)}, AllLt d Z → ∀ p ∈ Z, p.1 ≠ d
  | [], _, _, h => nomatch h
  | _ :: _, x, p, h => by
    cases h with
    | head => exact Nat.ne_of_lt x.1
    | tail _ h => exact allLt_mem x.2 p h
end Mine
end PartLq
section PartMc
namespace Mine
/-- the inner def of _make_dfas, made -/
inductive CloAt (g : Heap) (L : Addr) (h : Heap) (params : Arguments) (body : List Stmt) (scope : Scope) (f cell c' : Addr) (qual : Str) (pm doc ctv : Value) (oc oc' : Obj) : Prop
  | ctr (h1 : OwnA g L h f (fnMade "addclosure" qual params body scope [("addclosure", cell)] doc pm c' ctv)) (h2 : OwnA g L h cell oc) (h3 : oc.data = .cell (some (.ref f))) (h4 : OwnA g L h c' oc') (vs : Array Value) (t : Nat) (h5 : oc'.data = .fields vs) (h6 : vs[1]? = some (.str qual t)) :
    CloAt g L h params body scope f cell c' qual pm doc ctv oc oc'
/-- a state of the result -/
structure DS where
  a : Addr
  dx : Addr
  sl : Addr
  ad : Addr
  S : List Nat
abbrev refE (E : List (Str × Addr)) : List (Str × Value) := E.map fun e => (e.1, .ref e.2)
inductive RepDS (w : World) (nd : Nat → Addr) (e : Nat) (P : Addr → Obj → Prop) (ds : DS) (E : List (Str × Addr)) : Prop
  | ctr (nad td : Addr) (t1 t2 t3 t4 t5 t6 t7 n n' : Nat) (o : Obj) (h1 : P ds.a (instObj 109 ds.dx)) (h2 : P ds.dx (dictOf (dfaDict w t1 t2 t3 t4 t5 t6 t7 ds.sl ds.ad nad td (decide (e ∈ ds.S))) n)) (h3 : P ds.sl (W.listOf (refsOf nd ds.S).toArray n'))
    (h4 : P ds.ad o) (h5 : o.IsDictOf (strKind PySem.Challenge.rw_iv0023_01.row.prog w) (refE E) ∧ (ds.ad == sysModules) = false) : RepDS w nd e P ds E
theorem RepDS.mono {w : World} {nd : Nat → Addr} {e : Nat} {P P' : Addr → Obj → Prop} {ds : DS} {E : List (Str × Addr)} (x : RepDS w nd e P ds E) (k : ∀ a o, P a o → P' a o) : RepDS w nd e P' ds E :=
  let ⟨nad, td, t1, t2, t3, t4, t5, t6, t7, n, n', o, h1, h2, h3, h4, h5⟩ := x; ⟨nad, td, t1, t2, t3, t4, t5, t6, t7, n, n', o, k _ _ h1, k _ _ h2, k _ _ h3, k _ _ h4, h5⟩
section
variable {w : World} {A A₀ : Around} {base g : Heap} {outer : List Env} {env : Env} {p : Program} {loose : List Str} {mean : ExcName → Option Value} {mg mb : Str → Option Value} {s : Shared}
  {L : Addr} {m : Str → Option Value} {Q E : Value → Shared → Prop} {nd : Nat → Addr} {cnt : Nat} {AL : List Arc}
theorem fr_none {h : Heap} {a : Addr} (F : Fr g L h m) (ha : h.objs.size ≤ a) : a ≠ L ∧ g.get? a = none :=
  have hL : @LT.lt Nat _ L a := Nat.lt_of_lt_of_le F.ns.lt ha
  ⟨Nat.ne_of_gt hL, Heap.get?_none_of_le (Nat.le_trans F.above (Nat.le_of_lt hL))⟩
theorem call_add (hc5 : cnt ≤ 5) {params : Arguments} {body : List Stmt} {scope : Scope} (hS : addDef = some (Str.ofString "addclosure", params, body, scope)) {f cell c' : Addr} {qual : Str} {ctv doc pm : Value} {oc oc' : Obj}
    (B₀ : Below A₀ base outer g) (F : Fr g L s.heap m) (X : (hdTop.heap_39 w.params).In g) (T : Top p loose mean mg mb g) (hh : A.handled = none) (hA : A.frames = some (env :: outer)) (hf : env.frame = some L) (hke : env.scope.kind = .function)
    (hroom : A.depth + 14 < recursionLimit) (hun : A.units + 100 < cLine) (G : GraphAt w g nd cnt AL) {i l n : Nat} (hi : i < cnt) (hC : CloAt g L s.heap params body scope f cell c' qual pm doc ctv oc oc') {B : List Nat} (hl : OwnA g L s.heap l (W.listOf (refsOf nd B).toArray n)) (hB : B.Nodup) (hBc : ∀ j ∈ B, j < cnt)
    (h : ∀ h' tk' B' n', Fr g L h' m → Kept [l] g L s.heap h' → OwnA g L h' l (W.listOf (refsOf nd B').toArray n') → Clos AL i B B' → Q .none { s with heap := h', toks := tk' }) :
    wpAny (model PySem.Challenge.rw_iv0023_01.row.prog w) A (call (.ref f) [.ref (nd i), .ref l]) Q E s := by
  obtain ⟨hcf, hcc, hocd, hcc', vs, t, hv1, hv2⟩ := hC
  refine call_con [l] B₀ F X T hh hA hf hke (fun d hd => by rw [List.mem_singleton.mp hd]; exact hl.2) (fun g2 C2 st2 kp hn => ?_) ?_
    (Post := fun v h' => v = .none ∧ ∃ B' n', h'.get? l = some (W.listOf (refsOf nd B').toArray n') ∧ Clos AL i B B')
  · have nf : ∀ b o, s.heap.get? b = some o → o.cls ≠ .type "list" → b ∉ [l] := fun b o e hc q => by
      rw [List.mem_singleton.mp q, hl.1] at e; cases e; exact hc rfl
    refine add_con hc5 hS cnt C2 (by omega) (by omega) (G.keeps st2) hi (kp _ _ (nf _ _ hcf.1 (by intro q; first | (injection q with q; revert q; decide) | (cases q; done))) hcf.1) (kp _ _ (fun q => ?_) hcc.1) hocd ⟨c', oc', vs, t, rfl, kp _ _ (fun q => ?_) hcc'.1, hv1, hv2⟩ (hn l (.head _)) hl.1 hB hBc (by omega)
    · have e := hcc.1; rw [List.mem_singleton.mp q, hl.1] at e; cases e; cases hocd
    · have e := hcc'.1; rw [List.mem_singleton.mp q, hl.1] at e; cases e; cases hv1
  · rintro v h' tk' F' kp ⟨rfl, B', n', h1, h2⟩
    exact h h' tk' B' n' F' (Kept.of_call kp) ⟨h1, hl.2⟩ h2
theorem call_same (B₀ : Below A₀ base outer g) (F : Fr g L s.heap m) (X : (hdTop.heap_39 w.params).In g) (T : Top p loose mean mg mb g) (hh : A.handled = none) (hA : A.frames = some (env :: outer)) (hf : env.frame = some L) (hke : env.scope.kind = .function)
    (hroom : A.depth + 14 < recursionLimit) (hun : A.units + 100 < cLine) (G : GraphAt w g nd cnt AL) {l1 l2 n1 n2 : Nat} {B1 B2 : List Nat} (h1 : OwnA g L s.heap l1 (W.listOf (refsOf nd B1).toArray n1)) (h2 : OwnA g L s.heap l2 (W.listOf (refsOf nd B2).toArray n2))
    (hB1 : ∀ j ∈ B1, j < cnt) (hB2 : ∀ j ∈ B2, j < cnt) (h15 : B1.length ≤ 5) (h25 : B2.length ≤ 5)
    (h : ∀ h' tk' b, Fr g L h' m → Kept [] g L s.heap h' → (b = true ↔ B1.length = B2.length ∧ ∀ x ∈ B1, x ∈ B2) → Q (.bool b) { s with heap := h', toks := tk' }) :
    wpAny (model PySem.Challenge.rw_iv0023_01.row.prog w) A (call (.ref 120) [.ref l1, .ref l2]) Q E s := by
  refine call_con [] B₀ F X T hh hA hf hke (fun d hd => nomatch hd) (fun g2 C2 st2 kp hn => ?_) ?_ (Post := fun v h' => ∃ b, v = .bool b ∧ (b = true ↔ B1.length = B2.length ∧ ∀ x ∈ B1, x ∈ B2))
  · exact same_con C2 (by omega) (by omega) (G.keeps st2) (kp _ _ List.not_mem_nil h1.1) (kp _ _ List.not_mem_nil h2.1) hB1 hB2 h15 h25
  · rintro v h' tk' F' kp ⟨b, rfl, hb⟩
    exact h h' tk' b F' (Kept.of_call kp) hb
theorem call_dfa (B₀ : Below A₀ base outer g) (F : Fr g L s.heap m) (X : (hdTop.heap_39 w.params).In g) (T : Top p loose mean mg mb g) (hh : A.handled = none) (hA : A.frames = some (env :: outer)) (hf : env.frame = some L) (hke : env.scope.kind = .function)
    (hroom : A.depth + 14 < recursionLimit) (hun : A.units + 100 < cLine) (G : GraphAt w g nd cnt AL) {sl n e : Nat} {t : Tok} {S : List Nat} (h1 : OwnA g L s.heap sl (W.listOf (refsOf nd S).toArray n)) (hne : S ≠ []) (hS : ∀ j ∈ S, j < cnt) (he : e < cnt)
    (h : ∀ h' tk' (ds : DS), ds.sl = sl → ds.S = S → s.heap.objs.size ≤ ds.dx → @LT.lt Nat _ ds.dx ds.a → @LT.lt Nat _ ds.a ds.ad → Fr g L h' m → Kept [] g L s.heap h' → RepDS w nd e (OwnA g L h') ds [] → Q (.ref ds.a) { s with heap := h', toks := tk' }) :
    wpAny (model PySem.Challenge.rw_iv0023_01.row.prog w) A (call (.ref 109) [.str "r" t, .ref sl, .ref (nd e)]) Q E s := by
  obtain ⟨b, S, rfl⟩ := List.exists_cons_of_ne_nil hne
  refine call_con [] B₀ F X T hh hA hf hke (fun d hd => nomatch hd) (fun g2 C2 st2 kp hn => dfa_con C2 (by omega) (by omega) (G.keeps st2) (kp _ _ List.not_mem_nil h1.1) hS he) ?_
  rintro v h' tk' F' kp ⟨x, dx, ad, nad, td, t1, t2, t3, t4, t5, t6, t7, n, o, rfl, l1, l2, l3, g1, g2, g3, g4, g5⟩
  have l2' : @LT.lt Nat _ dx x := l2
  have l3' : @LT.lt Nat _ x ad := l3
  have hx : s.heap.objs.size ≤ x := by omega
  have ha : s.heap.objs.size ≤ ad := by omega
  exact h h' tk' ⟨x, dx, sl, ad, b :: S⟩ rfl rfl l1 l2 l3 F' (Kept.of_call kp) ⟨nad, td, t1, t2, t3, t4, t5, t6, t7, n, _, o, ⟨g1, fr_none F hx⟩, ⟨g2, fr_none F l1⟩, ⟨kp _ _ List.not_mem_nil h1.1, h1.2⟩, ⟨g3, fr_none F ha⟩, g4, g5⟩
theorem call_addarc (B₀ : Below A₀ base outer g) (F : Fr g L s.heap m) (X : (hdTop.heap_39 w.params).In g) (T : Top p loose mean mg mb g) (hh : A.handled = none) (hA : A.frames = some (env :: outer)) (hf : env.frame = some L) (hke : env.scope.kind = .function)
    (hroom : A.depth + 14 < recursionLimit) (hun : A.units + 100 < cLine) {e : Nat} {ds ds2 : DS} {E1 E2 : List (Str × Addr)} {lab : Str} {t : Tok} (h1 : RepDS w nd e (OwnA g L s.heap) ds E1) (h2 : RepDS w nd e (OwnA g L s.heap) ds2 E2) (hd1 : ds.dx ≠ ds.ad) (hd2 : ds2.dx ≠ ds.ad) (hlab : lab ∉ E1.map (·.1)) (hlen : E1.length ≤ 100)
    (h : ∀ h' tk', Fr g L h' m → Kept [ds.ad] g L s.heap h' → RepDS w nd e (OwnA g L h') ds (E1 ++ [(lab, ds2.a)]) → Q .none { s with heap := h', toks := tk' }) :
    wpAny (model PySem.Challenge.rw_iv0023_01.row.prog w) A (call (.ref 92) [.ref ds.a, .ref ds2.a, .str lab t]) Q E s := by
  obtain ⟨nad, td, t1, t2, t3, t4, t5, t6, t7, n, n', o, a1, a2, a3, a4, a5, a6⟩ := h1
  obtain ⟨nad2, td2, u1, u2, u3, u4, u5, u6, u7, k, k', o2, b1, b2, b3, b4, b5, b6⟩ := h2
  have dc : o.cls = .type "dict" := by obtain ⟨es, ep, ⟨h, _⟩, _⟩ := a5; exact h
  have nc : ∀ b ob, OwnA g L s.heap b ob → ob.cls ≠ .type "dict" → b ∉ [ds.ad] := fun b ob e hc q => by
    have := e.1; rw [List.mem_singleton.mp q, a4.1] at this; cases this; exact hc dc
  have hva : valueAt (refE E1) lab = none := by
    unfold valueAt
    rw [List.find?_eq_none.mpr, Option.map_none]
    intro kv hkv hq
    obtain ⟨e', he', rfl⟩ := List.mem_map.mp hkv
    exact hlab (List.mem_map.mpr ⟨e', he', by simpa using hq⟩)
  refine call_con [ds.ad] B₀ F X T hh hA hf hke (fun d hd => by rw [List.mem_singleton.mp hd]; exact a4.2) (fun g2 C2 st2 kp hn => addarc_con C2 (by omega) (by omega) (kp _ _ (nc _ _ a1 (by intro q; first | (injection q with q; revert q; decide) | (cases q; done))) a1.1) (kp _ _ (by simpa using hd1) a2.1)
    (kp _ _ (nc _ _ b1 (by intro q; first | (injection q with q; revert q; decide) | (cases q; done))) b1.1) (kp _ _ (by simpa using hd2) b2.1) a4.1 (hn _ (.head _)) a5 a6 hva (by simpa using hlen)) ?_
  rintro v h' tk' F' kp ⟨rfl, o', g1, g2⟩
  have hK : Kept [ds.ad] g L s.heap h' := Kept.of_call kp
  have hst : stored (refE E1) lab (.ref ds2.a) = refE (E1 ++ [(lab, ds2.a)]) := by
    unfold stored
    rw [if_neg]
    · simp [refE]
    · intro q
      obtain ⟨kv, hkv, hq⟩ := List.any_eq_true.mp q
      obtain ⟨e', he', rfl⟩ := List.mem_map.mp hkv
      exact hlab (List.mem_map.mpr ⟨e', he', by simpa using hq⟩)
  rw [hst] at g2
  exact h h' tk' F' hK ⟨nad, td, t1, t2, t3, t4, t5, t6, t7, n, n', o', hK _ _ a1 (nc _ _ a1 (by intro q; first | (injection q with q; revert q; decide) | (cases q; done))), hK _ _ a2 (by simpa using hd1), hK _ _ a3 (nc _ _ a3 (by intro q; first | (injection q with q; revert q; decide) | (cases q; done))), ⟨g1, a4.2⟩, g2, a6⟩
end
end Mine
end PartMc
section PartPm
namespace Mine
/-! the plain law of _make_dfas -/
structure TE where
  lab : Str
  tl : Addr
  U : List Nat
/-- the arcs pr taken: what every label leads to -/
structure WT (AL pr : List Arc) (T : List TE) : Prop where
  nd : (T.map (·.lab)).Nodup
  ne : ∀ t ∈ T, t.lab ≠ "" ∧ t.U.Nodup ∧ t.U ≠ []
  mem : ∀ t ∈ T, ∀ x, x ∈ t.U ↔ ∃ a ∈ pr, a.2.1 = t.lab ∧ Reach AL a.2.2 x
  all : ∀ a ∈ pr, a.2.1 ≠ "" → ∃ t ∈ T, t.lab = a.2.1
theorem WT.nil {AL : List Arc} : WT AL [] [] := ⟨List.nodup_nil, (fun _ h => nomatch h), (fun _ h => nomatch h), (fun _ h => nomatch h)⟩
theorem Clos.iff {AL : List Arc} {i : Nat} {B B' : List Nat} (c : Clos AL i B B') (hB : ∀ x ∈ B, ∀ y, epsA x y ∈ AL → y ∈ B) (x : Nat) : x ∈ B' ↔ x ∈ B ∨ Reach AL i x := by
  refine ⟨c.old x, fun h => h.elim (c.sub x) fun r => ?_⟩
  have hs : ∀ x ∈ B', ∀ y, epsA x y ∈ AL → y ∈ B' := fun x hx y he => by
    by_cases q : x ∈ B
    · exact c.sub _ (hB x q y he)
    · exact c.shut x hx q y he
  have : ∀ {u v}, Reach AL u v → u ∈ B' → v ∈ B' := fun {u v} r => by
    induction r with
    | refl => exact id
    | step h _ ih => exact fun hu => ih (hs _ hu _ h)
  exact this r c.mem
theorem WT.shutU {AL pr : List Arc} {T : List TE} (W : WT AL pr T) {t : TE} (ht : t ∈ T) : ∀ x ∈ t.U, ∀ y, epsA x y ∈ AL → y ∈ t.U := fun x hx y he => by
  obtain ⟨a, ha, e, r⟩ := (W.mem t ht x).mp hx
  exact (W.mem t ht y).mpr ⟨a, ha, e, r.trans (.step he (.refl _))⟩
theorem WT.skip {AL pr : List Arc} {T : List TE} (W : WT AL pr T) {a : Arc} (ha : a.2.1 = "") : WT AL (pr ++ [a]) T where
  nd := W.nd
  ne := W.ne
  mem := fun t ht x => by
    rw [W.mem t ht x]
    constructor
    · rintro ⟨b, hb, r⟩; exact ⟨b, List.mem_append_left _ hb, r⟩
    · rintro ⟨b, hb, e, r⟩
      rcases List.mem_append.mp hb with q | q
      · exact ⟨b, q, e, r⟩
      · rw [List.mem_singleton.mp q, ha] at e; exact absurd e.symm (W.ne t ht).1
  all := fun b hb hn => by
    rcases List.mem_append.mp hb with q | q
    · exact W.all b q hn
    · rw [List.mem_singleton.mp q] at hn; exact absurd ha hn
theorem WT.there {AL pr : List Arc} {T1 T2 : List TE} {t : TE} (W : WT AL pr (T1 ++ t :: T2)) {a : Arc} (ha : a.2.1 = t.lab) {U' : List Nat} (c : Clos AL a.2.2 t.U U') : WT AL (pr ++ [a]) (T1 ++ { t with U := U' } :: T2) := by
  have ht : t ∈ T1 ++ t :: T2 := by simp
  have hnd : (T1.map (·.lab) ++ t.lab :: T2.map (·.lab)).Nodup := by simpa using W.nd
  have oth : ∀ t' ∈ T1 ++ { t with U := U' } :: T2, t' = { t with U := U' } ∨ (t' ∈ T1 ++ t :: T2 ∧ t'.lab ≠ t.lab) := fun t' h => by
    rcases List.mem_append.mp h with q | q
    · refine .inr ⟨List.mem_append_left _ q, fun e => ?_⟩
      exact (List.nodup_append.mp hnd).2.2 t'.lab (List.mem_map.mpr ⟨t', q, rfl⟩) t.lab (.head _) e
    · rcases List.mem_cons.mp q with rfl | q
      · exact .inl rfl
      · refine .inr ⟨List.mem_append_right _ (.tail _ q), fun e => ?_⟩
        exact (List.nodup_cons.mp (List.nodup_append.mp hnd).2.1).1 (e ▸ List.mem_map.mpr ⟨t', q, rfl⟩)
  refine ⟨by simpa using W.nd, fun t' h => ?_, fun t' h x => ?_, fun b hb hn => ?_⟩
  · rcases oth t' h with rfl | ⟨q, _⟩
    · refine ⟨(W.ne t ht).1, c.nodup, fun e => ?_⟩
      have := c.mem
      rw [show U' = [] from e] at this; cases this
    · exact W.ne t' q
  · rcases oth t' h with rfl | ⟨q, hne⟩
    · show x ∈ U' ↔ ∃ b ∈ pr ++ [a], b.2.1 = t.lab ∧ _
      rw [c.iff (W.shutU ht) x, W.mem t ht x]
      constructor
      · rintro (⟨b, hb, e, r⟩ | r)
        · exact ⟨b, List.mem_append_left _ hb, e, r⟩
        · exact ⟨a, by simp, ha, r⟩
      · rintro ⟨b, hb, e, r⟩
        rcases List.mem_append.mp hb with q | q
        · exact .inl ⟨b, q, e, r⟩
        · rw [List.mem_singleton.mp q] at r; exact .inr r
    · rw [W.mem t' q x]
      constructor
      · rintro ⟨b, hb, e, r⟩; exact ⟨b, List.mem_append_left _ hb, e, r⟩
      · rintro ⟨b, hb, e, r⟩
        rcases List.mem_append.mp hb with q2 | q2
        · exact ⟨b, q2, e, r⟩
        · rw [List.mem_singleton.mp q2, ha] at e; exact absurd e.symm hne
  · rcases List.mem_append.mp hb with q | q
    · obtain ⟨t', h', e⟩ := W.all b q hn
      by_cases q2 : t'.lab = t.lab
      · exact ⟨{ t with U := U' }, by simp, by rw [← e, ← q2]⟩
      · refine ⟨t', ?_, e⟩
        rcases List.mem_append.mp h' with q3 | q3
        · exact List.mem_append_left _ q3
        · rcases List.mem_cons.mp q3 with rfl | q3
          · exact absurd rfl q2
          · exact List.mem_append_right _ (.tail _ q3)
    · exact ⟨{ t with U := U' }, by simp, by rw [List.mem_singleton.mp q, ha]⟩
theorem WT.new {AL pr : List Arc} {T : List TE} (W : WT AL pr T) {a : Arc} (ha : a.2.1 ≠ "") (hn : ∀ t ∈ T, t.lab ≠ a.2.1) {tl : Addr} {U' : List Nat} (c : Clos AL a.2.2 [] U') : WT AL (pr ++ [a]) (T ++ [⟨a.2.1, tl, U'⟩]) where
  nd := by
    rw [List.map_append]
    refine List.nodup_append.mpr ⟨W.nd, by simp, fun b hb b' hb' e => ?_⟩
    obtain ⟨t, ht, rfl⟩ := List.mem_map.mp hb
    rw [List.map_cons, List.map_nil] at hb'
    exact hn t ht (e.trans (List.mem_singleton.mp hb'))
  ne := fun t ht => by
    rcases List.mem_append.mp ht with q | q
    · exact W.ne t q
    · rw [List.mem_singleton.mp q]
      refine ⟨ha, c.nodup, fun e => ?_⟩
      have := c.mem
      simp only at e
      rw [e] at this; cases this
  mem := fun t ht x => by
    rcases List.mem_append.mp ht with q | q
    · rw [W.mem t q x]
      constructor
      · rintro ⟨b, hb, e, r⟩; exact ⟨b, List.mem_append_left _ hb, e, r⟩
      · rintro ⟨b, hb, e, r⟩
        rcases List.mem_append.mp hb with q2 | q2
        · exact ⟨b, q2, e, r⟩
        · rw [List.mem_singleton.mp q2] at e; exact absurd e.symm (hn t q)
    · rw [List.mem_singleton.mp q]
      show x ∈ U' ↔ ∃ b ∈ pr ++ [a], b.2.1 = a.2.1 ∧ _
      rw [c.iff (fun _ h => nomatch h) x]
      constructor
      · rintro (h | r)
        · cases h
        · exact ⟨a, by simp, rfl, r⟩
      · rintro ⟨b, hb, e, r⟩
        rcases List.mem_append.mp hb with q2 | q2
        · obtain ⟨t', h', e'⟩ := W.all b q2 (by rw [e]; exact ha)
          exact absurd (e'.trans e) (hn t' h')
        · rw [List.mem_singleton.mp q2] at r; exact .inr r
  all := fun b hb hne => by
    rcases List.mem_append.mp hb with q | q
    · obtain ⟨t, ht, e⟩ := W.all b q hne
      exact ⟨t, List.mem_append_left _ ht, e⟩
    · exact ⟨⟨a.2.1, tl, U'⟩, by simp, by rw [List.mem_singleton.mp q]⟩
theorem WT.lt {AL pr : List Arc} {T : List TE} {cnt : Nat} (W : WT AL pr T) (hA : ∀ a ∈ AL, a.1 < cnt ∧ a.2.2 < cnt) (hp : ∀ a ∈ pr, a ∈ AL) {t : TE} (ht : t ∈ T) : ∀ x ∈ t.U, x < cnt := fun x hx => by
  obtain ⟨a, ha, _, r⟩ := (W.mem t ht x).mp hx
  exact r.lt hA (hA a (hp a ha)).2
/-- where label lab leads from the set S -/
def Succ (AL : List Arc) (S : List Nat) (lab : Str) (x : Nat) : Prop := ∃ y ∈ S, ∃ z, (y, lab, z) ∈ AL ∧ Reach AL z x
theorem WT.succ {AL : List Arc} {S : List Nat} {T : List TE} (W : WT AL (S.flatMap (outOf AL)) T) {t : TE} (ht : t ∈ T) (x : Nat) : x ∈ t.U ↔ Succ AL S t.lab x := by
  rw [W.mem t ht x]
  constructor
  · rintro ⟨⟨y, l, z⟩, ha, e, r⟩
    obtain ⟨i, hi, h2⟩ := List.mem_flatMap.mp ha
    obtain ⟨h3, h4⟩ := List.mem_filter.mp h2
    have : y = i := by simpa using h4
    subst this
    simp only at e r
    exact ⟨y, hi, z, e ▸ h3, r⟩
  · rintro ⟨y, hy, z, h3, r⟩
    exact ⟨(y, t.lab, z), List.mem_flatMap.mpr ⟨y, hy, List.mem_filter.mpr ⟨h3, by simp⟩⟩, rfl, r⟩
/-- all that a state must lead to is in its dict -/
def Done (AL : List Arc) (S : List Nat) (E : List (Str × Addr)) : Prop := ∀ y ∈ S, ∀ lab z, (y, lab, z) ∈ AL → lab ≠ "" → lab ∈ E.map (·.1)
theorem WT.done {AL : List Arc} {S : List Nat} {T : List TE} (W : WT AL (S.flatMap (outOf AL)) T) {E : List (Str × Addr)} (he : E.map (·.1) = T.map (·.lab)) : Done AL S E := fun y hy lab z h hn => by
  obtain ⟨t, ht, e⟩ := W.all (y, lab, z) (List.mem_flatMap.mpr ⟨y, hy, List.mem_filter.mpr ⟨h, by simp⟩⟩) hn
  rw [he]
  exact List.mem_map.mpr ⟨t, ht, e⟩
abbrev Same (S S' : List Nat) : Prop := ∀ x, x ∈ S ↔ x ∈ S'
structure WD (AL : List Arc) (cnt b0 : Nat) (D : List DS) (E : Nat → List (Str × Addr)) : Prop where
  ok : ∀ ds ∈ D, ds.S.Nodup ∧ ds.S ≠ [] ∧ ∀ x ∈ ds.S, x < cnt
  first : ∃ ds : DS, D[0]? = some ds ∧ ∀ x, x ∈ ds.S ↔ Reach AL b0 x
  dist : (D.map (·.S)).Pairwise fun S S' => ¬ Same S S'
  edge : ∀ (i : Nat) (ds : DS), D[i]? = some ds → ∀ e ∈ E i, e.1 ≠ "" ∧ ∃ (j : Nat) (ds' : DS), D[j]? = some ds' ∧ ds'.a = e.2 ∧ ∀ x, x ∈ ds'.S ↔ Succ AL ds.S e.1 x
  keys : ∀ i, ((E i).map (·.1)).Nodup
  pred : ∀ (j : Nat) (ds : DS), D[j]? = some ds → 0 < j → ∃ i, i < j ∧ ∃ lab, (lab, ds.a) ∈ E i
def upd (E : Nat → List (Str × Addr)) (p : Nat) (v : List (Str × Addr)) : Nat → List (Str × Addr) := fun i => if i = p then v else E i
theorem upd_self {E : Nat → List (Str × Addr)} {p : Nat} {v : List (Str × Addr)} : upd E p v p = v := if_pos rfl
theorem upd_ne {E : Nat → List (Str × Addr)} {p i : Nat} {v : List (Str × Addr)} (h : i ≠ p) : upd E p v i = E i := if_neg h
theorem nodup_snoc {E : List (Str × Addr)} {lab : Str} {a : Addr} (h : (E.map (·.1)).Nodup) (hn : lab ∉ E.map (·.1)) : ((E ++ [(lab, a)]).map (·.1)).Nodup := by
  rw [List.map_append]
  refine List.nodup_append.mpr ⟨h, by simp, fun b hb b' hb' e => ?_⟩
  rw [List.map_cons, List.map_nil] at hb'
  rw [e, List.mem_singleton.mp hb'] at hb
  exact hn hb
theorem WD.link {AL : List Arc} {cnt b0 : Nat} {D : List DS} {E : Nat → List (Str × Addr)} (W : WD AL cnt b0 D E) {p j : Nat} {dp ds' : DS} (hp : D[p]? = some dp) (hj : D[j]? = some ds') {lab : Str} (hn : lab ∉ (E p).map (·.1)) (hl : lab ≠ "")
    (hS : ∀ x, x ∈ ds'.S ↔ Succ AL dp.S lab x) : WD AL cnt b0 D (upd E p (E p ++ [(lab, ds'.a)])) where
  ok := W.ok
  first := W.first
  dist := W.dist
  edge := fun i ds hi e he => by
    by_cases q : i = p
    · subst q
      rw [upd_self] at he
      obtain rfl : ds = dp := Option.some.inj (hi.symm.trans hp)
      rcases List.mem_append.mp he with h | h
      · exact W.edge i ds hi e h
      · rw [List.mem_singleton.mp h]; exact ⟨hl, j, ds', hj, rfl, hS⟩
    · rw [upd_ne q] at he; exact W.edge i ds hi e he
  keys := fun i => by
    by_cases q : i = p
    · subst q; rw [upd_self]; exact nodup_snoc (W.keys i) hn
    · rw [upd_ne q]; exact W.keys i
  pred := fun k ds hk h0 => by
    obtain ⟨i, hi, l, h⟩ := W.pred k ds hk h0
    refine ⟨i, hi, l, ?_⟩
    by_cases q : i = p
    · subst q; rw [upd_self]; exact List.mem_append_left _ h
    · rw [upd_ne q]; exact h
theorem WD.grow {AL : List Arc} {cnt b0 : Nat} {D : List DS} {E : Nat → List (Str × Addr)} (W : WD AL cnt b0 D E) {p : Nat} {dp ds' : DS} (hp : D[p]? = some dp) (h0 : ds'.S.Nodup ∧ ds'.S ≠ [] ∧ ∀ x ∈ ds'.S, x < cnt) (hd : ∀ ds ∈ D, ¬ Same ds.S ds'.S) (hE : E D.length = []) {lab : Str} (hn : lab ∉ (E p).map (·.1)) (hl : lab ≠ "")
    (hS : ∀ x, x ∈ ds'.S ↔ Succ AL dp.S lab x) : WD AL cnt b0 (D ++ [ds']) (upd E p (E p ++ [(lab, ds'.a)])) := by
  have hpl : p < D.length := (List.getElem?_eq_some_iff.mp hp).1
  have up : ∀ i ds, D[i]? = some ds → (D ++ [ds'])[i]? = some ds := fun i ds h => by rw [List.getElem?_append_left (List.getElem?_eq_some_iff.mp h).1]; exact h
  have dn : ∀ i ds, (D ++ [ds'])[i]? = some ds → D[i]? = some ds ∨ (i = D.length ∧ ds = ds') := fun i ds h => by
    rcases Nat.lt_or_ge i D.length with q | q
    · rw [List.getElem?_append_left q] at h; exact .inl h
    · rw [List.getElem?_append_right q] at h
      obtain ⟨hq, e⟩ := List.getElem?_eq_some_iff.mp h
      have : i - D.length = 0 := by simpa using hq
      refine .inr ⟨by omega, ?_⟩
      simp only [this, List.getElem_cons_zero] at e
      exact e.symm
  refine ⟨fun ds h => ?_, ?_, ?_, fun i ds hi e he => ?_, fun i => ?_, fun k ds hk h0 => ?_⟩
  · rcases List.mem_append.mp h with q | q
    · exact W.ok ds q
    · rw [List.mem_singleton.mp q]; exact h0
  · obtain ⟨ds, h, r⟩ := W.first
    exact ⟨ds, up _ _ h, r⟩
  · rw [List.map_append]
    refine List.pairwise_append.mpr ⟨W.dist, by simp, fun S hS' S' hS'' => ?_⟩
    obtain ⟨ds, h, rfl⟩ := List.mem_map.mp hS'
    rw [List.map_cons, List.map_nil] at hS''
    rw [List.mem_singleton.mp hS'']
    exact hd ds h
  · have old : ∀ i ds e, D[i]? = some ds → e ∈ E i → e.1 ≠ "" ∧ ∃ (j : Nat) (ds'' : DS), (D ++ [ds'])[j]? = some ds'' ∧ ds''.a = e.2 ∧ ∀ x, x ∈ ds''.S ↔ Succ AL ds.S e.1 x := fun i ds e hi he =>
      let ⟨a, j, ds'', b, c, d⟩ := W.edge i ds hi e he; ⟨a, j, ds'', up _ _ b, c, d⟩
    rcases dn i ds hi with h | ⟨rfl, rfl⟩
    · by_cases q : i = p
      · subst q
        rw [upd_self] at he
        obtain rfl : ds = dp := Option.some.inj (h.symm.trans hp)
        rcases List.mem_append.mp he with h2 | h2
        · exact old i ds e h h2
        · rw [List.mem_singleton.mp h2]
          exact ⟨hl, D.length, ds', by simp, rfl, hS⟩
      · rw [upd_ne q] at he; exact old i ds e h he
    · rw [upd_ne (by omega), hE] at he; cases he
  · by_cases q : i = p
    · subst q; rw [upd_self]; exact nodup_snoc (W.keys i) hn
    · rw [upd_ne q]; exact W.keys i
  · rcases dn k ds hk with h | ⟨rfl, rfl⟩
    · obtain ⟨i, hi, l, h⟩ := W.pred k ds h h0
      refine ⟨i, hi, l, ?_⟩
      by_cases q : i = p
      · subst q; rw [upd_self]; exact List.mem_append_left _ h
      · rw [upd_ne q]; exact h
    · exact ⟨p, hpl, lab, by rw [upd_self]; simp⟩
theorem split_len {α : Type} (f : α → Bool) (l : List α) : l.length = (l.filter f).length + (l.filter fun x => !f x).length := by
  induction l with
  | nil => rfl
  | cons a r ih =>
    rw [List.filter_cons, List.filter_cons, List.length_cons, ih]
    cases f a <;> simp only [Bool.not_true, Bool.not_false, if_true, Bool.false_eq_true, if_false, List.length_cons] <;> omega
/-- so many sets there are at most -/
theorem count_sets : ∀ (n : Nat) (LL : List (List Nat)), (∀ S ∈ LL, ∀ x ∈ S, x < n) → LL.Pairwise (fun S S' => ¬ Same S S') → LL.length ≤ 2 ^ n := by
  intro n
  induction n with
  | zero =>
    intro LL h hp
    match LL, h, hp with
    | [], _, _ => exact Nat.zero_le _
    | [_], _, _ => exact Nat.le_refl _
    | S :: S' :: _, h, hp =>
      refine absurd (fun x => ?_) ((List.pairwise_cons.mp hp).1 S' (.head _))
      exact ⟨fun q => absurd (h S (.head _) x q) (Nat.not_lt_zero _), fun q => absurd (h S' (.tail _ (.head _)) x q) (Nat.not_lt_zero _)⟩
  | succ n ih =>
    intro LL h hp
    have h1 := ih (LL.filter fun S => !S.contains n) (fun S hS x hx => by
      obtain ⟨h1, h2⟩ := List.mem_filter.mp hS
      have := h S h1 x hx
      have ne : x ≠ n := fun q => by subst q; simp [hx] at h2
      omega) (hp.filter _)
    have h2 := ih ((LL.filter fun S => S.contains n).map fun S => S.filter fun x => x != n) (fun S hS x hx => by
      obtain ⟨S', hS', rfl⟩ := List.mem_map.mp hS
      obtain ⟨h1, h2⟩ := List.mem_filter.mp hx
      have := h S' (List.mem_filter.mp hS').1 x h1
      have : x ≠ n := by simpa using h2
      omega) (List.pairwise_map.mpr ((hp.filter _).imp_of_mem fun {S S'} hS hS' k q => k fun x => by
        have a1 : n ∈ S := by simpa using (List.mem_filter.mp hS).2
        have a2 : n ∈ S' := by simpa using (List.mem_filter.mp hS').2
        by_cases e : x = n
        · subst e; exact ⟨fun _ => a2, fun _ => a1⟩
        · have := q x
          simpa [e] using this))
    rw [List.length_map] at h2
    have h3 : LL.length = (LL.filter fun S => S.contains n).length + (LL.filter fun S => !S.contains n).length := by
      exact split_len (fun S => S.contains n) LL
    rw [Nat.pow_succ]
    omega
end Mine
end PartPm
local macro_rules | `(tactic| k_mem) => `(tactic| assumption)
local macro_rules | `(tactic| k_all) => `(tactic| assumption)
section PartLa
namespace Mine
theorem offLa : True := by (w_top off; exact True.intro)
def makeDef : Option (Str × Arguments × List Stmt × Scope) := (PySem.Challenge.pw_iv0023_01.main.body[7]?).bind defParts
def whileParts : Stmt → List Stmt
  | .While _ b _ _ => b
  | _ => []
def whileBody : List Stmt := (makeBody[7]?).elim [] whileParts
abbrev makeEnv (nm : Str) (scope : Scope) (L : Addr) : Env := envOfC nm scope L 127 (.ref 126)
theorem nodup_sub {α : Type} [DecidableEq α] : ∀ {xs ys : List α}, xs.Nodup → (∀ x ∈ xs, x ∈ ys) → xs.length ≤ ys.length
  | [], _, _, _ => Nat.zero_le _
  | x :: r, ys, hn, h => by
    have hx := h x (.head _)
    have := nodup_sub (ys := ys.erase x) (List.nodup_cons.mp hn).2 fun y hy => (List.mem_erase_of_ne (by rintro rfl; exact (List.nodup_cons.mp hn).1 hy)).mpr (h y (.tail _ hy))
    have e := List.length_erase_of_mem hx
    have := List.length_pos_of_mem hx
    rw [List.length_cons]; omega
theorem WT.len {AL pr : List Arc} {Ts : List TE} (W : WT AL pr Ts) (hp : ∀ a ∈ pr, a ∈ AL) : Ts.length ≤ AL.length := by
  have := nodup_sub (ys := AL.map (·.2.1)) W.nd fun l hl => by
    obtain ⟨t, ht, rfl⟩ := List.mem_map.mp hl
    obtain ⟨x, hx⟩ := List.exists_mem_of_ne_nil _ (W.ne t ht).2.2
    obtain ⟨a, ha, e, _⟩ := (W.mem t ht x).mp hx
    exact List.mem_map.mpr ⟨a, hp a ha, e⟩
  simpa using this
abbrev refT (Ts : List TE) : List (Str × Value) := Ts.map fun t => (t.lab, .ref t.tl)
theorem valueAt_te {Ts : List TE} (hn : (Ts.map (·.lab)).Nodup) {t : TE} (ht : t ∈ Ts) : valueAt (refT Ts) t.lab = some (.ref t.tl) := by
  induction Ts with
  | nil => cases ht
  | cons t' r ih =>
    unfold valueAt refT at *
    rw [List.map_cons, List.find?_cons]
    by_cases q : t'.lab = t.lab
    · have : t' = t := by
        rcases List.mem_cons.mp ht with rfl | h
        · rfl
        · exact absurd (List.mem_map.mpr ⟨t, h, q.symm⟩) (List.nodup_cons.mp hn).1
      subst this
      simp
    · rw [decide_eq_false q]
      rcases List.mem_cons.mp ht with rfl | h
      · exact absurd rfl q
      · exact ih (List.nodup_cons.mp hn).2 h
theorem valueAt_no {Ts : List TE} {lab : Str} (h : ∀ t ∈ Ts, t.lab ≠ lab) : valueAt (refT Ts) lab = none := by
  unfold valueAt
  rw [List.find?_eq_none.mpr, Option.map_none]
  intro kv hkv hq
  obtain ⟨t, ht, rfl⟩ := List.mem_map.mp hkv
  exact h t ht (by simpa using hq)
theorem stored_no {Ts : List TE} {lab : Str} {nl : Addr} {U : List Nat} (h : ∀ t ∈ Ts, t.lab ≠ lab) : stored (refT Ts) lab (.ref nl) = refT (Ts ++ [⟨lab, nl, U⟩]) := by
  unfold stored
  rw [if_neg]
  · simp [refT]
  · intro q
    obtain ⟨kv, hkv, hq⟩ := List.any_eq_true.mp q
    obtain ⟨t, ht, rfl⟩ := List.mem_map.mp hkv
    exact h t ht (by simpa using hq)
theorem ovr_sub {xs ys : List Str} {u m' m : Str → Option Value} (hs : ∀ y ∈ ys, y ∈ xs) (h : ∀ y, xs.contains y = false → m' y = m y) : ∀ y, xs.contains y = false → ovr ys u m' y = m y := fun y hy => by
  unfold ovr
  rw [if_neg]
  · exact h y hy
  · intro q
    have := hs y (by simpa using q)
    simp [this] at hy
theorem ovl_sub {xs ys : List Str} {u m' m : Str → Option Value} (hs : ∀ y ∈ ys, y ∈ xs) (h : ∀ y, xs.contains y = false → m' y = m y) : ∀ y, xs.contains y = false → ovl ys u m' y = m y := by
  rw [← ovr_ovl]; exact ovr_sub hs h
local macro_rules | `(tactic| k_same2) => `(tactic| repeat (first | exact fun _ _ => rfl | exact ovr_base | refine ovr_if rfl ?_ | refine ovr_sub (by decide) ?_ | refine ovl_sub (by decide) ?_))
/-- the dict of labels, in the midst -/
inductive AInv (w : World) (nd : Nat → Addr) (AL : List Arc) (g : Heap) (L : Addr) (s0 : Heap) (ad : Addr) (P : Addr → Obj → Prop) (Ts : List TE) (o' : Obj) (pr : List Arc) : Prop
  | ctr (h1 : P ad o') (h2 : o'.IsDictOf (strKind PySem.Challenge.rw_iv0023_01.row.prog w) (refT Ts)) (h3 : ∀ t ∈ Ts, (∃ n, P t.tl (W.listOf (refsOf nd t.U).toArray n)) ∧ s0.get? t.tl = none)
    (h4 : ∀ a o, OwnA g L s0 a o → a ≠ ad → P a o) (h5 : (Ts.map (·.tl)).Nodup) (h6 : WT AL pr Ts) : AInv w nd AL g L s0 ad P Ts o' pr
theorem AInv.mono {w : World} {nd : Nat → Addr} {AL : List Arc} {g : Heap} {L : Addr} {s0 : Heap} {ad : Addr} {P P' : Addr → Obj → Prop} {Ts : List TE} {o' : Obj} {pr : List Arc} (x : AInv w nd AL g L s0 ad P Ts o' pr) (k : ∀ a o, P a o → P' a o) : AInv w nd AL g L s0 ad P' Ts o' pr :=
  let ⟨h1, h2, h3, h4, h5, h6⟩ := x; ⟨k _ _ h1, h2, fun t ht => ⟨let ⟨n, a⟩ := (h3 t ht).1; ⟨n, k _ _ a⟩, (h3 t ht).2⟩, fun a o e n => k _ _ (h4 a o e n), h5, h6⟩
theorem AInv.wt {w : World} {nd : Nat → Addr} {AL : List Arc} {g : Heap} {L : Addr} {s0 : Heap} {ad : Addr} {P : Addr → Obj → Prop} {Ts : List TE} {o' : Obj} {pr : List Arc} (x : AInv w nd AL g L s0 ad P Ts o' pr) : WT AL pr Ts := let ⟨_, _, _, _, _, h⟩ := x; h
theorem AInv.kp {w : World} {nd : Nat → Addr} {AL : List Arc} {g : Heap} {L : Addr} {s0 : Heap} {ad : Addr} {P : Addr → Obj → Prop} {Ts : List TE} {o' : Obj} {pr : List Arc} (x : AInv w nd AL g L s0 ad P Ts o' pr) : ∀ a o, OwnA g L s0 a o → a ≠ ad → P a o := let ⟨_, _, _, h, _, _⟩ := x; h
theorem AInv.at_ {w : World} {nd : Nat → Addr} {AL : List Arc} {g : Heap} {L : Addr} {s0 : Heap} {ad : Addr} {P : Addr → Obj → Prop} {Ts : List TE} {o' : Obj} {pr : List Arc} (x : AInv w nd AL g L s0 ad P Ts o' pr) : P ad o' := let ⟨h, _, _, _, _, _⟩ := x; h
theorem pass_zed {g h h' : Heap} {L ad : Addr} {o : Obj} {Z : List (Addr × Obj)} (had : OwnA g L h ad o) (hZ : ∀ a o, h.get? a = some o → a ≠ L → g.get? a = none → a ∉ [ad] → (a, o) ∈ Z) (N : News g L h' ((ad, o) :: Z)) : ∀ a o, OwnA g L h a o → OwnA g L h' a o := fun a o' x => by
  by_cases q : a = ad
  · subst q
    have e := x.1
    rw [had.1] at e
    cases e
    exact N _ (.head _)
  · exact N _ (.tail _ (hZ a o' x.1 x.2.1 x.2.2 (by simpa using q)))
theorem OwnA.ne {g h : Heap} {L a b : Addr} {o o' : Obj} (x : OwnA g L h a o) (y : OwnA g L h b o') (hc : o.cls ≠ o'.cls) : a ≠ b := fun q => by
  subst q
  have e := x.1
  rw [y.1] at e
  cases e
  exact hc rfl
theorem dict_cls {w : World} {o : Obj} {kvs : List (Str × Value)} (x : o.IsDictOf (strKind PySem.Challenge.rw_iv0023_01.row.prog w) kvs) : o.cls = .type "dict" := let ⟨_, _, ⟨h, _⟩, _⟩ := x; h
theorem CloAt.pass {g h h' : Heap} {L : Addr} {params : Arguments} {body : List Stmt} {scope : Scope} {f cell c' ad : Addr} {qual : Str} {pm doc ctv : Value} {oc oc' : Obj} (x : CloAt g L h params body scope f cell c' qual pm doc ctv oc oc')
    (k : ∀ a o, OwnA g L h a o → a ≠ ad → OwnA g L h' a o) {o : Obj} (had : OwnA g L h ad o) (ho : ∃ es ep, o.data = .dict es ep) : CloAt g L h' params body scope f cell c' qual pm doc ctv oc oc' := by
  obtain ⟨es, ep, hd⟩ := ho
  obtain ⟨c1, c2, c3, c4, vs, t, c5, c6⟩ := x
  refine ⟨k _ _ c1 fun q => ?_, k _ _ c2 fun q => ?_, c3, k _ _ c4 fun q => ?_, vs, t, c5, c6⟩
  · have q1 := c1.1; rw [q, had.1] at q1; cases q1; cases hd
  · have q1 := c2.1; rw [q, had.1] at q1; cases q1; rw [c3] at hd; cases hd
  · have q1 := c4.1; rw [q, had.1] at q1; cases q1; rw [c5] at hd; cases hd
theorem list_ne_dict {w : World} {g h : Heap} {L a b : Addr} {o : Obj} {vs : Array Value} {n : Nat} {kvs : List (Str × Value)} (x : OwnA g L h a (W.listOf vs n)) (y : OwnA g L h b o) (hd : o.IsDictOf (strKind PySem.Challenge.rw_iv0023_01.row.prog w) kvs) : a ≠ b :=
  x.ne y (by rw [dict_cls hd]; intro q; injection q with q; revert q; decide)
theorem tail_isList {g h : Heap} {L : Addr} {p : Addr × Obj} {Z : List (Addr × Obj)} {l : Addr} {vs : List Value} {n : Nat} (N : News g L h (p :: Z)) (z : (l, W.listOf vs.toArray n) ∈ Z) : h.IsList l vs.toArray := ⟨_, N.get (.tail _ z), rfl, _, rfl⟩
local macro_rules | `(tactic| walk_at "getMethod ref") => `(tactic| ((with_reducible show wpAny _ _ (getMethod (Value.ref _) (Str.ofString "setdefault") _) _ _ _); k_dflt (refine kob_method (knd := strKind PySem.Challenge.rw_iv0023_01.row.prog _) PySem.F.slot_dict_setdefault PySem.F.type_dict_setdefault (by k_asm) (List.Mem.head _) (by assumption) ?_)))
local macro_rules | `(tactic| walk_at "call builtin:dict.setdefault") => `(tactic| (k_dflt (first
  | (refine' kob_setdef_there (knd := strKind PySem.Challenge.rw_iv0023_01.row.prog _) ?N ?m ?d ?lo ?k ?a ?b ?z ?_; (case N => k_asm); (case m => k_mem); (case d => assumption); (case lo => assumption); (case k => exact strKind_is _ _ _ _); (case a => exact PySem.F.args_dict_setdefault_3 _ _ _); (case b => assumption); (case z => (rw [sizeLine_eq, List.length_map]; omega)); k_whole)
  | (refine' kob_setdef_new (knd := strKind PySem.Challenge.rw_iv0023_01.row.prog _) ?F ?N ?U ?d ?lo ?k ?a ?b ?z ?_; (case F => k_asm); (case N => k_asm); (case U => k_updF); (case d => assumption); (case lo => assumption); (case k => exact strKind_is _ _ _ _); (case a => exact PySem.F.args_dict_setdefault_3 _ _ _); (case b => assumption); (case z => (rw [sizeLine_eq, List.length_map]; omega)); k_whole; intro h' o' F' N' hd'; (try dsimp only at N'); (try k_sweep)))))
theorem FnAt.of_newsx {g h : Heap} {L f : Addr} {news : List (Addr × Obj)} {name qual : Str} {params : Arguments} {body : List Stmt} {scope : Scope} {clos : List (Str × Addr)} {doc pm : Value} {c' : Addr} {ctv : Value} (N : News g L h news) (hm : (f, fnMade name qual params body scope clos doc pm c' ctv) ∈ news) : FnAt f h := ⟨_, _, _, _, N.get hm⟩
local macro_rules | `(tactic| walk_at "callWith ref") => `(tactic| k_dflt (refine callWith_F (by exact FnAt.of_newsx (by k_asm) (by k_mem)) ?_))
theorem loopA {w : World} {A A₀ : Around} {base g : Heap} {outer : List Env} {p : Program} {loose : List Str} {mean : ExcName → Option Value} {mg mb : Str → Option Value} {nd : Nat → Addr} {cnt : Nat} {AL : List Arc}
    (hc5 : cnt ≤ 5) (hAL : AL.length ≤ 100) {nm : Str} {params params' : Arguments} {body body' : List Stmt} {scope scope' : Scope} (hM : makeDef = some (nm, params, body, scope)) (hS : addDef = some (Str.ofString "addclosure", params', body', scope'))
    {st : Stmt} (hst : whileBody[3]? = some st) {L : Addr} {m : Str → Option Value} {s : Shared} {Q : Flow → Shared → Prop}
    (B₀ : Below A₀ base outer g) (F : Fr g L s.heap m) (X : (hdTop.heap_39 w.params).In g) (T : Top p loose mean mg mb g) (hh : A.handled = none) (hA : A.frames = some (makeEnv nm scope L :: outer))
    (hroom : A.depth + 20 < recursionLimit) (hun : A.units + 200 < cLine) (G : GraphAt w g nd cnt AL)
    {f c' : Addr} {qual : Str} {ctv doc pm : Value} {oc oc' : Obj} (hC : CloAt g L s.heap params' body' scope' f (L + 1) c' qual pm doc ctv oc oc')
    {e : Nat} {ds : DS} {E : List (Str × Addr)} (hds : RepDS w nd e (OwnA g L s.heap) ds E) (hSl : ∀ x ∈ ds.S, x < cnt) (hm1 : m "state" = some (.ref ds.a)) {ad : Addr} {o : Obj} (hm2 : m "arcs" = some (.ref ad))
    (had : OwnA g L s.heap ad o) (hdo : o.IsDictOf (strKind PySem.Challenge.rw_iv0023_01.row.prog w) []) (hlo : (ad == sysModules) = false) (hne : ds.a ≠ ad ∧ ds.dx ≠ ad ∧ ds.sl ≠ ad)
    (cont : ∀ u h' tk' (Ts : List TE) o', Fr g L h' (ovr ["nfa_state", "nfa_arc", "nfa_set"] u m) → OwnA g L h' ad o' → o'.IsDictOf (strKind PySem.Challenge.rw_iv0023_01.row.prog w) (Ts.map fun t => (t.lab, .ref t.tl)) →
      (∀ t ∈ Ts, (∃ n, OwnA g L h' t.tl (W.listOf (refsOf nd t.U).toArray n)) ∧ s.heap.get? t.tl = none) → Kept [ad] g L s.heap h' → WT AL (ds.S.flatMap (outOf AL)) Ts → Q .next { s with heap := h', toks := tk' }) :
    wpAny (model PySem.Challenge.rw_iv0023_01.row.prog w) A (exec st (makeEnv nm scope L)) Q (fun _ _ => False) s := by
  cases hM
  cases hst
  obtain ⟨mm, rfl⟩ : ∃ mm : Str → Option Value, m = fun y => if y = Str.ofString "state" then some (.ref ds.a) else if y = Str.ofString "arcs" then some (.ref ad) else mm y := ⟨m, by
    funext y
    by_cases q1 : y = Str.ofString "state"
    · rw [if_pos q1, q1]; exact hm1
    · rw [if_neg q1]
      by_cases q2 : y = Str.ofString "arcs"
      · rw [if_pos q2, q2]; exact hm2
      · rw [if_neg q2]⟩
  clear hm1 hm2
  obtain ⟨hd, dp, fr, gd, un⟩ := A
  obtain rfl : fr = some _ := hA
  obtain rfl : hd = none := hh
  have hun' : un + 200 < cLine := hun
  have hroom' : dp + 20 < recursionLimit := hroom
  clear hun hroom
  obtain ⟨nad, td, t1, t2, t3, t4, t5, t6, t7, n, n', o1, a1, a2, a3, a4, a5, a6⟩ := hds
  obtain ⟨Z, NZ, hZD, hZlt, hZ⟩ := zed g L s.heap [ad]
  have z1 := hZ _ _ a1.1 a1.2.1 a1.2.2 (by simpa using hne.1)
  have z2 := hZ _ _ a2.1 a2.2.1 a2.2.2 (by simpa using hne.2.1)
  have z3 := hZ _ _ a3.1 a3.2.1 a3.2.2 (by simpa using hne.2.2)
  have hZa := hZD ad (.head _)
  have N := had.news NZ
  have hC' := hC
  obtain ⟨_, _, _, hdd, _⟩ := id hdo
  obtain ⟨c1, c2, c3, c4, cvs, ct, c5, c6⟩ := hC
  have hfa : f ≠ ad := c1.ne had (by rw [dict_cls hdo]; intro q; injection q with q; revert q; decide)
  have hca : L + 1 ≠ ad := fun q => by have q1 := c2.1; rw [q, had.1] at q1; cases q1; obtain ⟨_, _, _, q2, _⟩ := hdo; rw [c3] at q2; cases q2
  have hca' : c' ≠ ad := fun q => by have q1 := c4.1; rw [q, had.1] at q1; cases q1; obtain ⟨_, _, _, q2, _⟩ := hdo; rw [c5] at q2; cases q2
  k_steps
  refine for_listT ["nfa_state", "nfa_arc", "nfa_set"] rfl PassesOwn.never (tail_isList N z3)
    (fun i u P => ∃ Ts o', AInv w nd AL g L s.heap ad P Ts o' ((ds.S.take i).flatMap (outOf AL))) (fun i m P P' k => by rintro ⟨Ts, o', h⟩; exact ⟨Ts, o', h.mono k⟩) F ?h0 ?turn ?done
  case h0 => exact ⟨[], o, had, hdo, (fun _ h => nomatch h), fun a o e _ => e, List.nodup_nil, by rw [List.take_zero]; exact WT.nil⟩
  case done =>
    rintro u h₂ tk F₂ ⟨Ts, o', i1, i2, i3, i4, i5, i6⟩
    rw [List.length_map, List.take_length] at i6
    k_steps
    refine cont u h₂ _ Ts o' F₂ i1 i2 i3 (fun a o e hn => i4 a o e (by simpa using hn)) i6
  case turn =>
    rintro I i v u h₂ tk hv hIL hI0 hIs F₂ ⟨Ts, o', hI⟩ hit hla R1 hR1
    rw [List.getElem?_map] at hv
    obtain ⟨x, hx, rfl⟩ := Option.map_eq_some_iff.mp hv
    have hxc : x < cnt := hSl x (List.mem_of_getElem? hx)
    obtain ⟨as, ⟨d1, al, u1, u2, u3, k1, k1', b1, b2, b3⟩, hlen, hitem⟩ := G.node x hxc
    obtain ⟨oI, hoI, hoIc, hoId⟩ := id hit
    clear hZa hZlt hZ z1 z2 z3 N NZ hZD Z
    obtain ⟨Z, NZ, hZD, hZlt, hZ⟩ := zed g L h₂ [ad]
    have hZa := hZD ad (.head _)
    replace hI : AInv w nd AL g L s.heap ad (OwnI I g L h₂) Ts o' ((ds.S.take i).flatMap (outOf AL)) := hI
    have had' : OwnA g L h₂ ad o' := hI.1.1
    have N := had'.news NZ
    have htk : (ds.S.take (i + 1)).flatMap (outOf AL) = (ds.S.take i).flatMap (outOf AL) ++ outOf AL x := by rw [List.take_add_one, hx]; simp
    replace hIL : I ≠ L := hIL
    replace F₂ : Fr g L h₂ _ := F₂
    rw [ovr_ovl] at F₂
    clear NZ F
    k_steps
    (rename Fr _ _ _ _ => F'); (rename News _ _ _ _ => N')
    refine for_listT ["nfa_arc", "nfa_set"] rfl PassesOwn.never (list_kept F' b3)
      (fun idx u P => ∃ Ts o', AInv w nd AL g L s.heap ad (fun a o => P a o ∧ a ≠ I) Ts o' ((ds.S.take i).flatMap (outOf AL) ++ (outOf AL x).take idx) ∧ P I oI) (fun i m P P' k => by rintro ⟨Ts, o', h, h2⟩; exact ⟨Ts, o', h.mono fun a o e => ⟨k _ _ e.1, e.2⟩, k _ _ h2⟩) F' ?h0 ?turn ?done
    case h0 =>
      rw [List.take_zero, List.append_nil]
      exact ⟨Ts, o', hI.mono fun a o e => ⟨pass_zed had' hZ N' a o e.1, e.2⟩, pass_zed had' hZ N' I oI ⟨hoI, hIL, hI0⟩⟩
    case done =>
      rintro u3 h₃ tk3 F₃ ⟨Ts3, o3, hI3, hit3⟩
      rw [hlen, List.take_length, ← htk] at hI3
      replace hI3 : AInv w nd AL g L s.heap ad (OwnI I g L h₃) Ts3 o3 ((ds.S.take (i + 1)).flatMap (outOf AL)) := hI3
      k_steps
      refine hR1 _ _ ?_
      refine Turn.next F₃ ⟨⟨iter_stays hit hoI hit3.1, ⟨_, (hI3.kp _ _ a3 hne.2.2).1.1, rfl, _, rfl⟩⟩, ⟨Ts3, o3, hI3⟩, ?_⟩
      k_same2
    case turn =>
      rintro I2 idx v u3 h₃ tk3 hv hIL2 hI02 hIs2 F₃ ⟨Ts3, o3, hI3, hit3⟩ hit2 hla2 R2 hR2
      obtain ⟨a, ha, y, dy, v1, v2, n9, lv, rfl, y1, y2, hlab⟩ := hitem _ _ hv
      obtain ⟨oI2, hoI2, hoIc2, hoId2⟩ := id hit2
      replace hIL2 : I2 ≠ L := hIL2
      replace F₃ : Fr g L h₃ _ := F₃
      rw [ovr_ovl] at F₃
      replace hI3 : AInv w nd AL g L s.heap ad (fun a o => OwnI I2 g L h₃ a o ∧ a ≠ I) Ts3 o3 ((ds.S.take i).flatMap (outOf AL) ++ (outOf AL x).take idx) := hI3
      replace hit3 : OwnI I2 g L h₃ I oI := hit3
      have had3 : OwnA g L h₃ ad o3 := hI3.at_.1.1
      clear hZ hZa hZlt hZD N' F' Z
      obtain ⟨Z, NZ, hZD, hZlt, hZ⟩ := zed g L h₃ [ad]
      have hZa := hZD ad (.head _)
      have N := had3.news NZ
      clear NZ
      have htk2 : (ds.S.take i).flatMap (outOf AL) ++ (outOf AL x).take (idx + 1) = ((ds.S.take i).flatMap (outOf AL) ++ (outOf AL x).take idx) ++ [a] := by rw [List.take_add_one, ha, List.append_assoc]; rfl
      have haA : a ∈ AL := (List.mem_filter.mp (List.mem_of_getElem? ha)).1
      have hII : OwnA g L h₃ I2 oI2 := ⟨hoI2, hIL2, hI02⟩
      rcases hlab with ⟨hlab, rfl⟩ | ⟨hlab, t9, rfl⟩
      · k_steps
        (rename Fr _ _ _ _ => F'); (rename News _ _ _ _ => N')
        refine hR2 _ _ ?_
        refine Turn.next F' ⟨⟨iter_stays hit2 hoI2 (pass_zed had3 hZ N' _ _ hII).1, list_kept F' b3⟩, ⟨Ts3, o3, ?_, pass_zed had3 hZ N' _ _ hit3.1, hit3.2⟩, ?_⟩
        · rw [htk2]
          obtain ⟨i1, i2, i3, i4, i5, i6⟩ := hI3.mono (P' := fun a o => OwnI I2 g L _ a o ∧ a ≠ I) fun a o e => ⟨⟨pass_zed had3 hZ N' a o e.1.1, e.1.2⟩, e.2⟩
          exact ⟨i1, i2, i3, i4, i5, i6.skip hlab⟩
        · k_same2
      · have zc := hZ _ _ (hI3.kp _ _ c2 hca).1.1.1 c2.2.1 c2.2.2 (by simpa using hca)
        have zf := hZ _ _ (hI3.kp _ _ c1 hfa).1.1.1 c1.2.1 c1.2.2 (by simpa using hfa)
        have hprA : ∀ b ∈ (ds.S.take i).flatMap (outOf AL) ++ (outOf AL x).take idx, b ∈ AL := fun b hb => (List.mem_append.mp hb).elim (fun h => let ⟨_, _, h⟩ := List.mem_flatMap.mp h; (List.mem_filter.mp h).1) fun h => (List.mem_filter.mp (List.mem_of_mem_take h)).1
        have hTl : Ts3.length ≤ 100 := Nat.le_trans (hI3.wt.len hprA) hAL
        have hdo3 := hI3.2
        by_cases hT : ∃ t ∈ Ts3, t.lab = a.2.1
        · obtain ⟨t, ht, hte⟩ := hT
          have hva := valueAt_te hI3.wt.nd ht
          rw [hte] at hva
          obtain ⟨Ta, Tb, rfl⟩ := List.append_of_mem ht
          obtain ⟨i1, i2, i3, i4, i5, i6⟩ := hI3
          obtain ⟨⟨nt, htl⟩, htl0⟩ := i3 t ht
          k_steps
          (rename Fr _ _ _ _ => F'); (rename News _ _ _ _ => N')
          have htl' := pass_zed had3 hZ (fun p hp => N' p (.tail _ hp)) _ _ htl.1.1
          have hne3 : ad ≠ t.tl := fun q => list_ne_dict htl.1.1 had3 i2 q.symm
          refine call_add hc5 hS B₀ F' X T rfl rfl rfl rfl (by show dp + 14 < _; exact lt_room (by assumption) (by decide)) (by show un + 100 < _; exact lt_room (by assumption) (by decide)) G (G.arcs a haA).2
            (hC'.pass (fun b ob e hb => pass_zed had3 hZ (fun p hp => N' p (.tail _ hp)) _ _ (i4 b ob e hb).1.1) had ⟨_, _, hdd⟩) htl' (i6.ne t ht).2.1 (fun j hj => i6.lt G.arcs hprA ht j hj) ?_
          intro h4 tk4 U' n4 F4 K4 hU hc
          k_steps
          refine hR2 _ _ ?_
          refine Turn.next F4 ⟨⟨iter_stays hit2 hoI2 (K4 _ _ (pass_zed had3 hZ (fun p hp => N' p (.tail _ hp)) _ _ hII) ?_).1, list_kept F4 b3⟩, ⟨Ta ++ { t with U := U' } :: Tb, o3, ?_, ?_⟩, ?_⟩
          · simpa using Ne.symm htl.1.2
          · rw [htk2]
            have hmv : ∀ b ob, OwnI I2 g L h₃ b ob ∧ b ≠ I → b ≠ t.tl → OwnI I2 g L h4 b ob ∧ b ≠ I := fun b ob e hn => ⟨⟨K4 _ _ (pass_zed had3 hZ (fun p hp => N' p (.tail _ hp)) _ _ e.1.1) (by simpa using hn), e.1.2⟩, e.2⟩
            refine ⟨hmv _ _ i1 hne3, by simpa [refT] using i2, fun t' ht' => ?_, fun b ob e hb => hmv _ _ (i4 b ob e hb) fun q => ?_, by simpa using i5, i6.there hte.symm hc⟩
            · have hnd5 : (Ta.map (·.tl) ++ t.tl :: Tb.map (·.tl)).Nodup := by simpa using i5
              have oth : ∀ t' ∈ Ta ++ t :: Tb, t'.tl ≠ t.tl → (∃ n, OwnI I2 g L h4 t'.tl (W.listOf (refsOf nd t'.U).toArray n) ∧ t'.tl ≠ I) ∧ s.heap.get? t'.tl = none := fun t' ht' hn =>
                let ⟨n, q⟩ := (i3 t' ht').1
                ⟨⟨n, hmv _ _ q hn⟩, (i3 t' ht').2⟩
              rcases List.mem_append.mp ht' with q | q
              · refine oth t' (List.mem_append_left _ q) fun e => ?_
                exact (List.nodup_append.mp hnd5).2.2 t'.tl (List.mem_map.mpr ⟨t', q, rfl⟩) t.tl (.head _) e
              · rcases List.mem_cons.mp q with rfl | q
                · exact ⟨⟨n4, ⟨hU, htl.1.2⟩, htl.2⟩, htl0⟩
                · refine oth t' (List.mem_append_right _ (.tail _ q)) fun e => ?_
                  exact (List.nodup_cons.mp (List.nodup_append.mp hnd5).2.1).1 (e ▸ List.mem_map.mpr ⟨t', q, rfl⟩)
            · rw [q] at e; have := e.1; rw [htl0] at this; cases this
          · exact ⟨K4 _ _ (pass_zed had3 hZ (fun p hp => N' p (.tail _ hp)) _ _ hit3.1) (by simpa using Ne.symm htl.2), hit3.2⟩
          · k_same2
        · have hno : ∀ t ∈ Ts3, t.lab ≠ a.2.1 := fun t ht e => hT ⟨t, ht, e⟩
          have hva := valueAt_no hno
          obtain ⟨i1, i2, i3, i4, i5, i6⟩ := hI3
          k_steps
          (rename Fr _ _ _ _ => F'); (rename News _ _ _ _ => N')
          (rename _ ∧ AllLt _ _ => l1); (rename Obj.IsDictOf _ _ (stored _ _ _) => hd5)
          rename_i nl hA5 hB5 od5 hh5
          have pass : ∀ b ob, OwnA g L h₃ b ob → b ≠ ad → OwnA g L hh5 b ob := fun b ob e hb => N' _ (.tail _ (.tail _ (hZ b ob e.1 e.2.1 e.2.2 (by simpa using hb))))
          have hlt : ∀ b ob, OwnA g L h₃ b ob → b ≠ nl := fun b ob e q => by
            by_cases hb : b = ad
            · have h1 : @LT.lt Nat _ ad nl := l1.1
              rw [← q, hb] at h1; exact Nat.lt_irrefl _ h1
            · exact allLt_mem l1.2 _ (hZ b ob e.1 e.2.1 e.2.2 (by simpa using hb)) q
          have hnl0 : s.heap.get? nl = none := by
            cases q : s.heap.get? nl with
            | none => rfl
            | some ob =>
              have h1 := N' _ (.head _)
              have h2 : nl ≠ ad := fun q => hlt ad _ had3 q.symm
              exact absurd rfl (hlt nl ob (i4 nl ob ⟨q, h1.2⟩ h2).1.1)
          rw [stored_no (U := []) hno] at hd5
          refine call_add hc5 hS B₀ F' X T rfl rfl rfl rfl (by show dp + 14 < _; exact lt_room (by assumption) (by decide)) (by show un + 100 < _; exact lt_room (by assumption) (by decide)) G (G.arcs a haA).2
            (hC'.pass (fun b ob e hb => pass _ _ (i4 b ob e hb).1.1 hb) had ⟨_, _, hdd⟩) (B := []) (N' _ (.head _)) List.nodup_nil (fun j hj => nomatch hj) ?_
          intro h4 tk4 U' n4 F4 K4 hU hc
          k_steps
          refine hR2 _ _ ?_
          refine Turn.next F4 ⟨⟨iter_stays hit2 hoI2 (K4 _ _ (pass _ _ hII fun q => ?_) (by simpa using hlt _ _ hII)).1, list_kept F4 b3⟩, ⟨Ts3 ++ [⟨a.2.1, nl, U'⟩], od5, ?_, ?_⟩, ?_⟩
          · exact i1.1.2 q.symm
          · rw [htk2]
            have hmv : ∀ b ob, OwnI I2 g L h₃ b ob ∧ b ≠ I → b ≠ ad → OwnI I2 g L h4 b ob ∧ b ≠ I := fun b ob e hn => ⟨⟨K4 _ _ (pass _ _ e.1.1 hn) (by simpa using hlt _ _ e.1.1), e.1.2⟩, e.2⟩
            refine ⟨⟨⟨K4 _ _ (N' _ (.tail _ (.head _))) (by simpa using hlt _ _ had3), i1.1.2⟩, i1.2⟩, by simpa [refT] using hd5, fun t' ht' => ?_, fun b ob e hb => hmv _ _ (i4 b ob e hb) hb, ?_, i6.new hlab hno hc⟩
            · rcases List.mem_append.mp ht' with q | q
              · obtain ⟨⟨n, h1⟩, h2⟩ := i3 t' q
                exact ⟨⟨n, hmv _ _ h1 (list_ne_dict h1.1.1 had3 i2)⟩, h2⟩
              · rw [List.mem_singleton.mp q]
                exact ⟨⟨n4, ⟨hU, Ne.symm (hlt _ _ hII)⟩, Ne.symm (hlt _ _ hit3.1)⟩, hnl0⟩
            · rw [List.map_append]
              refine List.nodup_append.mpr ⟨i5, by simp, fun b hb b' hb' e => ?_⟩
              obtain ⟨t', ht', rfl⟩ := List.mem_map.mp hb
              rw [List.map_cons, List.map_nil] at hb'
              obtain ⟨⟨n, h1⟩, h2⟩ := i3 t' ht'
              exact hlt _ _ h1.1.1 (e.trans (List.mem_singleton.mp hb'))
          · refine ⟨K4 _ _ (pass _ _ hit3.1 fun q => ?_) (by simpa using hlt _ _ hit3.1), hit3.2⟩
            exact i1.2 q.symm
          · k_same2
end Mine
end PartLa
local macro_rules | `(tactic| k_same2) => `(tactic| repeat (first | exact fun _ _ => rfl | exact Mine.ovr_base | refine Mine.ovr_if rfl ?_ | refine Mine.ovr_sub (by decide) ?_ | refine Mine.ovl_sub (by decide) ?_))
section PartPb
namespace Mine
def chain : List (Str × Value) → (Str → Option Value) → Str → Option Value
  | [], m => m
  | (x, v) :: r, m => fun y => if y = x then some v else chain r m y
theorem chain_eq {m : Str → Option Value} : ∀ {kvs : List (Str × Value)}, (∀ q ∈ kvs, m q.1 = some q.2) → chain kvs m = m
  | [], _ => rfl
  | q :: r, h => by
    unfold chain
    rw [chain_eq fun q hq => h q (.tail _ hq)]
    funext y
    by_cases e : y = q.1
    · rw [if_pos e, e, h q (.head _)]
    · rw [if_neg e]
theorem nodup_same {A B : List Nat} (hA : A.Nodup) (hl : A.length = B.length) (hs : ∀ x ∈ A, x ∈ B) : ∀ x ∈ B, x ∈ A := fun x hx => by
  by_cases q : x ∈ A
  · exact q
  · have := nodup_sub (xs := x :: A) (ys := B) (List.nodup_cons.mpr ⟨q, hA⟩) fun y hy => (List.mem_cons.mp hy).elim (fun e => e ▸ hx) (hs y)
    rw [List.length_cons] at this; omega
theorem same_len {A B : List Nat} (hA : A.Nodup) (hB : B.Nodup) (h : Same A B) : A.length = B.length :=
  Nat.le_antisymm (nodup_sub hA fun x hx => (h x).mp hx) (nodup_sub hB fun x hx => (h x).mpr hx)
theorem snoc_cases {α : Type} {D : List α} {x ds : α} {i : Nat} (h : (D ++ [x])[i]? = some ds) : D[i]? = some ds ∨ (i = D.length ∧ ds = x) := by
  rcases Nat.lt_or_ge i D.length with q | q
  · rw [List.getElem?_append_left q] at h; exact .inl h
  · rw [List.getElem?_append_right q] at h
    obtain ⟨hq, e⟩ := List.getElem?_eq_some_iff.mp h
    have : i - D.length = 0 := by simpa using hq
    refine .inr ⟨by omega, ?_⟩
    simp only [this, List.getElem_cons_zero] at e
    exact e.symm
structure SepD (D : List DS) : Prop where
  pair : ∀ (i j : Nat) (ds ds' : DS), D[i]? = some ds → D[j]? = some ds' → i ≠ j → ds.a ≠ ds'.a ∧ ds.ad ≠ ds'.ad ∧ ds.dx ≠ ds'.ad
  self : ∀ ds ∈ D, ds.dx ≠ ds.ad
theorem SepD.grow {D : List DS} (S : SepD D) {z : Nat} (old : ∀ ds ∈ D, @LT.lt Nat _ ds.a z ∧ @LT.lt Nat _ ds.ad z ∧ @LT.lt Nat _ ds.dx z) {ds' : DS} (h1 : @LE.le Nat _ z ds'.dx) (h2 : @LT.lt Nat _ ds'.dx ds'.a) (h3 : @LT.lt Nat _ ds'.a ds'.ad) : SepD (D ++ [ds']) where
  pair := fun i j ds es hi hj hn => by
    rcases snoc_cases hi with hi' | ⟨rfl, rfl⟩ <;> rcases snoc_cases hj with hj' | ⟨rfl, rfl⟩
    · exact S.pair i j ds es hi' hj' hn
    · have := old ds (List.mem_of_getElem? hi')
      exact ⟨Nat.ne_of_lt (by omega), Nat.ne_of_lt (by omega), Nat.ne_of_lt (by omega)⟩
    · have := old es (List.mem_of_getElem? hj')
      exact ⟨Nat.ne_of_gt (by omega), Nat.ne_of_gt (by omega), Nat.ne_of_gt (by omega)⟩
    · exact absurd rfl hn
  self := fun ds h => by
    rcases List.mem_append.mp h with q | q
    · exact S.self ds q
    · rw [List.mem_singleton.mp q]; exact Nat.ne_of_lt (by omega)
section
variable {w : World} {nd : Nat → Addr} {e : Nat} {P P' : Addr → Obj → Prop} {ds : DS} {E : List (Str × Addr)} {g h : Heap} {L d I : Addr}
theorem RepDS.keepP (x : RepDS w nd e P ds E) (k : ∀ a o, P a o → a ≠ d → P' a o) (n1 : ds.a ≠ d) (n2 : ds.dx ≠ d) (n3 : ds.sl ≠ d) (n4 : ds.ad ≠ d) : RepDS w nd e P' ds E :=
  let ⟨nad, td, t1, t2, t3, t4, t5, t6, t7, n, n', o, h1, h2, h3, h4, h5⟩ := x; ⟨nad, td, t1, t2, t3, t4, t5, t6, t7, n, n', o, k _ _ h1 n1, k _ _ h2 n2, k _ _ h3 n3, k _ _ h4 n4, h5⟩
theorem RepDS.ne_list (x : RepDS w nd e (OwnA g L h) ds E) {vs : Array Value} {n : Nat} (hd : OwnA g L h d (W.listOf vs n)) : ds.a ≠ d ∧ ds.dx ≠ d ∧ ds.ad ≠ d :=
  let ⟨_, _, _, _, _, _, _, _, _, _, _, _, h1, h2, _, h4, h5, _⟩ := x
  ⟨h1.ne hd (by intro q; cases q), h2.ne hd (by intro q; injection q with q; revert q; decide), (list_ne_dict hd h4 h5).symm⟩
theorem RepDS.ne_dict (x : RepDS w nd e (OwnA g L h) ds E) {o : Obj} (hd : OwnA g L h d o) (ho : o.cls = .type "dict") : ds.a ≠ d ∧ ds.sl ≠ d :=
  let ⟨_, _, _, _, _, _, _, _, _, _, _, _, h1, _, h3, _, _, _⟩ := x
  ⟨h1.ne hd (by rw [ho]; intro q; cases q), h3.ne hd (by rw [ho]; intro q; injection q with q; revert q; decide)⟩
theorem RepDS.neI (x : RepDS w nd e (OwnI I g L h) ds E) : ds.a ≠ I ∧ ds.dx ≠ I ∧ ds.sl ≠ I ∧ ds.ad ≠ I :=
  let ⟨_, _, _, _, _, _, _, _, _, _, _, _, h1, h2, h3, h4, _, _⟩ := x; ⟨h1.2, h2.2, h3.2, h4.2⟩
theorem RepDS.withI (x : RepDS w nd e (OwnA g L h) ds E) (n : ds.a ≠ I ∧ ds.dx ≠ I ∧ ds.sl ≠ I ∧ ds.ad ≠ I) : RepDS w nd e (OwnI I g L h) ds E :=
  let ⟨nad, td, t1, t2, t3, t4, t5, t6, t7, k, k', o, h1, h2, h3, h4, h5⟩ := x; ⟨nad, td, t1, t2, t3, t4, t5, t6, t7, k, k', o, ⟨h1, n.1⟩, ⟨h2, n.2.1⟩, ⟨h3, n.2.2.1⟩, ⟨h4, n.2.2.2⟩, h5⟩
theorem RepDS.lt (x : RepDS w nd e (OwnA g L h) ds E) : @LT.lt Nat _ ds.a h.objs.size ∧ @LT.lt Nat _ ds.ad h.objs.size ∧ @LT.lt Nat _ ds.dx h.objs.size :=
  let ⟨_, _, _, _, _, _, _, _, _, _, _, _, h1, h2, _, h4, _, _⟩ := x; ⟨Heap.lt_size h1.1, Heap.lt_size h4.1, Heap.lt_size h2.1⟩
theorem RepDS.dict (x : RepDS w nd e (OwnA g L h) ds E) : ∃ o, OwnA g L h ds.ad o ∧ o.cls = .type "dict" :=
  let ⟨_, _, _, _, _, _, _, _, _, _, _, o, _, _, _, h4, h5, _⟩ := x; ⟨o, h4, dict_cls h5⟩
end
/-- the states, in the midst of a state's labels -/
structure BInv (w : World) (nd : Nat → Addr) (e : Nat) (AL : List Arc) (cnt b0 : Nat) (g : Heap) (L : Addr) (s0 : Heap) (stl : Addr) (p : Nat) (dp : DS) (D : List DS) (E : Nat → List (Str × Addr)) (Ts : List TE) (P : Addr → Obj → Prop) (D' : List DS) (E' : Nat → List (Str × Addr)) (i : Nat) : Prop where
  lst : ∃ n, P stl (W.listOf (D'.map fun d => Value.ref d.a).toArray n)
  rep : ∀ (j : Nat) ds, D'[j]? = some ds → RepDS w nd e P ds (E' j)
  sep : SepD D'
  sls : ∀ ds ∈ D', ds.sl ≠ stl
  wd : WD AL cnt b0 D' E'
  ep : (E' p).map (·.1) = (Ts.take i).map (·.lab)
  eh : ∀ k, p < k → E' k = []
  el : ∀ k, k < p → E' k = E k
  at_ : D'[p]? = some dp
  dl : ∀ j, j < D.length → D'[j]? = D[j]?
  rest : ∀ a o, OwnA g L s0 a o → a ≠ stl → a ≠ dp.ad → P a o
section
variable {w : World} {nd : Nat → Addr} {e : Nat} {AL : List Arc} {cnt b0 : Nat} {g : Heap} {L : Addr} {s0 h : Heap} {stl : Addr} {p : Nat} {dp : DS} {D : List DS} {E : Nat → List (Str × Addr)} {Ts : List TE} {P P' : Addr → Obj → Prop} {D' : List DS} {E' : Nat → List (Str × Addr)} {i : Nat}
theorem BInv.mono (x : BInv w nd e AL cnt b0 g L s0 stl p dp D E Ts P D' E' i) (k : ∀ a o, P a o → P' a o) : BInv w nd e AL cnt b0 g L s0 stl p dp D E Ts P' D' E' i :=
  ⟨let ⟨n, a⟩ := x.lst; ⟨n, k _ _ a⟩, fun j ds h => (x.rep j ds h).mono k, x.sep, x.sls, x.wd, x.ep, x.eh, x.el, x.at_, x.dl, fun a o e h1 h2 => k _ _ (x.rest a o e h1 h2)⟩
theorem BInv.new_lab (x : BInv w nd e AL cnt b0 g L s0 stl p dp D E Ts P D' E' i) {pr : List Arc} (Wt : WT AL pr Ts) {t : TE} (ht : Ts[i]? = some t) : t.lab ∉ (E' p).map (·.1) := by
  rw [x.ep]
  intro hm
  obtain ⟨t', ht', e'⟩ := List.mem_map.mp hm
  obtain ⟨j, hj, q⟩ := List.mem_iff_getElem.mp ht'
  rw [List.getElem_take] at q
  have hji : j < i := by rw [List.length_take] at hj; omega
  obtain ⟨hi, q2⟩ := List.getElem?_eq_some_iff.mp ht
  have hn := Wt.nd
  have h1 : (Ts.map (·.lab))[j]'(by rw [List.length_map]; omega) = t'.lab := by rw [List.getElem_map, q]
  have h2 : (Ts.map (·.lab))[i]'(by rw [List.length_map]; omega) = t.lab := by rw [List.getElem_map, q2]
  have := (List.getElem_inj (xs := Ts.map (·.lab)) (i := j) (j := i) hn).mp (h1.trans (e'.trans h2.symm))
  omega
theorem BInv.take (x : BInv w nd e AL cnt b0 g L s0 stl p dp D E Ts P D' E' i) {t : TE} (ht : Ts[i]? = some t) {a : Addr} : ((E' p ++ [(t.lab, a)]).map (·.1)) = (Ts.take (i + 1)).map (·.lab) := by
  rw [List.map_append, x.ep, List.take_add_one, ht]; simp
theorem BInv.link (x : BInv w nd e AL cnt b0 g L s0 stl p dp D E Ts P D' E' i) (hP : ∀ a o, P a o → OwnA g L h a o) (hK : ∀ a o, P a o → a ≠ dp.ad → P' a o) {pr : List Arc} (Wt : WT AL pr Ts) {t : TE} (ht : Ts[i]? = some t) {j : Nat} {ds' : DS} (hj : D'[j]? = some ds')
    (hS : ∀ y, y ∈ ds'.S ↔ Succ AL dp.S t.lab y) (hr : RepDS w nd e P' dp (E' p ++ [(t.lab, ds'.a)])) : BInv w nd e AL cnt b0 g L s0 stl p dp D E Ts P' D' (upd E' p (E' p ++ [(t.lab, ds'.a)])) (i + 1) where
  lst := let ⟨n, a⟩ := x.lst; ⟨n, hK _ _ a fun q => (((x.rep p dp x.at_).mono hP).ne_list (hP _ _ a)).2.2 q.symm⟩
  rep := fun k ds hk => by
    by_cases q : k = p
    · subst q
      obtain rfl : ds = dp := Option.some.inj (hk.symm.trans x.at_)
      rw [upd_self]; exact hr
    · rw [upd_ne q]
      obtain ⟨o, ho, hc⟩ := ((x.rep p dp x.at_).mono hP).dict
      have n1 := ((x.rep k ds hk).mono hP).ne_dict ho hc
      have n2 := x.sep.pair k p ds dp hk x.at_ q
      exact (x.rep k ds hk).keepP hK n1.1 n2.2.2 n1.2 n2.2.1
  sep := x.sep
  sls := x.sls
  wd := x.wd.link x.at_ hj (x.new_lab Wt ht) (Wt.ne t (List.mem_of_getElem? ht)).1 hS
  ep := by rw [upd_self]; exact x.take ht
  eh := fun k hk => by rw [upd_ne (Nat.ne_of_gt hk)]; exact x.eh k hk
  el := fun k hk => by rw [upd_ne (Nat.ne_of_lt hk)]; exact x.el k hk
  at_ := x.at_
  dl := x.dl
  rest := fun a o e h1 h2 => hK _ _ (x.rest a o e h1 h2) h2
theorem BInv.grow (x : BInv w nd e AL cnt b0 g L s0 stl p dp D E Ts P D' E' i) (hP : ∀ a o, P a o → OwnA g L h a o) (hK : ∀ a o, P a o → a ≠ stl → a ≠ dp.ad → P' a o) {pr : List Arc} (Wt : WT AL pr Ts) {t : TE} (ht : Ts[i]? = some t) {ds' : DS}
    (hS : ∀ y, y ∈ ds'.S ↔ Succ AL dp.S t.lab y) (hr : RepDS w nd e P' dp (E' p ++ [(t.lab, ds'.a)])) (hnew : RepDS w nd e P' ds' []) (hl : ∃ n, P' stl (W.listOf ((D' ++ [ds']).map fun d => Value.ref d.a).toArray n)) (hsep : SepD (D' ++ [ds'])) (hsl : ds'.sl ≠ stl)
    (hok : ds'.S.Nodup ∧ ds'.S ≠ [] ∧ ∀ y ∈ ds'.S, y < cnt) (hd : ∀ ds ∈ D', ¬ Same ds.S ds'.S) : BInv w nd e AL cnt b0 g L s0 stl p dp D E Ts P' (D' ++ [ds']) (upd E' p (E' p ++ [(t.lab, ds'.a)])) (i + 1) where
  lst := hl
  rep := fun k ds hk => by
    have hpl : p < D'.length := (List.getElem?_eq_some_iff.mp x.at_).1
    rcases snoc_cases hk with hk | ⟨rfl, rfl⟩
    · by_cases q : k = p
      · subst q
        obtain rfl : ds = dp := Option.some.inj (hk.symm.trans x.at_)
        rw [upd_self]; exact hr
      · rw [upd_ne q]
        obtain ⟨o, ho, hc⟩ := ((x.rep p dp x.at_).mono hP).dict
        obtain ⟨n, hn⟩ := x.lst
        have n1 := ((x.rep k ds hk).mono hP).ne_dict ho hc
        have n2 := x.sep.pair k p ds dp hk x.at_ q
        have n3 := ((x.rep k ds hk).mono hP).ne_list (hP _ _ hn)
        have n4 := x.sls ds (List.mem_of_getElem? hk)
        have r1 : RepDS w nd e (fun a o => P a o ∧ a ≠ stl) ds (E' k) := (x.rep k ds hk).keepP (d := stl) (fun a o h1 h2 => ⟨h1, h2⟩) n3.1 n3.2.1 n4 n3.2.2
        exact r1.keepP (fun a o h1 h2 => hK a o h1.1 h1.2 h2) n1.1 n2.2.2 n1.2 n2.2.1
    · rw [upd_ne (by omega), x.eh _ hpl]; exact hnew
  sep := hsep
  sls := fun ds h => (List.mem_append.mp h).elim (x.sls ds) fun q => by rw [List.mem_singleton.mp q]; exact hsl
  wd := x.wd.grow x.at_ hok hd (x.eh _ (List.getElem?_eq_some_iff.mp x.at_).1) (x.new_lab Wt ht) (Wt.ne t (List.mem_of_getElem? ht)).1 hS
  ep := by rw [upd_self]; exact x.take ht
  eh := fun k hk => by rw [upd_ne (Nat.ne_of_gt hk)]; exact x.eh k hk
  el := fun k hk => by rw [upd_ne (Nat.ne_of_lt hk)]; exact x.el k hk
  at_ := by rw [List.getElem?_append_left (List.getElem?_eq_some_iff.mp x.at_).1]; exact x.at_
  dl := fun j hj => by
    have := x.dl j hj
    rw [List.getElem?_append_left, this]
    rw [List.getElem?_eq_getElem hj] at this
    exact (List.getElem?_eq_some_iff.mp this).1
  rest := fun a o e h1 h2 => hK _ _ (x.rest a o e h1 h2) h1 h2
end
end Mine
end PartPb
section PartLb
namespace Mine
theorem offLb : True := by (w_top off; exact True.intro)
local macro_rules | `(tactic| walk_at "exec For Tuple Call cons nil") => `(tactic| k_dflt (refine wpAny_For ?_ (by intro _; rfl)))
local macro_rules | `(tactic| walk_at "exec For Name Name cons cons") => `(tactic| k_dflt (refine wpAny_For ?_ (by intro _; rfl)))
local macro_rules | `(tactic| walk_at "call ref") => `(tactic| refine stop_here ?_)
local macro_rules | `(tactic| walk_at "getMethod ref") => `(tactic| ((with_reducible show wpAny _ _ (getMethod (Value.ref _) (Str.ofString "items") _) _ _ _); k_dflt (refine kob_method (knd := strKind PySem.Challenge.rw_iv0023_01.row.prog _) PySem.F.slot_dict_items PySem.F.type_dict_items (by k_asm) (by k_mem) (by assumption) ?_)))
local macro_rules | `(tactic| walk_at "call builtin:dict.items") => `(tactic| (k_dflt (refine kdx_view (knd := strKind PySem.Challenge.rw_iv0023_01.row.prog _) (by k_asm) (by k_asm) (by k_mem) (by assumption) (by assumption) ?_); intro D' h' F' N' l1; (try k_lt l1); try k_sweep))
theorem WD.len {AL : List Arc} {cnt b0 : Nat} {D : List DS} {E : Nat → List (Str × Addr)} (hc5 : cnt ≤ 5) (x : WD AL cnt b0 D E) : D.length ≤ 32 := by
  have := count_sets cnt (D.map (·.S)) (fun S hS y hy => by
    obtain ⟨ds, h, rfl⟩ := List.mem_map.mp hS
    exact (x.ok ds h).2.2 y hy) x.dist
  rw [List.length_map] at this
  have h2 : 2 ^ cnt ≤ 2 ^ 5 := Nat.pow_le_pow_right (by decide) hc5
  omega
theorem loopB {w : World} {A A₀ : Around} {base g : Heap} {outer : List Env} {p : Program} {loose : List Str} {mean : ExcName → Option Value} {mg mb : Str → Option Value} {nd : Nat → Addr} {cnt : Nat} {AL : List Arc}
    (hc5 : cnt ≤ 5) (hAL : AL.length ≤ 100) {nm : Str} {params : Arguments} {body : List Stmt} {scope : Scope} (hM : makeDef = some (nm, params, body, scope))
    {st : Stmt} (hst : whileBody[4]? = some st) {L : Addr} {m : Str → Option Value} {s : Shared} {Q : Flow → Shared → Prop}
    (B₀ : Below A₀ base outer g) (F : Fr g L s.heap m) (X : (hdTop.heap_39 w.params).In g) (T : Top p loose mean mg mb g) (hh : A.handled = none) (hA : A.frames = some (makeEnv nm scope L :: outer))
    (hroom : A.depth + 20 < recursionLimit) (hun : A.units + 200 < cLine) (G : GraphAt w g nd cnt AL)
    {e b0 pl : Nat} {dp : DS} {D : List DS} {E : Nat → List (Str × Addr)} {Ts : List TE} {stl ad : Addr} {o : Obj} (hb0 : b0 < cnt) (he : e < cnt)
    (hm : ∀ q ∈ ([(Str.ofString "state", .ref dp.a), (Str.ofString "arcs", .ref ad), (Str.ofString "states", .ref stl), (Str.ofString "start", .ref (nd b0)), (Str.ofString "finish", .ref (nd e))] : List (Str × Value)), m q.1 = some q.2)
    (hB : BInv w nd e AL cnt b0 g L s.heap stl pl dp D E Ts (OwnA g L s.heap) D E 0) (Wt : WT AL (dp.S.flatMap (outOf AL)) Ts)
    (had : OwnA g L s.heap ad o) (hdo : o.IsDictOf (strKind PySem.Challenge.rw_iv0023_01.row.prog w) (refT Ts)) (hlo : (ad == sysModules) = false) (hn1 : ad ≠ dp.ad)
    (htl : ∀ t ∈ Ts, (∃ n, OwnA g L s.heap t.tl (W.listOf (refsOf nd t.U).toArray n)) ∧ t.tl ≠ stl)
    (cont : ∀ u h' tk' D' E', Fr g L h' (ovr ["nonterminal_or_string", "nfa_set", "nested_state"] u m) → BInv w nd e AL cnt b0 g L s.heap stl pl dp D E Ts (OwnA g L h') D' E' Ts.length → Q .next { s with heap := h', toks := tk' }) :
    wpAny (model PySem.Challenge.rw_iv0023_01.row.prog w) A (exec st (makeEnv nm scope L)) Q (fun _ _ => False) s := by
  cases hM
  cases hst
  have em := chain_eq hm
  rw [← em] at F cont
  clear em hm
  obtain ⟨hd, dpt, fr, gd, un⟩ := A
  obtain rfl : fr = some _ := hA
  obtain rfl : hd = none := hh
  have hun' : un + 200 < cLine := hun
  have hroom' : dpt + 20 < recursionLimit := hroom
  clear hun hroom
  obtain ⟨Z, NZ, hZD, hZlt, hZ⟩ := zed g L s.heap []
  have za := hZ _ _ had.1 had.2.1 had.2.2 List.not_mem_nil
  k_steps
  (rename Fr _ _ _ _ => F1); (rename News _ _ _ _ => N1)
  have pass1 : ∀ b ob, OwnA g L s.heap b ob → OwnA g L _ b ob := fun b ob x => N1 _ (.tail _ (hZ b ob x.1 x.2.1 x.2.2 List.not_mem_nil))
  refine for_itemsT ["nonterminal_or_string", "nfa_set", "nested_state"] rfl PassesOwn.never ⟨_, N1.get (.head _), rfl, rfl⟩ (pass1 _ _ had).1 hdo had.2.1 had.2.2
    (fun i u P => ∃ D' E', BInv w nd e AL cnt b0 g L s.heap stl pl dp D E Ts P D' E' i) (fun i m P P' k => by rintro ⟨D', E', h⟩; exact ⟨D', E', h.mono k⟩) F1 ?h0 ?turn ?done
  case h0 => exact ⟨D, E, hB.mono pass1⟩
  case done =>
    rintro u h₂ tk F₂ ⟨D', E', hB2⟩
    rw [List.length_map] at hB2
    k_steps
    exact cont u h₂ _ D' E' F₂ hB2
  case turn =>
    rintro I i Tp k t x u h₂ tk oI hx hIL hI0 hIs F₂ ⟨D', E', hB2⟩ hoI hod2 hT hIT R1 hR1
    rw [List.getElem?_map] at hx
    obtain ⟨te, hte, hkx⟩ := Option.map_eq_some_iff.mp hx
    cases hkx
    have htem := List.mem_of_getElem? hte
    obtain ⟨⟨nt, htl1⟩, htl2⟩ := htl te htem
    clear F1 N1 pass1 hZ hZlt hZD za
    replace hB2 : BInv w nd e AL cnt b0 g L s.heap stl pl dp D E Ts (OwnI I g L h₂) D' E' i := hB2
    replace hT : OwnA g L h₂ Tp _ := hT
    replace hIL : I ≠ L := hIL
    replace F₂ : Fr g L h₂ _ := F₂
    rw [ovr_ovl] at F₂
    obtain ⟨ns, hstl⟩ := hB2.lst
    obtain ⟨nad, td, t1, t2, t3, t4, t5, t6, t7, n, n', o1, a1, a2, a3, a4, a5, a6⟩ := hB2.rep pl dp hB2.at_
    have htl3 : te.tl ≠ dp.ad := by
      obtain ⟨_, _, _, _, _, _, _, _, _, _, _, _, _, _, _, q4, q5, _⟩ := hB.rep pl dp hB.at_
      exact list_ne_dict htl1 q4 q5
    have htl4 := hB2.rest _ _ htl1 htl2 htl3
    obtain ⟨Z, NZ, hZD, hZlt, hZ⟩ := zed g L h₂ [stl]
    have hZa := hZD stl (.head _)
    have N := hstl.1.news NZ
    clear NZ
    have lne : ∀ b ob, OwnA g L h₂ b ob → ob.cls ≠ .type "list" → b ∉ [stl] := fun b ob x hc q => x.ne hstl.1 hc (List.mem_singleton.mp q)
    have zT := hZ _ _ hT.1 hT.2.1 hT.2.2 (lne _ _ hT (by intro q; injection q with q; revert q; decide))
    k_steps
    (rename Fr _ _ _ _ => F1); (rename News _ _ _ _ => N1)
    rename_i hv6
    have pass1 : ∀ b ob, OwnA g L h₂ b ob → OwnA g L hv6 b ob := pass_zed hstl.1 hZ N1
    have hB3 := hB2.mono (P' := OwnI I g L hv6) fun b ob x => ⟨pass1 b ob x.1, x.2⟩
    have hII := pass1 I oI ⟨hoI, hIL, hI0⟩
    have had3 := pass1 ad o ⟨hod2, had.2⟩
    have htl5 := pass1 _ _ htl4.1
    have hElen : (E' pl).length ≤ 100 := by
      have h1 : ((E' pl).map (·.1)).length = ((Ts.take i).map (·.lab)).length := by rw [hB2.ep]
      rw [List.length_map, List.length_map, List.length_take] at h1
      have h2 := Wt.len (fun a ha => let ⟨_, _, h⟩ := List.mem_flatMap.mp ha; (List.mem_filter.mp h).1)
      omega
    refine for_listT ["nested_state"] rfl PassesOwn.never ⟨_, N1.get (.head _), rfl, _, rfl⟩
      (fun idx u P => (∀ a o, OwnA g L hv6 a o → P a o) ∧ ∀ k (ds : DS), k < idx → D'[k]? = some ds → ¬ Same ds.S te.U) (fun i m P P' k => by rintro ⟨h1, h2⟩; exact ⟨fun a o x => k _ _ (h1 a o x), h2⟩) F1 ?h0 ?turn ?done
    case h0 => exact ⟨fun a o x => x, fun k ds h => absurd h (Nat.not_lt_zero _)⟩
    case done =>
      rintro u3 h₃ tk3 F₃ ⟨pass2, hns⟩
      rw [List.length_map] at hns
      replace F₃ : Fr g L h₃ _ := F₃
      rw [ovr_ovl] at F₃
      have pass2' : ∀ b ob, OwnA g L hv6 b ob → OwnA g L h₃ b ob := fun b ob x => pass2 b ob x
      have hB4 := hB3.mono (P' := OwnI I g L h₃) fun b ob x => ⟨pass2' b ob x.1, x.2⟩
      clear N1 F1
      have ws := hB4.rep pl dp hB4.at_
      obtain ⟨asb, ⟨db, ab, y1, y2, y3, y4, y5, bi1, bi2, bi3⟩, _⟩ := G.node b0 hb0
      have hUc := Wt.lt G.arcs (fun a ha => let ⟨_, _, h⟩ := List.mem_flatMap.mp ha; (List.mem_filter.mp h).1) htem
      have hUn := (Wt.ne te htem).2
      k_steps
      change wpAny _ _ _ _ _ _
      refine call_dfa B₀ F₃ X T rfl rfl rfl rfl (by show dpt + 14 < _; exact lt_room (by assumption) (by decide)) (by show un + 100 < _; exact lt_room (by assumption) (by decide)) G (pass2' _ _ htl5) hUn.2 hUc he ?_
      intro h6 tk6 ds' es1 es2 l1 l2 l3 F6 K6 hr6
      have pass4 : ∀ b ob, OwnA g L h₃ b ob → OwnA g L h6 b ob := fun b ob x => K6 _ _ x List.not_mem_nil
      have hB5 := hB4.mono (P' := OwnI I g L h6) fun b ob x => ⟨pass4 b ob x.1, x.2⟩
      obtain ⟨ns6, hstl6⟩ := hB5.lst
      obtain ⟨nad3, td3, w1, w2, w3, w4, w5, w6, w7, k3, k4, o3, d1, d2, d3, d4, d5, d6⟩ := hB5.rep pl dp hB5.at_
      have nstl := ((hB5.rep pl dp hB5.at_).mono fun _ _ x => x.1).ne_list hstl6.1
      clear hZ hZlt hZD hZa zT
      obtain ⟨Z, NZ, hZD, hZlt, hZ⟩ := zed g L h6 [stl]
      have hZa := hZD stl (.head _)
      have N := hstl6.1.news NZ
      clear NZ
      have zi2 := hZ _ _ d1.1.1 d1.1.2.1 d1.1.2.2 (by simpa using nstl.1)
      have zd2 := hZ _ _ d2.1.1 d2.1.2.1 d2.1.2.2 (by simpa using nstl.2.1)
      have hDl : D'.length ≤ 1000 := Nat.le_trans (hB5.wd.len hc5) (by decide)
      k_steps
      (rename Fr _ _ _ _ => F8); (rename News _ _ _ _ => N8)
      rename_i hv8
      change wpAny _ _ _ _ _ _
      have pass8 : ∀ b ob, OwnA g L h6 b ob → b ≠ stl → OwnA g L hv8 b ob := fun b ob x hb => N8 _ (.tail _ (hZ b ob x.1 x.2.1 x.2.2 (by simpa using hb)))
      have slp := hB5.sls dp (List.mem_of_getElem? hB5.at_)
      have r8 : RepDS w nd e (OwnI I g L hv8) dp (E' pl) := (hB5.rep pl dp hB5.at_).keepP (d := stl) (fun b ob x hb => ⟨pass8 b ob x.1 hb, x.2⟩) nstl.1 nstl.2.1 slp nstl.2.2
      have nl6 := hr6.ne_list hstl6.1
      have sl6 : ds'.sl ≠ stl := by rw [es1]; exact htl2
      have rn8 : RepDS w nd e (OwnA g L hv8) ds' [] := hr6.keepP (d := stl) pass8 nl6.1 nl6.2.1 sl6 nl6.2.2
      have hlt3 : ∀ ds ∈ D', @LT.lt Nat _ ds.a h₃.objs.size ∧ @LT.lt Nat _ ds.ad h₃.objs.size ∧ @LT.lt Nat _ ds.dx h₃.objs.size := fun ds h => by
        obtain ⟨j, hj⟩ := List.mem_iff_getElem?.mp h
        exact ((hB4.rep j ds hj).mono fun _ _ x => x.1).lt
      have hpd := (hlt3 dp (List.mem_of_getElem? hB4.at_)).2.1
      have hI3 : @LT.lt Nat _ I h₃.objs.size := Heap.lt_size (pass2' _ _ hII).1
      have l1' : @LE.le Nat _ h₃.objs.size ds'.dx := l1
      have n1 : ds'.dx ≠ dp.ad := Nat.ne_of_gt (by omega)
      have n2 : ds'.a ≠ dp.ad := Nat.ne_of_gt (by omega)
      have n3 : ds'.ad ≠ dp.ad := Nat.ne_of_gt (by omega)
      have n4 : ds'.sl ≠ dp.ad := by rw [es1]; exact htl3
      have i1 : ds'.dx ≠ I := Nat.ne_of_gt (by omega)
      have i2 : ds'.a ≠ I := Nat.ne_of_gt (by omega)
      have i3 : ds'.ad ≠ I := Nat.ne_of_gt (by omega)
      have i4 : ds'.sl ≠ I := by rw [es1]; exact htl4.2
      refine call_addarc B₀ F8 X T rfl rfl rfl rfl (by show dpt + 14 < _; exact lt_room (by assumption) (by decide)) (by show un + 100 < _; exact lt_room (by assumption) (by decide)) (r8.mono fun b ob x => x.1) rn8 (hB4.sep.self dp (List.mem_of_getElem? hB4.at_)) n1 (hB4.new_lab Wt hte) hElen ?_
      intro h9 tk9 F9 K9 hr9
      have pass9 : ∀ b ob, OwnA g L h₃ b ob → b ≠ stl → b ≠ dp.ad → OwnA g L h9 b ob := fun b ob x h1 h2 => K9 _ _ (pass8 _ _ (pass4 _ _ x) h1) (by simpa using h2)
      have istl : I ≠ stl := fun q => (hstl6.2 q.symm)
      have astl : ad ≠ stl := (list_ne_dict hstl.1 ⟨hod2, had.2⟩ hdo).symm
      k_steps
      refine hR1 _ _ ?_
      refine Turn.next F9 ⟨⟨(pass9 _ _ (pass2' _ _ hII) istl (Ne.symm ws.neI.2.2.2)).1, (pass9 _ _ (pass2' _ _ had3) astl hn1).1⟩, ⟨D' ++ [ds'], _, hB4.grow (fun _ _ x => x.1) (fun b ob x h1 h2 => ⟨pass9 _ _ x.1 h1 h2, x.2⟩) Wt hte (fun y => by rw [es2]; exact Wt.succ htem y) (hr9.withI ws.neI)
        ((rn8.keepP (d := dp.ad) (fun b ob x hb => K9 _ _ x (by simpa using hb)) n2 n1 n4 n3).withI ⟨i2, i1, i4, i3⟩) ⟨ns6 + 1, ?_⟩ (hB4.sep.grow hlt3 l1' l2 l3) sl6 (by rw [es2]; exact ⟨hUn.1, hUn.2, hUc⟩) fun ds h => ?_⟩, ?_⟩
      · rw [List.map_append]
        exact ⟨K9 _ _ (N8 _ (.head _)) (by simpa using Ne.symm nstl.2.2), hstl6.2⟩
      · obtain ⟨j, hj⟩ := List.mem_iff_getElem?.mp h
        rw [es2]
        exact hns j ds (List.getElem?_eq_some_iff.mp hj).1 hj
      · k_same2
    case turn =>
      rintro I2 idx v u3 h₃ tk3 hv hIL2 hI02 hIs2 F₃ ⟨pass2, hns⟩ hit2 hla2 R2 hR2
      rw [List.getElem?_map] at hv
      obtain ⟨dk, hdk, rfl⟩ := Option.map_eq_some_iff.mp hv
      obtain ⟨oI2, hoI2, hoIc2, hoId2⟩ := id hit2
      replace hIL2 : I2 ≠ L := hIL2
      replace F₃ : Fr g L h₃ _ := F₃
      rw [ovr_ovl] at F₃
      have pass2' : ∀ b ob, OwnA g L hv6 b ob → OwnA g L h₃ b ob := fun b ob x => (pass2 b ob x).1
      have hB4 := hB3.mono (P' := OwnI I g L h₃) fun b ob x => ⟨pass2' b ob x.1, x.2⟩
      obtain ⟨nad', td', u1, u2, u3', u4, u5, u6, u7, k1, k2, o2, b1, b2, b3, b4, b5, b6⟩ := hB4.rep idx dk hdk
      clear hZ hZlt hZD hZa zT N1 F1
      obtain ⟨Z, NZ, hZD, hZlt, hZ⟩ := zed g L h₃ []
      have zi := hZ _ _ b1.1.1 b1.1.2.1 b1.1.2.2 List.not_mem_nil
      have zd := hZ _ _ b2.1.1 b2.1.2.1 b2.1.2.2 List.not_mem_nil
      have ws := hB4.rep pl dp hB4.at_
      obtain ⟨nad3, td3, w1, w2, w3, w4, w5, w6, w7, k3, k4, o3, d1, d2, d3, d4, d5, d6⟩ := id ws
      have zi2 := hZ _ _ d1.1.1 d1.1.2.1 d1.1.2.2 List.not_mem_nil
      have zd2 := hZ _ _ d2.1.1 d2.1.2.1 d2.1.2.2 List.not_mem_nil
      k_steps
      (rename Fr _ _ _ _ => F5); (rename News _ _ _ _ => N5)
      rename_i hv5
      change wpAny _ _ _ _ _ _
      have pass3 : ∀ b ob, OwnA g L h₃ b ob → OwnA g L hv5 b ob := fun b ob x => N5 _ (hZ b ob x.1 x.2.1 x.2.2 List.not_mem_nil)
      have okk := hB4.wd.ok dk (List.mem_of_getElem? hdk)
      have hUc := Wt.lt G.arcs (fun a ha => let ⟨_, _, h⟩ := List.mem_flatMap.mp ha; (List.mem_filter.mp h).1) htem
      have hUn := (Wt.ne te htem).2.1
      refine call_same B₀ F5 X T rfl rfl rfl rfl (by show dpt + 14 < _; exact lt_room (by assumption) (by decide)) (by show un + 100 < _; exact lt_room (by assumption) (by decide)) G (pass3 _ _ b3.1) (pass3 _ _ (pass2' _ _ htl5)) okk.2.2 hUc (Nat.le_trans (len_le_of_nodup okk.1 okk.2.2) hc5) (Nat.le_trans (len_le_of_nodup hUn hUc) hc5) ?_
      intro h6 tk6 b F6 K6 hb
      have pass4 : ∀ b ob, OwnA g L h₃ b ob → OwnA g L h6 b ob := fun b ob x => K6 _ _ (pass3 _ _ x) List.not_mem_nil
      have N6 : News g L h6 Z := fun p hp => K6 p.1 p.2 (N5 p hp) List.not_mem_nil
      clear F5 N5
      cases b with
      | false =>
        k_steps
        refine hR2 _ _ ?_
        refine Turn.next F6 ⟨⟨iter_stays hit2 hoI2 (pass4 _ _ ⟨hoI2, hIL2, hI02⟩).1, ?_⟩, ⟨fun a o x => ⟨pass4 _ _ (pass2' _ _ x), (pass2 _ _ x).2⟩, fun k ds hk hds => ?_⟩, ?_⟩
        · obtain ⟨n9, q⟩ := hB4.lst
          exact ⟨_, (pass4 _ _ q.1).1, rfl, _, rfl⟩
        · rcases Nat.lt_or_eq_of_le (Nat.le_of_lt_succ hk) with hlt | rfl
          · exact hns k ds hlt hds
          · obtain rfl : ds = dk := Option.some.inj (hds.symm.trans hdk)
            intro hsm
            have := hb.mpr ⟨same_len okk.1 hUn hsm, fun x hx => (hsm x).mp hx⟩
            cases this
        · k_same2
      | true =>
        have hsame : Same dk.S te.U := by
          obtain ⟨q1, q2⟩ := hb.mp rfl
          exact fun x => ⟨q2 x, nodup_same okk.1 q1 q2 x⟩
        k_steps
        refine hR2 _ _ ?_
        dsimp only [Turn]
        k_steps
        change wpAny _ _ _ _ _ _
        have hd2 : dk.dx ≠ dp.ad := by
          by_cases q : idx = pl
          · subst q
            obtain rfl : dk = dp := Option.some.inj (hdk.symm.trans hB4.at_)
            exact hB4.sep.self dk (List.mem_of_getElem? hdk)
          · exact (hB4.sep.pair idx pl dk dp hdk hB4.at_ q).2.2
        refine call_addarc B₀ F6 X T rfl rfl rfl rfl (by show dpt + 14 < _; exact lt_room (by assumption) (by decide)) (by show un + 100 < _; exact lt_room (by assumption) (by decide)) (ws.mono fun b ob x => pass4 b ob x.1) ((hB4.rep idx dk hdk).mono fun b ob x => pass4 b ob x.1) (hB4.sep.self dp (List.mem_of_getElem? hB4.at_)) hd2 (hB4.new_lab Wt hte) hElen ?_
        intro h7 tk7 F7 K7 hr
        k_steps
        refine hR1 _ _ ?_
        refine Turn.next F7 ⟨⟨(K7 _ _ (pass4 _ _ (pass2' _ _ hII)) (by simpa using Ne.symm d4.2)).1, (K7 _ _ (pass4 _ _ (pass2' _ _ had3)) (by simpa using hn1)).1⟩, ⟨D', _, hB4.link (fun _ _ x => x.1) (fun b ob x hb => ⟨K7 _ _ (pass4 _ _ x.1) (by simpa using hb), x.2⟩) Wt hte hdk (fun y => (hsame y).trans (Wt.succ htem y)) (hr.withI ws.neI)⟩, ?_⟩
        k_same2
end Mine
end PartLb
section PartMk
namespace Mine
theorem offMk : True := by (w_top off; exact True.intro)
local macro_rules | `(tactic| walk_at "call ref") => `(tactic| refine stop_here ?_)
local macro_rules | `(tactic| walk_at "call builtin:len") => `(tactic| k_dflt (refine Calls.call_len_list (by exact News.isList (by k_asm) (List.Mem.head _)) (by (simp only [List.size_toArray, List.length_map]; omega)) ?_))
local macro_rules | `(tactic| walk_at "exec For Name Attribute cons nil") => `(tactic| refine stop_here ?_)
local macro_rules | `(tactic| walk_at "exec For Tuple Call cons nil") => `(tactic| refine stop_here ?_)
/-- what _make_dfas made: after the heap s0 -/
def OwnS (s0 h : Heap) (a : Addr) (o : Obj) : Prop := h.get? a = some o ∧ s0.get? a = none
structure Made (w : World) (nd : Nat → Addr) (e : Nat) (AL : List Arc) (cnt b0 : Nat) (s0 : Heap) (v : Value) (h' : Heap) (D : List DS) (E : Nat → List (Str × Addr)) : Prop where
  lst : ∃ stl n, v = .ref stl ∧ OwnS s0 h' stl (W.listOf (D.map fun d => Value.ref d.a).toArray n)
  rep : ∀ (j : Nat) ds, D[j]? = some ds → RepDS w nd e (OwnS s0 h') ds (E j)
  sep : SepD D
  wd : WD AL cnt b0 D E
  done : ∀ (j : Nat) (ds : DS), D[j]? = some ds → Done AL ds.S (E j)
  tab : ∃ arr, h'.get? 122 = some (tabObj arr)
theorem CloAt.mk {g h : Heap} {L : Addr} {params : Arguments} {body : List Stmt} {scope : Scope} {f cell c' : Addr} {qual : Str} {pm doc ctv : Value} {oc oc' : Obj} {vs : Array Value} {t : Tok}
    (h1 : OwnA g L h f (fnMade "addclosure" qual params body scope [("addclosure", cell)] doc pm c' ctv)) (h2 : OwnA g L h cell oc) (h3 : oc.data = .cell (some (.ref f))) (h4 : OwnA g L h c' oc') (h5 : oc'.data = .fields vs) (h6 : vs[1]? = some (.str qual t)) :
    CloAt g L h params body scope f cell c' qual pm doc ctv oc oc' := ⟨h1, h2, h3, h4, vs, t, h5, h6⟩
theorem CloAt.pass2 {g h h' : Heap} {L : Addr} {params : Arguments} {body : List Stmt} {scope : Scope} {f cell c' ad : Addr} {qual : Str} {pm doc ctv : Value} {oc oc' : Obj} (x : CloAt g L h params body scope f cell c' qual pm doc ctv oc oc')
    (k : ∀ a o, OwnA g L h a o → a ≠ ad → OwnA g L h' a o) {vs : Array Value} {n : Nat} (had : OwnA g L h ad (W.listOf vs n)) : CloAt g L h' params body scope f cell c' qual pm doc ctv oc oc' := by
  obtain ⟨c1, c2, c3, c4, vs, t, c5, c6⟩ := x
  refine ⟨k _ _ c1 fun q => ?_, k _ _ c2 fun q => ?_, c3, k _ _ c4 fun q => ?_, vs, t, c5, c6⟩
  · exact absurd q (c1.ne had (by intro q; injection q with q; revert q; decide))
  · have q1 := c2.1; rw [q, had.1] at q1; cases q1; cases c3
  · have q1 := c4.1; rw [q, had.1] at q1; cases q1; cases c5
theorem CloAt.all {g h h' : Heap} {L : Addr} {params : Arguments} {body : List Stmt} {scope : Scope} {f cell c' : Addr} {qual : Str} {pm doc ctv : Value} {oc oc' : Obj} (x : CloAt g L h params body scope f cell c' qual pm doc ctv oc oc')
    (k : ∀ a o, OwnA g L h a o → OwnA g L h' a o) : CloAt g L h' params body scope f cell c' qual pm doc ctv oc oc' := by
  obtain ⟨c1, c2, c3, c4, vs, t, c5, c6⟩ := x
  exact ⟨k _ _ c1, k _ _ c2, c3, k _ _ c4, vs, t, c5, c6⟩
/-- the states, between two states' turns -/
structure MInv (w : World) (nd : Nat → Addr) (e : Nat) (AL : List Arc) (cnt b0 : Nat) (g : Heap) (L : Addr) (stl : Addr) (h : Heap) (D : List DS) (E : Nat → List (Str × Addr)) (pl : Nat) : Prop where
  lst : ∃ n, OwnA g L h stl (W.listOf (D.map fun d => Value.ref d.a).toArray n)
  rep : ∀ (j : Nat) ds, D[j]? = some ds → RepDS w nd e (OwnA g L h) ds (E j)
  sep : SepD D
  sls : ∀ ds ∈ D, ds.sl ≠ stl
  wd : WD AL cnt b0 D E
  done : ∀ (j : Nat) (ds : DS), D[j]? = some ds → j < pl → Done AL ds.S (E j)
  eh : ∀ k, pl ≤ k → E k = []
  le : pl ≤ D.length
theorem WD.one {AL : List Arc} {cnt b0 : Nat} {ds0 : DS} (hc : Clos AL b0 [] ds0.S) (hlt : ∀ x ∈ ds0.S, x < cnt) : WD AL cnt b0 [ds0] (fun _ => []) where
  ok := fun ds h => by rw [List.mem_singleton.mp h]; exact ⟨hc.nodup, (fun q => by have := hc.mem; rw [q] at this; cases this), hlt⟩
  first := ⟨ds0, rfl, fun x => by rw [hc.iff (fun _ h => nomatch h) x]; simp⟩
  dist := by simp
  edge := fun _ _ _ _ h => nomatch h
  keys := fun _ => List.nodup_nil
  pred := fun j ds h h0 => by
    have := (List.getElem?_eq_some_iff.mp h).1
    simp at this; omega
theorem SepD.one {ds0 : DS} (h2 : @LT.lt Nat _ ds0.dx ds0.a) (h3 : @LT.lt Nat _ ds0.a ds0.ad) : SepD [ds0] where
  pair := fun i j ds ds' hi hj hn => by
    have h1 := (List.getElem?_eq_some_iff.mp hi).1
    have h2 := (List.getElem?_eq_some_iff.mp hj).1
    simp at h1 h2; omega
  self := fun ds h => by rw [List.mem_singleton.mp h]; exact Nat.ne_of_lt (by omega)
theorem RepDS.ne_tab {w : World} {nd : Nat → Addr} {e : Nat} {ds : DS} {E : List (Str × Addr)} {g h : Heap} {L d : Addr} (x : RepDS w nd e (OwnA g L h) ds E) {ps : Array Value} (hd : OwnA g L h d (tabObj ps)) : ds.a ≠ d ∧ ds.dx ≠ d ∧ ds.sl ≠ d ∧ ds.ad ≠ d :=
  let ⟨_, _, _, _, _, _, _, _, _, _, _, _, h1, h2, h3, h4, h5, _⟩ := x
  ⟨h1.ne hd (by intro q; cases q), h2.ne hd (by intro q; cases q), h3.ne hd (by intro q; cases q), h4.ne hd (by rw [dict_cls h5]; intro q; cases q)⟩
theorem CloAt.two {g h h' : Heap} {L : Addr} {params : Arguments} {body : List Stmt} {scope : Scope} {f cell c' x y : Addr} {qual : Str} {pm doc ctv : Value} {oc oc' : Obj} (z : CloAt g L h params body scope f cell c' qual pm doc ctv oc oc')
    (k : ∀ a o, OwnA g L h a o → a ≠ x → a ≠ y → OwnA g L h' a o) {vs : Array Value} {n : Nat} (hx : OwnA g L h x (W.listOf vs n)) {o : Obj} (hy : OwnA g L h y o) (ho : ∃ es ep, o.data = .dict es ep) : CloAt g L h' params body scope f cell c' qual pm doc ctv oc oc' := by
  obtain ⟨es, ep, hd⟩ := ho
  obtain ⟨c1, c2, c3, c4, vs, t, c5, c6⟩ := z
  refine ⟨k _ _ c1 (fun q => ?_) fun q => ?_, k _ _ c2 (fun q => ?_) fun q => ?_, c3, k _ _ c4 (fun q => ?_) fun q => ?_, vs, t, c5, c6⟩
  · exact absurd q (c1.ne hx (by intro q; injection q with q; revert q; decide))
  · have q1 := c1.1; rw [q, hy.1] at q1; cases q1; cases hd
  · have q1 := c2.1; rw [q, hx.1] at q1; cases q1; cases c3
  · have q1 := c2.1; rw [q, hy.1] at q1; cases q1; rw [c3] at hd; cases hd
  · have q1 := c4.1; rw [q, hx.1] at q1; cases q1; cases c5
  · have q1 := c4.1; rw [q, hy.1] at q1; cases q1; rw [c5] at hd; cases hd
theorem make_con {w : World} {A : Around} {base g : Heap} {outer : List Env} {p : Program} {loose : List Str} {mean : ExcName → Option Value} {mg mb : Str → Option Value} {s : Shared}
   {nd : Nat → Addr} {cnt : Nat} {AL : List Arc} {b0 e : Nat} (hc5 : cnt ≤ 5) (hAL : AL.length ≤ 100)
   (C : Cx w A base outer p loose mean mg mb g s.heap)
   (hroom : A.depth + 50 < recursionLimit) (hun : A.units + 400 < cLine)
   (hcode : CodeHd g 126 122) (hg : g.get? 122 = none) (hc : s.heap.get? 122 = some (tabObj #[])) (hkp : ∀ b o, b ≠ 122 → s.heap.get? b = some o → g.get? b = some o)
   (G : GraphAt w g nd cnt AL) (hb0 : b0 < cnt) (he : e < cnt) :
   codeAny (model PySem.Challenge.rw_iv0023_01.row.prog w) A (.call (.ref 127) ⟨[.ref (nd b0), .ref (nd e)], []⟩)
     (Ret s g (fun v h' => ∃ D E, Made w nd e AL cnt b0 s.heap v h' D E)) s := by
  obtain ⟨hd, dp, fr, gd, un⟩ := A
  obtain rfl : fr = some outer := C.B.stack
  obtain rfl : hd = none := C.hh
  obtain ⟨_, ⟨d1, a1, t1, t2, t3, n1, n1', i1, i2, i3⟩, _⟩ := G.node b0 hb0
  obtain ⟨_, ⟨e1, b1, u1, u2, u3, k1, k1', j1, j2, j3⟩, _⟩ := G.node e he
  have l0 := ltN (Heap.lt_size hc)
  have X := C.X
  have T := C.T
  have B := C.B
  have hroom' : dp + 50 < recursionLimit := hroom
  have hun' : un + 400 < cLine := hun
  clear hroom hun
  refine' enterC (sm := [(122, tabObj #[])]) C ?N ?ho ?hcd ?hroom ?hbind ?hkind ?hnd ?h ?a ?b ?c
  case ho => k_is
  case hcd => k_is
  case N => intro q hq; cases hq with | head => exact ⟨hc, hg⟩ | tail _ h => cases h
  case hroom => show dp < _; omega
  case hbind => exact BindsTo.of_eq rfl
  case hkind => exact rfl
  case hnd => decide +kernel
  case a => exact rfl
  case b => exact rfl
  case c => exact rfl
  intro h₁ tk cells F N Y hk R0 hR0
  k_cells Y
  simp only [List.cons_append, List.nil_append] at N
  have Lsz := C.sz
  clear C
  generalize hL : s.heap.objs.size = L at *
  k_steps
  (rename Fr _ _ _ _ => F1); (rename News _ _ _ _ => N1); (rename _ = Data.fields _ => dv1); (rename _[1]? = _ => dv2); (rename _ = Data.cell (some _) => dc)
  change wpAny _ _ _ _ _ _
  have hCl := CloAt.mk (N1 _ (.tail _ (.head _))) (N1 _ (.tail _ (.tail _ (.tail _ (.head _))))) dc (N1 _ (.tail _ (.tail _ (.head _)))) dv1 dv2
  have hTab := OwnA.of N1 (.tail _ (.tail _ (.tail _ (.tail _ (.head _)))))
  have hNl := OwnA.of N1 (.head _)
  refine call_add hc5 (hS := rfl) B F1 X T rfl rfl rfl rfl (by show dp + 1 + 14 < _; omega) (by k_units) G hb0 hCl (B := []) hNl List.nodup_nil (fun j hj => nomatch hj) ?_
  intro h2 tk2 B' n2 F2 K2 hl2 hc2
  have hB0 : B' ≠ [] := fun q => by have := hc2.mem; rw [q] at this; cases this
  have hBc := hc2.lt G.arcs (fun j hj => nomatch hj) hb0
  have hCl2 := hCl.pass2 (fun a o x hn => K2 a o x (by simpa using hn)) hNl
  have hTab2 := K2 _ _ hTab (by simpa using (hTab.ne hNl (by intro q; cases q)))
  clear N1 F1 hCl hNl hTab
  obtain ⟨Z, NZ, hZD, hZlt, hZ⟩ := zed g L h2 []
  k_steps
  change wpAny _ _ _ _ _ _
  refine call_dfa B F2 X T rfl rfl rfl rfl (by show dp + 1 + 14 < _; omega) (by k_units) G hl2 hB0 hBc he ?_
  intro h3 tk3 ds0 es1 es2 l1 l2 l3 F3 K3 hr3
  have hCl3 := hCl2.all fun a o x => K3 a o x List.not_mem_nil
  have hTab3 := K3 _ _ hTab2 List.not_mem_nil
  have hl3 := K3 _ _ hl2 List.not_mem_nil
  clear F2 hZ hZD NZ hZlt
  obtain ⟨Z, NZ, hZD, hZlt, hZ⟩ := zed g L h3 []
  k_steps
  (rename Fr _ _ _ _ => F4); (rename News _ _ _ _ => N4)
  change wpAny _ _ _ _ _ _
  rename_i stl hx1 hltZ hx2 hv4
  have pass4 : ∀ b ob, OwnA g L h3 b ob → OwnA g L hv4 b ob := fun b ob x => N4 _ (.tail _ (hZ b ob x.1 x.2.1 x.2.2 List.not_mem_nil))
  have hstl4 : OwnA g L hv4 stl (W.listOf ([ds0].map fun d => Value.ref d.a).toArray 0) := OwnA.of N4 (.head _)
  have hne0 : ds0.sl ≠ stl := by
    intro q
    have h1 : @LT.lt Nat _ ds0.sl stl := by rw [es1]; exact hltZ _ (hZ _ _ hl3.1 hl3.2.1 hl3.2.2 List.not_mem_nil)
    rw [q] at h1; exact Nat.lt_irrefl _ h1
  have hCl4 := hCl3.all pass4
  obtain ⟨tb5, hTab4⟩ : ∃ arr, OwnA g L hv4 122 (tabObj arr) := ⟨_, pass4 _ _ hTab3⟩
  obtain ⟨pr5, bd5, sc5, f5, c5, q5, pm5, dc5, ct5, oc5, od5, hS5, hCl5⟩ : ∃ params body scope f c' qual pm doc ctv oc oc', addDef = some (Str.ofString "addclosure", params, body, scope) ∧ CloAt g L hv4 params body scope f (L + 1) c' qual pm doc ctv oc oc' := ⟨_, _, _, _, _, _, _, _, _, _, _, rfl, hCl4⟩
  clear hCl4 hCl3 hCl2
  let J : Nat → (Str → Option Value) → Heap → Prop := fun k u h => ∃ pl t D E, u "place" = some (.int ((pl : Nat) : Int) t) ∧ MInv w nd e AL cnt b0 g L stl h D E pl ∧ CloAt g L h pr5 bd5 sc5 f5 (L + 1) c5 q5 pm5 dc5 ct5 oc5 od5 ∧ OwnA g L h 122 (tabObj tb5) ∧ k + pl = 40
  refine while_T ["state", "place", "arcs", "nfa_state", "nfa_arc", "nfa_set", "nonterminal_or_string", "nested_state"] PassesOwn.never J F4 40 ?h0 ?turn
  case h0 =>
    exact ⟨0, _, [ds0], fun _ => [], rfl, ⟨⟨0, hstl4⟩, fun j ds h => by
      have hj := (List.getElem?_eq_some_iff.mp h).1
      have : j = 0 := by simp at hj; omega
      subst this
      cases h
      exact hr3.mono pass4, SepD.one l2 l3, fun ds h => by rw [List.mem_singleton.mp h]; exact hne0, WD.one (by rw [es2]; exact hc2) (by rw [es2]; exact hBc), fun j ds _ h => absurd h (Nat.not_lt_zero _), fun _ _ => rfl, Nat.zero_le _⟩, hCl5, hTab4, rfl⟩
  case turn =>
    rintro k u h5 tk5 F5 ⟨pl, t, D, E, hpl, hM, hR, hTab5, hk2⟩ R1 hR1
    replace F5 : Fr g L h5 _ := F5
    rw [ovr_ovl] at F5
    simp only [ovl, hpl] at F5
    obtain ⟨ns, hstl⟩ := hM.lst
    have hD32 := hM.wd.len hc5
    have hDl : D.length ≤ 1000 := Nat.le_trans hD32 (by decide)
    clear hltZ hZ hZD hZlt N4 F4
    obtain ⟨Z, NZ, hZD, hZlt, hZ⟩ := zed g L h5 [stl]
    have hZa := hZD stl (.head _)
    have N := hstl.news NZ
    clear NZ
    rcases Nat.lt_or_eq_of_le hM.le with hlt | heq
    · obtain ⟨dq, hdq⟩ : ∃ dq, D[pl]? = some dq := ⟨_, List.getElem?_eq_getElem hlt⟩
      have hdq' : (D.map fun d => Value.ref d.a)[pl]? = some (.ref dq.a) := by rw [List.getElem?_map, hdq]; rfl
      have hpl1000 : pl ≤ 1000000 := by omega
      k_steps
      rotate_left
      · exfalso
        (rename ¬ _ => hx)
        simp only [List.size_toArray, List.length_map] at hx
        omega
      (rename Fr _ _ _ _ => F6); (rename News _ _ _ _ => N6); (rename (_ == sysModules) = false => hlo6); (rename _ ∧ AllLt _ _ => l16)
      change wpAny _ _ _ _ _ _
      have hs6 := (show Obj.IsDictOf (strKind PySem.Challenge.rw_iv0023_01.row.prog w) _ _ by assumption)
      rename_i d6 hx6 o6 _ _ _ _ hv6
      have pass6 : ∀ b ob, OwnA g L h5 b ob → OwnA g L hv6 b ob := pass_zed hstl hZ fun p hp => N6 p (.tail _ hp)
      have hlt6 : ∀ b ob, OwnA g L h5 b ob → b ≠ d6 := fun b ob x q => by
        by_cases hb : b = stl
        · have h1 : @LT.lt Nat _ stl d6 := l16.1
          rw [← q, hb] at h1; exact Nat.lt_irrefl _ h1
        · exact allLt_mem l16.2 _ (hZ b ob x.1 x.2.1 x.2.2 (by simpa using hb)) q
      have r6 := (hM.rep pl dq hdq).mono pass6
      obtain ⟨qa, qdx, qsl, qad⟩ : dq.a ≠ d6 ∧ dq.dx ≠ d6 ∧ dq.sl ≠ d6 ∧ dq.ad ≠ d6 := by
        obtain ⟨_, _, _, _, _, _, _, _, _, _, _, _, g1, g2, g3, g4, _⟩ := hM.rep pl dq hdq
        exact ⟨hlt6 _ _ g1, hlt6 _ _ g2, hlt6 _ _ g3, hlt6 _ _ g4⟩
      have okq := hM.wd.ok dq (List.mem_of_getElem? hdq)
      refine loopA hc5 hAL (hM := rfl) (hS := hS5) (hst := rfl) B F6 X T rfl rfl (by show dp + 1 + 20 < _; omega) (by k_units) G (hR.all pass6) r6 okq.2.2 rfl rfl (OwnA.of N6 (.head _)) hs6 hlo6 ⟨qa, qdx, qsl⟩ ?_
      intro u7 h7 tk7 Ts o7 F7 hd7 hdo7 hT7 K7 W7
      have pass7 : ∀ b ob, OwnA g L h5 b ob → OwnA g L h7 b ob := fun b ob x => K7 _ _ (pass6 b ob x) (by simpa using hlt6 b ob x)
      clear F6 N6
      k_steps
      change wpAny _ _ _ _ _ _
      have hB0 : BInv w nd e AL cnt b0 g L h7 stl pl dq D E Ts (OwnA g L h7) D E 0 :=
        ⟨⟨ns, pass7 _ _ hstl⟩, fun j ds h => (hM.rep j ds h).mono pass7, hM.sep, hM.sls, hM.wd, by rw [hM.eh pl (Nat.le_refl _)]; rfl, fun k hk => hM.eh k (Nat.le_of_lt hk), fun _ _ => rfl, hdq, fun _ _ => rfl, fun a o x _ _ => x⟩
      refine loopB hc5 hAL (hM := rfl) (hst := rfl) B F7 X T rfl rfl (by show dp + 1 + 20 < _; omega) (by k_units) G hb0 he ?hm hB0 W7 hd7 hdo7 hlo6 (Ne.symm qad) (fun t ht => ⟨(hT7 t ht).1, fun q => ?_⟩) ?_
      case hm =>
        intro q hq
        rcases List.mem_cons.mp hq with rfl | hq
        · exact rfl
        rcases List.mem_cons.mp hq with rfl | hq
        · exact rfl
        rcases List.mem_cons.mp hq with rfl | hq
        · exact rfl
        rcases List.mem_cons.mp hq with rfl | hq
        · exact rfl
        rcases List.mem_cons.mp hq with rfl | hq
        · exact rfl
        cases hq
      · have h1 := (hT7 t ht).2
        have h2 := (pass6 _ _ hstl).1
        rw [q] at h1
        rw [show hv6.get? stl = none from h1] at h2
        cases h2
      intro u8 h8 tk8 D8 E8 F8 hB8
      k_steps
      obtain ⟨_, _, _, _, _, _, _, _, _, _, _, oq, _, _, _, gq4, gq5, _⟩ := hM.rep pl dq hdq
      have hdd : ∃ es ep, oq.data = .dict es ep := let ⟨es, ep, _, h, _⟩ := gq5; ⟨es, ep, h⟩
      have pass8 : ∀ a o, OwnA g L h5 a o → a ≠ stl → a ≠ dq.ad → OwnA g L h8 a o := fun a o x h1 h2 => hB8.rest a o (pass7 a o x) h1 h2
      have hlt8 : pl < D8.length := (List.getElem?_eq_some_iff.mp hB8.at_).1
      refine hR1 _ _ ?_
      refine Turn.next F8 ⟨⟨k - 1, by omega, pl + 1, _, D8, E8, rfl, ⟨hB8.lst, hB8.rep, hB8.sep, hB8.sls, hB8.wd, fun j ds h hj => ?_, fun k hk => hB8.eh k hk, hlt8⟩, hR.two pass8 hstl gq4 hdd, pass8 _ _ hTab5 (hTab5.ne hstl (by intro q; cases q)) (hTab5.ne gq4 (by rw [dict_cls gq5]; intro q; cases q)), by omega⟩, ?_⟩
      · rcases Nat.lt_or_eq_of_le (Nat.le_of_lt_succ hj) with hj | rfl
        · rw [hB8.dl j (Nat.lt_trans hj hlt)] at h
          rw [hB8.el j hj]
          exact hM.done j ds h hj
        · obtain rfl : ds = dq := Option.some.inj (h.symm.trans hB8.at_)
          exact W7.done (by rw [hB8.ep, List.take_length])
      · k_same2
    · k_steps
      · exfalso
        (rename ((_ : Int) < _) => hx)
        simp only [List.size_toArray, List.length_map] at hx
        omega
      refine hR0 _ _ ?_
      change Ret _ _ _ _ _
      have hS : ∀ a o, OwnA g L h5 a o → a ≠ 122 → OwnS s.heap h5 a o := fun a o x hn => ⟨x.1, by
        cases q : s.heap.get? a with
        | none => rfl
        | some o' => have := x.2.2; rw [hkp a o' hn q] at this; cases this⟩
      refine ret_intro F5 rfl ⟨D, E, ⟨stl, ns, rfl, hS _ _ hstl (hstl.ne hTab5 (by intro q; cases q))⟩, fun j ds h => ?_, hM.sep, hM.wd, fun j ds h => hM.done j ds h (by rw [heq]; exact (List.getElem?_eq_some_iff.mp h).1), tb5, hTab5.1⟩
      have r := hM.rep j ds h
      have n := r.ne_tab hTab5
      exact r.keepP hS n.1 n.2.1 n.2.2.1 n.2.2.2
end Mine
end PartMk
section PartLw1
namespace Mine
theorem offLw1 : True := by (w_top off; exact True.intro)
def lawDef : Option (Str × Arguments × List Stmt × Scope) := (PySem.Challenge.pw_iv0023_01.main.body[12]?).bind defParts
def lawBody : List Stmt := lawDef.elim [] fun x => x.2.2.1
abbrev lawEnv (nm : Str) (scope : Scope) (L fa : Addr) (cd : Value) : Env := envOfC nm scope L fa cd
section
variable {prog : Program} {w : World} {A : Around} {s : Shared} {env : Env} {h₀ : Heap} {Q : Flow → Shared → Prop} {E : Value → Shared → Prop}
/-- over range(n); the body stores the names xs alone -/
theorem for_rangeT (xs : List Str) {x : Str} {px : Pos} {body orelse : List Stmt} {r : Addr} {n : Nat} {b₀ : Int} {t₀ u₀ v₀ : Tok} {m : Str → Option Value}
    (hh : A.handled = none) (hE : PassesOwn (model prog w) A env E) (hr : IsRange s.heap r 0 b₀ 1 t₀ u₀ v₀) (hb : b₀ = (n : Int)) (hn : n ≤ 1000000)
    (J : Nat → (Str → Option Value) → (Addr → Obj → Prop) → Prop) (mono : ∀ i m P P', (∀ a o, P a o → P' a o) → J i m P → J i m P')
    (F : Fr h₀ env.locals s.heap m) (h0 : J 0 m (OwnA h₀ env.locals s.heap))
    (turn : ∀ I oI i t u h tk, i < n → I ≠ env.locals → h₀.get? I = none → s.heap.get? I = none → Fr h₀ env.locals h (ovr xs u m) → J i u (OwnI I h₀ env.locals h) → h.get? I = some oI → ∀ R : Flow → Shared → Prop, (∀ f s', Turn s h₀ env.locals Q (fun h' m₂ => h'.get? I = some oI ∧ J (i + 1) m₂ (OwnI I h₀ env.locals h') ∧ ∀ y, xs.contains y = false → m₂ y = m y) f s' → R f s') →
      wpAny (model prog w) A (storeName env x (.int (i : Int) t)) (fun _ s₂ => wpAny (model prog w) A (execs body env) R E s₂) E { s with heap := h, toks := tk })
    (done : ∀ u h tk, Fr h₀ env.locals h (ovr xs u m) → J n u (OwnA h₀ env.locals h) → wpAny (model prog w) A (execs orelse env) Q E { s with heap := h, toks := tk }) :
    wpAny (model prog w) A (pyIter (.ref r)) (fun it s₂ => codeAny (model prog w) A (.forLoop (.Name x px) it body orelse env) (fun r s' => match r with | .ok f => Q f s' | .error e => cameBackBy (model prog w) A env E e s') s₂) E s := by
  subst hb
  have hsz : Builtin.Range.rangeSize 0 (n : Int) 1 = (n : Int) := by rw [rangeSize_one]; split <;> omega
  refine wpAny_pyIter_range hr (small_one (by omega) (by omega) (by omega) (by omega)) ?_
  have W := Walks.range (prog := prog) (w := w) hh s.heap.objs.size 0 1 n
  have hIL : s.heap.objs.size ≠ env.locals := Nat.ne_of_gt F.ns.lt
  have hI0 : h₀.get? s.heap.objs.size = none := next_is_new F
  refine forT (KTurns.ofWalks W fun i v s Q E st q => wpAny_of_eq rfl q) hE
    (by rw [hsz]; simpa using Heap.get?_push_size _ rfl) hI0 (fun i m₁ P => J i m₁ P ∧ ∀ y, xs.contains y = false → m₁ y = m y) (fun i m P P' k x => ⟨mono i m P P' k x.1, x.2⟩) (F.push _) hIL
    ⟨mono _ _ _ _ (fun a o x => ⟨⟨Heap.get?_push_of_some _ x.1, x.2⟩, Nat.ne_of_lt (Heap.lt_size x.1)⟩) h0, fun _ _ => rfl⟩ (fun i v m₁ h tk hi hP F₁ hJ st R hR => ?_) fun m₁ h tk F₁ hJ => ?_
  · obtain ⟨t, rfl⟩ := hP
    have e : (0 + (i : Int) * 1) = (i : Int) := by omega
    rw [e]
    exact wpAny_assign_Name (turn _ _ i t m₁ h tk hi hIL hI0 (Heap.get?_none_of_le (Nat.le_refl _)) (by rw [ovr_self xs m₁ m hJ.2]; exact F₁) hJ.1 st R hR)
  · exact done m₁ h tk (by rw [ovr_self xs m₁ m hJ.2]; exact F₁) (mono _ _ _ _ (fun _ _ x => x.1) hJ.1)
end
section
variable {w : World} {A A₀ : Around} {base g : Heap} {outer : List Env} {env : Env} {p : Program} {loose : List Str} {mean : ExcName → Option Value} {mg mb : Str → Option Value} {s : Shared}
  {L : Addr} {m : Str → Option Value} {Q E : Value → Shared → Prop}
theorem call_take {n at_ : Int} {c sl : Addr} {tn t k n9 : Nat} {vs : List Value} {ns : List Int} (B₀ : Below A₀ base outer g) (F : Fr g L s.heap m) (X : (hdTop.heap_39 w.params).In g) (T : Top p loose mean mg mb g) (hh : A.handled = none) (hA : A.frames = some (env :: outer)) (hf : env.frame = some L) (hke : env.scope.kind = .function)
    (hroom : A.depth + 14 < recursionLimit) (hun : A.units + 100 < cLine) (hn : 0 < n) (h0 : 0 ≤ at_) (h1 : at_ ≤ 1000)
    (hc : OwnA g L s.heap c (W.listOf #[.ref sl, .int at_ t] k)) (hsl : OwnA g L s.heap sl (W.listOf vs.toArray n9)) (hne : sl ≠ c) (hi : IntsAre vs ns) (hl : ns.length ≤ 30)
    (h : ∀ h' tk' (r : Nat) t' k' t2, Fr g L h' m → Kept [c] g L s.heap h' → (r : Int) < n → OwnA g L h' c (W.listOf #[.ref sl, .int (at_ + 1) t2] k') → Q (.int (r : Int) t') { s with heap := h', toks := tk' }) :
    wpAny (model PySem.Challenge.rw_iv0023_01.row.prog w) A (call (.ref 134) [.ref c, .int n tn]) Q E s := by
  refine call_con [c] B₀ F X T hh hA hf hke (fun d hd => by rw [List.mem_singleton.mp hd]; exact hc.2) (fun g2 C2 st2 kp hn2 => take_con C2 hn h0 h1 (by omega) (by omega) (hn2 c (.head _)) hc.1 ⟨_, kp _ _ (by simpa using hne) hsl.1, rfl, _, rfl⟩ hi hl) ?_
  rintro v h' tk' F' kp ⟨r, t', k', t2, rfl, r0, r1, hc'⟩
  obtain ⟨r, rfl⟩ := Int.eq_ofNat_of_zero_le r0
  exact h h' tk' r t' k' t2 F' (Kept.of_call kp) r1 ⟨hc', hc.2⟩
end
def labs : List Str := [Str.ofString "a", Str.ofString "", Str.ofString "'x'", Str.ofString "NAME"]
/-- the law's arcs, as far as they have been drawn -/
inductive ArcTup (P : Addr → Obj → Prop) (AL : List Arc) (k : Nat) (v : Value) : Prop
  | ctr (a : Arc) (x : Addr) (t1 t2 t3 n : Nat) (h1 : AL[k]? = some a) (h2 : v = .ref x) (h3 : P x { cls := .type "tuple", data := .seq #[.int (a.1 : Int) t1, .str a.2.1 t2, .int (a.2.2 : Int) t3] n }) : ArcTup P AL k v
inductive ArcList (P : Addr → Obj → Prop) (al : Addr) (AL : List Arc) (cnt : Nat) : Prop
  | ctr (vs : List Value) (n : Nat) (h1 : P al (W.listOf vs.toArray n)) (h2 : vs.length = AL.length) (h3 : ∀ (k : Nat) v, vs[k]? = some v → ArcTup P AL k v) (h4 : ∀ a ∈ AL, a.1 < cnt ∧ a.2.2 < cnt ∧ a.2.1 ∈ labs) : ArcList P al AL cnt
theorem ArcList.mono {P P' : Addr → Obj → Prop} {al : Addr} {AL : List Arc} {cnt : Nat} (x : ArcList P al AL cnt) (k : ∀ a o, P a o → P' a o) : ArcList P' al AL cnt :=
  let ⟨vs, n, h1, h2, h3, h4⟩ := x
  ⟨vs, n, k _ _ h1, h2, fun j v e => let ⟨a, x, t1, t2, t3, n, q1, q2, q3⟩ := h3 j v e; ⟨a, x, t1, t2, t3, n, q1, q2, k _ _ q3⟩, h4⟩
local macro_rules | `(tactic| walk_at "call ref") => `(tactic| refine stop_here ?_)
def pick {α : Type} (r : Nat) (a b c d : α) : α := match r with | 0 => a | 1 => b | 2 => c | _ => d
theorem pickS {r : Nat} (h : r < 4) {a b c d : Str} {t1 t2 t3 t4 : Tok} : [Value.str a t1, .str b t2, .str c t3, .str d t4][r]? = some (.str (pick r a b c d) (pick r t1 t2 t3 t4)) := by
  match r, h with
  | 0, _ => rfl
  | 1, _ => rfl
  | 2, _ => rfl
  | 3, _ => rfl
theorem pick_labs (r : Nat) : pick r (Str.ofString "a") (Str.ofString "") (Str.ofString "'x'") (Str.ofString "NAME") ∈ labs := by
  unfold pick labs
  split <;> simp
local macro_rules | `(tactic| walk_at "subscriptTail") => `(tactic| k_dflt (refine item_L (by exact News.isList (by k_asm) (by assumption)) (by exact pickS (by assumption)) (by omega) ?_ (by with_unfolding_all rfl)))
theorem arcsLoop {w : World} {A A₀ : Around} {base g : Heap} {outer : List Env} {p : Program} {loose : List Str} {mean : ExcName → Option Value} {mg mb : Str → Option Value} {cnt : Nat}
    {nm : Str} {params : Arguments} {body : List Stmt} {scope : Scope} (hM : lawDef = some (nm, params, body, scope)) {st : Stmt} (hst : lawBody[4]? = some st) {L fa : Addr} {cd : Value} {m : Str → Option Value} {s : Shared} {Q : Flow → Shared → Prop}
    (B₀ : Below A₀ base outer g) (F : Fr g L s.heap m) (X : (hdTop.heap_39 w.params).In g) (T : Top p loose mean mg mb g) (hh : A.handled = none) (hA : A.frames = some (lawEnv nm scope L fa cd :: outer))
    (hroom : A.depth + 20 < recursionLimit) (hun : A.units + 200 < cLine) {c sl al : Addr} {tc at_ t k n9 : Nat} {vs : List Value} {ns : List Int} (h0 : 0 < cnt) (h1 : at_ ≤ 10)
    (hm : ∀ q ∈ ([(Str.ofString "c", .ref c), (Str.ofString "count", .int (cnt : Int) tc), (Str.ofString "arcs", .ref al)] : List (Str × Value)), m q.1 = some q.2)
    (hc : OwnA g L s.heap c (W.listOf #[.ref sl, .int (at_ : Int) t] k)) (hsl : OwnA g L s.heap sl (W.listOf vs.toArray n9)) (hne : sl ≠ c) (hi : IntsAre vs ns) (hl : ns.length ≤ 30) (hal : OwnA g L s.heap al (W.listOf #[] 0)) (hne2 : al ≠ c) (hne3 : sl ≠ al)
    (cont : ∀ u h' tk' AL, Fr g L h' (ovr ["k", "one", "label"] u m) → AL.length ≤ 9 → ArcList (OwnA g L h') al AL cnt → (∀ a o, OwnA g L s.heap a o → a ≠ c → a ≠ al → OwnA g L h' a o) → Q .next { s with heap := h', toks := tk' }) :
    wpAny (model PySem.Challenge.rw_iv0023_01.row.prog w) A (exec st (lawEnv nm scope L fa cd)) Q (fun _ _ => False) s := by
  cases hM
  cases hst
  have em := chain_eq hm
  rw [← em] at F cont
  clear em hm
  obtain ⟨hd, dpt, fr, gd, un⟩ := A
  obtain rfl : fr = some _ := hA
  obtain rfl : hd = none := hh
  have hun' : un + 200 < cLine := hun
  have hroom' : dpt + 20 < recursionLimit := hroom
  clear hun hroom
  obtain ⟨Z, NZ, hZD, hZlt, hZ⟩ := zed g L s.heap [c]
  have hZa := hZD c (.head _)
  have N := hc.news NZ
  clear NZ
  k_steps
  change wpAny _ _ _ _ _ _
  refine call_take B₀ F X T rfl rfl rfl rfl (by show dpt + 14 < _; exact lt_room (by assumption) (by decide)) (by show un + 100 < _; exact lt_room (by assumption) (by decide)) (by decide) (Int.natCast_nonneg _) (by omega) hc hsl hne hi hl ?_
  intro h2 tk2 r t' k' t2 F2 K2 hr hc2
  clear N hZ hZa hZD hZlt F
  obtain ⟨Z, NZ, hZD, hZlt, hZ⟩ := zed g L h2 []
  k_steps
  (rename IsRange _ _ _ _ _ _ _ _ => hrg); (rename Fr _ _ _ _ => F3); (rename News _ _ _ _ => N3)
  have pass3 := fun a o (x : OwnA g L h2 a o) => OwnA.of N3 (hZ a o x.1 x.2.1 x.2.2 List.not_mem_nil)
  refine for_rangeT ["k", "one", "label"] (n := 1 + r) rfl PassesOwn.never hrg (by omega) (by omega)
    (fun idx u P => ∃ at' t' k' AL, P c (W.listOf #[.ref sl, .int ((at' : Nat) : Int) t'] k') ∧ at' ≤ 11 + 3 * idx ∧ AL.length = idx ∧ ArcList P al AL cnt ∧ (∀ a o, OwnA g L s.heap a o → a ≠ c → a ≠ al → P a o))
    (fun i m P P' kk => by rintro ⟨a1, a2, a3, AL, x1, x2, x3, x4, x5⟩; exact ⟨a1, a2, a3, AL, kk _ _ x1, x2, x3, x4.mono kk, fun a o e n1 n2 => kk _ _ (x5 a o e n1 n2)⟩) F3 ?h0 ?turn ?done
  case h0 =>
    exact ⟨at_ + 1, t2, k', [], pass3 _ _ hc2, by omega, rfl, ⟨[], 0, pass3 _ _ (K2 _ _ hal (by simpa using hne2)), rfl, (fun k v h => by cases h), fun _ h => nomatch h⟩, fun a o x n1 n2 => pass3 _ _ (K2 _ _ x (by simpa using n1))⟩
  case done =>
    rintro u h4 tk4 F4 ⟨a1, a2, a3, AL, x1, x2, x3, x4, x5⟩
    k_steps
    exact cont u h4 _ AL F4 (by omega) x4 x5
  case turn =>
    rintro I oI i t u h4 tk4 hin hIL hI0 hIs F4 ⟨a1, a2, a3, AL, x1, x2, x3, x4, x5⟩ hoI R1 hR1
    replace hIL : I ≠ L := hIL
    replace F4 : Fr g L h4 _ := F4
    rw [ovr_ovl] at F4
    replace x1 : OwnI I g L h4 c (W.listOf #[.ref sl, .int ((a1 : Nat) : Int) a2] a3) := x1
    have x5' : ∀ a o, OwnA g L s.heap a o → a ≠ c → a ≠ al → OwnI I g L h4 a o := x5
    have hsl4 := x5' _ _ hsl hne hne3
    clear N3 F3 hrg pass3 hZ hZD hZlt
    obtain ⟨Z, NZ, hZD, hZlt, hZ⟩ := zed g L h4 []
    k_steps
    (rename Fr _ _ _ _ => F5); (rename News _ _ _ _ => N5)
    change wpAny _ _ _ _ _ _
    have pass5 := fun a o (x : OwnA g L h4 a o) => OwnA.of N5 (hZ a o x.1 x.2.1 x.2.2 List.not_mem_nil)
    refine call_take B₀ F5 X T rfl rfl rfl rfl (by show dpt + 14 < _; exact lt_room (by assumption) (by decide)) (by show un + 100 < _; exact lt_room (by assumption) (by decide)) (by omega) (Int.natCast_nonneg _) (by omega) (pass5 _ _ x1.1) (pass5 _ _ hsl4.1) hne hi hl ?_
    intro h6 tk6 r6 t6 k6 t62 F6 K6 hr6 hc6
    clear N5 F5 hZ hZD hZlt
    obtain ⟨Z, NZ, hZD, hZlt, hZ⟩ := zed g L h6 []
    k_steps
    (rename Fr _ _ _ _ => F7); (rename News _ _ _ _ => N7)
    change wpAny _ _ _ _ _ _
    have pass7 := fun a o (x : OwnA g L h6 a o) => OwnA.of N7 (.tail _ (hZ a o x.1 x.2.1 x.2.2 List.not_mem_nil))
    have hsl7 := pass7 _ _ (K6 _ _ (pass5 _ _ hsl4.1) (by simpa using hne))
    refine call_take B₀ F7 X T rfl rfl rfl rfl (by show dpt + 14 < _; exact lt_room (by assumption) (by decide)) (by show un + 100 < _; exact lt_room (by assumption) (by decide)) (by decide) (show (0 : Int) ≤ (a1 : Int) + 1 by omega) (by omega) (pass7 _ _ hc6) hsl7 hne hi hl ?_
    intro h8 tk8 r8 t8 k8 t82 F8 K8 hr8 hc8
    have hltl := (show ∀ p ∈ Z, p.1 < _ by assumption)
    have hlst8 := K8 _ _ (OwnA.of N7 (.head _)) (by simpa using Nat.ne_of_gt (hltl _ (hZ _ _ hc6.1 hc6.2.1 hc6.2.2 List.not_mem_nil)))
    have hr84 : r8 < 4 := by omega
    have p48 : ∀ a o, OwnA g L h4 a o → a ≠ c → OwnA g L h8 a o := fun a o x hn => K8 _ _ (pass7 _ _ (K6 _ _ (pass5 _ _ x) (by simpa using hn))) (by simpa using hn)
    clear N7 F7 hZ hZD hZlt hltl
    obtain ⟨Z, NZ, hZD, hZlt, hZ⟩ := zed g L h8 []
    have zl := hZ _ _ hlst8.1 hlst8.2.1 hlst8.2.2 List.not_mem_nil
    obtain ⟨vs4, n4, hal4, hvl, hvi, hbd⟩ := x4
    replace hal4 : OwnI I g L h4 al (W.listOf vs4.toArray n4) := hal4
    have hal8 := p48 _ _ hal4.1 hne2
    have zal := hZ _ _ hal8.1 hal8.2.1 hal8.2.2 List.not_mem_nil
    k_steps
    (rename Fr _ _ _ _ => F9); (rename News _ _ _ _ => N9)
    change wpAny _ _ _ _ _ _
    have pass9 := fun a o (x : OwnA g L h8 a o) => OwnA.of N9 (hZ a o x.1 x.2.1 x.2.2 List.not_mem_nil)
    have hsl9 := pass9 _ _ (p48 _ _ hsl4.1 hne)
    refine call_take B₀ F9 X T rfl rfl rfl rfl (by show dpt + 14 < _; exact lt_room (by assumption) (by decide)) (by show un + 100 < _; exact lt_room (by assumption) (by decide)) (show (0 : Int) < (cnt : Int) by omega) (show (0 : Int) ≤ (a1 : Int) + 1 + 1 by omega) (by omega) (pass9 _ _ hc8) hsl9 hne hi hl ?_
    intro h10 tk10 r10 t10 k10 t102 F10 K10 hr10 hc10
    have p410 : ∀ a o, OwnA g L h4 a o → a ≠ c → OwnA g L h10 a o := fun a o x hn => K10 _ _ (pass9 _ _ (p48 _ _ x hn)) (by simpa using hn)
    have hal10 := p410 _ _ hal4.1 hne2
    clear N9 F9 hZ hZD hZlt zl zal
    obtain ⟨Z, NZ, hZD, hZlt, hZ⟩ := zed g L h10 [al]
    have hZa := hZD al (.head _)
    have N := hal10.news NZ
    clear NZ
    have hvl4 : vs4.length ≤ 1000 := by omega
    k_steps
    (rename Fr _ _ _ _ => F11); (rename News _ _ _ _ => N11)
    (rename _ ∧ AllLt _ _ => l1)
    have pass11 := fun a o (x : OwnA g L h10 a o) (hn : a ≠ al) => OwnA.of N11 (.tail _ (.tail _ (hZ a o x.1 x.2.1 x.2.2 (by simpa using hn))))
    have pAll := fun a o (x : OwnI I g L h4 a o) (hn : a ≠ c) (hn2 : a ≠ al) => (⟨pass11 _ _ (p410 _ _ x.1 hn) hn2, x.2⟩ : OwnI I g L _ a o)
    have hI10 := p410 I oI ⟨hoI, hIL, hI0⟩ (Ne.symm x1.2)
    refine hR1 _ _ ?_
    refine Turn.next F11 ⟨(pass11 _ _ hI10 (Ne.symm hal4.2)).1, ⟨a1 + 1 + 1 + 1, t102, k10, AL ++ [(r6, pick r8 (Str.ofString "a") (Str.ofString "") (Str.ofString "'x'") (Str.ofString "NAME"), r10)], ⟨pass11 _ _ hc10 (Ne.symm hne2), x1.2⟩, ?_, ?_, ⟨_, _, ⟨OwnA.of N11 (.tail _ (.head _)), hal4.2⟩, ?_, fun j v hj => ?_, fun a ha => ?_⟩, fun a o x n1 n2 => pAll _ _ (x5' a o x n1 n2) n1 n2⟩, ?_⟩
    · omega
    · rw [List.length_append, x3]; rfl
    · rw [List.length_append, List.length_append, hvl]; rfl
    · rcases snoc_cases hj with hj | ⟨rfl, rfl⟩
      · obtain ⟨a, x, t1, t2, t3, n, q1, q2, q3⟩ := hvi j v hj
        replace q3 : OwnI I g L h4 x _ := q3
        refine ⟨a, x, t1, t2, t3, n, ?_, q2, pAll _ _ q3 (q3.1.ne x1.1 (by intro q; injection q with q; revert q; decide)) (q3.1.ne hal4.1 (by intro q; injection q with q; revert q; decide))⟩
        rw [List.getElem?_append_left (List.getElem?_eq_some_iff.mp q1).1]; exact q1
      · have hT := OwnA.of N11 (.head _)
        refine ⟨(r6, pick r8 (Str.ofString "a") (Str.ofString "") (Str.ofString "'x'") (Str.ofString "NAME"), r10), _, t6, _, t10, _, ?_, rfl, ⟨hT, ?_⟩⟩
        · rw [hvl]; simp
        · exact Ne.symm (allLt_mem l1.2 _ (hZ _ _ hI10.1 hI10.2.1 hI10.2.2 (by simpa using Ne.symm hal4.2)))
    · rcases List.mem_append.mp ha with q | q
      · exact hbd a q
      · rw [List.mem_singleton.mp q]
        exact ⟨by simpa using hr6, by simpa using hr10, pick_labs r8⟩
    · k_same2
end Mine
end PartLw1
local macro_rules | `(tactic| walk_at "CompSrc") => `(tactic| refine Mine.stop_here ?_)
section PartLw2
namespace Mine
theorem offLw2 : True := by (w_top off; exact True.intro)
local macro_rules | `(tactic| walk_at "idle") => `(tactic| fail "idle")
local macro_rules | `(tactic| walk_at "exec Assign cons ListComp") => `(tactic| k_dflt (refine LCg.Assign_ListComp_U (F₀ := by k_asm) (by rfl) (by with_unfolding_all rfl) (by rfl) (by decide) (by rfl) (by decide) (by rfl) (by rfl) (by rfl) ?_))
structure NS where
  a : Addr
  dx : Addr
  al : Addr
inductive RepNS (w : World) (P : Addr → Obj → Prop) (x : NS) (as : List Value) : Prop
  | ctr (t1 t2 t3 n n' : Nat) (h1 : P x.a (instObj 67 x.dx)) (h2 : P x.dx (dictOf [⟨PyData.keyHash w.params "from_rule", .str "from_rule" t1, .str "r" t2⟩, ⟨PyData.keyHash w.params "arcs", .str "arcs" t3, .ref x.al⟩] n)) (h3 : P x.al (W.listOf as.toArray n')) : RepNS w P x as
theorem mkNS {g h : Heap} {L x d l : Addr} {o1 o3 : Obj} {r : List (Addr × Obj)} (_ : News g L h ((l, o1) :: (x, instObj 67 d) :: (d, o3) :: r)) : ∃ n : NS, n = ⟨x, d, l⟩ := ⟨_, rfl⟩
theorem comp_end3 {h₀ : Heap} {L I C D : Addr} {m : Str → Option Value} {s₁ : Shared} {oI oC oD : Obj} {S : List (Addr × Obj) → Prop} {rest : Value → List (Addr × Obj) → Prop} {y : Value} {h' : Heap} {tk : Nat} {p1 p2 p3 : Addr × Obj} {news : List (Addr × Obj)}
    (F : Fr h₀ L h' m) (N : News h₀ L h' (p1 :: p2 :: p3 :: (I, oI) :: (C, oC) :: (D, oD) :: news)) (off : LCg.Off3 I C D news) (n1 : @Ne Nat p1.1 I ∧ @Ne Nat p1.1 C ∧ @Ne Nat p1.1 D) (n2 : @Ne Nat p2.1 I ∧ @Ne Nat p2.1 C ∧ @Ne Nat p2.1 D) (n3 : @Ne Nat p3.1 I ∧ @Ne Nat p3.1 C ∧ @Ne Nat p3.1 D)
    (hS : S (p1 :: p2 :: p3 :: news)) (r : rest y (p1 :: p2 :: p3 :: news)) : LCg.CompEnd h₀ L m s₁ I oI C oC D oD S rest y { s₁ with heap := h', toks := tk } :=
  LCg.CompEnd.intro F N (p1 :: p2 :: p3 :: news) (fun p hp => by
    simp only [List.mem_cons] at hp ⊢
    rcases hp with h | h | h | h | h | h | h <;> simp [h]) (show LCg.Off3 I C D (p1 :: p2 :: p3 :: news) from And.intro n1 (And.intro n2 (And.intro n3 off))) hS r
theorem comp_end1 {h₀ : Heap} {L I C D : Addr} {m : Str → Option Value} {s₁ : Shared} {oI oC oD : Obj} {S : List (Addr × Obj) → Prop} {rest : Value → List (Addr × Obj) → Prop} {y : Value} {h' : Heap} {tk : Nat} {p1 : Addr × Obj} {news : List (Addr × Obj)}
    (F : Fr h₀ L h' m) (N : News h₀ L h' (p1 :: (I, oI) :: (C, oC) :: (D, oD) :: news)) (off : LCg.Off3 I C D news) (n1 : @Ne Nat p1.1 I ∧ @Ne Nat p1.1 C ∧ @Ne Nat p1.1 D)
    (hS : S (p1 :: news)) (r : rest y (p1 :: news)) : LCg.CompEnd h₀ L m s₁ I oI C oC D oD S rest y { s₁ with heap := h', toks := tk } :=
  LCg.CompEnd.intro F N (p1 :: news) (fun p hp => by
    simp only [List.mem_cons] at hp ⊢
    rcases hp with h | h | h | h | h <;> simp [h]) (show LCg.Off3 I C D (p1 :: news) from And.intro n1 off) hS r
theorem off1_mem {D : Addr} : ∀ {l : List (Addr × Obj)}, LCg.Off1 D l → ∀ p ∈ l, p.1 ≠ D
  | [], _, _, h => nomatch h
  | _ :: _, x, p, h => by
    cases h with
    | head => exact x.1
    | tail _ h => exact off1_mem x.2 p h
theorem allLt_lt {d : Addr} : ∀ {Z : List (Addr × Obj)}, AllLt d Z → ∀ p ∈ Z, @LT.lt Nat _ p.1 d
  | [], _, _, h => nomatch h
  | _ :: _, x, p, h => by
    cases h with
    | head => exact x.1
    | tail _ h => exact allLt_lt x.2 p h
theorem RepNS.mono {w : World} {P P' : Addr → Obj → Prop} {x : NS} {as : List Value} (r : RepNS w P x as) (k : ∀ a o, P a o → P' a o) : RepNS w P' x as :=
  let ⟨t1, t2, t3, n, n', h1, h2, h3⟩ := r; ⟨t1, t2, t3, n, n', k _ _ h1, k _ _ h2, k _ _ h3⟩
theorem nodesComp {w : World} {A A₀ : Around} {base g : Heap} {outer : List Env} {p : Program} {loose : List Str} {mean : ExcName → Option Value} {mg mb : Str → Option Value} {cnt : Nat}
    {nm : Str} {params : Arguments} {body : List Stmt} {scope : Scope} (hM : lawDef = some (nm, params, body, scope)) {st : Stmt} (hst : lawBody[5]? = some st) {L fa : Addr} {cd : Value} {m : Str → Option Value} {s : Shared} {Q : Flow → Shared → Prop}
    (B₀ : Below A₀ base outer g) (F : Fr g L s.heap m) (X : (hdTop.heap_39 w.params).In g) (T : Top p loose mean mg mb g) (hh : A.handled = none) (hA : A.frames = some (lawEnv nm scope L fa cd :: outer))
    (hroom : A.depth + 20 < recursionLimit) (hun : A.units + 200 < cLine) {tc : Nat} (hcnt : cnt ≤ 1000)
    (hm : ∀ q ∈ ([(Str.ofString "count", .int (cnt : Int) tc)] : List (Str × Value)), m q.1 = some q.2)
    (cont : ∀ h' tk' ndl n (nl : List NS), Fr g L h' (fun y => if y = Str.ofString "nodes" then some (.ref ndl) else m y) → Kept [] g L s.heap h' → nl.length = cnt → OwnA g L h' ndl (W.listOf (nl.map fun x => Value.ref x.a).toArray n) → (∀ x ∈ nl, RepNS w (OwnA g L h') x [] ∧ x.al ≠ ndl ∧ s.heap.get? x.al = none) → (nl.map (·.al)).Nodup → (nl.map (·.a)).Nodup → Q .next { s with heap := h', toks := tk' }) :
    wpAny (model PySem.Challenge.rw_iv0023_01.row.prog w) A (exec st (lawEnv nm scope L fa cd)) Q (fun _ _ => False) s := by
  cases hM
  cases hst
  have em := chain_eq hm
  rw [← em] at F cont
  clear em hm
  obtain ⟨hd, dpt, fr, gd, un⟩ := A
  obtain rfl : fr = some _ := hA
  obtain rfl : hd = none := hh
  have hun' : un + 200 < cLine := hun
  have hroom' : dpt + 20 < recursionLimit := hroom
  clear hun hroom
  obtain ⟨Z, NZ, hZD, hZlt, hZ⟩ := zed g L s.heap []
  k_steps
  (rename IsRange _ _ _ _ _ _ _ _ => hrg); (rename Fr _ _ _ _ => F1); (rename News _ _ _ _ => N1)
  have pass1 := fun a o (x : OwnA g L s.heap a o) => OwnA.of N1 (hZ a o x.1 x.2.1 x.2.2 List.not_mem_nil)
  refine LCg.CompSrc.range rfl F1 N1 hrg (small_one (by omega) (by omega) (by omega) (by omega)) (n := cnt) (by rw [rangeSize_one]; split <;> omega) (by rw [sizeLine_eq]; omega) fun g' => ?_
  let Inv : Nat → List Value → List (Addr × Obj) → Prop := fun i ys news => ∃ nl : List NS, ys = nl.map (fun x => Value.ref x.a) ∧ nl.length = i ∧ (∀ x ∈ nl, RepNS w (fun a o => (a, o) ∈ news) x [] ∧ s.heap.get? x.al = none) ∧ (nl.map (·.al)).Nodup ∧ (nl.map (·.a)).Nodup ∧ ∀ p ∈ Z, p ∈ news
  refine (?key : ∀ k i ys news, i + k = cnt → Inv i ys news → LCg.CompRest _ _ _ _ _ _ _ _ _ _ _ _ _ _ _ k i ys news) cnt 0 [] Z (Nat.zero_add _) ⟨[], rfl, rfl, (fun _ h => nomatch h), List.nodup_nil, List.nodup_nil, fun _ h => h⟩
  case key =>
    intro k
    induction k with
    | zero =>
      rintro i ys news hi ⟨nl, rfl, hnl, hrep, hn1, hn2, hZn⟩
      refine LCg.CompRest.zero ?_
      intro D h tk F2 N2 off2
      have hoff : ∀ p ∈ news, p.1 ≠ D := off1_mem off2
      refine cont h tk D _ nl F2 (fun a o x _ => OwnA.of N2 (.tail _ (hZn _ (hZ a o x.1 x.2.1 x.2.2 List.not_mem_nil)))) (by omega) (OwnA.of N2 (.head _)) (fun x hx => ⟨((hrep x hx).1).mono fun a o q => OwnA.of N2 (.tail _ q), ?_, (hrep x hx).2⟩) hn1 hn2
      obtain ⟨_, _, _, _, _, _, _, q3⟩ := (hrep x hx).1
      exact hoff _ q3
    | succ k ih =>
      rintro i ys news hi ⟨nl, hys, hnl, hrep, hn1, hn2, hZn⟩
      refine LCg.CompRest.succ ?_
      intro v I oI C oC D m₂ h tk E' hP hoC hmx F2 N2 off2 ne2
      clear N1 F1
      k_steps
      (rename Fr g L _ _ => kF); (rename News g L _ _ => kN); (rename _ ∧ _ ∧ _ ∧ AllLt _ _ => la); (rename _ ∧ _ ∧ _ ∧ _ ∧ _ ∧ AllLt _ _ => lb); (rename @LT.lt Nat _ _ _ => lc)
      obtain ⟨n3, hn3⟩ := mkNS kN
      have hold : ∀ p ∈ news, @LT.lt Nat _ p.1 _ := allLt_lt la.2.2.2
      have hold2 : ∀ p ∈ news, @LT.lt Nat _ p.1 _ := allLt_lt lb.2.2.2.2.2
      obtain ⟨la1, la2, la3, _⟩ := la
      obtain ⟨lb1, lb2, lb3, lb4, lb5, _⟩ := lb
      have la1 := ltN la1
      have la2 := ltN la2
      have la3 := ltN la3
      have lb1 := ltN lb1
      have lb2 := ltN lb2
      have lb3 := ltN lb3
      have lb4 := ltN lb4
      have lb5 := ltN lb5
      have lc := ltN lc
      refine comp_end3 kF kN off2 ⟨by dsimp only; first | exact Nat.ne_of_gt (by assumption) | omega, by dsimp only; first | exact Nat.ne_of_gt (by assumption) | omega, by dsimp only; first | exact Nat.ne_of_gt (by assumption) | omega⟩ ⟨by dsimp only; first | exact Nat.ne_of_gt (by assumption) | omega, by dsimp only; first | exact Nat.ne_of_gt (by assumption) | omega, by dsimp only; first | exact Nat.ne_of_gt (by assumption) | omega⟩ ⟨by dsimp only; first | exact Nat.ne_of_gt (by assumption) | omega, by dsimp only; first | exact Nat.ne_of_gt (by assumption) | omega, by dsimp only; first | exact Nat.ne_of_gt (by assumption) | omega⟩ trivial (ih (i + 1) _ _ (by omega) ⟨nl ++ [n3], by rw [hys, List.map_append, hn3]; rfl, by rw [List.length_append, hnl]; rfl, fun x hx => ?_, ?_, ?_, fun p hp => .tail _ (.tail _ (.tail _ (hZn p hp)))⟩)
      · rcases List.mem_append.mp hx with q | q
        · exact ⟨((hrep x q).1).mono fun a o z => .tail _ (.tail _ (.tail _ z)), (hrep x q).2⟩
        · rw [List.mem_singleton.mp q, hn3]
          refine ⟨⟨_, _, _, _, _, .tail _ (.head _), .tail _ (.tail _ (.head _)), .head _⟩, ?_⟩
          have h1 := kN _ (.head _)
          cases q9 : s.heap.get? _ with
          | none => rfl
          | some ob => exact absurd (hold2 _ (hZn _ (hZ _ _ q9 h1.2.1 h1.2.2 List.not_mem_nil))) (Nat.lt_irrefl _)
      · rw [List.map_append]
        refine List.nodup_append.mpr ⟨hn1, by simp, fun b hb b' hb' e => ?_⟩
        obtain ⟨x, hx, rfl⟩ := List.mem_map.mp hb
        obtain ⟨_, _, _, _, _, _, _, q3⟩ := (hrep x hx).1
        rw [List.map_cons, List.map_nil, hn3] at hb'
        have := hold2 _ q3
        rw [show x.al = _ from e.trans (List.mem_singleton.mp hb')] at this
        exact Nat.lt_irrefl _ this
      · rw [List.map_append]
        refine List.nodup_append.mpr ⟨hn2, by simp, fun b hb b' hb' e => ?_⟩
        obtain ⟨x, hx, rfl⟩ := List.mem_map.mp hb
        obtain ⟨_, _, _, _, _, q1, _, _⟩ := (hrep x hx).1
        rw [List.map_cons, List.map_nil, hn3] at hb'
        have := Nat.lt_trans (hold _ q1) lc
        rw [show x.a = _ from e.trans (List.mem_singleton.mp hb')] at this
        exact Nat.lt_irrefl _ this
end Mine
end PartLw2
local macro_rules | `(tactic| walk_at "call ref") => `(tactic| refine Mine.stop_here ?_)
section PartLw3
namespace Mine
theorem offLw3 : True := by (w_top off; exact True.intro)
local macro_rules | `(tactic| walk_at "idle") => `(tactic| fail "idle")
def ndOf (nl : List NS) (i : Nat) : Addr := (nl[i]?.map (·.a)).getD 0
inductive ArcP (w : World) (P : Addr → Obj → Prop) (nd : Nat → Addr) (v : Value) (a : Arc) : Prop
  | ctr (x dx : Addr) (t1 t2 n : Nat) (lv : Value) (e : v = .ref x) (h1 : P x (instObj 38 dx)) (h2 : P dx (dictOf (arcDict w t1 t2 (nd a.2.2) lv) n)) (h3 : LabV lv a.2.1) : ArcP w P nd v a
def GraphP (w : World) (P : Addr → Obj → Prop) (nl : List NS) (AL : List Arc) : Prop := ∃ f : Nat → List Value, (∀ (i : Nat) x, nl[i]? = some x → RepNS w P x (f i)) ∧
  ∀ i, i < nl.length → (f i).length = (outOf AL i).length ∧ ∀ (k : Nat) v, (f i)[k]? = some v → ∃ a, (outOf AL i)[k]? = some a ∧ ArcP w P (ndOf nl) v a
theorem ArcP.mono {w : World} {P P' : Addr → Obj → Prop} {nd : Nat → Addr} {v : Value} {a : Arc} (x : ArcP w P nd v a) (k : ∀ a o, P a o → o.cls = .ref 38 ∨ o.cls = .type "dict" → P' a o) : ArcP w P' nd v a :=
  let ⟨x, dx, t1, t2, n, lv, e, h1, h2, h3⟩ := x; ⟨x, dx, t1, t2, n, lv, e, k _ _ h1 (.inl rfl), k _ _ h2 (.inr rfl), h3⟩
theorem GraphP.mono {w : World} {P P' : Addr → Obj → Prop} {nl : List NS} {AL : List Arc} (x : GraphP w P nl AL) (k : ∀ a o, P a o → P' a o) : GraphP w P' nl AL :=
  let ⟨f, h1, h2⟩ := x; ⟨f, fun i x h => (h1 i x h).mono k, fun i hi => ⟨(h2 i hi).1, fun j v e => let ⟨a, p, q⟩ := (h2 i hi).2 j v e; ⟨a, p, q.mono fun a o z _ => k a o z⟩⟩⟩
theorem GraphP.at_ {w : World} {h : Heap} {nl : List NS} {AL : List Arc} (x : GraphP w (fun a o => h.get? a = some o) nl AL) (hn : (nl.map (·.a)).Nodup) (hA : ∀ a ∈ AL, a.1 < nl.length ∧ a.2.2 < nl.length) : GraphAt w h (ndOf nl) nl.length AL where
  node := fun i hi => by
    obtain ⟨f, h1, h2⟩ := x
    obtain ⟨t1, t2, t3, n, n', g1, g2, g3⟩ := h1 i _ (List.getElem?_eq_getElem hi)
    refine ⟨f i, ⟨_, _, t1, t2, t3, n, n', ?_, g2, g3⟩, (h2 i hi).1, fun k v e => let ⟨a, e1, x, dx, t1, t2, n, lv, q, q1, q2, q3⟩ := (h2 i hi).2 k v e; ⟨a, e1, x, dx, t1, t2, n, lv, q, q1, q2, q3⟩⟩
    show h.get? (ndOf nl i) = _
    unfold ndOf
    rw [List.getElem?_eq_getElem hi]; exact g1
  inj := fun i j hi hj e => by
    unfold ndOf at e
    rw [List.getElem?_eq_getElem hi, List.getElem?_eq_getElem hj] at e
    have h1 : (nl.map (·.a))[i]'(by rw [List.length_map]; exact hi) = (nl.map (·.a))[j]'(by rw [List.length_map]; exact hj) := by rw [List.getElem_map, List.getElem_map]; exact e
    exact (List.getElem_inj hn).mp h1
  arcs := hA
section
variable {w : World} {A A₀ : Around} {base g : Heap} {outer : List Env} {env : Env} {p : Program} {loose : List Str} {mean : ExcName → Option Value} {mg mb : Str → Option Value} {s : Shared}
  {L : Addr} {m : Str → Option Value} {Q E : Value → Shared → Prop}
theorem call_nadd {xo xt : NS} {as as' ex : List Value} {lv : Value} (B₀ : Below A₀ base outer g) (F : Fr g L s.heap m) (X : (hdTop.heap_39 w.params).In g) (T : Top p loose mean mg mb g) (hh : A.handled = none) (hA : A.frames = some (env :: outer)) (hf : env.frame = some L) (hke : env.scope.kind = .function)
    (hroom : A.depth + 14 < recursionLimit) (hun : A.units + 100 < cLine) (h1 : RepNS w (OwnA g L s.heap) xo as) (h2 : RepNS w (OwnA g L s.heap) xt as') (hlen : as.length ≤ 100) (hex : (ex = [] ∧ lv = .none) ∨ ∃ lab t, ex = [.str lab t] ∧ lv = .str lab t)
    (h : ∀ h' tk' x dx v1 v2 m1 m2, Fr g L h' m → Kept [xo.al] g L s.heap h' → OwnA g L h' xo.al (W.listOf (as ++ [Value.ref x]).toArray m1) → OwnA g L h' x (instObj 38 dx) → OwnA g L h' dx (dictOf (arcDict w v1 v2 xt.a lv) m2) → s.heap.get? x = none → s.heap.get? dx = none → Q .none { s with heap := h', toks := tk' }) :
    wpAny (model PySem.Challenge.rw_iv0023_01.row.prog w) A (call (.ref 64) (.ref xo.a :: .ref xt.a :: ex)) Q E s := by
  obtain ⟨t1, t2, t3, n, n', a1, a2, a3⟩ := h1
  obtain ⟨u1, u2, u3, k, k', b1, b2, b3⟩ := h2
  have ni : ∀ b dx, OwnA g L s.heap b (instObj 67 dx) → b ∉ [xo.al] := fun b dx e q => e.ne a3 (by intro q; cases q) (List.mem_singleton.mp q)
  have nd : ∀ b es n, OwnA g L s.heap b (dictOf es n) → b ∉ [xo.al] := fun b es n e q => e.ne a3 (by intro q; injection q with q; revert q; decide) (List.mem_singleton.mp q)
  refine call_con [xo.al] B₀ F X T hh hA hf hke (fun d hd => by rw [List.mem_singleton.mp hd]; exact a3.2) (fun g2 C2 st2 kp hn => naddarc_con C2 (by omega) (by omega) (kp _ _ (ni _ _ a1) a1.1) (kp _ _ (nd _ _ _ a2) a2.1) (kp _ _ (ni _ _ b1) b1.1) (kp _ _ (nd _ _ _ b2) b2.1) a3.1 (hn _ (.head _)) hlen
    (fun b o hb e => kp b o (by simpa using hb) e) hex) ?_
  rintro v h' tk' F' kp ⟨rfl, x, dx, v1, v2, m1, m2, g1, g2, g3, g4, g5, _, _⟩
  have fresh : ∀ a, s.heap.get? a = none → a ≠ L ∧ g.get? a = none := fun a e => by
    refine ⟨fun q => ?_, ?_⟩
    · obtain ⟨oL, _, _, hL, _⟩ := F.ns
      rw [q, hL] at e
      cases e
    · cases q : g.get? a with
      | none => rfl
      | some o =>
        have := F.keep _ _ q
        rw [e] at this
        cases this
  exact h h' tk' x dx v1 v2 m1 m2 F' (Kept.of_call kp) ⟨g1, a3.2⟩ ⟨g2, fresh _ g4⟩ ⟨g3, fresh _ g5⟩ g4 g5
end
theorem outOf_snoc {pr : List Arc} {a : Arc} {i : Nat} : outOf (pr ++ [a]) i = outOf pr i ++ if a.1 = i then [a] else [] := by
  unfold outOf
  rw [List.filter_append]
  by_cases q : a.1 = i
  · rw [if_pos q]; simp [q]
  · rw [if_neg q]; simp [q]
theorem GraphP.step {w : World} {P P' : Addr → Obj → Prop} {nl : List NS} {pr : List Arc} {f : Nat → List Value} {g h : Heap} {L x dx : Addr} {a : Arc} {xo xt : NS} {m1 m2 v1 v2 : Nat} {lv : Value} (hf1 : ∀ (i : Nat) x, nl[i]? = some x → RepNS w P x (f i))
    (hf2 : ∀ i, i < nl.length → (f i).length = (outOf pr i).length ∧ ∀ (k : Nat) v, (f i)[k]? = some v → ∃ a, (outOf pr i)[k]? = some a ∧ ArcP w P (ndOf nl) v a) (hP : ∀ a o, P a o → OwnA g L h a o) (hK : ∀ a o, P a o → a ≠ xo.al → P' a o)
    (hxo : nl[a.1]? = some xo) (hxt : nl[a.2.2]? = some xt) (hnd : (nl.map (·.al)).Nodup) (hal : P' xo.al (W.listOf (f a.1 ++ [Value.ref x]).toArray m1)) (hx : P' x (instObj 38 dx)) (hdx : P' dx (dictOf (arcDict w v1 v2 xt.a lv) m2)) (hlab : LabV lv a.2.1) : GraphP w P' nl (pr ++ [a]) := by
  obtain ⟨_, _, _, _, _, _, _, q3⟩ := hf1 _ _ hxo
  have hq := hP _ _ q3
  refine ⟨fun i => if a.1 = i then f i ++ [Value.ref x] else f i, fun i z hz => ?_, fun i hi => ⟨?_, fun k v hk => ?_⟩⟩
  · obtain ⟨t1, t2, t3, n, n', g1, g2, g3⟩ := hf1 i z hz
    have na := (hP _ _ g1).ne hq (by intro q; cases q)
    have nd := (hP _ _ g2).ne hq (by intro q; injection q with q; revert q; decide)
    by_cases q : a.1 = i
    · subst q
      obtain rfl : z = xo := Option.some.inj (hz.symm.trans hxo)
      show RepNS w P' z (if a.1 = a.1 then _ else _)
      rw [if_pos rfl]
      exact ⟨t1, t2, t3, n, m1, hK _ _ g1 na, hK _ _ g2 nd, hal⟩
    · show RepNS w P' z (if a.1 = i then _ else _)
      rw [if_neg q]
      refine ⟨t1, t2, t3, n, n', hK _ _ g1 na, hK _ _ g2 nd, hK _ _ g3 fun e => q ?_⟩
      obtain ⟨p1, e1⟩ := List.getElem?_eq_some_iff.mp hz
      obtain ⟨p2, e2⟩ := List.getElem?_eq_some_iff.mp hxo
      have h1 : (nl.map (·.al))[a.1]'(by rw [List.length_map]; exact p2) = (nl.map (·.al))[i]'(by rw [List.length_map]; exact p1) := by rw [List.getElem_map, List.getElem_map, e1, e2]; exact e.symm
      exact (List.getElem_inj hnd).mp h1
  · rw [outOf_snoc]
    dsimp only
    by_cases q : a.1 = i
    · rw [if_pos q, if_pos q, List.length_append, List.length_append, (hf2 i hi).1]; rfl
    · rw [if_neg q, if_neg q, List.append_nil, (hf2 i hi).1]
  · rw [outOf_snoc]
    have old : ∀ v, (f i)[k]? = some v → ∃ b, (outOf pr i ++ if a.1 = i then [a] else [])[k]? = some b ∧ ArcP w P' (ndOf nl) v b := fun v e => by
      obtain ⟨b, h1, h2⟩ := (hf2 i hi).2 k v e
      refine ⟨b, by rw [List.getElem?_append_left (List.getElem?_eq_some_iff.mp h1).1]; exact h1, h2.mono fun c o z hc => hK _ _ z ((hP _ _ z).ne hq ?_)⟩
      rcases hc with hc | hc
      · rw [hc]; intro q; cases q
      · rw [hc]; intro q; injection q with q; revert q; decide
    by_cases q : a.1 = i
    · replace hk : (if a.1 = i then f i ++ [Value.ref x] else f i)[k]? = some v := hk
      rw [if_pos q] at hk
      rcases snoc_cases hk with hk | ⟨rfl, rfl⟩
      · exact old v hk
      · refine ⟨a, ?_, x, dx, v1, v2, m2, lv, rfl, hx, ?_, hlab⟩
        · rw [if_pos q, (hf2 i hi).1]; simp
        · have : ndOf nl a.2.2 = xt.a := by unfold ndOf; rw [hxt]; rfl
          rw [this]; exact hdx
    · replace hk : (if a.1 = i then f i ++ [Value.ref x] else f i)[k]? = some v := hk
      rw [if_neg q] at hk
      exact old v hk
local macro_rules | `(tactic| walk_at "subscriptTail Name Name ref int") => `(tactic| k_dflt (refine item_L (by exact News.isList (by k_asm) (by assumption)) (by assumption) (by omega) ?_ (by with_unfolding_all rfl)))
theorem addLoop {w : World} {A A₀ : Around} {base g : Heap} {outer : List Env} {p : Program} {loose : List Str} {mean : ExcName → Option Value} {mg mb : Str → Option Value} {cnt : Nat}
    {nm : Str} {params : Arguments} {body : List Stmt} {scope : Scope} (hM : lawDef = some (nm, params, body, scope)) {st : Stmt} (hst : lawBody[6]? = some st) {L fa : Addr} {cd : Value} {m : Str → Option Value} {s : Shared} {Q : Flow → Shared → Prop}
    (B₀ : Below A₀ base outer g) (F : Fr g L s.heap m) (X : (hdTop.heap_39 w.params).In g) (T : Top p loose mean mg mb g) (hh : A.handled = none) (hA : A.frames = some (lawEnv nm scope L fa cd :: outer))
    (hroom : A.depth + 20 < recursionLimit) (hun : A.units + 200 < cLine) {al ndl nn : Nat} {AL : List Arc} {nl : List NS} (hcnt : cnt ≤ 5) (hAL9 : AL.length ≤ 9)
    (hm : ∀ q ∈ ([(Str.ofString "arcs", .ref al), (Str.ofString "nodes", .ref ndl)] : List (Str × Value)), m q.1 = some q.2)
    (hal : ArcList (OwnA g L s.heap) al AL cnt) (hnl : nl.length = cnt) (hndl : OwnA g L s.heap ndl (W.listOf (nl.map fun x => Value.ref x.a).toArray nn)) (hrep : ∀ x ∈ nl, RepNS w (OwnA g L s.heap) x [] ∧ x.al ≠ ndl) (hnd : (nl.map (·.al)).Nodup) (hala : ∀ x ∈ nl, x.al ≠ al)
    (cont : ∀ u h' tk', Fr g L h' (ovr ["one", "label", "to"] u m) → GraphP w (OwnA g L h') nl AL → (∀ a o, OwnA g L s.heap a o → a ∉ nl.map (·.al) → OwnA g L h' a o) → Q .next { s with heap := h', toks := tk' }) :
    wpAny (model PySem.Challenge.rw_iv0023_01.row.prog w) A (exec st (lawEnv nm scope L fa cd)) Q (fun _ _ => False) s := by
  cases hM
  cases hst
  have em := chain_eq hm
  rw [← em] at F cont
  clear em hm
  obtain ⟨hd, dpt, fr, gd, un⟩ := A
  obtain rfl : fr = some _ := hA
  obtain rfl : hd = none := hh
  have hun' : un + 200 < cLine := hun
  have hroom' : dpt + 20 < recursionLimit := hroom
  clear hun hroom
  obtain ⟨Z, NZ, hZD, hZlt, hZ⟩ := zed g L s.heap []
  obtain ⟨vs, n9, hal1, hvl, hvi, hbd⟩ := hal
  k_steps
  refine for_listT ["one", "label", "to"] rfl PassesOwn.never ⟨_, hal1.1, rfl, _, rfl⟩
    (fun idx u P => GraphP w P nl (AL.take idx) ∧ (∀ a o, OwnA g L s.heap a o → a ∉ nl.map (·.al) → P a o)) (fun i m P P' k => by rintro ⟨h1, h2⟩; exact ⟨h1.mono k, fun a o e n => k _ _ (h2 a o e n)⟩) F ?h0 ?turn ?done
  case h0 =>
    refine ⟨⟨fun _ => [], fun i x h => (hrep x (List.mem_of_getElem? h)).1, fun i _ => ⟨by rw [List.take_zero]; rfl, fun k v h => by cases h⟩⟩, fun a o x _ => x⟩
  case done =>
    rintro u h₂ tk F₂ ⟨hG, hR⟩
    rw [hvl, List.take_length] at hG
    k_steps
    exact cont u h₂ _ F₂ hG hR
  case turn =>
    rintro I idx v u h₂ tk hv hIL hI0 hIs F₂ ⟨hG, hR⟩ hit hla R1 hR1
    obtain ⟨a, x, t1, t2, t3, n, ha, rfl, hx⟩ := hvi _ _ hv
    obtain ⟨ha1, ha2, halb⟩ := hbd a (List.mem_of_getElem? ha)
    obtain ⟨oI, hoI, hoIc, hoId⟩ := id hit
    replace hIL : I ≠ L := hIL
    replace F₂ : Fr g L h₂ _ := F₂
    rw [ovr_ovl] at F₂
    replace hG : GraphP w (OwnI I g L h₂) nl (AL.take idx) := hG
    replace hR : ∀ a o, OwnA g L s.heap a o → a ∉ nl.map (·.al) → OwnI I g L h₂ a o := hR
    obtain ⟨f, hf1, hf2⟩ := hG
    obtain ⟨xo, hxo⟩ : ∃ xo, nl[a.1]? = some xo := ⟨_, List.getElem?_eq_getElem (by omega)⟩
    obtain ⟨xt, hxt⟩ : ∃ xt, nl[a.2.2]? = some xt := ⟨_, List.getElem?_eq_getElem (by omega)⟩
    have hxo' : (nl.map fun x => Value.ref x.a)[a.1]? = some (.ref xo.a) := by rw [List.getElem?_map, hxo]; rfl
    have hxt' : (nl.map fun x => Value.ref x.a)[a.2.2]? = some (.ref xt.a) := by rw [List.getElem?_map, hxt]; rfl
    have h1000 : a.1 ≤ 1000000 ∧ a.2.2 ≤ 1000000 := ⟨by omega, by omega⟩
    obtain ⟨h1000a, h1000b⟩ := h1000
    have nal : ∀ b o, OwnA g L s.heap b o → o.cls ≠ .type "list" → b ∉ nl.map (·.al) := fun b o e hc q => by
      obtain ⟨z, hz, rfl⟩ := List.mem_map.mp q
      obtain ⟨_, _, _, _, _, _, _, q3⟩ := (hrep z hz).1
      exact e.ne q3 hc rfl
    have hx2 := hR _ _ hx (nal _ _ hx (by intro q; injection q with q; revert q; decide))
    have hndl2 := hR _ _ hndl (fun q => by obtain ⟨z, hz, e⟩ := List.mem_map.mp q; exact (hrep z hz).2 e)
    have hal2 := hR _ _ hal1 (fun q => by obtain ⟨z, hz, e⟩ := List.mem_map.mp q; exact hala z hz e)
    have r1 := hf1 _ _ hxo
    have r2 := hf1 _ _ hxt
    obtain ⟨w1, w2, w3, w4, w5, c1, c2, c3⟩ := id r1
    obtain ⟨y1, y2, y3, y4, y5, d1, d2, d3⟩ := id r2
    clear hZ hZD hZlt NZ
    obtain ⟨Z, NZ, hZD, hZlt, hZ⟩ := zed g L h₂ []
    have zx := hZ _ _ hx2.1.1 hx2.1.2.1 hx2.1.2.2 List.not_mem_nil
    have zn := hZ _ _ hndl2.1.1 hndl2.1.2.1 hndl2.1.2.2 List.not_mem_nil
    have z1 := hZ _ _ c1.1.1 c1.1.2.1 c1.1.2.2 List.not_mem_nil
    have z2 := hZ _ _ c2.1.1 c2.1.2.1 c2.1.2.2 List.not_mem_nil
    have z3 := hZ _ _ d1.1.1 d1.1.2.1 d1.1.2.2 List.not_mem_nil
    have z4 := hZ _ _ d2.1.1 d2.1.2.1 d2.1.2.2 List.not_mem_nil
    have hlen : (f a.1).length ≤ 100 := by
      rw [(hf2 a.1 (by omega)).1]
      have h1 := List.length_filter_le (fun b => b.1 == a.1) (AL.take idx)
      have h2 : (AL.take idx).length ≤ AL.length := by rw [List.length_take]; omega
      unfold outOf; omega
    have htake : AL.take (idx + 1) = AL.take idx ++ [a] := by rw [List.take_add_one, ha]; rfl
    have oII : OwnA g L h₂ I oI := ⟨hoI, hIL, hI0⟩
    k_steps
    all_goals ((rename Fr _ _ _ _ => F5); (rename News _ _ _ _ => N5); change wpAny _ _ _ _ _ _)
    all_goals have pass5 := fun b ob (x : OwnA g L h₂ b ob) => OwnA.of N5 (hZ b ob x.1 x.2.1 x.2.2 List.not_mem_nil)
    · (rename (_ == _) = true => hlb)
      have hlab : LabV .none a.2.1 := .inl ⟨eq_of_beq hlb, rfl⟩
      refine call_nadd (ex := []) (lv := .none) B₀ F5 X T rfl rfl rfl rfl (by show dpt + 14 < _; exact lt_room (by assumption) (by decide)) (by show un + 100 < _; exact lt_room (by assumption) (by decide)) (r1.mono fun b ob x => pass5 b ob x.1) (r2.mono fun b ob x => pass5 b ob x.1) hlen (.inl ⟨rfl, rfl⟩) ?_
      intro h6 tk6 y dy v1 v2 m1 m2 F6 K6 g1 g2 g3 g4 g5
      k_steps
      refine hR1 _ _ ?_
      refine Turn.next F6 ⟨⟨iter_stays hit hoI (K6 _ _ (pass5 _ _ oII) (by simpa using Ne.symm c3.2)).1, ⟨_, (K6 _ _ (pass5 _ _ hal2.1) (by simpa using Ne.symm (hala xo (List.mem_of_getElem? hxo)))).1, rfl, _, rfl⟩⟩, ⟨?_, fun b ob x hb => ⟨K6 _ _ (pass5 _ _ (hR b ob x hb).1) (by simp only [List.mem_singleton]; rintro rfl; exact hb (List.mem_map.mpr ⟨xo, List.mem_of_getElem? hxo, rfl⟩)), (hR b ob x hb).2⟩⟩, ?_⟩
      · rw [htake]
        have nI : ∀ b, s.heap.get? b = s.heap.get? b → True := fun _ _ => trivial
        have ne1 : ∀ b, (∀ ob, ¬ OwnA g L h₂ b ob) → b ≠ I := fun b hb q => hb oI (q ▸ oII)
        refine GraphP.step hf1 hf2 (fun _ _ x => x.1) (fun b ob x hb => ⟨K6 _ _ (pass5 _ _ x.1) (by simpa using hb), x.2⟩) hxo hxt hnd ⟨g1, c3.2⟩ ⟨g2, ne1 _ fun ob q => ?_⟩ ⟨g3, ne1 _ fun ob q => ?_⟩ hlab
        · have := (pass5 _ _ q).1; rw [show _ = none from g4] at this; cases this
        · have := (pass5 _ _ q).1; rw [show _ = none from g5] at this; cases this
      · k_same2
    · (rename (_ == _) = false => hlb)
      have hlab : LabV (.str a.2.1 t2) a.2.1 := .inr ⟨(fun q => by rw [q] at hlb; cases hlb), t2, rfl⟩
      refine call_nadd (ex := [.str a.2.1 t2]) (lv := .str a.2.1 t2) B₀ F5 X T rfl rfl rfl rfl (by show dpt + 14 < _; exact lt_room (by assumption) (by decide)) (by show un + 100 < _; exact lt_room (by assumption) (by decide)) (r1.mono fun b ob x => pass5 b ob x.1) (r2.mono fun b ob x => pass5 b ob x.1) hlen (.inr ⟨_, _, rfl, rfl⟩) ?_
      intro h6 tk6 y dy v1 v2 m1 m2 F6 K6 g1 g2 g3 g4 g5
      k_steps
      refine hR1 _ _ ?_
      refine Turn.next F6 ⟨⟨iter_stays hit hoI (K6 _ _ (pass5 _ _ oII) (by simpa using Ne.symm c3.2)).1, ⟨_, (K6 _ _ (pass5 _ _ hal2.1) (by simpa using Ne.symm (hala xo (List.mem_of_getElem? hxo)))).1, rfl, _, rfl⟩⟩, ⟨?_, fun b ob x hb => ⟨K6 _ _ (pass5 _ _ (hR b ob x hb).1) (by simp only [List.mem_singleton]; rintro rfl; exact hb (List.mem_map.mpr ⟨xo, List.mem_of_getElem? hxo, rfl⟩)), (hR b ob x hb).2⟩⟩, ?_⟩
      · rw [htake]
        have ne1 : ∀ b, (∀ ob, ¬ OwnA g L h₂ b ob) → b ≠ I := fun b hb q => hb oI (q ▸ oII)
        refine GraphP.step hf1 hf2 (fun _ _ x => x.1) (fun b ob x hb => ⟨K6 _ _ (pass5 _ _ x.1) (by simpa using hb), x.2⟩) hxo hxt hnd ⟨g1, c3.2⟩ ⟨g2, ne1 _ fun ob q => ?_⟩ ⟨g3, ne1 _ fun ob q => ?_⟩ hlab
        · have := (pass5 _ _ q).1; rw [show _ = none from g4] at this; cases this
        · have := (pass5 _ _ q).1; rw [show _ = none from g5] at this; cases this
      · k_same2
end Mine
end PartLw3
section PartLw4
namespace Mine
theorem offLw4 : True := by (w_top off; exact True.intro)
local macro_rules | `(tactic| walk_at "eval ListComp") => `(tactic| k_dflt (refine LCg.ListComp_U (F₀ := by k_asm) (by with_unfolding_all rfl) (by decide) (by rfl) (by decide) (by rfl) ?_))
theorem mkA {g h : Heap} {L l : Addr} {o1 : Obj} {r : List (Addr × Obj)} (_ : News g L h ((l, o1) :: r)) : ∃ n : Addr, n = l := ⟨_, rfl⟩
theorem metComp {w : World} {A A₀ : Around} {base g : Heap} {outer : List Env} {p : Program} {loose : List Str} {mean : ExcName → Option Value} {mg mb : Str → Option Value}
    {nm : Str} {params : Arguments} {body : List Stmt} {scope : Scope} (hM : lawDef = some (nm, params, body, scope)) {st : Stmt} (hst : lawBody[8]? = some st) {L fa : Addr} {cd : Value} {m : Str → Option Value} {s : Shared} {Q : Flow → Shared → Prop}
    (B₀ : Below A₀ base outer g) (F : Fr g L s.heap m) (X : (hdTop.heap_39 w.params).In g) (T : Top p loose mean mg mb g) (hh : A.handled = none) (hA : A.frames = some (lawEnv nm scope L fa cd :: outer))
    (hroom : A.depth + 20 < recursionLimit) (hun : A.units + 200 < cLine) {stl n1 : Nat} {vs : List Value} {oc : Obj} {oc0 : Option Value} (hvs : vs.length ≤ 1000)
    (hm : ∀ q ∈ ([(Str.ofString "states", .ref stl)] : List (Str × Value)), m q.1 = some q.2)
    (hstl : OwnA g L s.heap stl (W.listOf vs.toArray n1)) (hcell : OwnA g L s.heap (L + 1) oc) (hocd : oc.data = .cell oc0)
    (cont : ∀ h' tk' ml n oc' (ms : List Addr), Fr g L h' m → Kept [L + 1] g L s.heap h' → OwnA g L h' (L + 1) oc' → oc'.data = .cell (some (.ref ml)) → ms.length = vs.length → OwnA g L h' ml (W.listOf (ms.map Value.ref).toArray n) → s.heap.get? ml = none → (∀ x ∈ ms, OwnA g L h' x (W.listOf #[] 0) ∧ x ≠ ml) → Q .next { s with heap := h', toks := tk' }) :
    wpAny (model PySem.Challenge.rw_iv0023_01.row.prog w) A (exec st (lawEnv nm scope L fa cd)) Q (fun _ _ => False) s := by
  cases hM
  cases hst
  have em := chain_eq hm
  rw [← em] at F cont
  clear em hm
  obtain ⟨hd, dpt, fr, gd, un⟩ := A
  obtain rfl : fr = some _ := hA
  obtain rfl : hd = none := hh
  have hun' : un + 200 < cLine := hun
  have hroom' : dpt + 20 < recursionLimit := hroom
  clear hun hroom
  obtain ⟨Z, NZ, hZD, hZlt, hZ⟩ := zed g L s.heap [L + 1]
  have hZa := hZD (L + 1) (.head _)
  have N := hcell.news NZ
  have hne : stl ≠ L + 1 := fun q => by
    have e := hstl.1
    rw [q, hcell.1] at e
    cases e
    cases hocd
  have zs := hZ _ _ hstl.1 hstl.2.1 hstl.2.2 (by simpa using hne)
  k_steps
  (rename Fr _ _ _ _ => F1)
  change LCg.CompSrc _ _ _ _ _ _ _ _ _ _ _ _ _ _
  refine LCg.CompSrc.ledger rfl F1 N (.tail _ zs) (by rw [sizeLine_eq, List.size_toArray]; omega) fun g' => ?_
  rw [List.size_toArray]
  let Inv : Nat → List Value → List (Addr × Obj) → Prop := fun i ys news => ∃ ms : List Addr, ys = ms.map Value.ref ∧ ms.length = i ∧ (∀ x ∈ ms, (x, W.listOf #[] 0) ∈ news ∧ s.heap.get? x = none) ∧ ∀ p ∈ (L + 1, oc) :: Z, p ∈ news
  refine (?key : ∀ k i ys news, i + k = vs.length → Inv i ys news → LCg.CompRest _ _ _ _ _ _ _ _ _ _ _ _ _ _ _ k i ys news) vs.length 0 [] _ (Nat.zero_add _) ⟨[], rfl, rfl, (fun _ h => nomatch h), fun _ h => h⟩
  case key =>
    intro k
    induction k with
    | zero =>
      rintro i ys news hi ⟨ms, rfl, hms, hrep, hZn⟩
      refine LCg.CompRest.zero ?_
      intro D h tk F2 N2 off2
      have hoff := off1_mem off2
      have hcell2 := OwnA.of N2 (.tail _ (hZn _ (.head _)))
      have pass2 : ∀ a o, OwnA g L s.heap a o → OwnA g L h a o := fun a o x => by
        by_cases q : a = L + 1
        · subst q
          have e := x.1
          rw [hcell.1] at e
          cases e
          exact hcell2
        · exact OwnA.of N2 (.tail _ (hZn _ (.tail _ (hZ a o x.1 x.2.1 x.2.2 (by simpa using q)))))
      have hD0 : s.heap.get? D = none := by
        cases q : s.heap.get? D with
        | none => rfl
        | some o =>
          have h1 := N2 _ (.head _)
          have h2 : OwnA g L s.heap D o := ⟨q, h1.2⟩
          have h3 : (D, o) ∈ news := by
            by_cases q : D = L + 1
            · subst q
              have e := h2.1
              rw [hcell.1] at e
              cases e
              exact hZn _ (.head _)
            · exact hZn _ (.tail _ (hZ _ _ h2.1 h2.2.1 h2.2.2 (by simpa using q)))
          exact absurd rfl (hoff _ h3)
      have hDc : D ≠ L + 1 := fun q => by rw [q] at hD0; rw [hcell.1] at hD0; cases hD0
      clear N hZ hZD hZlt hZa zs
      obtain ⟨Z2, NZ2, hZD, hZlt, hZ⟩ := zed g L h [L + 1]
      have hZa := hZD (L + 1) (.head _)
      have N := hcell2.news NZ2
      have hD2 := OwnA.of N2 (.head _)
      have hms2 : ∀ x ∈ ms, OwnA g L h x (W.listOf #[] 0) := fun x hx => OwnA.of N2 (.tail _ (hrep x hx).1)
      have zD := hZ _ _ hD2.1 hD2.2.1 hD2.2.2 (by simpa using hDc)
      k_steps
      (rename Fr _ _ _ _ => F3); (rename News _ _ _ _ => N3); (rename _ = Data.cell (some _) => dc3)
      have p3 := fun a o (x : OwnA g L h a o) (hn : a ≠ L + 1) => OwnA.of N3 (.tail _ (hZ a o x.1 x.2.1 x.2.2 (by simpa using hn)))
      refine cont _ _ D _ _ ms F3 (fun a o x hn => p3 _ _ (pass2 _ _ x) (by simpa using hn)) (OwnA.of N3 (.head _)) dc3 (by omega) (p3 _ _ hD2 hDc) hD0 fun x hx => ⟨p3 _ _ (hms2 x hx) fun q => ?_, hoff _ (hrep x hx).1⟩
      have := (hrep x hx).2
      rw [q, hcell.1] at this
      cases this
    | succ k ih =>
      rintro i ys news hi ⟨ms, hys, hms, hrep, hZn⟩
      refine LCg.CompRest.succ ?_
      intro v I oI C oC D m₂ h tk E' hP hoC hmx F2 N2 off2 ne2
      have zs2 := hZn _ (.tail _ zs)
      clear N F1
      k_steps
      (rename Fr g L _ _ => kF); (rename News g L _ _ => kN); (rename _ ∧ _ ∧ _ ∧ AllLt _ _ => la)
      have hold : ∀ p ∈ news, @LT.lt Nat _ p.1 _ := allLt_lt la.2.2.2
      obtain ⟨n3, hn3⟩ := mkA kN
      subst hn3
      refine comp_end1 kF kN off2 ⟨Nat.ne_of_gt la.1, Nat.ne_of_gt la.2.1, Nat.ne_of_gt la.2.2.1⟩ (.inr ⟨_, .tail _ zs2, rfl, _, rfl⟩) (ih (i + 1) _ _ (by omega) ⟨ms ++ [n3], by rw [hys, List.map_append]; rfl, by rw [List.length_append, hms]; rfl, fun x hx => ?_, fun p hp => .tail _ (hZn p hp)⟩)
      rcases List.mem_append.mp hx with q | q
      · exact ⟨.tail _ (hrep x q).1, (hrep x q).2⟩
      · rw [List.mem_singleton.mp q]
        refine ⟨.head _, ?_⟩
        have h1 := kN _ (.head _)
        cases q9 : s.heap.get? n3 with
        | none => rfl
        | some ob =>
          have h2 : OwnA g L s.heap n3 ob := ⟨q9, h1.2⟩
          by_cases q5 : n3 = L + 1
          · have h3 := hold _ (hZn _ (.head _))
            rw [← q5] at h3
            exact absurd h3 (Nat.lt_irrefl _)
          · exact absurd (hold _ (hZn _ (.tail _ (hZ _ _ h2.1 h2.2.1 h2.2.2 (by simpa using q5))))) (Nat.lt_irrefl _)
end Mine
end PartLw4
section PartLw5
namespace Mine
/-- a list of numbers in the heap -/
inductive HeldP (P : Addr → Obj → Prop) (l : Addr) (S : List Nat) : Prop
  | ctr (ws : List Value) (n : Nat) (h1 : P l (W.listOf ws.toArray n)) (h2 : IntsAre ws (nats S)) : HeldP P l S
theorem HeldP.mono {P P' : Addr → Obj → Prop} {l : Addr} {S : List Nat} (x : HeldP P l S) (k : ∀ o, P l o → P' l o) : HeldP P' l S := let ⟨ws, n, h1, h2⟩ := x; ⟨ws, n, k _ h1, h2⟩
/-- the law's own table: label to where it leads from H -/
structure OT (H : List Nat) (pr : List Arc) (T : List TE) : Prop where
  nd : (T.map (·.lab)).Nodup
  ne : ∀ t ∈ T, t.lab ≠ "" ∧ t.U.Nodup ∧ t.U ≠ []
  mem : ∀ t ∈ T, ∀ x, x ∈ t.U ↔ ∃ a ∈ pr, a.2.1 = t.lab ∧ a.1 ∈ H ∧ a.2.2 = x
  all : ∀ a ∈ pr, a.2.1 ≠ "" → a.1 ∈ H → ∃ t ∈ T, t.lab = a.2.1
theorem OT.nil {H : List Nat} : OT H [] [] := ⟨List.nodup_nil, (fun _ h => nomatch h), (fun _ h => nomatch h), (fun _ h => nomatch h)⟩
theorem OT.skip {H : List Nat} {pr : List Arc} {T : List TE} (W : OT H pr T) {a : Arc} (ha : a.2.1 = "" ∨ a.1 ∉ H ∨ ∃ t ∈ T, t.lab = a.2.1 ∧ a.2.2 ∈ t.U) : OT H (pr ++ [a]) T where
  nd := W.nd
  ne := W.ne
  mem := fun t ht x => by
    rw [W.mem t ht x]
    constructor
    · rintro ⟨b, hb, r⟩; exact ⟨b, List.mem_append_left _ hb, r⟩
    · rintro ⟨b, hb, e, r1, r2⟩
      rcases List.mem_append.mp hb with q | q
      · exact ⟨b, q, e, r1, r2⟩
      · rw [List.mem_singleton.mp q] at e r1 r2
        rcases ha with ha | ha | ⟨t', ht', e', hm⟩
        · exact absurd (e.symm.trans ha) (W.ne t ht).1
        · exact absurd r1 ha
        · obtain ⟨c, hc, e1, r3, r4⟩ := (W.mem t' ht' _).mp hm
          exact ⟨c, hc, e1.trans (e'.trans e), r3, r4.trans r2⟩
  all := fun b hb hn h1 => by
    rcases List.mem_append.mp hb with q | q
    · exact W.all b q hn h1
    · rw [List.mem_singleton.mp q] at hn h1 ⊢
      rcases ha with ha | ha | ⟨t', ht', e', _⟩
      · exact absurd ha hn
      · exact absurd h1 ha
      · exact ⟨t', ht', e'⟩
theorem OT.there {H : List Nat} {pr : List Arc} {T1 T2 : List TE} {t : TE} (W : OT H pr (T1 ++ t :: T2)) {a : Arc} (ha : a.2.1 = t.lab) (h1 : a.1 ∈ H) (h2 : a.2.2 ∉ t.U) {nl : Addr} : OT H (pr ++ [a]) (T1 ++ ⟨t.lab, nl, t.U ++ [a.2.2]⟩ :: T2) := by
  have ht : t ∈ T1 ++ t :: T2 := by simp
  have hnd : (T1.map (·.lab) ++ t.lab :: T2.map (·.lab)).Nodup := by simpa using W.nd
  have oth : ∀ t' ∈ T1 ++ ⟨t.lab, nl, t.U ++ [a.2.2]⟩ :: T2, t' = ⟨t.lab, nl, t.U ++ [a.2.2]⟩ ∨ (t' ∈ T1 ++ t :: T2 ∧ t'.lab ≠ t.lab) := fun t' h => by
    rcases List.mem_append.mp h with q | q
    · refine .inr ⟨List.mem_append_left _ q, fun e => ?_⟩
      exact (List.nodup_append.mp hnd).2.2 t'.lab (List.mem_map.mpr ⟨t', q, rfl⟩) t.lab (.head _) e
    · rcases List.mem_cons.mp q with rfl | q
      · exact .inl rfl
      · refine .inr ⟨List.mem_append_right _ (.tail _ q), fun e => ?_⟩
        exact (List.nodup_cons.mp (List.nodup_append.mp hnd).2.1).1 (e ▸ List.mem_map.mpr ⟨t', q, rfl⟩)
  refine ⟨by simpa using W.nd, fun t' h => ?_, fun t' h x => ?_, fun b hb hn hH => ?_⟩
  · rcases oth t' h with rfl | ⟨q, _⟩
    · exact ⟨(W.ne t ht).1, List.nodup_append.mpr ⟨(W.ne t ht).2.1, by simp, fun b hb b' hb' e => h2 (by rw [List.mem_singleton.mp hb'] at e; exact e ▸ hb)⟩, by simp⟩
    · exact W.ne t' q
  · rcases oth t' h with rfl | ⟨q, hne⟩
    · show x ∈ t.U ++ [a.2.2] ↔ ∃ b ∈ pr ++ [a], b.2.1 = t.lab ∧ _
      constructor
      · intro hx
        rcases List.mem_append.mp hx with q | q
        · obtain ⟨b, hb, e, r⟩ := (W.mem t ht x).mp q
          exact ⟨b, List.mem_append_left _ hb, e, r⟩
        · exact ⟨a, by simp, ha, h1, (List.mem_singleton.mp q).symm⟩
      · rintro ⟨b, hb, e, r1, r2⟩
        rcases List.mem_append.mp hb with q | q
        · exact List.mem_append_left _ ((W.mem t ht x).mpr ⟨b, q, e, r1, r2⟩)
        · rw [List.mem_singleton.mp q] at r2; simp [r2]
    · rw [W.mem t' q x]
      constructor
      · rintro ⟨b, hb, r⟩; exact ⟨b, List.mem_append_left _ hb, r⟩
      · rintro ⟨b, hb, e, r⟩
        rcases List.mem_append.mp hb with q2 | q2
        · exact ⟨b, q2, e, r⟩
        · rw [List.mem_singleton.mp q2, ha] at e; exact absurd e.symm hne
  · rcases List.mem_append.mp hb with q | q
    · obtain ⟨t', h', e⟩ := W.all b q hn hH
      by_cases q2 : t'.lab = t.lab
      · exact ⟨⟨t.lab, nl, t.U ++ [a.2.2]⟩, by simp, by rw [← e, ← q2]⟩
      · refine ⟨t', ?_, e⟩
        rcases List.mem_append.mp h' with q3 | q3
        · exact List.mem_append_left _ q3
        · rcases List.mem_cons.mp q3 with rfl | q3
          · exact absurd rfl q2
          · exact List.mem_append_right _ (.tail _ q3)
    · exact ⟨⟨t.lab, nl, t.U ++ [a.2.2]⟩, by simp, by rw [List.mem_singleton.mp q, ha]⟩
theorem OT.new {H : List Nat} {pr : List Arc} {T : List TE} (W : OT H pr T) {a : Arc} (ha : a.2.1 ≠ "") (h1 : a.1 ∈ H) (hn : ∀ t ∈ T, t.lab ≠ a.2.1) {tl : Addr} : OT H (pr ++ [a]) (T ++ [⟨a.2.1, tl, [a.2.2]⟩]) where
  nd := by
    rw [List.map_append]
    refine List.nodup_append.mpr ⟨W.nd, by simp, fun b hb b' hb' e => ?_⟩
    obtain ⟨t, ht, rfl⟩ := List.mem_map.mp hb
    rw [List.map_cons, List.map_nil] at hb'
    exact hn t ht (e.trans (List.mem_singleton.mp hb'))
  ne := fun t ht => by
    rcases List.mem_append.mp ht with q | q
    · exact W.ne t q
    · rw [List.mem_singleton.mp q]
      exact ⟨ha, by simp, by simp⟩
  mem := fun t ht x => by
    rcases List.mem_append.mp ht with q | q
    · rw [W.mem t q x]
      constructor
      · rintro ⟨b, hb, r⟩; exact ⟨b, List.mem_append_left _ hb, r⟩
      · rintro ⟨b, hb, e, r⟩
        rcases List.mem_append.mp hb with q2 | q2
        · exact ⟨b, q2, e, r⟩
        · rw [List.mem_singleton.mp q2] at e; exact absurd e.symm (hn t q)
    · rw [List.mem_singleton.mp q]
      show x ∈ [a.2.2] ↔ ∃ b ∈ pr ++ [a], b.2.1 = a.2.1 ∧ _
      constructor
      · intro h; exact ⟨a, by simp, rfl, h1, (List.mem_singleton.mp h).symm⟩
      · rintro ⟨b, hb, e, r1, r2⟩
        rcases List.mem_append.mp hb with q2 | q2
        · obtain ⟨t', h', e'⟩ := W.all b q2 (by rw [e]; exact ha) r1
          exact absurd (e'.trans e) (hn t' h')
        · rw [List.mem_singleton.mp q2] at r2; simp [r2]
  all := fun b hb hne hH => by
    rcases List.mem_append.mp hb with q | q
    · obtain ⟨t, ht, e⟩ := W.all b q hne hH
      exact ⟨t, List.mem_append_left _ ht, e⟩
    · exact ⟨⟨a.2.1, tl, [a.2.2]⟩, by simp, by rw [List.mem_singleton.mp q]⟩
theorem stored_te {Ta Tb : List TE} {t : TE} (hn : ((Ta ++ t :: Tb).map (·.lab)).Nodup) {nl : Addr} {U : List Nat} : stored (refT (Ta ++ t :: Tb)) t.lab (.ref nl) = refT (Ta ++ ⟨t.lab, nl, U⟩ :: Tb) := by
  have hnd : (Ta.map (·.lab) ++ t.lab :: Tb.map (·.lab)).Nodup := by simpa using hn
  unfold stored
  rw [if_pos (List.any_eq_true.mpr ⟨(t.lab, .ref t.tl), by simp [refT], by simp⟩)]
  simp only [refT, List.map_append, List.map_cons, List.map_map]
  refine congr (congrArg _ (List.map_congr_left fun x hx => ?_)) (congr (congrArg _ ?_) (List.map_congr_left fun x hx => ?_))
  · simp only [Function.comp]
    rw [if_neg fun e => (List.nodup_append.mp hnd).2.2 x.lab (List.mem_map.mpr ⟨x, hx, rfl⟩) t.lab (.head _) e]
  · simp
  · simp only [Function.comp]
    rw [if_neg fun e => (List.nodup_cons.mp (List.nodup_append.mp hnd).2.1).1 (by rw [← e]; exact List.mem_map.mpr ⟨x, hx, rfl⟩)]
end Mine
end PartLw5
local macro_rules | `(tactic| walk_at "compareOp In int ref") => `(tactic| k_dflt (refine in_list_ints (by exact News.isList (by k_asm) (by k_mem)) (by l_ints) ?_))
section PartLw6
namespace Mine
theorem offLw6 : True := by (w_top off; exact True.intro)
def ifParts : Stmt → List Stmt
  | .If _ b _ _ => b
  | _ => []
def lawWhile : List Stmt := (lawBody[10]?).elim [] whileParts
def lawIf : List Stmt := (lawWhile[2]?).elim [] ifParts
section
variable {prog : Program} {w : World} {A : Around} {E : Value → Shared → Prop} {s : Shared} {h₀ : Heap} {L d : Addr} {m : Str → Option Value} {news : List (Addr × Obj)} {o : Obj} {kvs : List (Str × Value)} {k : Str} {t : Tok} {v dflt : Value}
theorem get_there {Q : Value → Shared → Prop} (N : News h₀ L s.heap news) (hp : (d, o) ∈ news) (hd : o.IsDictOf (strKind prog w) kvs) (lo : (d == sysModules) = false) (hl : valueAt kvs k = some v) (h : Q v { s with toks := s.toks + 1 }) :
    wpAny (model prog w) A (call (.builtin "dict.get") [.ref d, .str k t, dflt]) Q E s := kdg_get2 N hp hd lo (strKind_is _ _ _ _) (some v) hl h
theorem get_none {Q : Value → Shared → Prop} (N : News h₀ L s.heap news) (hp : (d, o) ∈ news) (hd : o.IsDictOf (strKind prog w) kvs) (lo : (d == sysModules) = false) (hl : valueAt kvs k = none) (h : Q dflt { s with toks := s.toks + 1 }) :
    wpAny (model prog w) A (call (.builtin "dict.get") [.ref d, .str k t, dflt]) Q E s := kdg_get2 N hp hd lo (strKind_is _ _ _ _) none hl h
end
local macro_rules | `(tactic| walk_at "getMethod ref") => `(tactic| ((with_reducible show wpAny _ _ (getMethod (Value.ref _) (Str.ofString "get") _) _ _ _); k_dflt (refine kob_method (knd := strKind PySem.Challenge.rw_iv0023_01.row.prog _) PySem.F.slot_dict_get PySem.F.type_dict_get (by k_asm) (by k_mem) (by assumption) ?_)))
local macro_rules | `(tactic| walk_at "call builtin:dict.get") => `(tactic| (k_dflt (first
  | (refine' get_there ?N ?m ?d ?lo ?v ?_; (case N => k_asm); (case m => k_mem); (case d => assumption); (case lo => assumption); (case v => assumption); k_whole)
  | (refine' get_none ?N ?m ?d ?lo ?v ?_; (case N => k_asm); (case m => k_mem); (case d => assumption); (case lo => assumption); (case v => assumption); k_whole))))
local macro_rules | `(tactic| walk_at "compareOp NotIn int ref") => `(tactic| k_dflt (refine notin_list_ints (by exact News.isList (by k_asm) (by k_mem)) (by l_ints) ?_))
theorem onLoop {w : World} {A A₀ : Around} {base g : Heap} {outer : List Env} {p : Program} {loose : List Str} {mean : ExcName → Option Value} {mg mb : Str → Option Value} {cnt : Nat}
    {nm : Str} {params : Arguments} {body : List Stmt} {scope : Scope} (hM : lawDef = some (nm, params, body, scope)) {st : Stmt} (hst : lawIf[3]? = some st) {L fa : Addr} {cd : Value} {m : Str → Option Value} {s : Shared} {Q : Flow → Shared → Prop}
    (B₀ : Below A₀ base outer g) (F : Fr g L s.heap m) (X : (hdTop.heap_39 w.params).In g) (T : Top p loose mean mg mb g) (hh : A.handled = none) (hA : A.frames = some (lawEnv nm scope L fa cd :: outer))
    (hroom : A.depth + 20 < recursionLimit) (hun : A.units + 200 < cLine) {al hl od : Addr} {o : Obj} {AL : List Arc} {H : List Nat} (hcnt : cnt ≤ 5) (hAL9 : AL.length ≤ 9)
    (hm : ∀ q ∈ ([(Str.ofString "arcs", .ref al), (Str.ofString "held", .ref hl), (Str.ofString "on", .ref od)] : List (Str × Value)), m q.1 = some q.2)
    (hal : ArcList (OwnA g L s.heap) al AL cnt) (hhl : HeldP (OwnA g L s.heap) hl H) (hHn : H.Nodup) (hHc : ∀ x ∈ H, x < cnt) (hod : OwnA g L s.heap od o) (hdo : o.IsDictOf (strKind PySem.Challenge.rw_iv0023_01.row.prog w) (refT [])) (hlo : (od == sysModules) = false)
    (cont : ∀ u h' tk' Ts o', Fr g L h' (ovr ["one", "label", "to"] u m) → OwnA g L h' od o' → o'.IsDictOf (strKind PySem.Challenge.rw_iv0023_01.row.prog w) (refT Ts) → (∀ t ∈ Ts, HeldP (OwnA g L h') t.tl t.U ∧ t.tl ≠ od) → Kept [od] g L s.heap h' → OT H AL Ts → Q .next { s with heap := h', toks := tk' }) :
    wpAny (model PySem.Challenge.rw_iv0023_01.row.prog w) A (exec st (lawEnv nm scope L fa cd)) Q (fun _ _ => False) s := by
  cases hM
  cases hst
  have em := chain_eq hm
  rw [← em] at F cont
  clear em hm
  obtain ⟨hd, dpt, fr, gd, un⟩ := A
  obtain rfl : fr = some _ := hA
  obtain rfl : hd = none := hh
  have hun' : un + 200 < cLine := hun
  have hroom' : dpt + 20 < recursionLimit := hroom
  clear hun hroom
  obtain ⟨Z, NZ, hZD, hZlt, hZ⟩ := zed g L s.heap []
  obtain ⟨vs, n9, hal1, hvl, hvi, hbd⟩ := hal
  k_steps
  refine for_listT ["one", "label", "to"] rfl PassesOwn.never ⟨_, hal1.1, rfl, _, rfl⟩
    (fun idx u P => ∃ Ts o', P od o' ∧ o'.IsDictOf (strKind PySem.Challenge.rw_iv0023_01.row.prog w) (refT Ts) ∧ (∀ t ∈ Ts, HeldP P t.tl t.U) ∧ (∀ a o, OwnA g L s.heap a o → a ≠ od → P a o) ∧ OT H (AL.take idx) Ts)
    (fun i m P P' k => by rintro ⟨Ts, o', h1, h2, h3, h4, h5⟩; exact ⟨Ts, o', k _ _ h1, h2, fun t ht => (h3 t ht).mono (k _), fun a o e n => k _ _ (h4 a o e n), h5⟩) F ?h0 ?turn ?done
  case h0 => exact ⟨[], o, hod, hdo, (fun _ h => nomatch h), fun a o e _ => e, by rw [List.take_zero]; exact OT.nil⟩
  case done =>
    rintro u h₂ tk F₂ ⟨Ts, o', h1, h2, h3, h4, h5⟩
    rw [hvl, List.take_length] at h5
    k_steps
    exact cont u h₂ _ Ts o' F₂ h1 h2 (fun t ht => ⟨h3 t ht, let ⟨_, _, q, _⟩ := h3 t ht; list_ne_dict q h1 h2⟩) (fun a o x hn => h4 a o x (by simpa using hn)) h5
  case turn =>
    rintro I idx v u h₂ tk hv hIL hI0 hIs F₂ ⟨Ts, o', h1, h2, h3, h4, h5⟩ hit hla R1 hR1
    obtain ⟨a, x, t1, t2, t3, n, ha, rfl, hx⟩ := hvi _ _ hv
    obtain ⟨ha1, ha2, halb⟩ := hbd a (List.mem_of_getElem? ha)
    obtain ⟨oI, hoI, hoIc, hoId⟩ := id hit
    replace hIL : I ≠ L := hIL
    replace F₂ : Fr g L h₂ _ := F₂
    rw [ovr_ovl] at F₂
    replace h1 : OwnI I g L h₂ od o' := h1
    replace h3 : ∀ t ∈ Ts, HeldP (OwnI I g L h₂) t.tl t.U := h3
    replace h4 : ∀ a o, OwnA g L s.heap a o → a ≠ od → OwnI I g L h₂ a o := h4
    obtain ⟨wh, nh, hh1, hh2⟩ := hhl
    have hx2 := h4 _ _ hx (hx.ne hod (by rw [dict_cls hdo]; intro q; injection q with q; revert q; decide))
    have hh3 := h4 _ _ hh1 (list_ne_dict hh1 hod hdo)
    have hal2 := h4 _ _ hal1 (list_ne_dict hal1 hod hdo)
    have hHl : (nats H).length ≤ 5 := by
      have := len_le_of_nodup hHn hHc
      rw [List.length_map]; omega
    have hTl : Ts.length ≤ 9 := by
      have := nodup_sub (ys := (AL.take idx).map (·.2.1)) h5.nd fun l hl => by
        obtain ⟨t, ht, rfl⟩ := List.mem_map.mp hl
        obtain ⟨x, hx⟩ := List.exists_mem_of_ne_nil _ (h5.ne t ht).2.2
        obtain ⟨a, ha, e, _⟩ := (h5.mem t ht x).mp hx
        exact List.mem_map.mpr ⟨a, ha, e⟩
      rw [List.length_map, List.length_map, List.length_take] at this
      omega
    have htake : AL.take (idx + 1) = AL.take idx ++ [a] := by rw [List.take_add_one, ha]; rfl
    have oII : OwnA g L h₂ I oI := ⟨hoI, hIL, hI0⟩
    clear hZ hZD hZlt NZ
    obtain ⟨Z, NZ, hZD, hZlt, hZ⟩ := zed g L h₂ [od]
    have hZa := hZD od (.head _)
    have N := h1.1.news NZ
    clear NZ
    have nod : ∀ b ob, OwnA g L h₂ b ob → ob.cls ≠ .type "dict" → b ∉ [od] := fun b ob x hc q => x.ne h1.1 (by rw [dict_cls h2]; exact hc) (List.mem_singleton.mp q)
    have zx := hZ _ _ hx2.1.1 hx2.1.2.1 hx2.1.2.2 (nod _ _ hx2.1 (by intro q; injection q with q; revert q; decide))
    have zh := hZ _ _ hh3.1.1 hh3.1.2.1 hh3.1.2.2 (nod _ _ hh3.1 (by intro q; injection q with q; revert q; decide))
    by_cases hT : ∃ t ∈ Ts, t.lab = a.2.1
    · obtain ⟨t, ht, hte⟩ := hT
      have hva := valueAt_te h5.nd ht
      rw [hte] at hva
      obtain ⟨wt, nt, hw1, hw2⟩ := h3 t ht
      have zt := hZ _ _ hw1.1.1 hw1.1.2.1 hw1.1.2.2 (nod _ _ hw1.1 (by intro q; injection q with q; revert q; decide))
      have hUl : wt.length ≤ 5 := by
        have h9 := len_le_of_nodup (n := cnt) (h5.ne t ht).2.1 fun x hx => by
          obtain ⟨b, hb, _, _, rfl⟩ := (h5.mem t ht x).mp hx
          exact (hbd b (List.mem_of_mem_take hb)).2.1
        rw [hw2.length, List.length_map]; omega
      have hUl2 : (nats t.U).length ≤ 5 := by rw [← hw2.length]; exact hUl
      k_steps
      · (rename (nats t.U).any _ = true => hin)
        rw [any_nats] at hin
        (rename Fr _ _ _ _ => F'); (rename News _ _ _ _ => N')
        have pass := pass_zed h1.1 hZ (fun p hp => N' p (by first | exact hp | exact .tail _ hp | exact .tail _ (.tail _ hp)))
        refine hR1 _ _ ?_
        refine Turn.next F' ⟨⟨iter_stays hit hoI (pass _ _ oII).1, ⟨_, (pass _ _ hal2.1).1, rfl, _, rfl⟩⟩, ⟨Ts, o', ⟨pass _ _ h1.1, h1.2⟩, h2, fun t ht => (h3 t ht).mono fun o x => ⟨pass _ _ x.1, x.2⟩, fun a o x hn => ⟨pass _ _ (h4 a o x hn).1, (h4 a o x hn).2⟩, by rw [htake]; exact h5.skip (.inr (.inr ⟨t, ht, hte, of_decide_eq_true hin⟩))⟩, by k_same2⟩
      · (rename (nats t.U).any _ = false => hnin); (rename (nats H).any _ = true => hin1); (rename (_ != _) = true => hlb)
        rw [any_nats] at hnin hin1
        (rename Fr _ _ _ _ => F'); (rename News _ _ _ _ => N'); (rename IntsAre _ (_ ++ _) => hI5); (rename Obj.IsDictOf _ _ (stored _ _ _) => hd5); (rename _ ∧ _ ∧ _ ∧ _ ∧ AllLt _ _ => l5)
        obtain ⟨nl, hnl⟩ := mkA N'
        subst hnl
        have pass := fun b ob (x : OwnA g L h₂ b ob) (hn : b ≠ od) => OwnA.of N' (.tail _ (.tail _ (.tail _ (.tail _ (.tail _ (hZ b ob x.1 x.2.1 x.2.2 (by simpa using hn)))))))
        have hIz := hZ I oI hoI hIL hI0 (by simpa using Ne.symm h1.2)
        have nI : nl ≠ I := Ne.symm (allLt_mem l5.2.2.2.2 _ hIz)
        have oldT : ∀ t' ∈ Ts, HeldP (OwnI I g L _) t'.tl t'.U := fun t' ht' => let ⟨ws, n, q1, q2⟩ := h3 t' ht'; ⟨ws, n, ⟨pass _ _ q1.1 (list_ne_dict q1.1 h1.1 h2), q1.2⟩, q2⟩
        obtain ⟨Ta, Tb, rfl⟩ := List.append_of_mem ht
        rw [← hte, stored_te (U := t.U ++ [a.2.2]) h5.nd] at hd5
        refine hR1 _ _ ?_
        refine Turn.next F' ⟨⟨iter_stays hit hoI (pass _ _ oII (Ne.symm h1.2)).1, ⟨_, (pass _ _ hal2.1 (list_ne_dict hal2.1 h1.1 h2)).1, rfl, _, rfl⟩⟩, ⟨_, _, ⟨OwnA.of N' (.tail _ (.tail _ (.tail _ (.tail _ (.head _))))), h1.2⟩, hd5, fun t' ht' => ?_, fun b ob x hn => ⟨pass _ _ (h4 b ob x hn).1 hn, (h4 b ob x hn).2⟩, by rw [htake]; exact h5.there hte.symm (of_decide_eq_true hin1) (of_decide_eq_false hnin)⟩, by k_same2⟩
        rcases List.mem_append.mp ht' with q | q
        · exact oldT t' (List.mem_append_left _ q)
        · rcases List.mem_cons.mp q with rfl | q
          · exact ⟨_, _, ⟨OwnA.of N' (.head _), nI⟩, by simpa [nats] using hI5⟩
          · exact oldT t' (List.mem_append_right _ (.tail _ q))
      · (rename (nats H).any _ = false => hin1)
        rw [any_nats] at hin1
        (rename Fr _ _ _ _ => F'); (rename News _ _ _ _ => N')
        have pass := pass_zed h1.1 hZ (fun p hp => N' p (by first | exact hp | exact .tail _ hp | exact .tail _ (.tail _ hp)))
        refine hR1 _ _ ?_
        refine Turn.next F' ⟨⟨iter_stays hit hoI (pass _ _ oII).1, ⟨_, (pass _ _ hal2.1).1, rfl, _, rfl⟩⟩, ⟨Ts, o', ⟨pass _ _ h1.1, h1.2⟩, h2, fun t ht => (h3 t ht).mono fun o x => ⟨pass _ _ x.1, x.2⟩, fun a o x hn => ⟨pass _ _ (h4 a o x hn).1, (h4 a o x hn).2⟩, by rw [htake]; exact h5.skip (.inr (.inl (of_decide_eq_false hin1)))⟩, by k_same2⟩
      · (rename (_ != _) = false => hlb)
        (rename Fr _ _ _ _ => F'); (rename News _ _ _ _ => N')
        have pass := pass_zed h1.1 hZ (fun p hp => N' p (by first | exact hp | exact .tail _ hp | exact .tail _ (.tail _ hp)))
        refine hR1 _ _ ?_
        refine Turn.next F' ⟨⟨iter_stays hit hoI (pass _ _ oII).1, ⟨_, (pass _ _ hal2.1).1, rfl, _, rfl⟩⟩, ⟨Ts, o', ⟨pass _ _ h1.1, h1.2⟩, h2, fun t ht => (h3 t ht).mono fun o x => ⟨pass _ _ x.1, x.2⟩, fun a o x hn => ⟨pass _ _ (h4 a o x hn).1, (h4 a o x hn).2⟩, by rw [htake]; exact h5.skip (.inl (by simpa using hlb))⟩, by k_same2⟩
    · have hno : ∀ t ∈ Ts, t.lab ≠ a.2.1 := fun t ht e => hT ⟨t, ht, e⟩
      have hva := valueAt_no hno
      k_steps
      · (rename ([] : List Int).any _ = true => hin)
        cases hin
      · (rename (nats H).any _ = true => hin1); (rename (_ != _) = true => hlb)
        rw [any_nats] at hin1
        (rename Fr _ _ _ _ => F'); (rename News _ _ _ _ => N'); (rename IntsAre _ (_ ++ _) => hI5); (rename Obj.IsDictOf _ _ (stored _ _ _) => hd5); (rename _ ∧ _ ∧ _ ∧ _ ∧ AllLt _ _ => l5)
        obtain ⟨nl, hnl⟩ := mkA N'
        subst hnl
        have pass := fun b ob (x : OwnA g L h₂ b ob) (hn : b ≠ od) => OwnA.of N' (.tail _ (.tail _ (.tail _ (.tail _ (.tail _ (hZ b ob x.1 x.2.1 x.2.2 (by simpa using hn)))))))
        have hIz := hZ I oI hoI hIL hI0 (by simpa using Ne.symm h1.2)
        have nI : nl ≠ I := Ne.symm (allLt_mem l5.2.2.2.2 _ hIz)
        have oldT : ∀ t' ∈ Ts, HeldP (OwnI I g L _) t'.tl t'.U := fun t' ht' => let ⟨ws, n, q1, q2⟩ := h3 t' ht'; ⟨ws, n, ⟨pass _ _ q1.1 (list_ne_dict q1.1 h1.1 h2), q1.2⟩, q2⟩
        rw [stored_no (U := [a.2.2]) hno] at hd5
        refine hR1 _ _ ?_
        refine Turn.next F' ⟨⟨iter_stays hit hoI (pass _ _ oII (Ne.symm h1.2)).1, ⟨_, (pass _ _ hal2.1 (list_ne_dict hal2.1 h1.1 h2)).1, rfl, _, rfl⟩⟩, ⟨_, _, ⟨OwnA.of N' (.tail _ (.tail _ (.tail _ (.tail _ (.head _))))), h1.2⟩, hd5, fun t' ht' => ?_, fun b ob x hn => ⟨pass _ _ (h4 b ob x hn).1 hn, (h4 b ob x hn).2⟩, by rw [htake]; exact h5.new (by simpa using hlb) (of_decide_eq_true hin1) hno⟩, by k_same2⟩
        rcases List.mem_append.mp ht' with q | q
        · exact oldT t' q
        · rw [List.mem_singleton.mp q]
          exact ⟨_, _, ⟨OwnA.of N' (.head _), nI⟩, by simpa [nats] using hI5⟩
      · (rename (nats H).any _ = false => hin1)
        rw [any_nats] at hin1
        (rename Fr _ _ _ _ => F'); (rename News _ _ _ _ => N')
        have pass := pass_zed h1.1 hZ (fun p hp => N' p (by first | exact hp | exact .tail _ hp | exact .tail _ (.tail _ hp)))
        refine hR1 _ _ ?_
        refine Turn.next F' ⟨⟨iter_stays hit hoI (pass _ _ oII).1, ⟨_, (pass _ _ hal2.1).1, rfl, _, rfl⟩⟩, ⟨Ts, o', ⟨pass _ _ h1.1, h1.2⟩, h2, fun t ht => (h3 t ht).mono fun o x => ⟨pass _ _ x.1, x.2⟩, fun a o x hn => ⟨pass _ _ (h4 a o x hn).1, (h4 a o x hn).2⟩, by rw [htake]; exact h5.skip (.inr (.inl (of_decide_eq_false hin1)))⟩, by k_same2⟩
      · (rename (_ != _) = false => hlb)
        (rename Fr _ _ _ _ => F'); (rename News _ _ _ _ => N')
        have pass := pass_zed h1.1 hZ (fun p hp => N' p (by first | exact hp | exact .tail _ hp | exact .tail _ (.tail _ hp)))
        refine hR1 _ _ ?_
        refine Turn.next F' ⟨⟨iter_stays hit hoI (pass _ _ oII).1, ⟨_, (pass _ _ hal2.1).1, rfl, _, rfl⟩⟩, ⟨Ts, o', ⟨pass _ _ h1.1, h1.2⟩, h2, fun t ht => (h3 t ht).mono fun o x => ⟨pass _ _ x.1, x.2⟩, fun a o x hn => ⟨pass _ _ (h4 a o x hn).1, (h4 a o x hn).2⟩, by rw [htake]; exact h5.skip (.inl (by simpa using hlb))⟩, by k_same2⟩
end Mine
end PartLw6
section PartSd
namespace Mine
section
variable {prog : Program} {w : World} {A : Around} {E : Value → Shared → Prop} {s : Shared} {h₀ : Heap} {L D d : Addr} {m : Str → Option Value} {news : List (Addr × Obj)} {n : Nat} {Q : Value → Shared → Prop}
theorem lsort_strs {vs : List Value} {ss : List Str} (F : Fr h₀ L s.heap m) (N : News h₀ L s.heap ((D, listOf vs.toArray n) :: news)) (hne : ∀ p ∈ news, p.1 ≠ D) (hS : StrsAre vs ss) (h64 : vs.length < 64)
    (h : ∀ vs' ss' c h', Fr h₀ L h' m → News h₀ L h' ((D, listOf (List.toArray vs') c) :: news) → StrsAre vs' ss' → ss'.Perm ss → sortedS ss' = true → Q .none { s with heap := h' }) :
    wpAny (model prog w) A (call (.builtin "list.sort") [.ref D]) Q E s := by
  have z := N _ (.head _)
  have ho : s.heap.get? D = some (seqObj "list" vs.toArray n) := z.1
  refine wpAny_call_entry PyProof.Rows.slot_list_sort ⟨_, z.1, rfl⟩ PyProof.Rows.entry_list_sort (list_sort_treeK strKind_oneLt ho hS.keysOf (fun v₁ v₂ rest e => keyKind_strs (by rw [← e]; exact hS)) h64 fun st' hp hs => ⟨.none, rfl, ?_⟩) (PyProof.Rows.args_list_sort _)
  obtain ⟨ss', h1, h2, h3⟩ := sorted_out_str hS hp hs
  generalize (arrOf st').map (·.2) = out at h1 ⊢
  obtain ⟨c, hc⟩ := sortedHeap_at (vs := vs) (out := out) ho
  have F4 : Fr h₀ L (sortedHeap s.heap D vs out) m :=
    ksk_fr (((ksk_fr F (Heap.SameBut.update s.heap D (Obj.mapSeq fun _ => #[])) z.2.1 z.2.2).push (seqObj "tuple" vs.toArray 0)).push (seqObj "list" #[] 0)) (Heap.SameBut.update _ D (Obj.mapSeq fun _ => out)) z.2.1 z.2.2
  refine h out.toList ss' c _ F4 (fun p hq => ?_) h1 h2 h3
  rcases List.mem_cons.mp hq with rfl | hq
  · exact ⟨by simpa using hc, z.2⟩
  · have y := N p (.tail _ hq)
    exact ⟨(sortedHeap_old (hne p hq) (Heap.lt_size y.1)).trans y.1, y.2⟩
theorem strs_of {kvs : List (Str × Value)} {vs : List Value} (hl : vs.length = kvs.length) (h : ∀ (j : Nat) v, vs[j]? = some v → ∃ k x, kvs[j]? = some (k, x) ∧ Value.isStrOf k v = true) : StrsAre vs (kvs.map (·.1)) := by
  induction kvs generalizing vs with
  | nil =>
    cases vs with
    | nil => exact StrsAre.nil
    | cons v r => simp at hl
  | cons kv r ih =>
    cases vs with
    | nil => simp at hl
    | cons v vr =>
      obtain ⟨k, x, hk, hi⟩ := h 0 v rfl
      obtain ⟨t, rfl⟩ := Value.isStrOf_shape hi
      cases hk
      exact StrsAre.cons _ _ (ih (by simpa using hl) fun j v e => h (j + 1) v e)
theorem sorted_dict {kvs : List (Str × Value)} {o : Obj} (hh : A.handled = none) (F : Fr h₀ L s.heap m) (N : News h₀ L s.heap news) (hp : (d, o) ∈ news) (hd : o.IsDictOf (PySem.strKind prog w) kvs) (lo : (d == sysModules) = false) (hn : kvs.length < 64)
    (h : ∀ B vs' ss' c h' tk, Fr h₀ L h' m → News h₀ L h' ((B, listOf (List.toArray vs') c) :: news) → (∀ q ∈ news, q.1 < B) → StrsAre vs' ss' → ss'.Perm (kvs.map (·.1)) → sortedS ss' = true → Q (.ref B) { s with heap := h', toks := tk }) :
    wpAny (model prog w) A (call (.builtin "sorted") [.ref d]) Q E s := by
  obtain ⟨ep, hat⟩ := (kda_dict N hp hd).dictAt
  refine kdu_sorted (kdl_dict (knd := PySem.strKind prog w) (kvs := kvs) (ep := ep) lo) hh F N hat (by rw [sizeLine_eq]; omega) fun B h' tk vs F' N' l1 hl hv => ?_
  exact lsort_strs F' N' (fun p hp => Nat.ne_of_lt (l1 p hp)) (strs_of hl hv) (by omega) fun vs' ss' c h'' F'' N'' a b c' => h B vs' ss' c h'' tk F'' N'' l1 a b c'
end
end Mine
end PartSd
section PartSs
open PySem PySem.W PyProof.Rows PySem.Calls PySem.Spec PyProof.V PySem.SeqAt
namespace Mine
theorem canLayAll0_strs : ∀ {ss : List Str}, (∀ x ∈ ss, PyData.canLay0 (.str x) = true) → PyData.canLayAll0 (ss.map PyData.str) = true
  | [], _ => by simp [PyData.canLayAll0]
  | x :: r, h => by
    have h1 := h x (.head _)
    have h2 := canLayAll0_strs (ss := r) fun y hy => h y (.tail _ hy)
    simp only [List.map_cons, PyData.canLayAll0, h1, h2, Bool.and_self]
theorem depthAll_strs : ∀ ss : List Str, PyData.depthAll (ss.map PyData.str) ≤ 1
  | [] => by simp [PyData.depthAll]
  | n :: r => by
    have h1 := depthAll_strs r
    simp only [List.map_cons, PyData.depthAll, PyData.depth]
    omega
theorem shaped_strs {ss : List Str} (h : ∀ x ∈ ss, PyData.canLay0 (.str x) = true) : shaped (.list (ss.map PyData.str)) = true := by
  have h1 := depthAll_strs ss
  have h2 : PyData.depth (.list (ss.map PyData.str)) ≤ 64 := by simp only [PyData.depth]; omega
  show (PyData.canLay0 (.list (ss.map PyData.str)) && decide (PyData.depth (.list (ss.map PyData.str)) ≤ 64)) = true
  rw [Bool.and_eq_true]
  exact ⟨by simp only [PyData.canLay0]; exact canLayAll0_strs h, decide_eq_true h2⟩
theorem noMix_strs : ∀ ns ms : List Str, noMixAll (ns.map PyData.str) (ms.map PyData.str) = true
  | [], [] => by simp [noMixAll]
  | [], _ :: _ => by simp [noMixAll]
  | _ :: _, [] => by simp [noMixAll]
  | _ :: r, _ :: q => by simp [noMixAll, noMix, noMix_strs r q]
theorem same_strs : ∀ ns : List Str, PySem.Spec.sameAll (ns.map PyData.str) (ns.map PyData.str) = true
  | [] => by simp [PySem.Spec.sameAll]
  | n :: r => by simp [PySem.Spec.sameAll, PySem.Spec.same, same_strs r]
theorem sorted_pair : ∀ {l : List Str}, sortedS l = true → l.Pairwise fun a b => ¬ b.cps.toList < a.cps.toList
  | [], _ => List.Pairwise.nil
  | [_], _ => by simp
  | x :: y :: r, h => by
    have h' : (!ltCps y.cps.toList x.cps.toList && risingS y r) = true := h
    rw [Bool.and_eq_true] at h'
    have ih := sorted_pair (l := y :: r) h'.2
    have hxy : ¬ y.cps.toList < x.cps.toList := by
      have := h'.1
      rw [ltCps_eq] at this
      simpa using this
    refine List.pairwise_cons.mpr ⟨fun b hb => ?_, ih⟩
    rcases List.mem_cons.mp hb with rfl | hb
    · exact hxy
    · have h2 := (List.pairwise_cons.mp ih).1 b hb
      have a1 : x.cps.toList ≤ y.cps.toList := List.not_lt.mp hxy
      have a2 : y.cps.toList ≤ b.cps.toList := List.not_lt.mp h2
      exact List.not_lt.mpr (List.le_trans a1 a2)
theorem sorted_uniq {a b : List Str} (ha : sortedS a = true) (hb : sortedS b = true) (hp : a.Perm b) : a = b :=
  List.Perm.eq_of_pairwise (fun x y _ _ h1 h2 => by
    have e : x.cps.toList = y.cps.toList := List.le_antisymm (List.not_lt.mp h1) (List.not_lt.mp h2)
    cases x; cases y
    simp only [Str.mk.injEq]
    exact Array.toList_inj.mp e) (sorted_pair ha) (sorted_pair hb) hp
section
variable {prog : Program} {w : World} {A : Around} {E : Value → Shared → Prop} {s : Shared}
theorem ne_strs_same {a b : Addr} {vs us : List Value} {ss : List Str} {Q : Value → Shared → Prop} (hl : s.heap.IsList a vs.toArray) (hi : StrsAre vs ss) (hl' : s.heap.IsList b us.toArray) (hi' : StrsAre us ss) (hc : ∀ x ∈ ss, PyData.canLay0 (.str x) = true) (hu : A.units + 64 < cLine)
    (h : Q (.bool false) s) : wpAny (model prog w) A (compareOp .NotEq (.ref a) (.ref b)) Q E s := by
  have rd : ∀ {c vs}, s.heap.IsList c (List.toArray vs) → StrsAre vs ss → Reads s.heap (.ref c) (.list (ss.map PyData.str)) [c] := fun {c vs} hl hi => by
    obtain ⟨o, ho, hc, n, hd⟩ := hl
    exact Reads.list ho hc hd (by simpa using hi.reads s.heap)
  exact ne_dataH_same (rd hl hi) (rd hl' hi') (shaped_strs hc) (shaped_strs hc) hu (by simp only [noMix]; exact noMix_strs ss ss) (by simp only [PySem.Spec.same]; rw [same_strs]; exact h)
end
theorem labs_lay : ∀ x ∈ labs, PyData.canLay0 (.str x) = true := by decide +kernel
end Mine
end PartSs
section PartLw7
namespace Mine
theorem offLw7 : True := by (w_top off; exact True.intro)
section
variable {w : World} {A A₀ : Around} {base g : Heap} {outer : List Env} {env : Env} {p : Program} {loose : List Str} {mean : ExcName → Option Value} {mg mb : Str → Option Value} {s : Shared}
  {L : Addr} {m : Str → Option Value} {Q E : Value → Shared → Prop}
theorem fr_fresh (F : Fr g L s.heap m) {a : Addr} (e : s.heap.get? a = none) : a ≠ L ∧ g.get? a = none := by
  refine ⟨fun q => ?_, ?_⟩
  · obtain ⟨oL, _, _, hL, _⟩ := F.ns
    rw [q, hL] at e
    cases e
  · cases q : g.get? a with
    | none => rfl
    | some o =>
      have := F.keep _ _ q
      rw [e] at this
      cases this
theorem call_shut {al hl cnt : Nat} {AL : List Arc} {H0 : List Nat} (B₀ : Below A₀ base outer g) (F : Fr g L s.heap m) (X : (hdTop.heap_39 w.params).In g) (T : Top p loose mean mg mb g) (hh : A.handled = none) (hA : A.frames = some (env :: outer)) (hf : env.frame = some L) (hke : env.scope.kind = .function)
    (hroom : A.depth + 14 < recursionLimit) (hun : A.units + 220 < cLine) (hc5 : cnt ≤ 5) (hAr : ArcList (OwnA g L s.heap) al AL cnt) (hhl : HeldP (OwnA g L s.heap) hl H0) (hne : al ≠ hl) (hnd : H0.Nodup) (hlt : ∀ x ∈ H0, x < cnt)
    (h : ∀ h' tk' r S, Fr g L h' m → Kept [] g L s.heap h' → HeldP (OwnA g L h') r S → S.Pairwise (· < ·) → (∀ x, x ∈ S ↔ ∃ y ∈ H0, Reach AL y x) → s.heap.get? r = none → Q (.ref r) { s with heap := h', toks := tk' }) :
    wpAny (model PySem.Challenge.rw_iv0023_01.row.prog w) A (call (.ref 141) [.ref al, .ref hl]) Q E s := by
  obtain ⟨vs, n, a1, a2, a3, a4⟩ := hAr
  obtain ⟨ws, k, b1, b2⟩ := hhl
  refine call_con [hl] B₀ F X T hh hA hf hke (fun d hd => by rw [List.mem_singleton.mp hd]; exact b1.2) (fun g2 C2 st2 kp hn => shut_con C2 (by omega) (by omega) hc5 ⟨vs, n, kp _ _ (by simpa using hne) a1.1, a2, fun j v e => ?_⟩ (fun a ha => ⟨(a4 a ha).1, (a4 a ha).2.1⟩) (hn _ (.head _)) b1.1 b2 hnd hlt) ?_
  · obtain ⟨a, x, t1, t2, t3, n, q1, q2, q3⟩ := a3 j v e
    exact ⟨a, q1, x, t1, t2, t3, n, q2, kp _ _ (fun q => q3.ne b1 (by intro q; injection q with q; revert q; decide) (List.mem_singleton.mp q)) q3.1⟩
  · rintro v h' tk' F' kp ⟨r, vs', n', S, rfl, hr, g1, g2, g3, g4, g5⟩
    refine h h' tk' r S F' (fun a o x _ => ?_) ⟨vs', n', ⟨g1, fr_fresh F hr⟩, g2⟩ g3 g4 hr
    by_cases q : a = hl
    · subst q
      have e := x.1
      rw [b1.1] at e
      cases e
      exact ⟨g5, x.2⟩
    · exact ⟨kp a o (by simpa using q) x.1, x.2⟩
theorem call_place {l n j : Nat} {as : List Addr} {x : Addr} (B₀ : Below A₀ base outer g) (F : Fr g L s.heap m) (X : (hdTop.heap_39 w.params).In g) (T : Top p loose mean mg mb g) (hh : A.handled = none) (hA : A.frames = some (env :: outer)) (hf : env.frame = some L) (hke : env.scope.kind = .function)
    (hroom : A.depth + 14 < recursionLimit) (hun : A.units + 220 < cLine) (hl : OwnA g L s.heap l (W.listOf (as.map Value.ref).toArray n)) (h15 : as.length ≤ 1000) (hnd : as.Nodup) (hj : as[j]? = some x) (hob : ∀ a ∈ as, ∃ dx, OwnA g L s.heap a (instObj 109 dx))
    (h : ∀ h' tk' t, Fr g L h' m → Kept [] g L s.heap h' → Q (.int (j : Int) t) { s with heap := h', toks := tk' }) :
    wpAny (model PySem.Challenge.rw_iv0023_01.row.prog w) A (call (.ref 148) [.ref l, .ref x]) Q E s := by
  refine call_con [] B₀ F X T hh hA hf hke (fun d hd => nomatch hd) (fun g2 C2 st2 kp hn => place_con C2 (by omega) (by omega) (kp _ _ List.not_mem_nil hl.1) h15 hnd hj fun a ha => let ⟨dx, q⟩ := hob a ha; ⟨dx, kp _ _ List.not_mem_nil q.1⟩) ?_
  rintro v h' tk' F' kp ⟨t, rfl⟩
  exact h h' tk' t F' (Kept.of_call kp)
end
/-- what the law holds for state q.1 -/
def IsS (D : List DS) (q : Nat × List Nat) : Prop := ∃ ds, D[q.1]? = some ds ∧ q.2.Pairwise (· < ·) ∧ Same q.2 ds.S
inductive WaitTup (P : Addr → Obj → Prop) (Wq : List (Nat × List Nat)) (k : Nat) (v : Value) : Prop
  | ctr (q : Nat × List Nat) (x : Addr) (t l n : Nat) (h1 : Wq[k]? = some q) (h2 : v = .ref x) (h3 : P x { cls := .type "tuple", data := .seq #[.int (q.1 : Int) t, .ref l] n }) (h4 : HeldP P l q.2) : WaitTup P Wq k v
inductive WaitP (P : Addr → Obj → Prop) (wl : Addr) (Wq : List (Nat × List Nat)) : Prop
  | ctr (vs : List Value) (n : Nat) (h1 : P wl (W.listOf vs.toArray n)) (h2 : vs.length = Wq.length) (h3 : ∀ (k : Nat) v, vs[k]? = some v → WaitTup P Wq k v) : WaitP P wl Wq
theorem WaitP.mono {P P' : Addr → Obj → Prop} {wl : Addr} {Wq : List (Nat × List Nat)} (x : WaitP P wl Wq) (k : ∀ a o, P a o → P' a o) : WaitP P' wl Wq :=
  let ⟨vs, n, h1, h2, h3⟩ := x
  ⟨vs, n, k _ _ h1, h2, fun j v e => let ⟨q, x, t, l, n, a, b, c, d⟩ := h3 j v e; ⟨q, x, t, l, n, a, b, k _ _ c, d.mono (k _)⟩⟩
local macro_rules | `(tactic| walk_at "call builtin:sorted") => `(tactic| (k_dflt (refine sorted_dict (by rfl) (by k_asm) (by k_asm) (by k_mem) (by assumption) (by assumption) (by assumption) ?_); intro B' vs' ss' c' h' tk' F' N' l1 hS' hp' hs'; (try k_lt l1); try k_sweep))
local macro_rules | `(tactic| walk_at "subscriptTail") => `(tactic| k_dflt (refine kda_item (knd := strKind PySem.Challenge.rw_iv0023_01.row.prog _) (by k_asm) (by k_mem) (by assumption) (strKind_is _ _ _ _) (by assumption) ?_ (by with_unfolding_all rfl) (by (intro _; with_unfolding_all rfl))))
theorem valueAt_E {E : List (Str × Addr)} (hn : (E.map (·.1)).Nodup) {lab : Str} {a : Addr} (h : (lab, a) ∈ E) : valueAt (refE E) lab = some (.ref a) := by
  induction E with
  | nil => cases h
  | cons e r ih =>
    unfold valueAt refE at *
    rw [List.map_cons, List.find?_cons]
    by_cases q : e.1 = lab
    · have : e = (lab, a) := by
        rcases List.mem_cons.mp h with h | h
        · exact h.symm
        · exact absurd (List.mem_map.mpr ⟨_, h, q.symm⟩) (List.nodup_cons.mp hn).1
      subst this
      simp
    · rw [decide_eq_false q]
      rcases List.mem_cons.mp h with h | h
      · rw [← h] at q; exact absurd rfl q
      · exact ih (List.nodup_cons.mp hn).2 h
theorem ints_no_ref : ∀ {vs : List Value} {ns : List Int}, IntsAre vs ns → ∀ (k : Nat) (x : Addr), vs[k]? ≠ some (.ref x)
  | _, _, .nil, k, x => by simp
  | _, _, .cons n u h, 0, x => by intro q; cases q
  | _, _, .cons n u h, k + 1, x => by
    intro q
    exact ints_no_ref h k x q
theorem held_ne {g h : Heap} {L l wl : Addr} {ws vw : List Value} {n nw : Nat} {ns : List Int} (x : OwnA g L h l (W.listOf ws.toArray n)) (hi : IntsAre ws ns) (y : OwnA g L h wl (W.listOf vw.toArray nw)) {k : Nat} {z : Addr} (hk : vw[k]? = some (.ref z)) : l ≠ wl := fun q => by
  subst q
  have e := x.1
  rw [y.1] at e
  injection e with e
  injection e with _ _ e _
  injection e with e _
  rw [show vw = ws from by simpa using congrArg Array.toList e] at hk
  exact ints_no_ref hi k z hk
theorem mkS {vs : List Value} {ss : List Str} (_ : StrsAre vs ss) : ∃ s', s' = ss := ⟨_, rfl⟩
theorem mkS2 {vs : List Value} {ss : List Str} (_ : StrsAre vs ss) : ∃ v', v' = vs := ⟨_, rfl⟩
theorem pushLoop {w : World} {A A₀ : Around} {base g : Heap} {outer : List Env} {p : Program} {loose : List Str} {mean : ExcName → Option Value} {mg mb : Str → Option Value} {cnt : Nat}
    {nm : Str} {params : Arguments} {body : List Stmt} {scope : Scope} (hM : lawDef = some (nm, params, body, scope)) {st : Stmt} (hst : lawIf[5]? = some st) {L fa : Addr} {cd : Value} {m : Str → Option Value} {s : Shared} {Q : Flow → Shared → Prop}
    (B₀ : Below A₀ base outer g) (F : Fr g L s.heap m) (X : (hdTop.heap_39 w.params).In g) (T : Top p loose mean mg mb g) (hh : A.handled = none) (hA : A.frames = some (lawEnv nm scope L fa cd :: outer))
    (hroom : A.depth + 20 < recursionLimit) (hun : A.units + 250 < cLine) {al wl od stl n1 e : Nat} {o : Obj} {AL : List Arc} {nd : Nat → Addr} {D : List DS} {ds : DS} {E : List (Str × Addr)} {Ts : List TE} {W0 : List (Nat × List Nat)} (hcnt : cnt ≤ 5) (hD : D.length ≤ 32) (hW : W0.length ≤ 500) (hTs : Ts.length ≤ 9)
    (hm : ∀ q ∈ ([(Str.ofString "arcs", .ref al), (Str.ofString "on", .ref od), (Str.ofString "waiting", .ref wl), (Str.ofString "states", .ref stl), (Str.ofString "state", .ref ds.a)] : List (Str × Value)), m q.1 = some q.2)
    (hal : ArcList (OwnA g L s.heap) al AL cnt) (hod : OwnA g L s.heap od o) (hdo : o.IsDictOf (strKind PySem.Challenge.rw_iv0023_01.row.prog w) (refT Ts)) (hlo : (od == sysModules) = false) (hstl : OwnA g L s.heap stl (W.listOf (D.map fun d => Value.ref d.a).toArray n1)) (hDn : (D.map (·.a)).Nodup) (hDi : ∀ d ∈ D, ∃ dx, OwnA g L s.heap d.a (instObj 109 dx))
    (hds : RepDS w nd e (OwnA g L s.heap) ds E) (hEn : (E.map (·.1)).Nodup) (hTn : (Ts.map (·.lab)).Nodup) (hTl : ∀ t ∈ Ts, HeldP (OwnA g L s.heap) t.tl t.U ∧ t.tl ≠ wl ∧ t.tl ≠ al ∧ t.U.Nodup ∧ ∀ x ∈ t.U, x < cnt) (hwait : WaitP (OwnA g L s.heap) wl W0) (hnw : al ≠ wl ∧ stl ≠ wl ∧ ds.sl ≠ wl)
    (hedge : ∀ t ∈ Ts, ∃ (k : Nat) (dk : DS), D[k]? = some dk ∧ (t.lab, dk.a) ∈ E ∧ ∀ x, x ∈ dk.S ↔ ∃ y ∈ t.U, Reach AL y x)
    (cont : ∀ u h' tk' Wn, Fr g L h' (ovr ["label"] u m) → WaitP (OwnA g L h') wl (W0 ++ Wn) → Kept [wl] g L s.heap h' → Wn.length = Ts.length → (∀ q ∈ Wn, IsS D q) → (∀ t ∈ Ts, ∃ q ∈ Wn, ∃ dk : DS, D[q.1]? = some dk ∧ (t.lab, dk.a) ∈ E) → Q .next { s with heap := h', toks := tk' }) :
    wpAny (model PySem.Challenge.rw_iv0023_01.row.prog w) A (exec st (lawEnv nm scope L fa cd)) Q (fun _ _ => False) s := by
  cases hM
  cases hst
  have em := chain_eq hm
  rw [← em] at F cont
  clear em hm
  obtain ⟨hd, dpt, fr, gd, un⟩ := A
  obtain rfl : fr = some _ := hA
  obtain rfl : hd = none := hh
  have hun' : un + 250 < cLine := hun
  have hroom' : dpt + 20 < recursionLimit := hroom
  clear hun hroom
  obtain ⟨Z, NZ, hZD, hZlt, hZ⟩ := zed g L s.heap []
  have zo := hZ _ _ hod.1 hod.2.1 hod.2.2 List.not_mem_nil
  have hT64 : (refT Ts).length < 64 := by rw [List.length_map]; omega
  k_steps
  (rename Fr _ _ _ _ => F1); (rename News _ _ _ _ => N1); (rename StrsAre _ _ => hS1); (rename List.Perm _ _ => hp1)
  have pass1 := fun b ob (x : OwnA g L s.heap b ob) => OwnA.of N1 (.tail _ (hZ b ob x.1 x.2.1 x.2.2 List.not_mem_nil))
  obtain ⟨ss1, hss1⟩ := mkS hS1
  subst hss1
  obtain ⟨vs1, hvs1⟩ := mkS2 hS1
  subst hvs1
  obtain ⟨Bs, hBs⟩ := mkA N1
  subst hBs
  have hltB := (show ∀ p ∈ Z, p.1 < Bs by assumption)
  have hBwl : Bs ≠ wl := by
    obtain ⟨_, _, q1, _⟩ := hwait
    exact Nat.ne_of_gt (hltB _ (hZ _ _ q1.1 q1.2.1 q1.2.2 List.not_mem_nil))
  have hB1 := OwnA.of N1 (.head _)
  have hlen1 := hS1.length
  have hpl := hp1.length_eq
  rw [List.length_map, List.length_map] at hpl
  refine for_listT ["label"] rfl PassesOwn.never ⟨_, N1.get (.head _), rfl, _, rfl⟩
    (fun idx u P => ∃ Wn, WaitP P wl (W0 ++ Wn) ∧ Wn.length = idx ∧ (∀ q ∈ Wn, IsS D q) ∧ (∀ (i : Nat) t, i < idx → t ∈ Ts → ss1[i]? = some t.lab → ∃ q ∈ Wn, ∃ dk : DS, D[q.1]? = some dk ∧ (t.lab, dk.a) ∈ E) ∧ (∀ a o, OwnA g L s.heap a o → a ≠ wl → P a o) ∧ ∃ c, P Bs (W.listOf vs1.toArray c))
    (fun i m P P' k => by rintro ⟨Wn, h1, h2, h3, h4, h5, c, h6⟩; exact ⟨Wn, h1.mono k, h2, h3, h4, fun a o e n => k _ _ (h5 a o e n), c, k _ _ h6⟩) F1 ?h0 ?turn ?done
  case h0 => exact ⟨[], by rw [List.append_nil]; exact hwait.mono pass1, rfl, (fun _ h => nomatch h), fun i t h => absurd h (Nat.not_lt_zero _), fun a o x _ => pass1 a o x, _, hB1⟩
  case done =>
    rintro u h₂ tk F₂ ⟨Wn, h1, h2, h3, h4, h5, _⟩
    k_steps
    refine cont u h₂ _ Wn F₂ h1 (fun a o x hn => h5 a o x (by simpa using hn)) (by omega) h3 fun t ht => ?_
    have hm := hp1.mem_iff.mpr (List.mem_map.mpr ⟨(t.lab, .ref t.tl), List.mem_map.mpr ⟨t, ht, rfl⟩, rfl⟩)
    obtain ⟨i, hi⟩ := List.mem_iff_getElem?.mp hm
    exact h4 i t (by have := (List.getElem?_eq_some_iff.mp hi).1; omega) ht hi
  case turn =>
    rintro I i v u h₂ tk hv hIL hI0 hIs F₂ ⟨Wn, h1, h2, h3, h4, h5, cB, hBs6⟩ hit hla R1 hR1
    obtain ⟨lab, tl, rfl, hlab⟩ := hS1.item i v hv
    obtain ⟨kv, hkv, hkl⟩ := List.mem_map.mp (hp1.mem_iff.mp (List.mem_of_getElem? hlab))
    obtain ⟨t, ht, rfl⟩ := List.mem_map.mp hkv
    replace hkl : t.lab = lab := hkl
    subst hkl
    obtain ⟨k, dk, hk, hkE, hkS⟩ := hedge t ht
    obtain ⟨oI, hoI, hoIc, hoId⟩ := id hit
    replace hIL : I ≠ L := hIL
    replace F₂ : Fr g L h₂ _ := F₂
    rw [ovr_ovl] at F₂
    replace h1 : WaitP (OwnI I g L h₂) wl (W0 ++ Wn) := h1
    replace hBs6 : OwnI I g L h₂ Bs (W.listOf vs1.toArray cB) := hBs6
    replace h5 : ∀ a o, OwnA g L s.heap a o → a ≠ wl → OwnI I g L h₂ a o := h5
    have hva1 : valueAt (refE E) t.lab = some (.ref dk.a) := valueAt_E hEn hkE
    have hva2 := valueAt_te hTn ht
    have oII : OwnA g L h₂ I oI := ⟨hoI, hIL, hI0⟩
    obtain ⟨nad, td, t1, t2, t3, t4, t5, t6, t7, n, n', o1, a1, a2, a3, a4, a5, a6⟩ := hds
    obtain ⟨vw, nw, hw1, hw2, hw3⟩ := h1
    have nwl : ∀ b ob, OwnA g L s.heap b ob → ob.cls ≠ .type "list" → b ≠ wl := fun b ob x hc q => by
      obtain ⟨_, _, q1, _⟩ := hwait
      exact x.ne q1 hc q
    have b1 := h5 _ _ a1 (nwl _ _ a1 (by intro q; cases q))
    have b2 := h5 _ _ a2 (nwl _ _ a2 (by intro q; injection q with q; revert q; decide))
    have b4 := h5 _ _ a4 (nwl _ _ a4 (by rw [dict_cls a5]; intro q; injection q with q; revert q; decide))
    have bo := h5 _ _ hod (nwl _ _ hod (by rw [dict_cls hdo]; intro q; injection q with q; revert q; decide))
    have bst := h5 _ _ hstl hnw.2.1
    clear N1 F1 pass1 hZ hZlt hZD
    obtain ⟨Z, NZ, hZD, hZlt, hZ⟩ := zed g L h₂ []
    have z1 := hZ _ _ b1.1.1 b1.1.2.1 b1.1.2.2 List.not_mem_nil
    have z2 := hZ _ _ b2.1.1 b2.1.2.1 b2.1.2.2 List.not_mem_nil
    have z4 := hZ _ _ b4.1.1 b4.1.2.1 b4.1.2.2 List.not_mem_nil
    have zo := hZ _ _ bo.1.1 bo.1.2.1 bo.1.2.2 List.not_mem_nil
    have zw := hZ _ _ hw1.1.1 hw1.1.2.1 hw1.1.2.2 List.not_mem_nil
    k_steps
    (rename Fr _ _ _ _ => F5); (rename News _ _ _ _ => N5)
    change wpAny _ _ _ _ _ _
    have pass5 := fun b ob (x : OwnA g L h₂ b ob) => OwnA.of N5 (hZ b ob x.1 x.2.1 x.2.2 List.not_mem_nil)
    have hst5 := pass5 _ _ bst.1
    rw [show (D.map fun d => Value.ref d.a) = (D.map (·.a)).map Value.ref from by rw [List.map_map]; rfl] at hst5
    refine call_place (j := k) B₀ F5 X T rfl rfl rfl rfl (by show dpt + 14 < _; exact lt_room (by assumption) (by decide)) (by show un + 220 < _; exact lt_room (by assumption) (by decide)) hst5 (by rw [List.length_map]; omega) hDn (by rw [List.getElem?_map, hk]; rfl) (fun a ha => ?_) ?_
    · obtain ⟨d, hd, rfl⟩ := List.mem_map.mp ha
      obtain ⟨dx, q⟩ := hDi d hd
      exact ⟨dx, pass5 _ _ (h5 _ _ q (nwl _ _ q (by intro q; cases q))).1⟩
    intro h6 tk6 t6 F6 K6
    have p26 : ∀ b ob, OwnA g L h₂ b ob → OwnA g L h6 b ob := fun b ob x => K6 _ _ (pass5 b ob x) List.not_mem_nil
    have bo6 := p26 _ _ bo.1
    clear N5 F5 pass5 hZ hZlt hZD z1 z2 z4 zo zw hst5
    obtain ⟨Z, NZ, hZD, hZlt, hZ⟩ := zed g L h6 []
    have zo := hZ _ _ bo6.1 bo6.2.1 bo6.2.2 List.not_mem_nil
    k_steps
    (rename Fr _ _ _ _ => F7); (rename News _ _ _ _ => N7)
    change wpAny _ _ _ _ _ _
    have p27 := fun b ob (x : OwnA g L h₂ b ob) => OwnA.of N7 (hZ b ob (p26 _ _ x).1 (p26 _ _ x).2.1 (p26 _ _ x).2.2 List.not_mem_nil)
    obtain ⟨⟨wt, nt, c1, c2⟩, c3, c4, c5, c6⟩ := hTl t ht
    refine call_shut B₀ F7 X T rfl rfl rfl rfl (by show dpt + 14 < _; exact lt_room (by assumption) (by decide)) (by show un + 220 < _; exact lt_room (by assumption) (by decide)) hcnt (let ⟨vs, n, q1, q2, q3, q4⟩ := hal; ⟨vs, n, p27 _ _ (h5 _ _ q1 hnw.1).1, q2, fun j v e => let ⟨a, x, t1, t2, t3, n, r1, r2, r3⟩ := q3 j v e; ⟨a, x, t1, t2, t3, n, r1, r2, p27 _ _ (h5 _ _ r3 (nwl _ _ r3 (by intro q; injection q with q; revert q; decide))).1⟩, q4⟩)
      ⟨wt, nt, p27 _ _ (h5 _ _ c1 c3).1, c2⟩ (Ne.symm c4) c5 c6 ?_
    intro h8 tk8 r S F8 K8 hS8 hSs hSm hr0
    have p28 : ∀ b ob, OwnA g L h₂ b ob → OwnA g L h8 b ob := fun b ob x => K8 _ _ (p27 b ob x) List.not_mem_nil
    have hrI : r ≠ I := fun q => by
      have := (p27 _ _ oII).1
      rw [← q] at this
      rw [show _ = none from hr0] at this
      cases this
    have hrw : r ≠ wl := fun q => by
      have := (p27 _ _ hw1.1).1
      rw [← q] at this
      rw [show _ = none from hr0] at this
      cases this
    have hw8 := p28 _ _ hw1.1
    clear N7 F7 hZ hZlt hZD zo
    obtain ⟨Z, NZ, hZD, hZlt, hZ⟩ := zed g L h8 [wl]
    have hZa := hZD wl (.head _)
    have N := hw8.news NZ
    clear NZ
    have hvwl : vw.length ≤ 1000 := by rw [hw2, List.length_append, h2]; have := (List.getElem?_eq_some_iff.mp hlab).1; omega
    k_steps
    (rename Fr _ _ _ _ => F9); (rename News _ _ _ _ => N9); (rename _ ∧ AllLt _ _ => l9)
    have p29 := fun b ob (x : OwnA g L h8 b ob) (hn : b ≠ wl) => OwnA.of N9 (.tail _ (.tail _ (hZ b ob x.1 x.2.1 x.2.2 (by simpa using hn))))
    have pAll := fun b ob (x : OwnI I g L h₂ b ob) (hn : b ≠ wl) => (⟨p29 _ _ (p28 _ _ x.1) hn, x.2⟩ : OwnI I g L _ b ob)
    obtain ⟨ws8, n8, e1, e2⟩ := hS8
    have hI8 := p28 _ _ oII
    refine hR1 _ _ ?_
    refine Turn.next F9 ⟨⟨iter_stays hit hoI (p29 _ _ hI8 (Ne.symm hw1.2)).1, ?_⟩, ⟨Wn ++ [(k, S)], ⟨_, _, ⟨OwnA.of N9 (.tail _ (.head _)), hw1.2⟩, ?_, fun j v hj => ?_⟩, by rw [List.length_append, h2]; rfl, fun q hq => ?_, fun j t' hj ht' hl' => ?_, fun a o x hn => pAll _ _ (h5 a o x hn) hn, cB, pAll _ _ hBs6 hBwl⟩, ?_⟩
    · exact ⟨_, (pAll _ _ hBs6 hBwl).1.1, rfl, _, rfl⟩
    · simp only [List.length_append, hw2, List.length_cons, List.length_nil]; omega
    · rcases snoc_cases hj with hj | ⟨rfl, rfl⟩
      · obtain ⟨q, x, t9, l, n, r1, r2, r3, ⟨ws, m, r4, r5⟩⟩ := hw3 j v hj
        replace r3 : OwnI I g L h₂ x _ := r3
        replace r4 : OwnI I g L h₂ l _ := r4
        refine ⟨q, x, t9, l, n, ?_, r2, pAll _ _ r3 (r3.1.ne hw1.1 (by intro q; injection q with q; revert q; decide)), ws, m, pAll _ _ r4 (held_ne r4.1 r5 hw1.1 (by rw [r2] at hj; exact hj)), r5⟩
        rw [← List.append_assoc, List.getElem?_append_left (List.getElem?_eq_some_iff.mp r1).1]; exact r1
      · have hT := OwnA.of N9 (.head _)
        refine ⟨(k, S), _, t6, r, _, ?_, rfl, ⟨hT, ?_⟩, ws8, n8, ⟨p29 _ _ e1 hrw, hrI⟩, e2⟩
        · rw [← List.append_assoc, hw2]; simp
        · exact Ne.symm (allLt_mem l9.2 _ (hZ _ _ hI8.1 hI8.2.1 hI8.2.2 (by simpa using Ne.symm hw1.2)))
    · rcases List.mem_append.mp hq with q1 | q1
      · exact h3 q q1
      · rw [List.mem_singleton.mp q1]
        exact ⟨dk, hk, hSs, fun x => (hSm x).trans (hkS x).symm⟩
    · rcases Nat.lt_or_eq_of_le (Nat.le_of_lt_succ hj) with hj | rfl
      · obtain ⟨q, hq, r⟩ := h4 j t' hj ht' hl'
        exact ⟨q, List.mem_append_left _ hq, r⟩
      · refine ⟨(k, S), by simp, dk, hk, ?_⟩
        rw [hlab] at hl'
        rw [← Option.some.inj hl']
        exact hkE
    · k_same2
end Mine
end PartLw7
section PartPlw
namespace Mine
/-! the plain law of the law's while -/
structure LInv (D : List DS) (E : Nat → List (Str × Addr)) (M : List (List Nat)) (Wq : List (Nat × List Nat)) : Prop where
  mlen : M.length = D.length
  met : ∀ (j : Nat) S, M[j]? = some S → S = [] ∨ IsS D (j, S)
  wait : ∀ q ∈ Wq, IsS D q
  start : (∃ q ∈ Wq, q.1 = 0) ∨ ∃ S, M[0]? = some S ∧ S ≠ []
  closed : ∀ (i : Nat) S lab a, M[i]? = some S → S ≠ [] → (lab, a) ∈ E i → ∃ (k : Nat) (dk : DS), D[k]? = some dk ∧ dk.a = a ∧ ((∃ q ∈ Wq, q.1 = k) ∨ ∃ S', M[k]? = some S' ∧ S' ≠ [])
def unmet (M : List (List Nat)) : Nat := (M.filter fun S => S.isEmpty).length
theorem IsS.uniq {D : List DS} {k : Nat} {S S' : List Nat} (h : IsS D (k, S)) (h' : IsS D (k, S')) : S = S' := by
  obtain ⟨ds, h1, h2, h3⟩ := h
  obtain ⟨ds', h1', h2', h3'⟩ := h'
  obtain rfl : ds' = ds := Option.some.inj (h1'.symm.trans h1)
  have n1 : S.Nodup := h2.imp fun h => Nat.ne_of_lt h
  have n2 : S'.Nodup := h2'.imp fun h => Nat.ne_of_lt h
  have hp : S.Perm S' := (List.perm_ext_iff_of_nodup n1 n2).mpr fun x => (h3 x).trans (h3' x).symm
  exact List.Perm.eq_of_pairwise (fun a b _ _ h1 h2 => absurd (Nat.lt_trans h1 h2) (Nat.lt_irrefl _)) h2 h2' hp
theorem IsS.ne_nil {D : List DS} {k : Nat} {S : List Nat} (h : IsS D (k, S)) (hD : ∀ ds ∈ D, ds.S ≠ []) : S ≠ [] := by
  obtain ⟨ds, h1, h2, h3⟩ := h
  rintro rfl
  obtain ⟨x, hx⟩ := List.exists_mem_of_ne_nil _ (hD ds (List.mem_of_getElem? h1))
  exact nomatch (h3 x).mpr hx
theorem LInv.seen {D : List DS} {E : Nat → List (Str × Addr)} {M : List (List Nat)} {W0 : List (Nat × List Nat)} {q : Nat × List Nat} (x : LInv D E M (W0 ++ [q])) {S : List Nat} (hM : M[q.1]? = some S) (hS : S ≠ []) : LInv D E M W0 where
  mlen := x.mlen
  met := x.met
  wait := fun r h => x.wait r (List.mem_append_left _ h)
  start := by
    rcases x.start with ⟨r, hr, h0⟩ | h
    · rcases List.mem_append.mp hr with h | h
      · exact .inl ⟨r, h, h0⟩
      · rw [List.mem_singleton.mp h] at h0
        exact .inr ⟨S, by rw [← h0]; exact hM, hS⟩
    · exact .inr h
  closed := fun i S' lab a h1 h2 h3 => by
    obtain ⟨k, dk, hk, ha, h⟩ := x.closed i S' lab a h1 h2 h3
    refine ⟨k, dk, hk, ha, ?_⟩
    rcases h with ⟨r, hr, e⟩ | h
    · rcases List.mem_append.mp hr with h | h
      · exact .inl ⟨r, h, e⟩
      · rw [List.mem_singleton.mp h] at e
        exact .inr ⟨S, by rw [← e]; exact hM, hS⟩
    · exact .inr h
theorem LInv.visit {D : List DS} {E : Nat → List (Str × Addr)} {M : List (List Nat)} {W0 Wn : List (Nat × List Nat)} {q : Nat × List Nat} (x : LInv D E M (W0 ++ [q])) (hM : M[q.1]? = some []) (hq : q.2 ≠ []) (hn : ∀ r ∈ Wn, IsS D r) (hE : ∀ lab a, (lab, a) ∈ E q.1 → ∃ r ∈ Wn, ∃ dk : DS, D[r.1]? = some dk ∧ dk.a = a) :
    LInv D E (M.set q.1 q.2) (W0 ++ Wn) := by
  have hlt := (List.getElem?_eq_some_iff.mp hM).1
  have self : (M.set q.1 q.2)[q.1]? = some q.2 := by rw [List.getElem?_set_self hlt]
  have oth : ∀ {j : Nat}, j ≠ q.1 → (M.set q.1 q.2)[j]? = M[j]? := fun {j} h => List.getElem?_set_ne (Ne.symm h)
  have lift : ∀ k, ((∃ r ∈ W0 ++ [q], r.1 = k) ∨ ∃ S', M[k]? = some S' ∧ S' ≠ []) → (∃ r ∈ W0 ++ Wn, r.1 = k) ∨ ∃ S', (M.set q.1 q.2)[k]? = some S' ∧ S' ≠ [] := fun k h => by
    by_cases e : k = q.1
    · exact .inr ⟨q.2, by rw [e]; exact self, hq⟩
    · rcases h with ⟨r, hr, h0⟩ | ⟨S', h1, h2⟩
      · rcases List.mem_append.mp hr with h | h
        · exact .inl ⟨r, List.mem_append_left _ h, h0⟩
        · rw [List.mem_singleton.mp h] at h0; exact absurd h0.symm e
      · exact .inr ⟨S', by rw [oth e]; exact h1, h2⟩
  refine ⟨by rw [List.length_set]; exact x.mlen, fun j S h => ?_, fun r h => ?_, lift 0 x.start, fun i S lab a h1 h2 h3 => ?_⟩
  · by_cases e : j = q.1
    · subst e
      rw [self] at h
      cases h
      exact .inr (x.wait q (by simp))
    · rw [oth e] at h; exact x.met j S h
  · rcases List.mem_append.mp h with h | h
    · exact x.wait r (List.mem_append_left _ h)
    · exact hn r h
  · by_cases e : i = q.1
    · subst e
      obtain ⟨r, hr, dk, hk, ha⟩ := hE lab a h3
      exact ⟨r.1, dk, hk, ha, .inl ⟨r, List.mem_append_right _ hr, rfl⟩⟩
    · rw [oth e] at h1
      obtain ⟨k, dk, hk, ha, h⟩ := x.closed i S lab a h1 h2 h3
      exact ⟨k, dk, hk, ha, lift k h⟩
theorem unmet_set : ∀ {M : List (List Nat)} {k : Nat} {S : List Nat}, M[k]? = some [] → S ≠ [] → unmet (M.set k S) + 1 = unmet M
  | [], k, S, h, _ => by simp at h
  | T :: r, 0, S, h, hS => by
    cases h
    unfold unmet
    cases S with
    | nil => exact absurd rfl hS
    | cons a b => simp
  | T :: r, k + 1, S, h, hS => by
    have := unmet_set (M := r) (k := k) (by simpa using h) hS
    unfold unmet at *
    rw [List.set_cons_succ, List.filter_cons, List.filter_cons]
    cases T.isEmpty <;> simp <;> omega
theorem LInv.all_met {AL : List Arc} {cnt b0 : Nat} {D : List DS} {E : Nat → List (Str × Addr)} {M : List (List Nat)} (x : LInv D E M []) (hW : WD AL cnt b0 D E) (hDn : (D.map (·.a)).Nodup) : ∀ (j : Nat) S, M[j]? = some S → S ≠ [] := by
  intro j
  induction j using Nat.strongRecOn with
  | ind j ih =>
    intro S hS
    have hjl : j < D.length := by rw [← x.mlen]; exact (List.getElem?_eq_some_iff.mp hS).1
    rcases Nat.eq_zero_or_pos j with rfl | h0
    · rcases x.start with ⟨q, hq, _⟩ | ⟨S', h1, h2⟩
      · cases hq
      · rw [hS] at h1; cases h1; exact h2
    · obtain ⟨i, hi, lab, hE⟩ := hW.pred j _ (List.getElem?_eq_getElem hjl) h0
      have hil : i < M.length := by rw [x.mlen]; omega
      obtain ⟨k, dk, hk, ha, h⟩ := x.closed i _ lab _ (List.getElem?_eq_getElem hil) (ih i hi _ (List.getElem?_eq_getElem hil)) hE
      have hkj : k = j := by
        obtain ⟨p1, e1⟩ := List.getElem?_eq_some_iff.mp hk
        have h1 : (D.map (·.a))[k]'(by rw [List.length_map]; exact p1) = (D.map (·.a))[j]'(by rw [List.length_map]; exact hjl) := by rw [List.getElem_map, List.getElem_map, e1]; exact ha
        exact (List.getElem_inj hDn).mp h1
      subst hkj
      rcases h with ⟨q, hq, _⟩ | ⟨S', h1, h2⟩
      · cases hq
      · rw [hS] at h1; cases h1; exact h2
theorem LInv.differ {AL : List Arc} {cnt b0 : Nat} {D : List DS} {E : Nat → List (Str × Addr)} {M : List (List Nat)} (x : LInv D E M []) (hW : WD AL cnt b0 D E) (hDn : (D.map (·.a)).Nodup) {i j : Nat} {S S' : List Nat} (hi : M[i]? = some S) (hj : M[j]? = some S') (hij : i < j) : S ≠ S' := by
  rintro rfl
  rcases x.met i S hi with e | ⟨ds, h1, h2, h3⟩
  · exact x.all_met hW hDn i S hi e
  rcases x.met j S hj with e | ⟨ds', h1', h2', h3'⟩
  · exact x.all_met hW hDn j S hj e
  have hd := List.pairwise_iff_getElem.mp hW.dist
  obtain ⟨p1, e1⟩ := List.getElem?_eq_some_iff.mp h1
  obtain ⟨p2, e2⟩ := List.getElem?_eq_some_iff.mp h1'
  simp only at p1 e1 p2 e2
  refine hd i j (by rw [List.length_map]; exact p1) (by rw [List.length_map]; exact p2) hij fun y => ?_
  rw [List.getElem_map, List.getElem_map, e1, e2]
  exact (h3 y).symm.trans (h3' y)
end Mine
end PartPlw
section PartPlx
namespace Mine
section
variable {AL : List Arc} {cnt b0 j : Nat} {D : List DS} {E : Nat → List (Str × Addr)} {dq : DS} {H : List Nat} {Ts : List TE}
theorem same_labels (hW : WD AL cnt b0 D E) (hj : D[j]? = some dq) (hd : Done AL dq.S (E j)) (hO : OT H AL Ts) (hs : Same H dq.S) : ((E j).map (·.1)).Perm (Ts.map (·.lab)) :=
  (List.perm_ext_iff_of_nodup (hW.keys j) hO.nd).mpr fun lab => by
    constructor
    · intro h
      obtain ⟨e, he, rfl⟩ := List.mem_map.mp h
      obtain ⟨hne, k, dk, hk, ha, hS⟩ := hW.edge j dq hj e he
      obtain ⟨x, hx⟩ := List.exists_mem_of_ne_nil _ (hW.ok dk (List.mem_of_getElem? hk)).2.1
      obtain ⟨y, hy, z, hz, _⟩ := (hS x).mp hx
      obtain ⟨t, ht, e'⟩ := hO.all (y, e.1, z) hz hne ((hs y).mpr hy)
      exact List.mem_map.mpr ⟨t, ht, e'⟩
    · intro h
      obtain ⟨t, ht, rfl⟩ := List.mem_map.mp h
      obtain ⟨x, hx⟩ := List.exists_mem_of_ne_nil _ (hO.ne t ht).2.2
      obtain ⟨a, ha, e, h1, _⟩ := (hO.mem t ht x).mp hx
      exact hd a.1 ((hs _).mp h1) t.lab a.2.2 (by rw [← e]; exact ha) (hO.ne t ht).1
theorem edge_of (hW : WD AL cnt b0 D E) (hj : D[j]? = some dq) (hd : Done AL dq.S (E j)) (hO : OT H AL Ts) (hs : Same H dq.S) : ∀ t ∈ Ts, ∃ (k : Nat) (dk : DS), D[k]? = some dk ∧ (t.lab, dk.a) ∈ E j ∧ ∀ x, x ∈ dk.S ↔ ∃ y ∈ t.U, Reach AL y x := fun t ht => by
  have h := (same_labels hW hj hd hO hs).mem_iff.mpr (List.mem_map.mpr ⟨t, ht, rfl⟩)
  obtain ⟨e, he, hel⟩ := List.mem_map.mp h
  obtain ⟨_, k, dk, hk, ha, hS⟩ := hW.edge j dq hj e he
  refine ⟨k, dk, hk, by rw [ha, ← hel]; exact he, fun x => (hS x).trans ?_⟩
  rw [hel]
  constructor
  · rintro ⟨y, hy, z, hz, r⟩
    exact ⟨z, (hO.mem t ht z).mpr ⟨(y, t.lab, z), hz, rfl, (hs y).mpr hy, rfl⟩, r⟩
  · rintro ⟨z, hz, r⟩
    obtain ⟨a, ha, e1, h1, rfl⟩ := (hO.mem t ht z).mp hz
    exact ⟨a.1, (hs _).mp h1, a.2.2, by rw [← e1]; exact ha, r⟩
theorem labels_in (hl : ∀ a ∈ AL, a.2.1 ∈ labs) (hO : OT H AL Ts) : ∀ lab ∈ Ts.map (·.lab), lab ∈ labs := fun lab h => by
  obtain ⟨t, ht, rfl⟩ := List.mem_map.mp h
  obtain ⟨x, hx⟩ := List.exists_mem_of_ne_nil _ (hO.ne t ht).2.2
  obtain ⟨a, ha, e, _, _⟩ := (hO.mem t ht x).mp hx
  exact e ▸ hl a ha
theorem labels_few (hl : ∀ a ∈ AL, a.2.1 ∈ labs) (hO : OT H AL Ts) : Ts.length ≤ 4 := by
  have := nodup_sub hO.nd (labels_in hl hO)
  rw [List.length_map] at this
  exact this
end
end Mine
end PartPlx
local macro_rules | `(tactic| units_room) => `(tactic| first | exact Mine.lt_room (by assumption) (by decide) | ((try simp only [Around.deeper_units, units_under_make, Around.in1_units, Around.mark_units]); omega))
local macro_rules | `(tactic| walk_at "exec For Tuple Name cons nil") => `(tactic| refine Mine.stop_here ?_)
local macro_rules | `(tactic| walk_at "exec For Name Call cons nil") => `(tactic| refine Mine.stop_here ?_)
local macro_rules | `(tactic| is_list) => `(tactic| exact ⟨_, News.get (by k_asm) (by k_mem), by assumption, _, by assumption⟩)
local macro_rules | `(tactic| is_list) => `(tactic| exact News.isList (by k_asm) (by k_mem))
section PartLw8
namespace Mine
theorem offLw8 : True := by (w_top off; exact True.intro)
/-- what the law has met -/
inductive MetAt (P : Addr → Obj → Prop) (M : List (List Nat)) (j : Nat) (v : Value) : Prop
  | ctr (l : Addr) (S : List Nat) (h1 : v = .ref l) (h2 : M[j]? = some S) (h3 : HeldP P l S) : MetAt P M j v
inductive MetP (P : Addr → Obj → Prop) (ml : Addr) (M : List (List Nat)) : Prop
  | ctr (vs : List Value) (o : Obj) (n : Nat) (h1 : P ml o) (h2 : o.cls = .type "list") (h3 : o.data = .seq vs.toArray n) (h4 : vs.length = M.length) (h5 : ∀ (j : Nat) v, vs[j]? = some v → MetAt P M j v) : MetP P ml M
theorem MetP.mono {P P' : Addr → Obj → Prop} {ml : Addr} {M : List (List Nat)} (x : MetP P ml M) (k : ∀ a o, P a o → P' a o) : MetP P' ml M :=
  let ⟨vs, o, n, h1, h2, h3, h4, h5⟩ := x
  ⟨vs, o, n, k _ _ h1, h2, h3, h4, fun j v e => let ⟨l, S, a, b, c⟩ := h5 j v e; ⟨l, S, a, b, c.mono (k _)⟩⟩
theorem held_ne2 {g h : Heap} {L l ml : Addr} {ws vm : List Value} {n nm : Nat} {ns : List Int} {om : Obj} (x : OwnA g L h l (W.listOf ws.toArray n)) (hi : IntsAre ws ns) (y : OwnA g L h ml om) (hd : om.data = .seq vm.toArray nm) {k : Nat} {z : Addr} (hk : vm[k]? = some (.ref z)) : l ≠ ml := fun q => by
  subst q
  have e := x.1
  rw [y.1] at e
  cases e
  injection hd with e _
  rw [show vm = ws from by simpa using (congrArg Array.toList e).symm] at hk
  exact ints_no_ref hi k z hk
theorem held_ne3 {g h : Heap} {L l wl : Addr} {ws vw : List Value} {n nw : Nat} {U : List Nat} (x : OwnA g L h l (W.listOf ws.toArray n)) (hi : IntsAre ws (nats U)) (hU : U ≠ []) (y : OwnA g L h wl (W.listOf vw.toArray nw)) (hr : ∀ (k : Nat) v, vw[k]? = some v → ∃ z, v = Value.ref z) : l ≠ wl := by
  cases vw with
  | cons v0 r =>
    obtain ⟨z, rfl⟩ := hr 0 v0 rfl
    exact held_ne x hi y (k := 0) rfl
  | nil =>
    intro q
    subst q
    have e := x.1
    rw [y.1] at e
    injection e with e
    injection e with _ _ e _
    injection e with e _
    rw [show ws = [] from by simpa using (congrArg Array.toList e).symm] at hi
    cases U with
    | nil => exact hU rfl
    | cons a b => cases hi
theorem SepD.nodup {D : List DS} (h : SepD D) : (D.map (·.a)).Nodup := by
  refine List.pairwise_iff_getElem.mpr fun i j hi hj hij => ?_
  rw [List.length_map] at hi hj
  rw [List.getElem_map, List.getElem_map]
  exact (h.pair i j _ _ (List.getElem?_eq_getElem hi) (List.getElem?_eq_getElem hj) (Nat.ne_of_lt hij)).1
section
variable {prog : Program} {w : World} {A : Around} {E : Value → Shared → Prop} {s : Shared} {h₀ : Heap} {L D : Addr} {m : Str → Option Value} {news : List (Addr × Obj)} {g : Obj → List (Addr × Obj)} {o : Obj}
theorem set_L {vs : List Value} {n k : Nat} {t : Tok} {v : Value} {Q : Unit → Shared → Prop} (F : Fr h₀ L s.heap m) (N : News h₀ L s.heap news) (U : UpdF D o news g) (hc : o.cls = .type "list") (hd : o.data = .seq vs.toArray n) (hk : k < vs.length) (hk2 : k ≤ 1000000)
    (h : ∀ h' o' n', Fr h₀ L h' m → News h₀ L h' (g o') → o'.cls = .type "list" → o'.data = .seq (vs.set k v).toArray n' → Q () { s with heap := h' }) :
    wpAny (model prog w) A (setItem (.ref D) (.int (k : Int) t) v) Q E s := by
  obtain ⟨pre, post, rfl, hg, a, b⟩ := U.split
  have hm := N (D, o) (List.mem_append_right _ (.head _))
  refine wpAny_setItem_list (items := vs.toArray) ⟨o, hm.1, hc, n, hd⟩ (by omega) (by omega) (by simpa using hk) fun h' hl hs => ?_
  obtain ⟨o', ho', hc', n', hd'⟩ := hl
  refine h h' o' n' (F.change hs hm.2.1 hm.2.2) (hg o' ▸ N.setIn a b hs ho') hc' ?_
  rw [hd']
  simp
end
local macro_rules | `(tactic| walk_at "truthy ref") => `(tactic| k_dflt (refine wpAny_truthy_list (by is_list) (by (simp only [List.size_toArray, List.length_append, List.length_cons, List.length_nil]; omega)) ?_))
local macro_rules | `(tactic| walk_at "call builtin:list.pop") => `(tactic| ((try dsimp only); k_dflt (refine' kl_pop ?F ?N ?e ?U ?z ?_; (case F => k_asm); (case N => k_asm); (case U => exact Upd.head (by assumption)); (case e => exact kpa_last _ _); (case z => (rw [sizeLine_eq]; simp only [List.length_append, List.length_cons, List.length_nil]; omega)); k_whole); intro h' F' N'; try k_sweep))
theorem whileLoop {w : World} {A A₀ : Around} {base g : Heap} {outer : List Env} {p : Program} {loose : List Str} {mean : ExcName → Option Value} {mg mb : Str → Option Value} {cnt : Nat}
    {nm : Str} {params : Arguments} {body : List Stmt} {scope : Scope} (hM : lawDef = some (nm, params, body, scope)) {st : Stmt} (hst : lawBody[10]? = some st) {L fa : Addr} {cd : Value} {m : Str → Option Value} {s : Shared} {Q : Flow → Shared → Prop}
    (B₀ : Below A₀ base outer g) (F : Fr g L s.heap m) (X : (hdTop.heap_39 w.params).In g) (T : Top p loose mean mg mb g) (hh : A.handled = none) (hA : A.frames = some (lawEnv nm scope L fa cd :: outer))
    (hroom : A.depth + 20 < recursionLimit) (hun : A.units + 300 < cLine) {al wl ml stl n1 e te b0 : Nat} {oc : Obj} {AL : List Arc} {nd : Nat → Addr} {D : List DS} {E : Nat → List (Str × Addr)} {M0 : List (List Nat)} {W0 : List (Nat × List Nat)} (hcnt : cnt ≤ 5) (hAL9 : AL.length ≤ 9)
    (hm : ∀ q ∈ ([(Str.ofString "arcs", .ref al), (Str.ofString "waiting", .ref wl), (Str.ofString "states", .ref stl), (Str.ofString "end", .int (e : Int) te)] : List (Str × Value)), m q.1 = some q.2)
    (hal : ArcList (OwnA g L s.heap) al AL cnt) (hstl : OwnA g L s.heap stl (W.listOf (D.map fun d => Value.ref d.a).toArray n1)) (hoc : OwnA g L s.heap (L + 1) oc) (hocd : oc.data = .cell (some (.ref ml)))
    (hrep : ∀ (j : Nat) ds, D[j]? = some ds → RepDS w nd e (OwnA g L s.heap) ds (E j)) (hsep : SepD D) (hwd : WD AL cnt b0 D E) (hdone : ∀ (j : Nat) (ds : DS), D[j]? = some ds → Done AL ds.S (E j))
    (hwait : WaitP (OwnA g L s.heap) wl W0) (hmet : MetP (OwnA g L s.heap) ml M0) (hL : LInv D E M0 W0) (hne : al ≠ wl ∧ al ≠ ml ∧ stl ≠ wl ∧ stl ≠ ml ∧ wl ≠ ml ∧ ∀ ds ∈ D, ds.sl ≠ wl ∧ ds.sl ≠ ml) (hk0 : 10 * unmet M0 + W0.length ≤ 330)
    (cont : ∀ u h' tk' M, Fr g L h' (ovr ["place", "held", "state", "on", "one", "label", "to"] u m) → MetP (OwnA g L h') ml M → LInv D E M [] → (∀ a o, OwnA g L s.heap a o → a ≠ wl → a ≠ ml → OwnA g L h' a o) → Q .next { s with heap := h', toks := tk' }) :
    wpAny (model PySem.Challenge.rw_iv0023_01.row.prog w) A (exec st (lawEnv nm scope L fa cd)) Q (fun _ _ => False) s := by
  cases hM
  cases hst
  have em := chain_eq hm
  rw [← em] at F cont
  clear em hm
  obtain ⟨hd, dpt, fr, gd, un⟩ := A
  obtain rfl : fr = some _ := hA
  obtain rfl : hd = none := hh
  have hun' : un + 300 < cLine := hun
  have hroom' : dpt + 20 < recursionLimit := hroom
  clear hun hroom
  refine while_T ["place", "held", "state", "on", "one", "label", "to"] PassesOwn.never
    (fun k u h => ∃ M Wq, WaitP (OwnA g L h) wl Wq ∧ MetP (OwnA g L h) ml M ∧ LInv D E M Wq ∧ k = 10 * unmet M + Wq.length ∧ k ≤ 330 ∧ ∀ a o, OwnA g L s.heap a o → a ≠ wl → a ≠ ml → OwnA g L h a o) F _ ⟨M0, W0, hwait, hmet, hL, rfl, hk0, fun a o x _ _ => x⟩ ?turn
  case turn =>
    rintro k u h₂ tk F₂ ⟨M, Wq, hw, hme, hI, rfl, hk, hR⟩ R1 hR1
    replace F₂ : Fr g L h₂ _ := F₂
    have F₂' := F₂
    rw [ovr_ovl] at F₂
    rcases List.eq_nil_or_concat Wq with rfl | ⟨Wi, q, rfl⟩
    · obtain ⟨vw, nw, hw1, hw2, hw3⟩ := hw
      obtain rfl : vw = [] := List.eq_nil_of_length_eq_zero hw2
      obtain ⟨Z, NZ, hZD, hZlt, hZ⟩ := zed g L h₂ []
      have zw := hZ _ _ hw1.1 hw1.2.1 hw1.2.2 List.not_mem_nil
      k_steps
      exact cont u h₂ _ M F₂' hme hI hR
    · rw [List.concat_eq_append] at hw hI hk
      obtain ⟨vw, nw, hw1, hw2, hw3⟩ := hw
      rcases List.eq_nil_or_concat vw with rfl | ⟨vi, v, rfl⟩
      · simp at hw2
      rw [List.concat_eq_append] at hw1 hw2 hw3
      have hvi : vi.length = Wi.length := by simpa using hw2
      obtain ⟨q', x, t, l, n, r1, rfl, r3, ws, m3, r4, r5⟩ := hw3 vi.length v (by simp)
      obtain rfl : q = q' := by rw [hvi] at r1; simpa using r1
      obtain ⟨Z, NZ, hZD, hZlt, hZ⟩ := zed g L h₂ [wl]
      have hZa := hZD wl (.head _)
      have N := hw1.news NZ
      clear NZ
      have hwlen : vi.length ≤ 330 := by simp only [List.length_append, List.length_cons, List.length_nil] at hk; omega
      have zx := hZ _ _ r3.1 r3.2.1 r3.2.2 (by simpa using r3.ne hw1 (by intro q; injection q with q; revert q; decide))
      have hvl : (vi ++ [Value.ref x])[vi.length]? = some (.ref x) := by simp
      have zl := hZ _ _ r4.1 r4.2.1 r4.2.2 (by simpa using held_ne r4 r5 hw1 hvl)
      obtain ⟨dq, hdq, hqs, hqS⟩ := hI.wait q (by simp)
      have hqD : q.1 < D.length := (List.getElem?_eq_some_iff.mp hdq).1
      have hD32 := hwd.len hcnt
      have hq1000 : q.1 ≤ 1000000 := by omega
      obtain ⟨vm, om, nm, g1, g2, g3, g4, g5⟩ := hme
      have hvm : q.1 < vm.length := by rw [g4, hI.mlen]; exact hqD
      obtain ⟨lS, S, hlS, hMS, wS, nS, s1, s2⟩ := g5 q.1 _ (List.getElem?_eq_getElem hvm)
      have hlS' : vm[q.1]? = some (.ref lS) := by rw [List.getElem?_eq_getElem hvm, hlS]
      have zS := hZ _ _ s1.1 s1.2.1 s1.2.2 (by simpa using held_ne s1 s2 hw1 hvl)
      have zm := hZ _ _ g1.1 g1.2.1 g1.2.2 (by simpa using Ne.symm hne.2.2.2.2.1)
      have ncell : ∀ b ob, OwnA g L s.heap b ob → ob.cls = .type "list" → (∃ ps n, ob.data = .seq ps n) → L + 1 ≠ b := fun b ob x _ ⟨_, _, hd⟩ q => by
        have h1 := x.1
        rw [← q, hoc.1] at h1
        cases h1
        rw [hocd] at hd
        cases hd
      have hcw : L + 1 ≠ wl := by
        obtain ⟨_, _, q1, _⟩ := hwait
        exact ncell _ _ q1 rfl ⟨_, _, rfl⟩
      have hcm : L + 1 ≠ ml := by
        obtain ⟨_, _, _, q1, q2, q3, _⟩ := hmet
        exact ncell _ _ q1 q2 ⟨_, _, q3⟩
      have hoc2 := hR _ _ hoc hcw hcm
      have zc := hZ _ _ hoc2.1 hoc2.2.1 hoc2.2.2 (by simpa using hcw)
      k_steps
      · (rename (vi ++ _).toArray.isEmpty = true => hx)
        simp at hx
      · (rename decide (nats S = []) = true => hS0); (rename Fr _ _ _ _ => F'); (rename News _ _ _ _ => N')
        have hSe : S = [] := by
          have := of_decide_eq_true hS0
          cases S with
          | nil => rfl
          | cons a b => cases this
        subst hSe
        have pass := fun b ob (x : OwnA g L h₂ b ob) (hn : b ≠ wl) => OwnA.of N' (show (b, ob) ∈ _ by
          have z := hZ b ob x.1 x.2.1 x.2.2 (by simpa using hn)
          first | exact .tail _ (.tail _ z) | exact .tail _ (.tail _ (.tail _ z)) | exact .tail _ z)
        have hwn := OwnA.of N' (show (wl, W.listOf vi.toArray (nw + 1)) ∈ _ by first | exact .tail _ (.head _) | exact .tail _ (.tail _ (.head _)) | exact .head _)
        have hmn := pass _ _ g1 (Ne.symm hne.2.2.2.2.1)
        have hstn := pass _ _ (hR _ _ hstl hne.2.2.1 hne.2.2.2.1) hne.2.2.1
        clear N' hZ hZa hZlt hZD zx zl zS zm zc
        obtain ⟨Z, NZ, hZD, hZlt, hZ⟩ := zed g L _ [ml]
        have hZa := hZD ml (.head _)
        have N := hmn.news NZ
        clear NZ
        have zst := hZ _ _ hstn.1 hstn.2.1 hstn.2.2 (by simpa using hne.2.2.2.1)
        have hdq' : (D.map fun d => Value.ref d.a)[q.1]? = some (.ref dq.a) := by rw [List.getElem?_map, hdq]; rfl
        refine set_L F' N (UpdF.head hZa) g2 g3 hvm hq1000 fun h6 o6 n6 F6 N6 hc6 hd6 => ?_
        k_steps
        (rename Fr _ _ _ _ => F7); (rename News _ _ _ _ => N7); (rename (_ == sysModules) = false => hlo7)
        have hs7 := (show Obj.IsDictOf (strKind PySem.Challenge.rw_iv0023_01.row.prog w) _ [] by assumption)
        obtain ⟨od, hod⟩ := mkA N7
        subst hod
        change wpAny _ _ _ _ _ _
        have p27 := fun b ob (x : OwnA g L h₂ b ob) (n1 : b ≠ wl) (n2 : b ≠ ml) => OwnA.of N7 (.tail _ (.tail _ (hZ b ob (pass b ob x n1).1 x.2.1 x.2.2 (by simpa using n2))))
        have hw7 := OwnA.of N7 (.tail _ (.tail _ (hZ _ _ hwn.1 hwn.2.1 hwn.2.2 (by simpa using hne.2.2.2.2.1))))
        (rename _ ∧ AllLt _ _ => l7)
        have hm7 := OwnA.of N7 (.tail _ (.head _))
        have hwod : wl ≠ od := allLt_mem l7.2 _ (hZ _ _ hwn.1 hwn.2.1 hwn.2.2 (by simpa using hne.2.2.2.2.1))
        have nml : ∀ b ob, OwnA g L h₂ b ob → ob.cls ≠ .type "list" → b ≠ ml := fun b ob x hc q => x.ne g1 (by rw [g2]; exact hc) q
        have nwl : ∀ b ob, OwnA g L h₂ b ob → ob.cls ≠ .type "list" → b ≠ wl := fun b ob x hc q => x.ne hw1 hc q
        have lml : l ≠ ml := held_ne2 r4 r5 g1 g3 hlS'
        have hqn : q.2.Nodup := hqs.imp fun h => Nat.ne_of_lt h
        have hqc : ∀ x ∈ q.2, x < cnt := fun x hx => (hwd.ok dq (List.mem_of_getElem? hdq)).2.2 x ((hqS x).mp hx)
        have hal7 : ArcList (OwnA g L _) al AL cnt := let ⟨vs, n, q1, q2, q3, q4⟩ := hal; ⟨vs, n, p27 _ _ (hR _ _ q1 hne.1 hne.2.1) hne.1 hne.2.1, q2, fun j v e => let ⟨a, x, t1, t2, t3, n, r1, r2, r3⟩ := q3 j v e; ⟨a, x, t1, t2, t3, n, r1, r2, by
          have z := hR _ _ r3 (fun q => by obtain ⟨_, _, z, _⟩ := hwait; exact r3.ne z (by intro q; injection q with q; revert q; decide) q) (fun q => by obtain ⟨_, _, _, z, z2, _⟩ := hmet; exact r3.ne z (by rw [z2]; intro q; injection q with q; revert q; decide) q)
          exact p27 _ _ z (nwl _ _ z (by intro q; injection q with q; revert q; decide)) (nml _ _ z (by intro q; injection q with q; revert q; decide))⟩, q4⟩
        refine onLoop (hM := rfl) (hst := rfl) B₀ F7 X T rfl rfl (by show dpt + 20 < _; exact lt_room (by assumption) (by decide)) (by show un + 200 < _; exact lt_room (by assumption) (by decide)) hcnt hAL9 ?hm hal7 ⟨ws, m3, p27 _ _ r4 (held_ne r4 r5 hw1 hvl) lml, r5⟩ hqn hqc (OwnA.of N7 (.head _)) hs7 hlo7 ?_
        case hm => exact all_cons rfl (all_cons rfl (all_cons rfl all_nil))
        intro u8 h8 tk8 Ts o8 F8 hod8 hdo8 hT8 K8 hOT
        have nod : ∀ b ob, OwnA g L h₂ b ob → b ≠ wl → b ≠ ml → b ≠ od := fun b ob x n1 n2 => allLt_mem l7.2 _ (hZ b ob (pass b ob x n1).1 x.2.1 x.2.2 (by simpa using n2))
        have p28 : ∀ b ob, OwnA g L h₂ b ob → b ≠ wl → b ≠ ml → OwnA g L h8 b ob := fun b ob x n1 n2 => K8 _ _ (p27 b ob x n1 n2) (by simpa using nod b ob x n1 n2)
        have swl : ∀ b ob, OwnA g L s.heap b ob → ob.cls ≠ .type "list" → b ≠ wl := fun b ob x hc q => by obtain ⟨_, _, z, _⟩ := hwait; exact x.ne z hc q
        have sml : ∀ b ob, OwnA g L s.heap b ob → ob.cls ≠ .type "list" → b ≠ ml := fun b ob x hc q => by obtain ⟨_, _, _, z, z2, _⟩ := hmet; exact x.ne z (by rw [z2]; exact hc) q
        obtain ⟨nad, td, y1, y2, y3, y4, y5, y6, y7, k1, k2, o1, a1, a2, a3, a4, a5, a6⟩ := id (hrep q.1 dq hdq)
        have i1 : dq.a ≠ wl ∧ dq.a ≠ ml := ⟨swl _ _ a1 (by intro q; cases q), sml _ _ a1 (by intro q; cases q)⟩
        have i2 : dq.dx ≠ wl ∧ dq.dx ≠ ml := ⟨swl _ _ a2 (by intro q; injection q with q; revert q; decide), sml _ _ a2 (by intro q; injection q with q; revert q; decide)⟩
        have i4 : dq.ad ≠ wl ∧ dq.ad ≠ ml := ⟨swl _ _ a4 (by rw [dict_cls a5]; intro q; injection q with q; revert q; decide), sml _ _ a4 (by rw [dict_cls a5]; intro q; injection q with q; revert q; decide)⟩
        have i3 := hne.2.2.2.2.2 dq (List.mem_of_getElem? hdq)
        have b1 := p28 _ _ (hR _ _ a1 i1.1 i1.2) i1.1 i1.2
        have b2 := p28 _ _ (hR _ _ a2 i2.1 i2.2) i2.1 i2.2
        have b3 := p28 _ _ (hR _ _ a3 i3.1 i3.2) i3.1 i3.2
        have b4 := p28 _ _ (hR _ _ a4 i4.1 i4.2) i4.1 i4.2
        have hl8 := p28 _ _ r4 (held_ne r4 r5 hw1 hvl) lml
        clear N7 F7 hs7
        obtain ⟨Z8, NZ8, hZD8, hZlt8, hZ8⟩ := zed g L h8 []
        have z1 := hZ8 _ _ b1.1 b1.2.1 b1.2.2 List.not_mem_nil
        have z2 := hZ8 _ _ b2.1 b2.2.1 b2.2.2 List.not_mem_nil
        have z4 := hZ8 _ _ b4.1 b4.2.1 b4.2.2 List.not_mem_nil
        have zo := hZ8 _ _ hod8.1 hod8.2.1 hod8.2.2 List.not_mem_nil
        have zl8 := hZ8 _ _ hl8.1 hl8.2.1 hl8.2.2 List.not_mem_nil
        have hfin : decide (e ∈ dq.S) = (nats q.2).any (fun x => x == (e : Int)) := by
          rw [any_nats]
          exact decide_eq_decide.mpr (hqS e).symm
        k_steps
        · (rename (_ != _) = true => hx)
          rw [hfin] at hx
          simp at hx
        · (rename Fr _ _ _ _ => F9); (rename News _ _ _ _ => N9)
          change wpAny _ _ _ _ _ _
          have hlabs : ∀ a ∈ AL, a.2.1 ∈ labs := let ⟨_, _, _, _, _, q4⟩ := hal; fun a ha => (q4 a ha).2.2
          have hperm := same_labels hwd hdq (hdone q.1 dq hdq) hOT hqS
          have hfew := labels_few hlabs hOT
          have hElen := hperm.length_eq
          rw [List.length_map, List.length_map] at hElen
          have me1 : (refE (E q.1)).map (·.1) = (E q.1).map (·.1) := by rw [refE, List.map_map]; rfl
          have me2 : (refT Ts).map (·.1) = Ts.map (·.lab) := by rw [refT, List.map_map]; rfl
          refine sorted_dict rfl F9 N9 z4 a5 a6 (by rw [List.length_map]; omega) fun B1 vs1 ss1 c1 h9 tk9 F10 N10 l10 hS1 hp1 hs1 => ?_
          k_steps
          change wpAny _ _ _ _ _ _
          refine sorted_dict rfl F10 N10 (.tail _ zo) hdo8 (by assumption) (by rw [List.length_map]; omega) fun B2 vs2 ss2 c2 h11 tk11 F12 N12 l12 hS2 hp2 hs2 => ?_
          have hse : ss1 = ss2 := sorted_uniq hs1 hs2 (by rw [me1] at hp1; rw [me2] at hp2; exact hp1.trans (hperm.trans hp2.symm))
          subst hse
          refine ne_strs_same (N12.isList (.tail _ (.head _))) hS1 (N12.isList (.head _)) hS2 (fun y hy => labs_lay y (labels_in hlabs hOT y (hperm.mem_iff.mp (by rw [← me1]; exact hp1.mem_iff.mp hy)))) (by show un + 64 < _; exact lt_room (by assumption) (by decide)) ?_
          k_steps
          change wpAny _ _ _ _ _ _
          have p11 := fun b ob (x : OwnA g L h8 b ob) => OwnA.of N12 (.tail _ (.tail _ (hZ8 b ob x.1 x.2.1 x.2.2 List.not_mem_nil)))
          have hw11 := p11 _ _ (K8 _ _ hw7 (by simpa using hwod))
          have pA : ∀ b ob, OwnA g L s.heap b ob → b ≠ wl → b ≠ ml → OwnA g L h11 b ob := fun b ob x n1 n2 => p11 _ _ (p28 _ _ (hR _ _ x n1 n2) n1 n2)
          have hrefs : ∀ (k : Nat) v, vi[k]? = some v → ∃ z, v = Value.ref z := fun k v hk => by
            have hj' : (vi ++ [Value.ref x])[k]? = some v := by rw [List.getElem?_append_left (List.getElem?_eq_some_iff.mp hk).1]; exact hk
            obtain ⟨q', x', t', l', n', u1, u2, _⟩ := hw3 k v hj'
            exact ⟨x', u2⟩
          have hm8 := K8 _ _ hm7 (by simpa using Nat.ne_of_lt l7.1)
          have hal11 : ArcList (OwnA g L h11) al AL cnt := let ⟨vs, n, q1, q2, q3, q4⟩ := hal; ⟨vs, n, pA _ _ q1 hne.1 hne.2.1, q2, fun j v e => let ⟨a, x, t1, t2, t3, n, r1, r2, r3⟩ := q3 j v e; ⟨a, x, t1, t2, t3, n, r1, r2, pA _ _ r3 (swl _ _ r3 (by intro q; injection q with q; revert q; decide)) (sml _ _ r3 (by intro q; injection q with q; revert q; decide))⟩, q4⟩
          refine pushLoop (hM := rfl) (hst := rfl) (nd := nd) (e := e) (al := al) (wl := wl) (stl := stl) (n1 := n1) (AL := AL) (cnt := cnt) (W0 := Wi) (E := E q.1) (ds := dq) (D := D) (Ts := Ts) B₀ F12 X T rfl rfl (by show dpt + 20 < _; exact lt_room (by assumption) (by decide)) (by show un + 250 < _; exact lt_room (by assumption) (by decide)) hcnt hD32 (by omega) (by omega) ?hm hal11 (p11 _ _ hod8) hdo8 (by assumption) (pA _ _ hstl hne.2.2.1 hne.2.2.2.1) hsep.nodup ?di ⟨nad, td, y1, y2, y3, y4, y5, y6, y7, k1, k2, o1, p11 _ _ b1, p11 _ _ b2, p11 _ _ b3, p11 _ _ b4, a5, a6⟩ (hwd.keys _) hOT.nd ?tl ?wt ⟨hne.1, hne.2.2.1, i3.1⟩ (edge_of hwd hdq (hdone q.1 dq hdq) hOT hqS) ?cont
          case hm => exact all_cons rfl (all_cons rfl (all_cons rfl (all_cons rfl (all_cons rfl all_nil))))
          case di =>
            intro d hd
            obtain ⟨j, hj⟩ := List.mem_iff_getElem?.mp hd
            obtain ⟨_, _, _, _, _, _, _, _, _, _, _, _, q1, _⟩ := hrep j d hj
            exact ⟨_, pA _ _ q1 (swl _ _ q1 (by intro q; cases q)) (sml _ _ q1 (by intro q; cases q))⟩
          case tl =>
            intro t ht
            obtain ⟨⟨wt, nt, c1, c2⟩, c3⟩ := hT8 t ht
            have c1' := p11 _ _ c1
            refine ⟨⟨wt, nt, c1', c2⟩, held_ne3 c1' c2 (hOT.ne t ht).2.2 hw11 hrefs, ?_, (hOT.ne t ht).2.1, fun y hy => ?_⟩
            · obtain ⟨vs, n, q1, q2, q3, q4⟩ := hal11
              exact held_ne3 c1' c2 (hOT.ne t ht).2.2 q1 fun k v hk => let ⟨_, x, _, _, _, _, _, r2, _⟩ := q3 k v hk; ⟨x, r2⟩
            · obtain ⟨vs, n, q1, q2, q3, q4⟩ := hal11
              obtain ⟨a, ha, _, _, rfl⟩ := (hOT.mem t ht y).mp hy
              exact (q4 a ha).2.1
          case wt =>
            refine ⟨vi, nw + 1, hw11, hvi, fun j v hj => ?_⟩
            have hj' : (vi ++ [Value.ref x])[j]? = some v := by rw [List.getElem?_append_left (List.getElem?_eq_some_iff.mp hj).1]; exact hj
            obtain ⟨q', x', t', l', n', u1, u2, u3, ws', m', u4, u5⟩ := hw3 j v hj'
            refine ⟨q', x', t', l', n', ?_, u2, p11 _ _ (p28 _ _ u3 (nwl _ _ u3 (by intro q; injection q with q; revert q; decide)) (nml _ _ u3 (by intro q; injection q with q; revert q; decide))), ws', m', p11 _ _ (p28 _ _ u4 (held_ne u4 u5 hw1 hvl) (held_ne2 u4 u5 g1 g3 hlS')), u5⟩
            rw [List.getElem?_append_left (by rw [← hvi]; exact (List.getElem?_eq_some_iff.mp hj).1)] at u1; exact u1
          case cont =>
            intro u12 h12 tk12 Wn F13 hW13 K13 hWl hWS hWE
            have hq2 : q.2 ≠ [] := (hI.wait q (by simp)).ne_nil fun ds hd => (hwd.ok ds hd).2.1
            have hun1 := unmet_set hMS hq2
            k_steps
            refine hR1 _ _ ?_
            refine Turn.next F13 ⟨⟨10 * unmet (M.set q.1 q.2) + (Wi ++ Wn).length, ?_, M.set q.1 q.2, Wi ++ Wn, hW13, ⟨vm.set q.1 (.ref l), o6, n6, K13 _ _ (p11 _ _ hm8) (by simpa using Ne.symm hne.2.2.2.2.1), hc6, hd6, by rw [List.length_set, List.length_set]; exact g4, fun j v hj => ?_⟩, hI.visit hMS hq2 hWS fun lab a ha => ?_, rfl, ?_, fun a o x n1 n2 => K13 _ _ (pA a o x n1 n2) (by simpa using n1)⟩, ?_⟩
            · simp only [List.length_append, List.length_concat, List.length_cons, List.length_nil] at hk ⊢; omega
            · by_cases ej : j = q.1
              · subst ej
                rw [List.getElem?_set_self hvm] at hj
                cases hj
                exact ⟨l, q.2, rfl, by rw [List.getElem?_set_self (by rw [← g4]; exact hvm)], ws, m3, K13 _ _ (p11 _ _ hl8) (by simpa using held_ne r4 r5 hw1 hvl), r5⟩
              · rw [List.getElem?_set_ne (Ne.symm ej)] at hj
                obtain ⟨l', S', u1, u2, ws', m', u4, u5⟩ := g5 j v hj
                have n1 := held_ne u4 u5 hw1 hvl
                exact ⟨l', S', u1, by rw [List.getElem?_set_ne (Ne.symm ej)]; exact u2, ws', m', K13 _ _ (p11 _ _ (p28 _ _ u4 n1 (held_ne2 u4 u5 g1 g3 hlS'))) (by simpa using n1), u5⟩
            · obtain ⟨t, ht, e1⟩ := List.mem_map.mp (hperm.mem_iff.mp (List.mem_map.mpr ⟨_, ha, rfl⟩))
              obtain ⟨r, hr, dk, d1, d2⟩ := hWE t ht
              refine ⟨r, hr, dk, d1, ?_⟩
              have v1 := valueAt_E (hwd.keys _) ha
              have v2 := valueAt_E (hwd.keys _) d2
              replace e1 : t.lab = lab := e1
              rw [e1, v1] at v2
              injection v2 with v2
              injection v2 with v2
              exact v2.symm
            · simp only [List.length_append, List.length_concat, List.length_cons, List.length_nil] at hk ⊢; omega
            · k_same2
      · (rename decide (nats S = []) = false => hS0); (rename Fr _ _ _ _ => F'); (rename News _ _ _ _ => N')
        have hSne : S ≠ [] := fun e => by rw [e] at hS0; cases hS0
        have pass := fun b ob (x : OwnA g L h₂ b ob) (hn : b ≠ wl) => OwnA.of N' (show (b, ob) ∈ _ by
          have z := hZ b ob x.1 x.2.1 x.2.2 (by simpa using hn)
          first | exact .tail _ (.tail _ z) | exact .tail _ (.tail _ (.tail _ z)) | exact .tail _ z)
        have hwn := OwnA.of N' (show (wl, W.listOf vi.toArray (nw + 1)) ∈ _ by first | exact .tail _ (.head _) | exact .tail _ (.tail _ (.head _)) | exact .head _)
        refine hR1 _ _ ?_
        refine Turn.next F' ⟨⟨10 * unmet M + Wi.length, by simp, M, Wi, ⟨vi, nw + 1, hwn, hvi, fun j v hj => ?_⟩, ⟨vm, om, nm, pass _ _ g1 (Ne.symm hne.2.2.2.2.1), g2, g3, g4, fun j v hj => ?_⟩, hI.seen hMS hSne, rfl, ?_, fun a o x n1 n2 => pass _ _ (hR a o x n1 n2) n1⟩, ?_⟩
        · have hj' : (vi ++ [Value.ref x])[j]? = some v := by rw [List.getElem?_append_left (List.getElem?_eq_some_iff.mp hj).1]; exact hj
          obtain ⟨q', x', t', l', n', u1, u2, u3, ws', m', u4, u5⟩ := hw3 j v hj'
          refine ⟨q', x', t', l', n', ?_, u2, pass _ _ u3 (u3.ne hw1 (by intro q; injection q with q; revert q; decide)), ws', m', pass _ _ u4 (held_ne u4 u5 hw1 hvl), u5⟩
          rw [List.getElem?_append_left (by rw [← hvi]; exact (List.getElem?_eq_some_iff.mp hj).1)] at u1; exact u1
        · obtain ⟨l', S', u1, u2, ws', m', u4, u5⟩ := g5 j v hj
          exact ⟨l', S', u1, u2, ws', m', pass _ _ u4 (held_ne u4 u5 hw1 hvl), u5⟩
        · simp only [List.length_append, List.length_cons, List.length_nil] at hk; omega
        · k_same2
      · (rename decide (nats S = []) = false => hS0); (rename ¬ nats S = nats q.2 => hne2)
        have hSne : S ≠ [] := fun e => by rw [e] at hS0; cases hS0
        rcases hI.met q.1 S hMS with h | h
        · exact absurd h hSne
        · exact absurd (by rw [h.uniq (hI.wait q (by simp))]) hne2
end Mine
end PartLw8
section PartLw9
namespace Mine
theorem offLw9 : True := by (w_top off; exact True.intro)
theorem eqAt_ints {A : Around} {s : Shared} {y x : Addr} {ws us : List Value} {ns ms : List Int} (hy : s.heap.IsList y ws.toArray) (hx : s.heap.IsList x us.toArray) (hi : IntsAre ws ns) (hj : IntsAre us ms) (hu : A.units + 64 < cLine) : SeqAt.EqAt A s (.ref y) (.ref x) (decide (ns = ms)) := by
  have h := SeqAt.eqAt_reads _ _ A s _ _ _ _ (reads_newData hy (ke_carried hi)) (reads_newData hx (ke_carried hj)) (by simp [PyData.canLay0, ke_canLayAll0]) (by simp [PyData.canLay0, ke_canLayAll0]) (by simp only [PyData.depth, ke_depthAll]; omega)
  rw [← SeqAt.same_eq_eqv _ _ (SeqAt.noMix_of_shape (.list .int) rfl _ _ (list_map_has fun _ => rfl) (list_map_has fun _ => rfl)), ke_same] at h
  exact h
theorem slice_take {vs : List Value} (j : Nat) : (slicePick vs.toArray none (some (j : Int)) none).toList = vs.take j := by
  have e : sliceBounds none (some (j : Int)) none vs.toArray.size = (((0 : Nat) : Int), ((min j vs.toArray.size : Nat) : Int), 1) := by
    simp only [sliceBounds, Option.getD_none, show (1 : Int) > 0 by decide, if_true, if_neg (show ¬ ((j : Int) < 0) by omega)]
    congr 1
    congr 1
    omega
  rw [kmk_pick_nat _ e]
  show (vs.drop 0).take (min j vs.toArray.size - 0) = _
  rw [List.drop_zero, Nat.sub_zero, List.size_toArray, kmk_take_min]
theorem nats_inj : ∀ {S S' : List Nat}, nats S = nats S' → S = S'
  | [], [], _ => rfl
  | [], _ :: _, h => by cases h
  | _ :: _, [], h => by cases h
  | a :: r, b :: r', h => by
    unfold nats at h
    rw [List.map_cons, List.map_cons] at h
    injection h with h1 h2
    rw [Int.ofNat.inj h1, nats_inj h2]
theorem IsListA {g h : Heap} {L a : Addr} {vs : Array Value} {n : Nat} (x : OwnA g L h a (W.listOf vs n)) : h.IsList a vs := ⟨_, x.1, rfl, _, rfl⟩
local macro_rules | `(tactic| walk_at "eval ListComp") => `(tactic| k_dflt (refine LCt.ListComp_T (F₀ := by k_asm) (by with_unfolding_all rfl) (by decide) (by rfl) (by decide) (by rfl) ?_))
local macro_rules | `(tactic| walk_at "CompSrcT") => `(tactic| refine stop_here ?_)
local macro_rules | `(tactic| walk_at "subscriptTail Name Slice ref ref") => `(tactic| (k_dflt (refine kmk_slice_lit (by k_asm) (by k_asm) (by is_list) (by kmk_part) (by kmk_part) (slice_take _) ?_ (by with_unfolding_all rfl) (by kmk_pure) (by (rw [sizeLine_eq, List.size_toArray]; omega))); intro D' h' F' N' l1; (try k_lt l1); try k_sweep))
local macro_rules | `(tactic| walk_at "call builtin:len") => `(tactic| k_dflt (refine len_list (by is_list) (by (rw [List.size_toArray]; omega)) ?_))
local macro_rules | `(tactic| walk_at "compareOp In ref ref") => `(tactic| refine stop_here ?_)
theorem lastComp {w : World} {A A₀ : Around} {base g : Heap} {outer : List Env} {p : Program} {loose : List Str} {mean : ExcName → Option Value} {mg mb : Str → Option Value}
    {nm : Str} {params : Arguments} {body : List Stmt} {scope : Scope} (hM : lawDef = some (nm, params, body, scope)) {st : Stmt} (hst : lawBody[11]? = some st) {L fa : Addr} {cd : Value} {m : Str → Option Value} {s : Shared} {Q : Flow → Shared → Prop}
    (B₀ : Below A₀ base outer g) (F : Fr g L s.heap m) (X : (hdTop.heap_39 w.params).In g) (T : Top p loose mean mg mb g) (hh : A.handled = none) (hA : A.frames = some (lawEnv nm scope L fa cd :: outer))
    (hroom : A.depth + 20 < recursionLimit) (hun : A.units + 200 < cLine) {ml : Addr} {oc : Obj} {M : List (List Nat)} (hM32 : M.length ≤ 32)
    (hmet : MetP (OwnA g L s.heap) ml M) (hoc : OwnA g L s.heap (L + 1) oc) (hocd : oc.data = .cell (some (.ref ml)))
    (hall : ∀ (j : Nat) S, M[j]? = some S → S ≠ []) (hdiff : ∀ (i j : Nat) S S', M[i]? = some S → M[j]? = some S' → i < j → S ≠ S')
    (cont : ∀ h' tk', Fr g L h' m → Kept [] g L s.heap h' → Q (.ret (.bool true)) { s with heap := h', toks := tk' }) :
    wpAny (model PySem.Challenge.rw_iv0023_01.row.prog w) A (exec st (lawEnv nm scope L fa cd)) Q (fun _ _ => False) s := by
  cases hM
  cases hst
  obtain ⟨hd, dpt, fr, gd, un⟩ := A
  obtain rfl : fr = some _ := hA
  obtain rfl : hd = none := hh
  have hun' : un + 200 < cLine := hun
  have hroom' : dpt + 20 < recursionLimit := hroom
  clear hun hroom
  obtain ⟨vm, om, nmm, g1, g2, g3, g4, g5⟩ := hmet
  obtain ⟨Z, NZ, hZD, hZlt, hZ⟩ := zed g L s.heap []
  have zm := hZ _ _ g1.1 g1.2.1 g1.2.2 List.not_mem_nil
  have zc := hZ _ _ hoc.1 hoc.2.1 hoc.2.2 List.not_mem_nil
  have hvm32 : vm.length ≤ 32 := by omega
  k_steps
  (rename IsRange _ _ _ _ _ _ _ _ => hrg); (rename Fr _ _ _ _ => F1); (rename News _ _ _ _ => N1)
  have pass1 := fun a o (x : OwnA g L s.heap a o) => OwnA.of N1 (hZ a o x.1 x.2.1 x.2.2 List.not_mem_nil)
  change LCt.CompSrcT _ _ _ _ _ _ _ _ _ _ _ _ _ _ _
  refine LCt.CompSrcT.range rfl F1 N1 hrg (small_one (by omega) (by omega) (by rw [List.size_toArray]; omega) (by rw [List.size_toArray]; omega)) (n := vm.length) (by rw [rangeSize_one, List.size_toArray]; split <;> omega) (by rw [sizeLine_eq]; omega) fun g' => ?_
  refine (?key : ∀ k i, i + k = vm.length → LCt.CompRestT _ _ _ _ _ _ _ _ _ _ _ _ _ _ _ _ k i [] Z) vm.length 0 (Nat.zero_add _)
  case key =>
    intro k
    induction k with
    | zero =>
      intro i hi
      refine LCt.CompRestT.zero ?_
      intro D h tk F2 N2 off2
      have pass2 := fun a o (x : OwnA g L s.heap a o) => OwnA.of N2 (.tail _ (hZ a o x.1 x.2.1 x.2.2 List.not_mem_nil))
      replace N2 : News g L h ((D, W.listOf #[] 0) :: Z) := N2
      clear N1 F1
      k_steps
      (rename Fr _ _ _ _ => F5); (rename News _ _ _ _ => N5)
      exact cont _ _ F5 fun a o x _ => OwnA.of N5 (.tail _ (.tail _ (hZ a o x.1 x.2.1 x.2.2 List.not_mem_nil)))
    | succ k ih =>
      intro i hi
      refine LCt.CompRestT.succ ?_
      rintro v I oI C oC D m₂ h tk E' ⟨t, rfl⟩ hoC hmx F2 N2 off2 ne2
      rw [Int.zero_add] at hmx
      clear N1 F1
      have hiv : i < vm.length := by omega
      obtain ⟨lS, S, hlS, hMS, wS, nS, s1, s2⟩ := g5 i _ (List.getElem?_eq_getElem hiv)
      have hlS' : vm[i]? = some (.ref lS) := by rw [List.getElem?_eq_getElem hiv, hlS]
      have zS := hZ _ _ s1.1 s1.2.1 s1.2.2 List.not_mem_nil
      have zm2 : (ml, om) ∈ (I, oI) :: (C, oC) :: (D, LCg.lst []) :: Z := .tail _ (.tail _ (.tail _ zm))
      have zc2 : (L + 1, oc) ∈ (I, oI) :: (C, oC) :: (D, LCg.lst []) :: Z := .tail _ (.tail _ (.tail _ zc))
      have zS2 : (lS, W.listOf wS.toArray nS) ∈ (I, oI) :: (C, oC) :: (D, LCg.lst []) :: Z := .tail _ (.tail _ (.tail _ zS))
      k_steps
      · (rename decide (nats S = []) = true => hS0)
        have hSe : S = [] := by
          have := of_decide_eq_true hS0
          cases S with
          | nil => rfl
          | cons a b => cases this
        exact absurd hSe (hall i S hMS)
      · (rename Fr _ _ _ _ => F5); (rename News _ _ _ _ => N5)
        change wpAny _ _ _ _ _ _
        have pass5 := fun a o (x : OwnA g L s.heap a o) => OwnA.of N5 (.tail _ (.tail _ (.tail _ (.tail _ (.tail _ (hZ a o x.1 x.2.1 x.2.2 List.not_mem_nil))))))
        refine SeqAt.in_listAt (fun _ => false) (N5.isList (.head _)) (fun y hy => ?_) ?_
        · obtain ⟨j, hj⟩ := List.mem_iff_getElem?.mp (List.mem_toArray.mp hy)
          have hji : j < i := by have := (List.getElem?_eq_some_iff.mp hj).1; rw [List.length_take] at this; omega
          rw [List.getElem?_take_of_lt hji] at hj
          obtain ⟨l', S', rfl, u2, ws', m', u4, u5⟩ := g5 j y hj
          have hne : nats S' ≠ nats S := fun e => hdiff j i S' S u2 hMS hji (nats_inj e)
          show SeqAt.EqAt _ _ _ _ false
          rw [show false = decide (nats S' = nats S) from (decide_eq_false hne).symm]
          refine eqAt_ints ?_ ?_ u5 s2 (by show un + 1 + 64 < _; omega)
          · exact IsListA (pass5 _ _ u4)
          · exact IsListA (pass5 _ _ s1)
        · rw [show ((List.take i vm).toArray.any fun _ => false) = false from by simp]
          k_steps
          exact LCg.CompEnd.intro F5 N5 Z (fun p hp => .tail _ (.tail _ hp)) off2 trivial (ih (i + 1) (by omega))
end Mine
end PartLw9
section PartLw10
namespace Mine
theorem offLw10 : True := by (w_top off; exact True.intro)
local macro_rules | `(tactic| walk_at "exec Assign cons ListComp") => `(tactic| refine stop_here ?_)
local macro_rules | `(tactic| walk_at "exec Return some") => `(tactic| refine stop_here ?_)
local macro_rules | `(tactic| walk_at "subscriptTail Name Constant ref int") => `(tactic| k_dflt (refine item_L (k := 0) (by exact News.isList (by k_asm) (by k_mem)) (by assumption) (by omega) ?_ (by with_unfolding_all rfl)))
theorem GraphP.kmono {w : World} {P P' : Addr → Obj → Prop} {nl : List NS} {AL : List Arc} (x : GraphP w P nl AL) (k : ∀ a o, P a o → (∃ c, o.cls = .ref c) ∨ o.cls = .type "dict" ∨ o.cls = .type "list" → P' a o) : GraphP w P' nl AL :=
  let ⟨f, h1, h2⟩ := x
  ⟨f, fun i y h => let ⟨t1, t2, t3, n, n', q1, q2, q3⟩ := h1 i y h; ⟨t1, t2, t3, n, n', k _ _ q1 (.inl ⟨_, rfl⟩), k _ _ q2 (.inr (.inl rfl)), k _ _ q3 (.inr (.inr rfl))⟩,
    fun i hi => ⟨(h2 i hi).1, fun j v e => let ⟨a, p, q⟩ := (h2 i hi).2 j v e; ⟨a, p, q.mono fun a o z r => k a o z (r.elim (fun r => .inl ⟨_, r⟩) fun r => .inr (.inl r))⟩⟩⟩
/-- neither a cell nor a table -/
def Nice (o : Obj) : Prop := match o.data with
  | .seq .. => True
  | .plain => True
  | .dict .. => True
  | _ => False
theorem ArcList.nice {P P' : Addr → Obj → Prop} {al : Addr} {AL : List Arc} {cnt : Nat} (x : ArcList P al AL cnt) (k : ∀ a o, P a o → Nice o → P' a o) : ArcList P' al AL cnt :=
  let ⟨vs, n, h1, h2, h3, h4⟩ := x
  ⟨vs, n, k _ _ h1 trivial, h2, fun j v e => let ⟨a, x, t1, t2, t3, n, q1, q2, q3⟩ := h3 j v e; ⟨a, x, t1, t2, t3, n, q1, q2, k _ _ q3 trivial⟩, h4⟩
theorem dict_nice {w : World} {o : Obj} {kvs : List (Str × Value)} (x : o.IsDictOf (strKind PySem.Challenge.rw_iv0023_01.row.prog w) kvs) : Nice o := by
  obtain ⟨_, _, _, h, _⟩ := x
  unfold Nice
  rw [h]
  trivial
theorem RepDS.nice {w : World} {nd : Nat → Addr} {e : Nat} {P P' : Addr → Obj → Prop} {ds : DS} {E : List (Str × Addr)} (x : RepDS w nd e P ds E) (k : ∀ a o, P a o → Nice o → P' a o) : RepDS w nd e P' ds E :=
  let ⟨nad, td, t1, t2, t3, t4, t5, t6, t7, n, n', o, h1, h2, h3, h4, h5⟩ := x
  ⟨nad, td, t1, t2, t3, t4, t5, t6, t7, n, n', o, k _ _ h1 trivial, k _ _ h2 trivial, k _ _ h3 trivial, k _ _ h4 (dict_nice h5.1), h5⟩
theorem OwnA.nice_ne {g h : Heap} {L a b : Addr} {o oc : Obj} {v : Option Value} (x : OwnA g L h a o) (y : OwnA g L h b oc) (hc : oc.data = .cell v) (n : Nice o) : a ≠ b := fun q => by
  subst q
  have h := x.1
  rw [y.1] at h
  cases h
  unfold Nice at n
  rw [hc] at n
  exact n
theorem OwnA.nice_tab {g h : Heap} {L a b : Addr} {o : Obj} {ps : Array Value} (x : OwnA g L h a o) (y : OwnA g L h b (tabObj ps)) (n : Nice o) : a ≠ b := fun q => by
  subst q
  have h := x.1
  rw [y.1] at h
  cases h
  exact n
theorem lawWalk {w : World} {A A₀ : Around} {base g : Heap} {outer : List Env} {p : Program} {loose : List Str} {mean : ExcName → Option Value} {mg mb : Str → Option Value}
    {nm : Str} {params : Arguments} {body : List Stmt} {scope : Scope} (hM : lawDef = some (nm, params, body, scope)) {L fa : Addr} {cd : Value} {m : Str → Option Value} {s : Shared} {Q : Flow → Shared → Prop}
    (B₀ : Below A₀ base outer g) (F : Fr g L s.heap m) (X : (hdTop.heap_39 w.params).In g) (T : Top p loose mean mg mb g) (hh : A.handled = none) (hA : A.frames = some (lawEnv nm scope L fa cd :: outer))
    (hroom : A.depth + 60 < recursionLimit) (hun : A.units + 450 < cLine) {scl : Addr} {oc : Obj} {oc0 : Option Value} {vs : List Value} {ns : List Int}
    (hm : ∀ q ∈ ([(Str.ofString "script", .ref scl)] : List (Str × Value)), m q.1 = some q.2)
    (hscl : g.IsList scl vs.toArray) (hi : IntsAre vs ns) (hlen : ns.length ≤ 63)
    (hoc : OwnA g L s.heap (L + 1) oc) (hocd : oc.data = .cell oc0) (ht : OwnA g L s.heap 122 (tabObj #[])) (hcode : CodeHd g 126 122)
    (cont : ∀ h' tk' m', Fr g L h' m' → (∃ arr, h'.get? 122 = some (tabObj arr)) → Q (.ret (.bool true)) { s with heap := h', toks := tk' }) :
    wpAny (model PySem.Challenge.rw_iv0023_01.row.prog w) A (execs body (lawEnv nm scope L fa cd)) Q (fun _ _ => False) s := by
  cases hM
  have em := chain_eq hm
  rw [← em] at F
  clear em hm
  obtain ⟨hd, dpt, fr, gd, un⟩ := A
  obtain rfl : fr = some _ := hA
  obtain rfl : hd = none := hh
  have hun' : un + 450 < cLine := hun
  have hroom' : dpt + 60 < recursionLimit := hroom
  clear hun hroom
  obtain ⟨Z, NZ, hZD, hZlt, hZ⟩ := zed g L s.heap []
  k_steps
  (rename Fr _ _ _ _ => F1); (rename News _ _ _ _ => N1); (rename IntsAre _ (List.take 30 ns) => hi1); (rename _ ∧ AllLt _ _ => l1)
  obtain ⟨c, hc⟩ := mkA N1
  subst hc
  change wpAny _ _ _ _ _ _
  have pass1 := fun a o (x : OwnA g L s.heap a o) => OwnA.of N1 (.tail _ (.tail _ (hZ a o x.1 x.2.1 x.2.2 List.not_mem_nil)))
  have hc1 := OwnA.of N1 (.head _)
  have hsl1 := OwnA.of N1 (.tail _ (.head _))
  have hslc : _ ≠ c := Nat.ne_of_lt l1.1
  have ncc : ∀ a o, OwnA g L s.heap a o → a ≠ c := fun a o x => allLt_mem l1.2 _ (hZ a o x.1 x.2.1 x.2.2 List.not_mem_nil)
  have hl30 : (List.take 30 ns).length ≤ 30 := by rw [List.length_take]; omega
  refine call_take B₀ F1 X T rfl rfl rfl rfl (by show dpt + 14 < _; exact lt_room (by assumption) (by decide)) (by show un + 100 < _; exact lt_room (by assumption) (by decide)) (by decide) (Int.le_refl _) (by decide) hc1 hsl1 hslc hi1 hl30 ?_
  intro h2 tk2 r2 t2 k2 t22 F2 K2 hr2 hc2
  have p2 : ∀ a o, OwnA g L s.heap a o → OwnA g L h2 a o := fun a o x => K2 _ _ (pass1 a o x) (by simpa using ncc a o x)
  have hsl2 := K2 _ _ hsl1 (by simpa using hslc)
  clear N1 F1
  obtain ⟨Z2, NZ2, hZD2, hZlt2, hZ2⟩ := zed g L h2 []
  k_steps
  (rename Fr _ _ _ _ => F3); (rename News _ _ _ _ => N3)
  obtain ⟨cnt, hcnt⟩ : ∃ cnt : Nat, cnt = 2 + r2 := ⟨_, rfl⟩
  have hcI : (2 + (r2 : Int)) = (cnt : Int) := by omega
  have hc2n : 2 ≤ cnt ∧ cnt ≤ 5 := by omega
  have hcp : 0 < cnt := Nat.lt_of_lt_of_le (by decide) hc2n.1
  have hc0 : (0 : Int) < (cnt : Int) := Int.natCast_pos.mpr hcp
  rw [hcI] at F3
  rw [hcI]
  change wpAny _ _ _ _ _ _
  have pass3 := fun a o (x : OwnA g L h2 a o) => OwnA.of N3 (hZ2 a o x.1 x.2.1 x.2.2 List.not_mem_nil)
  refine call_take B₀ F3 X T rfl rfl rfl rfl (by show dpt + 14 < _; exact lt_room (by assumption) (by decide)) (by show un + 100 < _; exact lt_room (by assumption) (by decide)) hc0 (by decide) (by decide) (pass3 _ _ hc2) (pass3 _ _ hsl2) hslc hi1 hl30 ?_
  intro h4 tk4 r4 t4 k4 t42 F4 K4 hr4 hc4
  have p4 : ∀ a o, OwnA g L s.heap a o → OwnA g L h4 a o := fun a o x => K4 _ _ (pass3 _ _ (p2 a o x)) (by simpa using ncc a o x)
  have hsl4 := K4 _ _ (pass3 _ _ hsl2) (by simpa using hslc)
  clear N3 F3 pass3
  obtain ⟨Z4, NZ4, hZD4, hZlt4, hZ4⟩ := zed g L h4 []
  k_steps
  (rename Fr _ _ _ _ => F5); (rename News _ _ _ _ => N5); (rename ∀ p ∈ Z4, _ => l5)
  obtain ⟨al, hal⟩ := mkA N5
  subst hal
  obtain ⟨e, he⟩ := Int.eq_ofNat_of_zero_le (Int.fmod_nonneg_of_pos ((cnt : Int) - 1 + (r4 : Int)) hc0)
  have hecnt : e < cnt := by
    have := Int.fmod_lt_of_pos ((cnt : Int) - 1 + (r4 : Int)) hc0
    omega
  rw [he] at F5
  change wpAny _ _ _ _ _ _
  have pass5 := fun a o (x : OwnA g L h4 a o) => OwnA.of N5 (.tail _ (hZ4 a o x.1 x.2.1 x.2.2 List.not_mem_nil))
  have nal : ∀ a o, OwnA g L h4 a o → a ≠ al := fun a o x => Nat.ne_of_lt (l5 _ (hZ4 a o x.1 x.2.1 x.2.2 List.not_mem_nil))
  refine arcsLoop (hM := rfl) (hst := rfl) (c := c) (al := al) (at_ := 2) (cnt := cnt) (tc := tk2) B₀ F5 X T rfl rfl (by show dpt + 20 < _; exact lt_room (by assumption) (by decide)) (by show un + 200 < _; exact lt_room (by assumption) (by decide)) hcp (by decide) ?hm5 (pass5 _ _ hc4) (pass5 _ _ hsl4) hslc hi1 hl30 (OwnA.of N5 (.head _)) (Ne.symm (nal _ _ hc4)) (nal _ _ hsl4) ?_
  case hm5 => exact all_cons rfl (all_cons rfl (all_cons rfl all_nil))
  intro u6 h6 tk6 AL F6 hAL9 hAL6 K6
  have p6 : ∀ a o, OwnA g L s.heap a o → OwnA g L h6 a o := fun a o x => K6 _ _ (pass5 _ _ (p4 a o x)) (ncc a o x) (nal _ _ (p4 a o x))
  clear N5 F5 pass5
  k_steps
  change wpAny _ _ _ _ _ _
  refine nodesComp (hM := rfl) (hst := rfl) (cnt := cnt) (tc := tk2) B₀ F6 X T rfl rfl (by show dpt + 20 < _; exact lt_room (by assumption) (by decide)) (by show un + 200 < _; exact lt_room (by assumption) (by decide)) (Nat.le_trans hc2n.2 (by decide)) ?hm6 ?_
  case hm6 => exact all_cons rfl all_nil
  intro h7 tk7 ndl nn nl F7 K7 hnl hndl hrep hnd hnda
  have hnl0 : 0 < nl.length := hnl ▸ hcp
  have hnle : e < nl.length := hnl ▸ hecnt
  have hnl5 : nl.length ≤ 5 := hnl ▸ hc2n.2
  have p67 : ∀ a o, OwnA g L h6 a o → OwnA g L h7 a o := fun a o x => K7 a o x List.not_mem_nil
  have hAL7 := hAL6.mono p67
  have hala : ∀ x ∈ nl, x.al ≠ al := fun x hx q => by
    have h1 := (hrep x hx).2.2
    obtain ⟨_, _, h2, _⟩ := hAL6
    rw [q, show h6.get? al = _ from h2.1] at h1
    cases h1
  clear F6
  k_steps
  change wpAny _ _ _ _ _ _
  refine addLoop (hM := rfl) (hst := rfl) (cnt := cnt) (al := al) (ndl := ndl) B₀ F7 X T rfl rfl (by show dpt + 20 < _; exact lt_room (by assumption) (by decide)) (by show un + 200 < _; exact lt_room (by assumption) (by decide)) hc2n.2 hAL9 ?hm7 hAL7 hnl hndl (fun x hx => ⟨(hrep x hx).1, (hrep x hx).2.1⟩) hnd hala ?_
  case hm7 => exact all_cons rfl (all_cons rfl all_nil)
  intro u8 h8 tk8 F8 G8 K8
  clear F7
  obtain ⟨Z8, NZ8, hZD8, hZlt8, hZ8⟩ := zed g L h8 []
  have nnl : ∀ a o, OwnA g L h6 a o → a ∉ nl.map (·.al) := fun a o x q => by
    obtain ⟨y, hy, rfl⟩ := List.mem_map.mp q
    have h1 := (hrep y hy).2.2
    rw [show h6.get? y.al = _ from x.1] at h1
    cases h1
  have p68 : ∀ a o, OwnA g L h6 a o → OwnA g L h8 a o := fun a o x => K8 _ _ (p67 a o x) (nnl a o x)
  have hndl8 := K8 _ _ hndl (fun q => by
    obtain ⟨y, hy, e⟩ := List.mem_map.mp q
    exact (hrep y hy).2.1 e)
  have zn := hZ8 _ _ hndl8.1 hndl8.2.1 hndl8.2.2 List.not_mem_nil
  have hnd0 : (nl.map fun x => Value.ref x.a)[0]? = some (.ref (ndOf nl 0)) := by
    rw [List.getElem?_map]
    unfold ndOf
    rw [List.getElem?_eq_getElem hnl0]; rfl
  have hnde : (nl.map fun x => Value.ref x.a)[e]? = some (.ref (ndOf nl e)) := by
    rw [List.getElem?_map]
    unfold ndOf
    rw [List.getElem?_eq_getElem hnle]; rfl
  k_steps
  change wpAny _ _ _ _ _ _
  have ht8 := p68 _ _ (p6 _ _ ht)
  have hALs : ∀ a ∈ AL, a.1 < nl.length ∧ a.2.2 < nl.length := let ⟨_, _, _, _, _, q4⟩ := hAL7; fun a ha => by rw [hnl]; exact ⟨(q4 a ha).1, (q4 a ha).2.1⟩
  refine call_con [122] B₀ F8 X T rfl rfl rfl rfl (fun d hd => by rw [List.mem_singleton.mp hd]; exact ht.2) (fun g2 C2 st2 kp hn => make_con (nd := ndOf nl) (cnt := nl.length) (AL := AL) (b0 := 0) (e := e) hnl5 (Nat.le_trans hAL9 (by decide)) C2 (by show dpt + 50 < _; exact lt_room (by assumption) (by decide)) (by show un + 400 < _; exact lt_room (by assumption) (by decide)) (hcode.keeps st2) (hn _ (.head _)) ht8.1 (fun b o hb => kp b o (by simpa using hb))
    ((G8.kmono (P' := fun a o => g2.get? a = some o) fun a o x r => kp a o (fun q => by
      rw [List.mem_singleton.mp q] at x
      have h := x.1
      rw [ht8.1] at h
      cases h
      rcases r with ⟨c, r⟩ | r | r
      · cases r
      · cases r
      · cases r) x.1).at_ hnda hALs) hnl0 hnle) ?_
  rintro v h9 tk9 F9 kp9 ⟨D, E, M9⟩
  have p89 : ∀ a o, OwnA g L h8 a o → a ≠ 122 → OwnA g L h9 a o := fun a o x hn => ⟨kp9 _ _ (by simpa using hn) x.1, x.2⟩
  have pS : ∀ a o, OwnS h8 h9 a o → OwnA g L h9 a o := fun a o x => ⟨x.1, fr_fresh (s := { s with heap := h8 }) F8 x.2⟩
  obtain ⟨stl, n9, rfl, hst9⟩ := M9.lst
  have hD32 := M9.wd.len hnl5
  clear F8 NZ8
  obtain ⟨Z9, NZ9, hZD9, hZlt9, hZ9⟩ := zed g L h9 []
  k_steps
  (rename Fr _ _ _ _ => F10); (rename News _ _ _ _ => N10)
  change wpAny _ _ _ _ _ _
  have p10 := fun a o (x : OwnA g L h9 a o) => OwnA.of N10 (hZ9 a o x.1 x.2.1 x.2.2 List.not_mem_nil)
  have hoc9 := p89 _ _ (p68 _ _ (p6 _ _ hoc)) (fun q => by
    have h := hoc.1
    rw [q, ht.1] at h
    cases h
    cases hocd)
  refine metComp (hM := rfl) (hst := rfl) (stl := stl) (vs := D.map fun d => Value.ref d.a) B₀ F10 X T rfl rfl (by show dpt + 20 < _; exact lt_room (by assumption) (by decide)) (by show un + 200 < _; exact lt_room (by assumption) (by decide)) (by rw [List.length_map]; omega) ?hm10 (p10 _ _ (pS _ _ hst9)) (p10 _ _ hoc9) hocd ?_
  case hm10 => exact all_cons rfl all_nil
  intro h11 tk11 ml nml oc' ms F11 K11 hoc11 hocd11 hms hml hml0 hmsx
  have p911 : ∀ a o, OwnA g L h9 a o → a ≠ L + 1 → OwnA g L h11 a o := fun a o x hn => K11 _ _ (p10 _ _ x) (by simpa using hn)
  clear F10 N10
  obtain ⟨Z11, NZ11, hZD11, hZlt11, hZ11⟩ := zed g L h11 []
  k_steps
  (rename Fr _ _ _ _ => F12); (rename News _ _ _ _ => N12); (rename ∀ p ∈ Z11, _ => l12)
  obtain ⟨hl, hhl⟩ := mkA N12
  subst hhl
  change wpAny _ _ _ _ _ _
  have p12 := fun a o (x : OwnA g L h11 a o) => OwnA.of N12 (.tail _ (hZ11 a o x.1 x.2.1 x.2.2 List.not_mem_nil))
  have n612 : ∀ a o, OwnA g L h6 a o → Nice o → OwnA g L h11 a o := fun a o x n => p911 _ _ (p89 _ _ (p68 _ _ x) ((p68 _ _ x).nice_tab ht8 n)) ((p68 _ _ x).nice_ne (p68 _ _ (p6 _ _ hoc)) hocd n)
  have hAL11 := hAL6.nice n612
  have hAL12 := hAL11.mono p12
  have nhl : ∀ a o, OwnA g L h11 a o → a ≠ hl := fun a o x => Nat.ne_of_lt (l12 _ (hZ11 a o x.1 x.2.1 x.2.2 List.not_mem_nil))
  have hal_hl : al ≠ hl := let ⟨_, _, q1, _, _, _⟩ := hAL11; nhl _ _ q1
  refine call_shut (H0 := [0]) B₀ F12 X T rfl rfl rfl rfl (by show dpt + 14 < _; exact lt_room (by assumption) (by decide)) (by show un + 220 < _; exact lt_room (by assumption) (by decide)) hc2n.2 hAL12 ⟨_, _, OwnA.of N12 (.head _), .cons 0 _ .nil⟩ hal_hl (by simp) (fun x hx => by rw [List.mem_singleton.mp hx]; exact hcp) ?_
  intro h13 tk13 r S F13 K13 hS13 hSp hSm hr0
  have p13 : ∀ a o, OwnA g L h11 a o → OwnA g L h13 a o := fun a o x => K13 _ _ (p12 a o x) List.not_mem_nil
  clear N12 F12
  obtain ⟨Z13, NZ13, hZD13, hZlt13, hZ13⟩ := zed g L h13 []
  k_steps
  (rename Fr _ _ _ _ => F14); (rename News _ _ _ _ => N14); (rename _ ∧ AllLt _ Z13 => l14)
  obtain ⟨wl, hwl⟩ := mkA N14
  subst hwl
  change wpAny _ _ _ _ _ _
  have p14 := fun a o (x : OwnA g L h13 a o) => OwnA.of N14 (.tail _ (.tail _ (hZ13 a o x.1 x.2.1 x.2.2 List.not_mem_nil)))
  have nwl : ∀ a o, OwnA g L h13 a o → a ≠ wl := fun a o x => allLt_mem l14.2 _ (hZ13 a o x.1 x.2.1 x.2.2 List.not_mem_nil)
  have nml : ∀ a o, OwnA g L h9 a o → a ≠ ml := fun a o x q => by
    have h := (p10 _ _ x).1
    rw [q, hml0] at h
    cases h
  have n913 : ∀ a o, OwnA g L h9 a o → Nice o → OwnA g L h13 a o := fun a o x n => p13 _ _ (p911 _ _ x (x.nice_ne hoc9 hocd n))
  have hst13 := n913 _ _ (pS _ _ hst9) trivial
  have hAL13 := hAL11.mono p13
  have hml13 := p13 _ _ hml
  have hoc13 := p13 _ _ hoc11
  have nal9 : ∃ o, OwnA g L h9 al o := let ⟨_, _, q1, _, _, _⟩ := hAL6; ⟨_, p89 _ _ (p68 _ _ q1) ((p68 _ _ q1).nice_tab ht8 trivial)⟩
  have nal13 : ∃ o, OwnA g L h13 al o := let ⟨_, _, q1, _, _, _⟩ := hAL13; ⟨_, q1⟩
  have hrep9 : ∀ (j : Nat) ds, D[j]? = some ds → RepDS w (ndOf nl) e (OwnA g L h9) ds (E j) := fun j ds h => (M9.rep j ds h).mono pS
  have hsl : ∀ ds ∈ D, ∃ n, OwnA g L h9 ds.sl (W.listOf (refsOf (ndOf nl) ds.S).toArray n) := fun ds hd => by
    obtain ⟨j, hj⟩ := List.mem_iff_getElem?.mp hd
    obtain ⟨_, _, _, _, _, _, _, _, _, _, _, _, _, _, q3, _⟩ := hrep9 j ds hj
    exact ⟨_, q3⟩
  obtain ⟨ds0, hd0, hS0⟩ := M9.wd.first
  have hIS : IsS D (0, S) := ⟨ds0, hd0, hSp, fun x => (hSm x).trans ⟨fun ⟨y, hy, q⟩ => by rw [List.mem_singleton.mp hy] at q; exact (hS0 x).mpr q, fun q => ⟨0, by simp, (hS0 x).mp q⟩⟩⟩
  have hrepl : ∀ (j : Nat) (T : List Nat), (List.replicate D.length ([] : List Nat))[j]? = some T → T = [] := fun j T h => by
    rw [List.getElem?_replicate] at h
    split at h
    · exact (Option.some.inj h).symm
    · cases h
  have hLI : LInv D E (List.replicate D.length []) [(0, S)] := ⟨List.length_replicate, fun j T h => .inl (hrepl j T h), fun q hq => by rw [List.mem_singleton.mp hq]; exact hIS, .inl ⟨_, .head _, rfl⟩, fun i T lab a h hn => absurd (hrepl i T h) hn⟩
  have hun0 : unmet (List.replicate D.length []) ≤ 32 := Nat.le_trans (List.length_filter_le _ _) (by rw [List.length_replicate]; exact hD32)
  have hmet14 : MetP (OwnA g L _) ml (List.replicate D.length []) := ⟨_, _, _, p14 _ _ hml13, rfl, rfl, by rw [List.length_map, List.length_replicate, hms, List.length_map], fun j v hj => by
    rw [List.getElem?_map] at hj
    cases hmj : ms[j]? with
    | none => rw [hmj] at hj; cases hj
    | some x =>
      rw [hmj] at hj
      cases hj
      have hjl : j < D.length := by have := (List.getElem?_eq_some_iff.mp hmj).1; rw [hms, List.length_map] at this; exact this
      exact ⟨x, [], rfl, by rw [List.getElem?_replicate, if_pos hjl], [], 0, p14 _ _ (p13 _ _ (hmsx x (List.mem_of_getElem? hmj)).1), .nil⟩⟩
  have hwait14 : WaitP (OwnA g L _) wl [(0, S)] := ⟨_, _, OwnA.of N14 (.head _), rfl, fun k v hk => by
    match k, hk with
    | 0, hk => cases hk; exact ⟨(0, S), _, _, _, _, rfl, rfl, OwnA.of N14 (.tail _ (.head _)), hS13.mono fun o x => p14 _ _ x⟩
    | k + 1, hk => cases hk⟩
  refine whileLoop (hM := rfl) (hst := rfl) (al := al) (wl := wl) (ml := ml) (stl := stl) (e := e) (te := ?te14) (b0 := 0) (D := D) (E := E) (AL := AL) (cnt := nl.length) (nd := ndOf nl) B₀ F14 X T rfl rfl (by show dpt + 20 < _; exact lt_room (by assumption) (by decide)) (by show un + 300 < _; exact lt_room (by assumption) (by decide)) hnl5 hAL9 ?hm14 (hnl ▸ hAL13.mono p14) (p14 _ _ hst13) (p14 _ _ hoc13) hocd11 (fun j ds h => ((hrep9 j ds h).nice n913).mono p14) M9.sep M9.wd M9.done hwait14 hmet14 hLI ⟨let ⟨_, q⟩ := nal13; nwl _ _ q, let ⟨_, q⟩ := nal9; nml _ _ q, nwl _ _ hst13, nml _ _ (pS _ _ hst9), Ne.symm (nwl _ _ hml13), fun ds hd => let ⟨_, q⟩ := hsl ds hd; ⟨nwl _ _ (n913 _ _ q trivial), nml _ _ q⟩⟩ (by simp only [List.length_cons, List.length_nil]; omega) ?_
  case hm14 =>
    refine all_cons rfl (all_cons rfl (all_cons rfl (all_cons ?_ all_nil)))
    exact rfl
  intro u15 h15 tk15 M F15 hmet15 hL15 K15
  have hwl14 := OwnA.of N14 (.head _)
  have hcwl : L + 1 ≠ wl := Ne.symm (hwl14.nice_ne (p14 _ _ hoc13) hocd11 trivial)
  have hcml : L + 1 ≠ ml := Ne.symm ((p14 _ _ hml13).nice_ne (p14 _ _ hoc13) hocd11 trivial)
  have hoc15 := K15 _ _ (p14 _ _ hoc13) hcwl hcml
  clear N14 F14
  k_steps
  change wpAny _ _ _ _ _ _
  refine lastComp (hM := rfl) (hst := rfl) B₀ F15 X T rfl rfl (by show dpt + 20 < _; exact lt_room (by assumption) (by decide)) (by show un + 200 < _; exact lt_room (by assumption) (by decide)) (by rw [hL15.mlen]; exact hD32) hmet15 hoc15 hocd11 (hL15.all_met M9.wd M9.sep.nodup) (fun i j S S' => hL15.differ M9.wd M9.sep.nodup) ?_
  intro h16 tk16 F16 K16
  refine cont h16 _ _ F16 ?_
  obtain ⟨arr, harr⟩ := M9.tab
  have ht9 : OwnA g L h9 122 (tabObj arr) := ⟨harr, ht.2⟩
  have ht14 := p14 _ _ (p13 _ _ (p911 _ _ ht9 (fun q => by
    have h := hoc9.1
    rw [← q, ht9.1] at h
    cases h
    cases hocd)))
  exact ⟨arr, (K16 _ _ (K15 _ _ ht14 (fun q => hwl14.nice_tab ht14 trivial q.symm) (fun q => (p14 _ _ hml13).nice_tab ht14 trivial q.symm)) List.not_mem_nil).1⟩
end Mine
end PartLw10
end Body
section PartFin
theorem PySem.Challenge.cw_iv0023_01_holds : PySem.Challenge.rw_iv0023_01.Holds := by
  exact Mine.hdTop (by
    k_go0
    (rename Below _ _ _ _ => B'); (rename Fr _ _ _ _ => F'); (rename News _ _ _ _ => N'); (rename Mine.hdTop.heap_39 _ |>.In _ => X')
    (rename IntsAre _ _ => hi); (rename Top _ _ _ _ _ (ghostOf _ _) => T'); (rename _ = Data.cell _ => hcl)
    have hoc := Mine.OwnA.of N' (.head _)
    have ht := Mine.OwnA.of N' (.tail _ (.head _))
    refine wpAny_mono (Mine.lawWalk (hM := ?hM) (params := ?p) (Q := fun f s' => ∃ h' tk' m', f = .ret (.bool true) ∧ s' = { heap := h', gens := _, drawn := _, toks := tk', os := _ } ∧ Fr _ _ h' m' ∧ ∃ arr, h'.get? 122 = some (tabObj arr)) B' F' X' T' ?h1 ?h2 ?h3 ?h4 ?hm lifted hi ?h7 hoc hcl ht codeHd (fun h' tk' m' F t => ⟨h', tk', m', rfl, rfl, F, t⟩)) ?fin (fun _ _ x => x.elim)
    case h7 => omega
    case h1 => exact rfl
    case h2 => exact rfl
    case h3 => (simp only [depth_deeper, depth_caller]; decide)
    case h4 => (simp only [Around.deeper_units, units_caller]; decide)
    case hm => exact Mine.all_cons rfl Mine.all_nil
    case hM => exact rfl
    case fin =>
      rintro f s' ⟨h', tk', m', rfl, rfl, F, t⟩
      refine ⟨?_, t, True.intro⟩
      dsimp only
      clear hi hoc ht N' F' X' T' B'
      kc_close)
end PartFin
