import PyProof.Rows.All
import Wide.All
import OpenK.AllK
import Wide.FinOn
import PySem.Challenge.RW_vn0011_01
open PySem PySem.W PySem.Calls PyProof.Rows
set_option Elab.async false
set_option maxRecDepth 100000
namespace Mine
set_option maxHeartbeats 8000000 in
open_top hd for PySem.Challenge.rw_vn0011_01
end Mine
section

namespace Mine

noncomputable abbrev PR : Program := PySem.Challenge.rw_vn0011_01.prog
noncomputable abbrev KF (w : World) : Frag := hd.heap_39 w.params

/-- what of the state the text's own defs lean on -/
structure Gd (w : World) (mg mb : Str → Option Value) (h : Heap) : Prop where
  X : (KF w).In h
  g : h.Ns mainGlobals mg
  b : h.Ns builtinsNs mb
  nolimit : h.NoLimit
  bi : ∀ x : Str, x ≠ "__name__" → mb x = bootBuiltins x
  bm : ∃ ob, h.get? 4 = some ob ∧ ob.cls = .type "module" ∧ ob.dict = some builtinsNs ∧ ob.data = .plain

/-- a mark at which the walk stops -/
def Then (P : Prop) : Prop := P
theorem Then.mk {P : Prop} (h : P) : Then P := h
theorem stopW {P : Prop} (h : Then P) : P := h
def Ext (h h' : Heap) : Prop := ∀ b o, h.get? b = some o → h'.get? b = some o
theorem Ext.refl (h : Heap) : Ext h h := fun _ _ e => e
theorem Ext.trans {a b c : Heap} (x : Ext a b) (y : Ext b c) : Ext a c := fun p o e => y p o (x p o e)
theorem Ext.push {h : Heap} (o : Obj) : Ext h (h.push o) := fun _ _ e => Heap.get?_push_of_some _ e
/-- all but the object at L stands -/
def But (L : Addr) (h h' : Heap) : Prop := ∀ b o, b ≠ L → h.get? b = some o → h'.get? b = some o
theorem But.refl (L : Addr) (h : Heap) : But L h h := fun _ _ _ e => e
theorem But.trans {L : Addr} {a b c : Heap} (x : But L a b) (y : But L b c) : But L a c := fun p o n e => y p o n (x p o n e)
theorem Ext.but {L : Addr} {h h' : Heap} (x : Ext h h') : But L h h' := fun b o _ e => x b o e
theorem But.same {L : Addr} {h h' : Heap} (x : Heap.SameBut L h h') : But L h h' := fun b o n e => x.extBut b o n e

theorem Ext.but_trans {L : Addr} {h h₁ h₂ : Heap} (x : Ext h h₁) (y : But L h₁ h₂) (hL : h.objs.size ≤ L) : Ext h h₂ := fun b o e => y b o (Nat.ne_of_lt (Nat.lt_of_lt_of_le (Heap.lt_size e) hL)) (x b o e)
theorem Gd.keeps {w : World} {mg mb : Str → Option Value} {h h' : Heap} (G : Gd w mg mb h) (k : Ext h h') : Gd w mg mb h' :=
  ⟨G.X.keeps k, G.g.keeps k, G.b.keeps k, G.nolimit.keeps k, G.bi, let ⟨ob, e, r⟩ := G.bm; ⟨ob, k _ _ e, r⟩⟩

section
variable {w : World} {mg mb : Str → Option Value} {h : Heap} (G : Gd w mg mb h)
include G
theorem Gd.mgv {n : Str} {v : Value} (e : nsIn (KF w) mainGlobals n = some (some v)) : mg n = some v := mg_of G.X G.g e
theorem Gd.mg0 {n : Str} (e : nsIn (KF w) mainGlobals n = some none) : mg n = none := mg_none_of G.X G.g e
theorem Gd.builtin {n : Str} {v : Value} (hn : n ≠ "__name__") (e : bootBuiltins n = some v) : mb n = some v := (G.bi n hn).trans e
end

/-- the entry of a def without cells -/
theorem enter {w : World} {A : Around} {s : Shared} {mg mb : Str → Option Value} {f : Addr} {name qual : Str} {params : Arguments} {body : List Stmt} {scope : Scope} {dV kV doc pm cdv ct oc : Value} {an od : Option Addr} {osl : Array (Option Value)} {args : Args} (binds : List (Str × Value)) {R : Result → Shared → Prop}
    (hroom : A.depth < recursionLimit) (G : Gd w mg mb s.heap) (hl : (KF w).lookup f = some ⟨oc, od, .func (fnX name qual params body scope [] dV kV doc pm an cdv ct), osl⟩) (hc : codeIn (KF w) cdv qual = true)
    (hbind : bindArgs (fnX name qual params body scope [] dV kV doc pm an cdv ct) args = pure binds) (hcell : ∀ x ∈ scope.names, x.2 ≠ .cell) (hloc : ∀ x ∈ binds, scope.names.lookup x.1 = some .local)
    (hco : scope.isCoroutine = false) (hgen : scope.isGenerator = false) (hk : scope.kind = .function)
    (h : ∀ h₁ L, h₁.Ns L (fun x => binds.reverse.lookup x) → Ext s.heap h₁ → s.heap.objs.size ≤ L → Gd w mg mb h₁ →
      wpAny (model PR w) (A.deeper (envX qual scope L f cdv [])) (execs body (envX qual scope L f cdv [])) (fun fl s' => R (.ok (.ret (match fl with | .ret v => v | _ => .none))) s')
        (fun _ _ => False) { s with heap := h₁, toks := s.toks + binds.length }) :
    codeAny (model PR w) A (.call (.ref f) args) R s := by
  refine codeAny_call_def (fd := fnX name qual params body scope [] dV kV doc pm an cdv ct) (body := body) (binds := binds) hroom (G.X f _ hl) rfl G.nolimit (codeRec_of G.X hc) rfl (BindsTo.of_eq hbind) hcell hloc (fun h₁ hns hk₁ => ?_) hco hgen hk
  exact wpAny_mono (h h₁ _ hns hk₁ (Nat.le_refl _) (G.keeps hk₁)) (fun _ _ x => x) fun _ _ x => x.elim

/-- the entry of a def with one cell -/
theorem enterC {w : World} {A : Around} {s : Shared} {mg mb : Str → Option Value} {f : Addr} {name qual : Str} {params : Arguments} {body : List Stmt} {scope : Scope} {dV kV doc pm cdv ct oc : Value} {an od : Option Addr} {osl : Array (Option Value)} {vals : List Value} (binds : List (Str × Value)) (cn : Str) {R : Result → Shared → Prop}
    (hroom : A.depth < recursionLimit) (G : Gd w mg mb s.heap) (hl : (KF w).lookup f = some ⟨oc, od, .func (fnX name qual params body scope [] dV kV doc pm an cdv ct), osl⟩) (hc : codeIn (KF w) cdv qual = true)
    (hbind : bindArgs (fnX name qual params body scope [] dV kV doc pm an cdv ct) ⟨vals, []⟩ = pure binds) (hcl : ∀ n, cellsFrom n scope.names [] = [(cn, n)])
    (hkind : ∀ x ∈ binds, scope.names.lookup x.1 = some .local ∨ (scope.names.lookup x.1 = some .cell ∧ x.1 = cn))
    (hco : scope.isCoroutine = false) (hgen : scope.isGenerator = false) (hk : scope.kind = .function)
    (h : ∀ h₁ L tk, h₁.Ns L (bindL (envX qual scope L f cdv [(cn, L + 1)]).kindOf binds fun _ => none) → h₁.IsCell (L + 1) (bindC (envX qual scope L f cdv [(cn, L + 1)]).kindOf binds (fun _ => none) cn) → Ext s.heap h₁ → s.heap.objs.size ≤ L → Gd w mg mb h₁ →
      wpAny (model PR w) (A.deeper (envX qual scope L f cdv [(cn, L + 1)])) (execs body (envX qual scope L f cdv [(cn, L + 1)])) (fun fl s' => R (.ok (.ret (match fl with | .ret v => v | _ => .none))) s')
        (fun _ _ => False) { s with heap := h₁, toks := tk }) :
    codeAny (model PR w) A (.call (.ref f) ⟨vals, []⟩) R s := by
  refine codeAny_call_cells (fd := fnX name qual params body scope [] dV kV doc pm an cdv ct) (body := body) (binds := binds) hroom (G.X f _ hl) rfl G.nolimit (codeRec_of G.X hc) rfl hbind rfl (fun x hx => ?_) (fun s₁ x => ?_) hco hgen hk
  · rcases hkind x hx with q | ⟨q, e⟩
    · exact .inl q
    · refine .inr ⟨q, ?_⟩
      show ((cellsFrom (s.heap.objs.size + 1) scope.names []).lookup x.1).isSome = true
      rw [hcl, e]
      simp
  · have e : callEnvC (fnX name qual params body scope [] dV kV doc pm an cdv ct) s.heap.objs.size f = envX qual scope s.heap.objs.size f cdv [(cn, s.heap.objs.size + 1)] := by
      show newEnv _ _ _ (cellsFrom (s.heap.objs.size + 1) scope.names []) _ _ _ _ _ = _
      rw [hcl]; rfl
    rw [e] at x ⊢
    obtain ⟨h₁, tk, rfl, hk₁⟩ := x.done
    have C := x.cell cn (s.heap.objs.size + 1) (by simp)
    exact wpAny_mono (h h₁ _ tk x.toInCall.ns C hk₁ (Nat.le_refl _) (G.keeps hk₁)) (fun _ _ x => x) fun _ _ x => x.elim

section
variable {w : World} {M : Model} {A : Around} {E : Value → Shared → Prop} {s : Shared} {env : Env} {L : Addr} {m mg mb : Str → Option Value} {x : Str} {pos : Pos} {v : Value} {Q : Value → Shared → Prop}
theorem nmL (N : s.heap.Ns L m) (hv : m x = some v) (h : Q v s) (hL : env.locals = L) (hk : env.scope.kind = .function) (hx : env.kindOf x = some .local) (hd : (x == ("__debug__" : Str)) = false) :
    wpAny M A (eval (.Name x pos) env) Q E s := wpAny_Name (wpAny_loadName_local hk hx (hL ▸ N) hv h) hd
theorem ldL (N : s.heap.Ns L m) (hv : m x = some v) (h : Q v s) (hL : env.locals = L) (hk : env.scope.kind = .function) (hx : env.kindOf x = some .local) :
    wpAny M A (loadName env x) Q E s := wpAny_loadName_local hk hx (hL ▸ N) hv h
theorem nmG (G : Gd w mg mb s.heap) (e : nsIn (KF w) mainGlobals x = some (some v)) (h : Q v s) (hg : env.globals = mainGlobals) (hk : env.scope.kind = .function) (hx : env.kindOf x = some .globalImplicit) (hd : (x == ("__debug__" : Str)) = false) :
    wpAny M A (eval (.Name x pos) env) Q E s := Name_function_global hk hx (loadGlobal_global (hg ▸ G.g) (G.mgv e) h) hd
theorem nmB (G : Gd w mg mb s.heap) (e : nsIn (KF w) mainGlobals x = some none) (hv : bootBuiltins x = some v) (hn : x ≠ "__name__") (h : Q v s) (hg : env.globals = mainGlobals) (hb : env.builtins = builtinsNs) (hk : env.scope.kind = .function) (hx : env.kindOf x = some .globalImplicit) (hd : (x == ("__debug__" : Str)) = false) :
    wpAny M A (eval (.Name x pos) env) Q E s := Name_function_global hk hx (loadGlobal_builtin (hg ▸ G.g) (G.mg0 e) (hb ▸ G.b) (G.builtin hn hv) h) hd
theorem nmC {c : Addr} (C : s.heap.IsCell c (some v)) (h : Q v s) (hc : env.cells.lookup x = some c) (hk : env.scope.kind = .function) (hx : env.kindOf x = some .cell) (hd : (x == ("__debug__" : Str)) = false) :
    wpAny M A (eval (.Name x pos) env) Q E s := wpAny_Name (wpAny_loadName_cell hk hx hc C h) hd
theorem stC {c : Addr} {v₀ : Option Value} {Q : Unit → Shared → Prop} (C : s.heap.IsCell c v₀)
    (h : Then (∀ h', h'.IsCell c (some v) → But c s.heap h' → Q () { s with heap := h' }))
    (hc : env.cells.lookup x = some c) (hk : env.scope.kind = .function) (hx : env.kindOf x = some .cell) : wpAny M A (storeName env x v) Q E s :=
  wpAny_storeName_cell hk hx hc C fun h' hv hs => h h' hv (But.same hs)
theorem stL {Q : Unit → Shared → Prop} (N : s.heap.Ns L m)
    (h : Then (∀ h', h'.Ns L (fun y => if y = x then some v else m y) → But L s.heap h' → Q () { s with heap := h', toks := s.toks + 1 }))
    (hL : env.locals = L) (hk : env.scope.kind = .function) (hx : env.kindOf x = some .local) : wpAny M A (storeName env x v) Q E s := by
  subst hL
  exact wpAny_storeName_local hx N (fun h' hn hs => h h' hn (But.same hs)) (by show (env.scope.kind == .class || (env.scope.kind == .module && env.locals != env.globals)) = false; rw [hk]; rfl)
end

/-- the text's own part stands here -/
structure HasG (w : World) (h : Heap) : Prop where
  of : ∃ mg mb, Gd w mg mb h
theorem Gd.has {w : World} {mg mb : Str → Option Value} {h : Heap} (G : Gd w mg mb h) : HasG w h := ⟨⟨mg, mb, G⟩⟩
theorem cwR {w : World} {A : Around} {E : Value → Shared → Prop} {s : Shared} {env : Env} {pos : Pos} {f : Addr} {e : PySem.Expr} {rest : List PySem.Expr} {Q : Value → Shared → Prop} (hk : keepIn (KF w) (.ref f) = true)
    (h : wpAny (model PR w) A (spliced (backTo pos (starEach (e :: rest) env))) (fun vs s₁ => HasG w s₁.heap ∧ wpAny (model PR w) A (call (.ref f) vs) Q E s₁) E s)
    (he : starEach (e :: rest) env = (false, eval e env) :: starEach rest env) (hplain : (backTo pos (starEach rest env)).any (·.1) = false) :
    wpAny (model PR w) A (callWith pos (.ref f) [] (backTo pos (starEach (e :: rest) env)) []) Q E s := by
  rw [he] at h ⊢
  have h' : wpAny (model PR w) A (spliced ((false, eval e env) :: backTo pos (starEach rest env))) (fun vs s₁ => (KF w).In s₁.heap ∧ wpAny (model PR w) A (call (.ref f) ([] ++ vs)) Q E s₁) E s :=
    wpAny_mono h (fun vs s₁ x => ⟨let ⟨⟨_, _, G⟩⟩ := x.1; G.X, x.2⟩) fun _ _ x => x
  exact callWith_of (P := (KF w).In) (by show ((false || (backTo pos (starEach rest env)).any (·.1)) || false) = false; rw [hplain]; rfl) (keeps_K hk) (evalArgs_plain h')
/-- a block, statement by statement -/
theorem seqS {M : Model} {A : Around} {E : Value → Shared → Prop} {s : Shared} {env : Env} {st : Stmt} {rest : List Stmt} {Q : Flow → Shared → Prop} (P : Shared → Prop)
    (h1 : wpAny M A (exec st env) (fun f s' => f = .next ∧ P s') E s) (h2 : ∀ s', P s' → wpAny M A (execs rest env) Q E s') : wpAny M A (execs (st :: rest) env) Q E s :=
  wpAny_execs_cons (wpAny_mono h1 (fun f s' x => by obtain ⟨rfl, x⟩ := x; exact h2 s' x) fun _ _ e => e)

section
variable {w : World} {A : Around} {s : Shared} {env : Env} {I : Addr} {fp wr : List Addr} {n : Nat} {P : Nat → Value → Prop} {St : Nat → Heap → Prop} {m : Str → Option Value}
/-- a loop whose turn changes the frame's names and makes new things -/
theorem forW {R : Result → Shared → Prop} {x : Str} {px : Pos} {body : List Stmt} (W : Walks PR w A I fp wr n P St) (hx : env.kindOf x = some .local) (hk : env.scope.kind = .function)
    (hLf : env.locals ∉ fp) (hst : St 0 s.heap) (hn : s.heap.Ns env.locals m) (J : Nat → (Str → Option Value) → Prop) (h0 : J 0 m)
    (step : ∀ i v m₁ h₁ tk₁, i < n → P i v → J i m₁ → h₁.Ns env.locals (fun y => if y = x then some v else m₁ y) → (∀ b o, b ≠ env.locals → b ∉ wr → s.heap.get? b = some o → h₁.get? b = some o) →
      wpAny (model PR w) A (execs body env) (fun f s₂ => f = .next ∧ ∃ h₂ tk₂ m₂, s₂ = { s with heap := h₂, toks := tk₂ } ∧ But env.locals h₁ h₂ ∧ h₂.Ns env.locals m₂ ∧ J (i + 1) m₂) (fun _ _ => False) { s with heap := h₁, toks := tk₁ })
    (hR : ∀ h' tk m', h'.Ns env.locals m' → J n m' → (∀ b o, b ≠ env.locals → b ∉ wr → s.heap.get? b = some o → h'.get? b = some o) → R (.ok .next) { s with heap := h', toks := tk }) :
    codeAny (model PR w) A (.forLoop (.Name x px) (.ref I) body [] env) R s := by
  have hp : (env.scope.kind == .class || (env.scope.kind == .module && env.locals != env.globals)) = false := by rw [hk]; rfl
  have hLw : env.locals ∉ wr := fun q => hLf (W.sub _ q)
  refine codeAny_forLoop (fun k s' => ∃ h' tk m' i, s' = { s with heap := h', toks := tk } ∧ St i h' ∧ h'.Ns env.locals m' ∧ J i m' ∧ i ≤ n ∧ k = n + 1 - i ∧
      ∀ b o, b ≠ env.locals → b ∉ wr → s.heap.get? b = some o → h'.get? b = some o) ?_ (n + 1) ⟨s.heap, s.toks, m, 0, rfl, hst, hn, h0, Nat.zero_le _, rfl, fun _ _ _ _ e => e⟩
  rintro k s' ⟨h', tk, m', i, rfl, hst', hn', hJ, hi, rfl, hk'⟩
  by_cases hlt : i < n
  · refine W.item i _ _ _ hlt hst' fun v h₁ tk₁ hP hst₁ hk₁ => ?_
    refine wpAny_assign_Name (wpAny_storeName_local hx (hn'.at' fun o e => hk₁ _ o hLw e) (fun h₂ hn₂ hs₂ => ?_) hp)
    refine wpAny_mono (step i v m' h₂ _ hlt hP hJ hn₂ fun b o hbL hbw e => hs₂.extBut b o hbL (hk₁ b o hbw (hk' b o hbL hbw e))) (fun f s₃ h₃ => ?_) fun _ _ e => e.elim
    obtain ⟨rfl, h₃', tk₃, m₂, rfl, hb₃, hn₃, hJ₃⟩ := h₃
    refine ⟨n + 1 - (i + 1), by omega, h₃', tk₃, m₂, i + 1, rfl, ?_, hn₃, hJ₃, hlt, rfl, fun b o hbL hbw e => ?_⟩
    · exact W.frame _ _ _ hst₁ fun b hb o e => hb₃ b o (fun q => hLf (q ▸ hb)) (hs₂.extBut b o (fun q => hLf (q ▸ hb)) e)
    · exact hb₃ b o hbL (hs₂.extBut b o hbL (hk₁ b o hbw (hk' b o hbL hbw e)))
  · have hin : i = n := by omega
    subst hin
    refine W.done _ _ _ hst' fun h₁ tk₁ hk₁ => wpAny_execs_nil ?_
    exact hR h₁ tk₁ m' (hn'.at' fun o e => hk₁ _ o hLw e) hJ fun b o hbL hbw e => hk₁ b o hbw (hk' b o hbL hbw e)
end

theorem newListX {M : Model} {A : Around} {E : Value → Shared → Prop} {s : Shared} {vs : List Value} {Q : Value → Shared → Prop}
    (h : Then (∀ a h', Ext s.heap h' → s.heap.get? a = none → h'.PlainList a vs.toArray → Q (.ref a) { s with heap := h' })) (hsz : vs.length ≤ sizeLine) :
    wpAny M A (newList vs) Q E s :=
  wpAny_newObj_type (h _ _ (Ext.push _) (by
    cases e : s.heap.get? s.heap.objs.size with
    | none => rfl
    | some o => exact absurd (Heap.lt_size e) (Nat.lt_irrefl _)) ⟨_, Heap.get?_push_size _ rfl⟩) (by show vs.toArray.size ≤ sizeLine; rw [List.size_toArray]; exact hsz)
theorem addListsX {w : World} {A : Around} {E : Value → Shared → Prop} {s : Shared} {l b : Addr} {vs ws : List Value} {Q : Value → Shared → Prop} (hl : s.heap.IsList l vs.toArray) (hb : s.heap.IsList b ws.toArray)
    (hsz : vs.length + ws.length ≤ sizeLine) (h : ∀ a h', Ext s.heap h' → s.heap.get? a = none → h'.PlainList a (vs ++ ws).toArray → Q (.ref a) { s with heap := h' }) :
    wpAny (model PR w) A (binaryOp .Add (.ref l) (.ref b)) Q E s := by
  obtain ⟨⟨cls, dd, data, sl⟩, ho, hc, n, hd⟩ := id hl
  obtain ⟨⟨cls2, dd2, data2, sl2⟩, ho2, hc2, n2, hd2⟩ := id hb
  simp only at hc hd hc2 hd2
  subst hc hd hc2 hd2
  have e : vs.toArray ++ ws.toArray = (vs ++ ws).toArray := by simp
  refine concat_meets ⟨_, ho, rfl⟩ ⟨_, ho2, rfl⟩ noFill_list_add seq_list_add PySem.F.slot_list_add PySem.F.entry_list_add (PySem.F.args_list_add_2 _ _) (list_addW l b vs.toArray ws.toArray n n2 dd dd2 sl sl2 (by simpa using hsz)) ⟨ho, ho2, ?_⟩
  rw [e]
  refine h _ _ (Ext.push _) ?_ ⟨_, Heap.get?_push_size _ rfl⟩
  cases q : s.heap.get? s.heap.objs.size with
  | none => rfl
  | some o => exact absurd (Heap.lt_size q) (Nat.lt_irrefl _)
theorem listCopyX {w : World} {A : Around} {E : Value → Shared → Prop} {s : Shared} {l : Addr} {vs : List Value} {Q : Value → Shared → Prop} (hl : s.heap.IsList l vs.toArray) (hsz : vs.length ≤ sizeLine)
    (h : ∀ a h', Ext s.heap h' → s.heap.get? a = none → h'.PlainList a vs.toArray → Q (.ref a) { s with heap := h' }) : wpAny (model PR w) A (call (.type "list") [.ref l]) Q E s := by
  obtain ⟨o, ho, hc, n, hd⟩ := hl
  refine call_list_seq (hsz := by simpa using hsz) l (.inl rfl) ho hc hd fun h' c' hk hD => h _ h' hk ?_ ⟨_, hD⟩
  cases q : s.heap.get? s.heap.objs.size with
  | none => rfl
  | some o => exact absurd (Heap.lt_size q) (Nat.lt_irrefl _)
theorem cell_lt {h : Heap} {c : Addr} {v : Option Value} (C : h.IsCell c v) : c < h.objs.size := let ⟨_, e, _⟩ := C; Heap.lt_size e
theorem cell_ext {h h' : Heap} {c : Addr} {v : Option Value} (C : h.IsCell c v) (k : Ext h h') : h'.IsCell c v := let ⟨o, e, r⟩ := C; ⟨o, k _ _ e, r⟩
theorem cell_but {h h' : Heap} {c L : Addr} {v : Option Value} (C : h.IsCell c v) (k : But L h h') (hne : c ≠ L) : h'.IsCell c v := let ⟨o, e, r⟩ := C; ⟨o, k _ _ hne e, r⟩
theorem ns_but {h h' : Heap} {c L : Addr} {m : Str → Option Value} (N : h.Ns L m) (k : But c h h') (hne : L ≠ c) : h'.Ns L m := N.at' fun o e => k L o hne e
theorem list_but' {h h' : Heap} {L a : Addr} {xs : Array Value} (l : h.IsList a xs) (k : But L h h') (hne : a ≠ L) : h'.IsList a xs := let ⟨o, e, r⟩ := l; ⟨o, k _ _ hne e, r⟩
theorem list_ne_cell {h : Heap} {a c : Addr} {xs : Array Value} {v : Option Value} (l : h.IsList a xs) (C : h.IsCell c v) : a ≠ c := fun q => by
  subst q
  obtain ⟨o, e, _, n, d⟩ := l
  obtain ⟨o', e', d'⟩ := C
  rw [e] at e'
  cases e'
  rw [d] at d'
  cases d'
theorem look_mem {a : Addr} {o : Obj} : ∀ {K : Frag}, K.lookup a = some o → (a, o) ∈ K
  | [], e => by cases e
  | (b, x) :: r, e => by
    simp only [List.lookup] at e
    split at e
    · rename_i q
      cases e
      rw [beq_iff_eq.mp q]
      exact .head _
    · exact .tail _ (look_mem e)
theorem KF_low (w : World) : ((KF w).all fun p => decide (p.1 < 114)) = true := by rfl
theorem Gd.size {w : World} {mg mb : Str → Option Value} {h : Heap} (G : Gd w mg mb h) : 114 ≤ h.objs.size :=
  Heap.lt_size (G.X 113 _ (by rfl))
theorem Gd.at' {w : World} {mg mb : Str → Option Value} {h h' : Heap} (G : Gd w mg mb h) (Y : ∀ a o, (KF w).lookup a = some o → h'.get? a = some o) (at' : ∀ a, a < 5 → ∀ o, h.get? a = some o → h'.get? a = some o) : Gd w mg mb h' := by
  refine ⟨Y, G.g.at' (at' mainGlobals (by decide)), G.b.at' (at' builtinsNs (by decide)), ?_, G.bi, ?_⟩
  · obtain ⟨mc, n, e⟩ := G.nolimit
    exact ⟨mc, n.at' (at' cStatics (by decide)), e⟩
  · obtain ⟨ob, e, r⟩ := G.bm
    exact ⟨ob, at' 4 (by decide) _ e, r⟩
theorem Gd.but {w : World} {mg mb : Str → Option Value} {h h' : Heap} {L : Addr} (G : Gd w mg mb h) (k : But L h h') (hL : 114 ≤ L) : Gd w mg mb h' := by
  have lt : ∀ a, a < 114 → a ≠ L := fun a ha q => absurd hL (Nat.not_le.mpr (q ▸ ha))
  exact G.at' (fun a o e => k a o (lt a (of_decide_eq_true (List.all_eq_true.mp (KF_low w) (a, o) (look_mem e)))) (G.X a o e)) fun a ha o e => k a o (lt a (Nat.lt_trans ha (by decide))) e
theorem KF_off (w : World) : ((KF w).all fun p => decide (p.1 ≠ 59 ∧ p.1 ≠ 93)) = true := by rfl
theorem Gd.butP {w : World} {mg mb : Str → Option Value} {h h' : Heap} {P : Addr} (G : Gd w mg mb h) (k : But P h h') (hP : P = 59 ∨ P = 93) : Gd w mg mb h' := by
  have off : ∀ a o, (KF w).lookup a = some o → a ≠ P := fun a o e => by
    have := of_decide_eq_true (List.all_eq_true.mp (KF_off w) (a, o) (look_mem e))
    rcases hP with rfl | rfl
    · exact this.1
    · exact this.2
  have lt : ∀ a, a < 5 → a ≠ P := fun a ha q => by
    subst q
    rcases hP with rfl | rfl
    · exact absurd ha (by decide)
    · exact absurd ha (by decide)
  exact G.at' (fun a o e => k a o (off a o e) (G.X a o e)) fun a ha o e => k a o (lt a ha) e
theorem list_lt {h : Heap} {a : Addr} {xs : Array Value} (l : h.IsList a xs) : a < h.objs.size := let ⟨_, e, _⟩ := l; Heap.lt_size e
theorem list_ext {h h' : Heap} {a : Addr} {xs : Array Value} (l : h.IsList a xs) (k : Ext h h') : h'.IsList a xs := let ⟨o, e, r⟩ := l; ⟨o, k _ _ e, r⟩
theorem ns_ne_list {h : Heap} {L a : Addr} {m : Str → Option Value} {xs : Array Value} (N : h.Ns L m) (l : h.IsList a xs) : a ≠ L := fun q => by
  subst q
  obtain ⟨o, es, ep, ho, hd, _⟩ := N
  obtain ⟨o', ho', _, n, hd'⟩ := l
  rw [ho] at ho'
  cases ho'
  rw [hd] at hd'
  cases hd'
theorem list_but {h h' : Heap} {L a : Addr} {m : Str → Option Value} {xs : Array Value} (N : h.Ns L m) (k : But L h h') (l : h.IsList a xs) : h'.IsList a xs := by
  have hne := ns_ne_list N l
  obtain ⟨o', ho', r⟩ := l
  exact ⟨o', k _ _ hne ho', r⟩

section
variable {w : World} {A : Around} {s : Shared} {env : Env} {L : Addr} {m : Str → Option Value} {R : Result → Shared → Prop} {E : Value → Shared → Prop}
theorem forList {x : Str} {px : Pos} {body : List Stmt} {l : Addr} {vs : List Value} (hA : A.handled = none) (hl : s.heap.IsList l vs.toArray) (hn : s.heap.Ns L m) (hL : env.locals = L) (hx : env.kindOf x = some .local) (hk : env.scope.kind = .function)
    (J : Nat → (Str → Option Value) → Prop) (h0 : J 0 m)
    (step : ∀ i v m₁ h₁ tk₁, vs[i]? = some v → J i m₁ → h₁.Ns L (fun y => if y = x then some v else m₁ y) → But L s.heap h₁ →
      wpAny (model PR w) A (execs body env) (fun f s₂ => f = .next ∧ ∃ h₂ tk₂ m₂, s₂ = { s with heap := h₂, toks := tk₂ } ∧ But L h₁ h₂ ∧ h₂.Ns L m₂ ∧ J (i + 1) m₂) (fun _ _ => False) { s with heap := h₁, toks := tk₁ })
    (hQ : ∀ h' tk m', h'.Ns L m' → J vs.length m' → But L s.heap h' → R (.ok .next) { s with heap := h', toks := tk }) :
    wpAny (model PR w) A (pyIter (.ref l)) (fun it s₂ => codeAny (model PR w) A (.forLoop (.Name x px) it body [] env) R s₂) E s := by
  subst hL
  refine wpAny_pyIter_list hl ?_
  have old : ∀ b o, s.heap.get? b = some o → b ∉ [s.heap.objs.size] := fun b o e q => Nat.ne_of_lt (Heap.lt_size e) (List.mem_singleton.mp q)
  refine forW (Walks.list hA s.heap.objs.size l (Nat.ne_of_lt (list_lt hl)) vs.toArray) hx hk ?_ ⟨⟨_, Heap.get?_push_size _ rfl, rfl, rfl⟩, list_ext hl (Ext.push _)⟩ (hn.keeps (Ext.push _)) J h0
    (fun i v m₁ h₁ tk₁ hi hv hJ N k => step i v m₁ h₁ tk₁ (by simpa using hv) hJ N fun b o hb e => k b o hb (old b o e) (Heap.get?_push_of_some _ e))
    (fun h' tk m' N hJ k => hQ h' tk m' N (by simpa using hJ) fun b o hb e => k b o hb (old b o e) (Heap.get?_push_of_some _ e))
  intro q
  rcases List.mem_cons.mp q with q | q
  · exact Nat.ne_of_lt hn.lt q
  · exact ns_ne_list hn hl (List.mem_singleton.mp q).symm
theorem forRange {x : Str} {px : Pos} {body : List Stmt} {r : Addr} {n : Nat} {t u v : Tok} (hA : A.handled = none) (hr : IsRange s.heap r 0 (n : Int) 1 t u v) (hn62 : (n : Int) < 2 ^ 62) (hn : s.heap.Ns L m) (hL : env.locals = L) (hx : env.kindOf x = some .local) (hk : env.scope.kind = .function)
    (J : Nat → (Str → Option Value) → Prop) (h0 : J 0 m)
    (step : ∀ (i : Nat) tk m₁ h₁ tk₁, i < n → J i m₁ → h₁.Ns L (fun y => if y = x then some (.int (i : Int) tk) else m₁ y) → But L s.heap h₁ →
      wpAny (model PR w) A (execs body env) (fun f s₂ => f = .next ∧ ∃ h₂ tk₂ m₂, s₂ = { s with heap := h₂, toks := tk₂ } ∧ But L h₁ h₂ ∧ h₂.Ns L m₂ ∧ J (i + 1) m₂) (fun _ _ => False) { s with heap := h₁, toks := tk₁ })
    (hQ : ∀ h' tk m', h'.Ns L m' → J n m' → But L s.heap h' → R (.ok .next) { s with heap := h', toks := tk }) :
    wpAny (model PR w) A (pyIter (.ref r)) (fun it s₂ => codeAny (model PR w) A (.forLoop (.Name x px) it body [] env) R s₂) E s := by
  subst hL
  refine wpAny_pyIter_range hr (small_one (by decide) (by decide) (by omega) hn62) ?_
  have hsz : Builtin.Range.rangeSize 0 (n : Int) 1 = (n : Int) := by rw [rangeSize_one]; split <;> omega
  have old : ∀ b o, s.heap.get? b = some o → b ∉ [s.heap.objs.size] := fun b o e q => Nat.ne_of_lt (Heap.lt_size e) (List.mem_singleton.mp q)
  refine forW (Walks.range hA s.heap.objs.size 0 1 n) hx hk (fun q => Nat.ne_of_lt hn.lt (List.mem_singleton.mp q)) ?_ (hn.keeps (Ext.push _)) J h0
    (fun i v m₁ h₁ tk₁ hi hv hJ N k => by
      obtain ⟨tk, rfl⟩ := hv
      have e : (0 + (i : Int) * 1) = (i : Int) := by omega
      rw [e] at N
      exact step i tk m₁ h₁ tk₁ hi hJ N fun b o hb e => k b o hb (old b o e) (Heap.get?_push_of_some _ e))
    (fun h' tk m' N hJ k => hQ h' tk m' N hJ fun b o hb e => k b o hb (old b o e) (Heap.get?_push_of_some _ e))
  have e1 : (0 + ((0 : Nat) : Int) * 1) = 0 := by simp
  have e2 : ((n : Int) - ((0 : Nat) : Int)) = Builtin.Range.rangeSize 0 n 1 := by rw [hsz]; simp
  show IsRangeIter _ _ _ _ _
  rw [e1, e2]
  exact Heap.get?_push_size _ rfl
/-- range(n) -/
theorem rangeX {e : Int} {t : Tok} {Q : Value → Shared → Prop} {E : Value → Shared → Prop}
    (h : Then (∀ r h' t u v, Ext s.heap h' → IsRange h' r 0 e 1 t u v → Q (.ref r) { s with heap := h', toks := s.toks + 1 + 1 })) : wpAny (model PR w) A (call (.type "range") [.int e t]) Q E s :=
  call_range_1 (h _ _ _ _ _ (Ext.push _) (IsRange.new ..))
end
end Mine
local macro_rules | `(tactic| walk_at "eval Name") => `(tactic| first
  | (refine' Mine.nmL (by assumption) ?v ?_ rfl rfl rfl (by decide); (case v => first | rfl | assumption); (try dsimp only))
  | (refine' Mine.nmB (by assumption) ?e ?v ?n ?_ rfl rfl rfl rfl (by decide); (case e => rfl); (case v => boot_fast); (case n => decide); (try dsimp only))
  | (refine' Mine.nmC (by assumption) ?_ rfl rfl rfl (by decide); (try dsimp only))
  | (refine' Mine.nmG (by assumption) ?e ?_ rfl rfl rfl (by decide); (case e => rfl); (try dsimp only)))
local macro_rules | `(tactic| walk_at "loadName") => `(tactic| (refine' Mine.ldL (by assumption) ?v ?_ rfl rfl rfl; (case v => first | rfl | assumption); (try dsimp only)))
local macro_rules | `(tactic| walk_at "storeName") => `(tactic| first
  | (refine' Mine.stL (by assumption) ?_ rfl rfl rfl)
  | (refine' Mine.stC (by assumption) ?_ rfl rfl rfl))
local macro_rules | `(tactic| walk_at "newList") => `(tactic| (refine' Mine.newListX ?_ ?sz; (case sz => ((try simp only [List.length_cons, List.length_nil]); exact Nat.le_of_ble_eq_true rfl))))
local macro_rules | `(tactic| walk_at "call type:range") => `(tactic| refine Mine.rangeX ?_)
local macro_rules | `(tactic| walk_at "go") => `(tactic| repeat (first | (walk1; (try dsimp only)) | (dsimp only; walk1)))
local macro_rules | `(tactic| walk_at "callWith ref") => `(tactic| (refine' Mine.cwR ?hk ?_ rfl rfl; (case hk => rfl)))
local macro_rules | `(tactic| walk_at "And") => `(tactic| ((with_reducible show Mine.HasG _ _ ∧ _); refine' And.intro (Mine.Gd.has (by assumption)) ?_))
local macro_rules | `(tactic| walk_at "eval ListComp") => `(tactic| refine' Mine.stopW ?_)
local macro_rules | `(tactic| walk_at "eval GeneratorExp") => `(tactic| refine' Mine.stopW ?_)
local macro_rules | `(tactic| walk_at "call ref") => `(tactic| refine' Mine.stopW ?_)
local macro_rules | `(tactic| walk_at "exec For") => `(tactic| refine' Mine.stopW ?_)
local macro_rules | `(tactic| walk_at "exec Assign cons ListComp") => `(tactic| refine' Mine.stopW ?_)
local macro_rules | `(tactic| walk_at "binaryOp Add ref ref") => `(tactic| refine' Mine.stopW ?_)
local macro_rules | `(tactic| walk_at "call type:list") => `(tactic| refine' Mine.stopW ?_)
local macro_rules | `(tactic| walk_at "getAttr ref") => `(tactic| (refine' PySem.W.cls_value (mc := Value.type "type") (Mine.Gd.X (by assumption)) ?r ?e ?h ?_; (case r => rfl); (case e => rfl); (case h => rfl); (try dsimp only)))
local macro_rules | `(tactic| walk_at "binaryOp Add str str") => `(tactic| refine' Mine.stopW ?_)
local macro_rules | `(tactic| walk_at "call builtin:str.join") => `(tactic| refine' Mine.stopW ?_)
local macro_rules | `(tactic| walk_at "call builtin:any") => `(tactic| refine' Mine.stopW ?_)
local macro_rules | `(tactic| walk_at "call builtin:all") => `(tactic| refine' Mine.stopW ?_)
local macro_rules | `(tactic| walk_at "call builtin:str.lower") => `(tactic| refine' Mine.stopW ?_)
local macro_rules | `(tactic| walk_at "call builtin:str.upper") => `(tactic| refine' Mine.stopW ?_)
local macro_rules | `(tactic| walk_at "call builtin:str.rfind") => `(tactic| refine' Mine.stopW ?_)
local macro_rules | `(tactic| walk_at "call builtin:str.find") => `(tactic| refine' Mine.stopW ?_)
local macro_rules | `(tactic| walk_at "binaryOp Pow int int") => `(tactic| refine' Mine.stopW ?_)
local macro_rules | `(tactic| walk_at "compareOp Eq ref ref") => `(tactic| refine' Mine.stopW ?_)
local macro_rules | `(tactic| walk_at "compareOp NotEq ref ref") => `(tactic| refine' Mine.stopW ?_)
local macro_rules | `(tactic| walk_at "compareOp NotIn") => `(tactic| refine' Mine.stopW ?_)

namespace Mine
open PySem
theorem nat_or_split (n : Nat) : ∀ a b : Nat, a + b ≤ n → a ||| b = (a ^^^ b) + (a &&& b) := by
  induction n with
  | zero =>
    intro a b h
    have ha : a = 0 := by omega
    have hb : b = 0 := by omega
    subst ha; subst hb; rfl
  | succ n ih =>
    intro a b h
    by_cases h0 : a = 0 ∧ b = 0
    · obtain ⟨rfl, rfl⟩ := h0; rfl
    · have i := ih (a / 2) (b / 2) (by omega)
      have e1 : a ||| b = 2 * ((a / 2) ||| (b / 2)) + (a ||| b) % 2 := by rw [← Nat.or_div_two]; omega
      have e2 : a ^^^ b = 2 * ((a / 2) ^^^ (b / 2)) + (a ^^^ b) % 2 := by rw [← Nat.xor_div_two]; omega
      have e3 : a &&& b = 2 * ((a / 2) &&& (b / 2)) + (a &&& b) % 2 := by rw [← Nat.and_div_two]; omega
      have m1 : (a ||| b) % 2 = (a ^^^ b) % 2 + (a &&& b) % 2 := by
        have t1 := Nat.or_mod_two_pow (a := a) (b := b) (n := 1)
        have t2 := Nat.xor_mod_two_pow (a := a) (b := b) (n := 1)
        have t3 := Nat.and_mod_two_pow (a := a) (b := b) (n := 1)
        simp only [Nat.pow_one] at t1 t2 t3
        rw [t1, t2, t3]
        rcases Nat.mod_two_eq_zero_or_one a with ha | ha <;> rcases Nat.mod_two_eq_zero_or_one b with hb | hb <;> rw [ha, hb] <;> rfl
      omega
theorem and_nat (a b : Nat) : Builtin.bitAnd (a : Int) (b : Int) = ((a &&& b : Nat) : Int) := by
  unfold Builtin.bitAnd
  simp
theorem or_nat (a b : Nat) : Builtin.bitOr (a : Int) (b : Int) = ((a ||| b : Nat) : Int) := by
  have ha : ¬ (0 ≤ -(a : Int) - 1) := by omega
  have hb : ¬ (0 ≤ -(b : Int) - 1) := by omega
  have ea : (-(-(a : Int) - 1) - 1).toNat = a := by omega
  have eb : (-(-(b : Int) - 1) - 1).toNat = b := by omega
  unfold Builtin.bitOr Builtin.bitAnd Builtin.bitNot
  simp only [ha, hb, decide_false, ea, eb]
  omega
theorem xor_nat (a b : Nat) : Builtin.bitXor (a : Int) (b : Int) = ((a ^^^ b : Nat) : Int) := by
  unfold Builtin.bitXor
  rw [or_nat, and_nat, nat_or_split _ a b (Nat.le_refl _)]
  omega
theorem fdiv_nat (a b : Nat) : Int.fdiv (a : Int) (b : Int) = ((a / b : Nat) : Int) := by
  rw [Int.fdiv_eq_ediv_of_nonneg _ (by omega)]; rfl
end Mine

namespace Mine
theorem paired_of {α : Type} {F : Value → Value → Prop} {R : α → Value → Prop} {G : α → Value → Prop} (hFG : ∀ v r a, R a v → F v r → G a r) :
    ∀ {vs ys : List Value} {as : List α}, Paired F vs ys → vs.length = as.length → (∀ (j : Nat) v, vs[j]? = some v → ∃ a, as[j]? = some a ∧ R a v) → Paired G as ys
  | _, _, [], .nil, _, _ => .nil
  | _, _, _ :: _, .nil, e, _ => by simp at e
  | _, _, [], .cons _ _, e, _ => by simp at e
  | v :: vs, y :: ys, a :: as, .cons f r, e, h => by
    obtain ⟨a', e1, hR⟩ := h 0 v rfl
    simp at e1
    subst e1
    exact .cons (hFG v y a hR f) (paired_of hFG r (by simpa using e) fun j u hu => by simpa using h (j + 1) u (by simpa using hu))
theorem keeps_refl (s : Shared) : Keeps s s := ⟨s.heap, s.toks, rfl, fun _ _ e => e⟩

section
variable {w : World} {A : Around} {E : Value → Shared → Prop} {s : Shared} {env : Env} {elt iter : Expr} {x : Str} {px : Pos} {scope : Scope} {cl : List (Str × Addr)} {pos : Pos} {Q : Value → Shared → Prop}
/-- a list comprehension over a text's signs -/
theorem compStr (F : Nat → Value → Prop) (hA : A.handled = none) (hclos : closureFor scope env = pure cl) (hcell : ∀ y ∈ scope.names, y.2 ≠ .cell) (hkind : scope.kind = .function)
    (hnames : ∀ y ∈ scope.names, y.2 = .local → scope.names.lookup y.1 = some .local) (hx : scope.names.lookup x = some .local)
    (h : wpAny (model PR w) A (eval iter env) (fun xv s₁ => ∃ y t, xv = .str y t ∧ y.cps.size ≤ sizeLine ∧
      (∀ C (c : Nat) u s₃ m₃, c ∈ y.cps.toList → s₃.heap.Ns C m₃ → m₃ x = some (.str ⟨#[c]⟩ u) → Ext s₁.heap s₃.heap →
        wpAny (model PR w) A (eval elt (compEnvC scope cl C env)) (fun r s₄ => Then (F c r ∧ Keeps s₃ s₄)) (fun _ _ => False) s₃) ∧
      (∀ D h' tk ys, Ext s₁.heap h' → s₁.heap.get? D = none → h'.PlainList D ys → Paired F y.cps.toList ys.toList → Q (.ref D) { s₁ with heap := h', toks := tk })) E s)
    (hs : ∀ x, foldedSetIterable iter env x = pure x := by intro _; rfl) :
    wpAny (model PR w) A (eval (.ListComp elt [⟨.Name x px, iter, [], 0⟩] scope pos) env) Q E s := by
  refine wpAny_ListComp_free (fun _ => true) (fun v r => ∀ c u, v = .str ⟨#[c]⟩ u → F c r) hclos hcell hkind hnames hx (wpAny_mono h (fun xv s₁ h₁ => ?_) fun _ _ e => e) hs
  obtain ⟨y, t, rfl, hsz, helt, hfin⟩ := h₁
  refine wpAny_pyIter_str fun o St W hst => ?_
  have old : ∀ b ob, s₁.heap.get? b = some ob → b ∉ [s₁.heap.objs.size] := fun b ob e q => Nat.ne_of_lt (Heap.lt_size e) (List.mem_singleton.mp q)
  refine ⟨_, _, _, _, _, _, rfl, W A hA, hsz, hst, ?_, ⟨?_, ?_⟩, ?_⟩
  · intro b hb
    rw [List.mem_singleton.mp hb]
    show _ < (s₁.heap.push o).objs.size
    rw [Heap.size_push]
    exact Nat.lt_succ_self _
  · intro C i v s₃ m₃ E' _ _ _ _ _ _
    exact wpAny_tests_nil ⟨rfl, keeps_refl _⟩
  · intro C i v s₃ m₃ E' _ hP _ hN hm hk _
    obtain ⟨c, u, hc, rfl⟩ := hP
    refine wpAny_mono (helt C c u s₃ m₃ (by rw [← Array.getElem?_toList] at hc; exact List.mem_of_getElem? hc) hN hm fun b ob e => hk b ob (old b ob e) (Heap.get?_push_of_some _ e)) (fun r s₄ (q : _ ∧ _) => ⟨fun c' u' e => ?_, q.2⟩) fun _ _ e => e.elim
    injection e with e1 _
    injection e1 with e2
    have e3 : c = c' := by simpa using e2
    exact e3 ▸ q.1
  · intro D h' tk ys vs hD _ hpl hlen hP hF hk
    have e1 : vs.filter (fun _ => true) = vs := List.filter_eq_self.mpr fun _ _ => rfl
    rw [e1] at hF
    refine hfin D h' tk ys (fun b ob e => hk b ob (old b ob e) (Heap.get?_push_of_some _ e)) ?_ hpl ?_
    · cases e : s₁.heap.get? D with
      | none => rfl
      | some ob => have := Heap.get?_push_of_some o e; rw [hD] at this; cases this
    · refine paired_of (R := fun c v => ∃ u, v = .str ⟨#[c]⟩ u) (fun v r c ⟨u, e⟩ f => f c u e) hF (by simpa using hlen) fun j v hv => ?_
      obtain ⟨c, u, hc, e⟩ := hP j v hv
      exact ⟨c, by simpa using hc, u, e⟩
/-- a list comprehension over a list -/
theorem compList (F : Value → Value → Prop) (hA : A.handled = none) (hclos : closureFor scope env = pure cl) (hcell : ∀ y ∈ scope.names, y.2 ≠ .cell) (hkind : scope.kind = .function)
    (hnames : ∀ y ∈ scope.names, y.2 = .local → scope.names.lookup y.1 = some .local) (hx : scope.names.lookup x = some .local)
    (h : wpAny (model PR w) A (eval iter env) (fun xv s₁ => ∃ l vs, xv = .ref l ∧ s₁.heap.IsList l vs.toArray ∧ vs.length ≤ sizeLine ∧
      (∀ C v s₃ m₃, v ∈ vs → s₃.heap.Ns C m₃ → m₃ x = some v → Ext s₁.heap s₃.heap →
        wpAny (model PR w) A (eval elt (compEnvC scope cl C env)) (fun r s₄ => Then (F v r ∧ Keeps s₃ s₄)) (fun _ _ => False) s₃) ∧
      (∀ D h' tk ys, Ext s₁.heap h' → s₁.heap.get? D = none → h'.PlainList D ys → Paired F vs ys.toList → Q (.ref D) { s₁ with heap := h', toks := tk })) E s)
    (hs : ∀ x, foldedSetIterable iter env x = pure x := by intro _; rfl) :
    wpAny (model PR w) A (eval (.ListComp elt [⟨.Name x px, iter, [], 0⟩] scope pos) env) Q E s := by
  refine wpAny_ListComp_free (fun _ => true) F hclos hcell hkind hnames hx (wpAny_mono h (fun xv s₁ h₁ => ?_) fun _ _ e => e) hs
  obtain ⟨l, vs, rfl, hl, hsz, helt, hfin⟩ := h₁
  refine wpAny_pyIter_list hl ?_
  have old : ∀ b ob, s₁.heap.get? b = some ob → b ∉ [s₁.heap.objs.size] := fun b ob e q => Nat.ne_of_lt (Heap.lt_size e) (List.mem_singleton.mp q)
  refine ⟨_, _, _, _, _, _, rfl, Walks.list hA _ l (Nat.ne_of_lt (list_lt hl)) vs.toArray, by simpa using hsz, ⟨⟨_, Heap.get?_push_size _ rfl, rfl, rfl⟩, list_ext hl (Ext.push _)⟩, ?_, ⟨?_, ?_⟩, ?_⟩
  · intro b hb
    show b < (s₁.heap.push _).objs.size
    rw [Heap.size_push]
    rcases List.mem_cons.mp hb with q | q
    · rw [q]; exact Nat.lt_succ_self _
    · rw [List.mem_singleton.mp q]; exact Nat.lt_succ_of_lt (list_lt hl)
  · intro C i v s₃ m₃ E' _ _ _ _ _ _
    exact wpAny_tests_nil ⟨rfl, keeps_refl _⟩
  · intro C i v s₃ m₃ E' _ hP _ hN hm hk _
    exact wpAny_mono (helt C v s₃ m₃ (List.mem_of_getElem? (by simpa using hP)) hN hm fun b ob e => hk b ob (old b ob e) (Heap.get?_push_of_some _ e)) (fun r s₄ q => q) fun _ _ e => e.elim
  · intro D h' tk ys vs' hD _ hpl hlen hP hF hk
    have e1 : vs'.filter (fun _ => true) = vs' := List.filter_eq_self.mpr fun _ _ => rfl
    rw [e1] at hF
    have e2 : vs' = vs := by
      refine List.ext_getElem? fun j => ?_
      rcases Nat.lt_or_ge j vs'.length with hj | hj
      · have := hP j _ (List.getElem?_eq_getElem hj)
        rw [List.getElem?_eq_getElem hj, ← this]
        simp
      · have hj' : vs.length ≤ j := by have : vs'.length = vs.length := by simpa using hlen
                                       omega
        rw [List.getElem?_eq_none hj, List.getElem?_eq_none hj']
    subst e2
    refine hfin D h' tk ys (fun b ob e => hk b ob (old b ob e) (Heap.get?_push_of_some _ e)) ?_ hpl hF
    cases e : s₁.heap.get? D with
    | none => rfl
    | some ob => have := Heap.get?_push_of_some ({ cls := .type "list_iterator", data := .fields #[.ref l, .int 0 0] } : Obj) e; rw [hD] at this; cases this
/-- a list comprehension over range(n) -/
theorem compRange (F : Nat → Value → Prop) (hA : A.handled = none) (hclos : closureFor scope env = pure cl) (hcell : ∀ y ∈ scope.names, y.2 ≠ .cell) (hkind : scope.kind = .function)
    (hnames : ∀ y ∈ scope.names, y.2 = .local → scope.names.lookup y.1 = some .local) (hx : scope.names.lookup x = some .local)
    (h : wpAny (model PR w) A (eval iter env) (fun xv s₁ => ∃ r n t u v, xv = .ref r ∧ IsRange s₁.heap r 0 ((n : Nat) : Int) 1 t u v ∧ n ≤ sizeLine ∧
      (∀ C (i : Nat) tk s₃ m₃, i < n → s₃.heap.Ns C m₃ → m₃ x = some (.int (i : Int) tk) → Ext s₁.heap s₃.heap →
        wpAny (model PR w) A (eval elt (compEnvC scope cl C env)) (fun r s₄ => Then (F i r ∧ Keeps s₃ s₄)) (fun _ _ => False) s₃) ∧
      (∀ D h' tk ys, Ext s₁.heap h' → s₁.heap.get? D = none → h'.PlainList D ys → Paired F (List.range n) ys.toList → Q (.ref D) { s₁ with heap := h', toks := tk })) E s)
    (hs : ∀ x, foldedSetIterable iter env x = pure x := by intro _; rfl) :
    wpAny (model PR w) A (eval (.ListComp elt [⟨.Name x px, iter, [], 0⟩] scope pos) env) Q E s := by
  refine wpAny_ListComp_free (fun _ => true) (fun v r => ∀ (i : Nat) t, v = .int (i : Int) t → F i r) hclos hcell hkind hnames hx (wpAny_mono h (fun xv s₁ h₁ => ?_) fun _ _ e => e) hs
  obtain ⟨r, n, t, u, v, rfl, hr, hsz, helt, hfin⟩ := h₁
  have hn62 : (n : Int) < 2 ^ 62 := by rw [sizeLine_eq] at hsz; omega
  refine wpAny_pyIter_range hr (small_one (by decide) (by decide) (by omega) hn62) ?_
  have hrs : Builtin.Range.rangeSize 0 (n : Int) 1 = (n : Int) := by rw [rangeSize_one]; split <;> omega
  have old : ∀ b ob, s₁.heap.get? b = some ob → b ∉ [s₁.heap.objs.size] := fun b ob e q => Nat.ne_of_lt (Heap.lt_size e) (List.mem_singleton.mp q)
  refine ⟨_, _, _, _, _, _, rfl, (Walks.range hA _ 0 1 n).bound, hsz, ?_, ?_, ⟨?_, ?_⟩, ?_⟩
  · have e1 : (0 + ((0 : Nat) : Int) * 1) = 0 := by simp
    have e2 : ((n : Int) - ((0 : Nat) : Int)) = Builtin.Range.rangeSize 0 n 1 := by rw [hrs]; simp
    show IsRangeIter _ _ _ _ _
    rw [e1, e2]
    exact Heap.get?_push_size _ rfl
  · intro b hb
    rw [List.mem_singleton.mp hb]
    show _ < (s₁.heap.push _).objs.size
    rw [Heap.size_push]
    exact Nat.lt_succ_self _
  · intro C i v s₃ m₃ E' _ _ _ _ _ _
    exact wpAny_tests_nil ⟨rfl, keeps_refl _⟩
  · intro C i v s₃ m₃ E' _ hP _ hN hm hk _
    obtain ⟨hin, tk, rfl⟩ := hP
    have ei : (0 + (i : Int) * 1) = (i : Int) := by omega
    rw [ei] at hm
    refine wpAny_mono (helt C i tk s₃ m₃ hin hN hm fun b ob e => hk b ob (old b ob e) (Heap.get?_push_of_some _ e)) (fun r s₄ (q : _ ∧ _) => ⟨fun i' t' e => ?_, q.2⟩) fun _ _ e => e.elim
    injection e with e1 _
    have e3 : i = i' := by omega
    exact e3 ▸ q.1
  · intro D h' tk ys vs hD _ hpl hlen hP hF hk
    have e1 : vs.filter (fun _ => true) = vs := List.filter_eq_self.mpr fun _ _ => rfl
    rw [e1] at hF
    refine hfin D h' tk ys (fun b ob e => hk b ob (old b ob e) (Heap.get?_push_of_some _ e)) ?_ hpl ?_
    · cases e : s₁.heap.get? D with
      | none => rfl
      | some ob => have := Heap.get?_push_of_some ({ cls := .type "range_iterator", data := .fields #[rawInt 0, rawInt (Builtin.Range.rangeSize 0 (n : Int) 1), rawInt 1] } : Obj) e; rw [hD] at this; cases this
    · refine paired_of (R := fun (i : Nat) v => ∃ t, v = .int (i : Int) t) (fun v r i ⟨t, e⟩ f => f i t e) hF (by simpa using hlen) fun j v hv => ?_
      obtain ⟨_, t, e⟩ := hP j v hv
      have hj : j < n := by
        have := (List.getElem?_eq_some_iff.mp hv).1
        omega
      exact ⟨j, by simp [hj], t, by rw [e]; congr 1; omega⟩
variable {L : Addr} {y : Str} {py : Pos} {spos : Pos} {QF : Flow → Shared → Prop}
/-- `y = [.. for x in text]` -/
theorem compStrA (F : Nat → Value → Prop) (hA : A.handled = none) (hL : env.locals = L) (hsw : swapsWith (.ListComp elt [⟨.Name x px, iter, [], 0⟩] scope pos) (some (.Name y py)) spos.line env = pure true)
    (hclos : closureFor scope env = pure cl) (hcell : ∀ y ∈ scope.names, y.2 ≠ .cell) (hkind : scope.kind = .function)
    (hnames : ∀ y ∈ scope.names, y.2 = .local → scope.names.lookup y.1 = some .local) (hx : scope.names.lookup x = some .local) (hy : env.kindOf y = some .local) (hek : env.scope.kind = .function)
    (h : wpAny (model PR w) A (eval iter env) (fun xv s₁ => ∃ yv t m, xv = .str yv t ∧ yv.cps.size ≤ sizeLine ∧ s₁.heap.Ns L m ∧
      (∀ C (c : Nat) u s₃ m₃, c ∈ yv.cps.toList → s₃.heap.Ns C m₃ → m₃ x = some (.str ⟨#[c]⟩ u) → Ext s₁.heap s₃.heap →
        wpAny (model PR w) A (eval elt (compEnvC scope cl C env)) (fun r s₄ => Then (F c r ∧ Keeps s₃ s₄)) (fun _ _ => False) s₃) ∧
      (∀ D h' tk ys, But L s₁.heap h' → s₁.heap.get? D = none → h'.PlainList D ys → Paired F yv.cps.toList ys.toList → h'.Ns L (fun z => if z = y then some (.ref D) else m z) → QF .next { s₁ with heap := h', toks := tk })) E s)
    (hs : ∀ x, foldedSetIterable iter env x = pure x := by intro _; rfl) :
    wpAny (model PR w) A (exec (.Assign [.Name y py] (.ListComp elt [⟨.Name x px, iter, [], 0⟩] scope pos) spos) env) QF E s := by
  subst hL
  refine wpAny_Assign_ListComp_free (fun _ => true) (fun v r => ∀ c u, v = .str ⟨#[c]⟩ u → F c r) hsw hclos hcell hkind hnames hx hy (by rw [hek]; rfl) (wpAny_mono h (fun xv s₁ h₁ => ?_) fun _ _ e => e) hs
  obtain ⟨yv, t, m, rfl, hsz, N, helt, hfin⟩ := h₁
  refine wpAny_pyIter_str fun o St W hst => ?_
  have old : ∀ b ob, s₁.heap.get? b = some ob → b ∉ [s₁.heap.objs.size] := fun b ob e q => Nat.ne_of_lt (Heap.lt_size e) (List.mem_singleton.mp q)
  refine ⟨_, _, _, _, _, _, m, rfl, W A hA, hsz, hst, ?_, fun q => Nat.ne_of_lt N.lt (List.mem_singleton.mp q), N.keeps (Ext.push _), ⟨?_, ?_⟩, ?_⟩
  · intro b hb
    rw [List.mem_singleton.mp hb]
    show _ < (s₁.heap.push o).objs.size
    rw [Heap.size_push]
    exact Nat.lt_succ_self _
  · intro C i v s₃ m₃ E' _ _ _ _ _ _
    exact wpAny_tests_nil ⟨rfl, keeps_refl _⟩
  · intro C i v s₃ m₃ E' _ hP _ hN hm hk _
    obtain ⟨c, u, hc, rfl⟩ := hP
    refine wpAny_mono (helt C c u s₃ m₃ (by rw [← Array.getElem?_toList] at hc; exact List.mem_of_getElem? hc) hN hm fun b ob e => hk b ob (old b ob e) (Heap.get?_push_of_some _ e)) (fun r s₄ (q : _ ∧ _) => ⟨fun c' u' e => ?_, q.2⟩) fun _ _ e => e.elim
    injection e with e1 _
    injection e1 with e2
    have e3 : c = c' := by simpa using e2
    exact e3 ▸ q.1
  · intro D h' tk ys vs hD _ hpl hlen hP hF hN' hk
    have e1 : vs.filter (fun _ => true) = vs := List.filter_eq_self.mpr fun _ _ => rfl
    rw [e1] at hF
    refine hfin D h' tk ys (fun b ob hb e => hk b ob hb (old b ob e) (Heap.get?_push_of_some _ e)) ?_ hpl ?_ hN'
    · cases e : s₁.heap.get? D with
      | none => rfl
      | some ob => have := Heap.get?_push_of_some o e; rw [hD] at this; cases this
    · refine paired_of (R := fun c v => ∃ u, v = .str ⟨#[c]⟩ u) (fun v r c ⟨u, e⟩ f => f c u e) hF (by simpa using hlen) fun j v hv => ?_
      obtain ⟨c, u, hc, e⟩ := hP j v hv
      exact ⟨c, by simpa using hc, u, e⟩
/-- `y = [.. for x in range(n)]` -/
theorem compRangeA (F : Nat → Value → Prop) (hA : A.handled = none) (hL : env.locals = L) (hsw : swapsWith (.ListComp elt [⟨.Name x px, iter, [], 0⟩] scope pos) (some (.Name y py)) spos.line env = pure true)
    (hclos : closureFor scope env = pure cl) (hcell : ∀ y ∈ scope.names, y.2 ≠ .cell) (hkind : scope.kind = .function)
    (hnames : ∀ y ∈ scope.names, y.2 = .local → scope.names.lookup y.1 = some .local) (hx : scope.names.lookup x = some .local) (hy : env.kindOf y = some .local) (hek : env.scope.kind = .function)
    (h : wpAny (model PR w) A (eval iter env) (fun xv s₁ => ∃ r n t u v m, xv = .ref r ∧ IsRange s₁.heap r 0 ((n : Nat) : Int) 1 t u v ∧ n ≤ sizeLine ∧ s₁.heap.Ns L m ∧
      (∀ C (i : Nat) tk s₃ m₃, i < n → s₃.heap.Ns C m₃ → m₃ x = some (.int (i : Int) tk) → Ext s₁.heap s₃.heap →
        wpAny (model PR w) A (eval elt (compEnvC scope cl C env)) (fun r s₄ => Then (F i r ∧ Keeps s₃ s₄)) (fun _ _ => False) s₃) ∧
      (∀ D h' tk ys, But L s₁.heap h' → s₁.heap.get? D = none → h'.PlainList D ys → Paired F (List.range n) ys.toList → h'.Ns L (fun z => if z = y then some (.ref D) else m z) → QF .next { s₁ with heap := h', toks := tk })) E s)
    (hs : ∀ x, foldedSetIterable iter env x = pure x := by intro _; rfl) :
    wpAny (model PR w) A (exec (.Assign [.Name y py] (.ListComp elt [⟨.Name x px, iter, [], 0⟩] scope pos) spos) env) QF E s := by
  subst hL
  refine wpAny_Assign_ListComp_free (fun _ => true) (fun v r => ∀ (i : Nat) t, v = .int (i : Int) t → F i r) hsw hclos hcell hkind hnames hx hy (by rw [hek]; rfl) (wpAny_mono h (fun xv s₁ h₁ => ?_) fun _ _ e => e) hs
  obtain ⟨r, n, t, u, v, m, rfl, hr, hsz, N, helt, hfin⟩ := h₁
  have hn62 : (n : Int) < 2 ^ 62 := by rw [sizeLine_eq] at hsz; omega
  refine wpAny_pyIter_range hr (small_one (by decide) (by decide) (by omega) hn62) ?_
  have hrs : Builtin.Range.rangeSize 0 (n : Int) 1 = (n : Int) := by rw [rangeSize_one]; split <;> omega
  have old : ∀ b ob, s₁.heap.get? b = some ob → b ∉ [s₁.heap.objs.size] := fun b ob e q => Nat.ne_of_lt (Heap.lt_size e) (List.mem_singleton.mp q)
  refine ⟨_, _, _, _, _, _, m, rfl, (Walks.range hA _ 0 1 n).bound, hsz, ?_, ?_, fun q => Nat.ne_of_lt N.lt (List.mem_singleton.mp q), N.keeps (Ext.push _), ⟨?_, ?_⟩, ?_⟩
  · have e1 : (0 + ((0 : Nat) : Int) * 1) = 0 := by simp
    have e2 : ((n : Int) - ((0 : Nat) : Int)) = Builtin.Range.rangeSize 0 n 1 := by rw [hrs]; simp
    show IsRangeIter _ _ _ _ _
    rw [e1, e2]
    exact Heap.get?_push_size _ rfl
  · intro b hb
    rw [List.mem_singleton.mp hb]
    show _ < (s₁.heap.push _).objs.size
    rw [Heap.size_push]
    exact Nat.lt_succ_self _
  · intro C i v s₃ m₃ E' _ _ _ _ _ _
    exact wpAny_tests_nil ⟨rfl, keeps_refl _⟩
  · intro C i v s₃ m₃ E' _ hP _ hN hm hk _
    obtain ⟨hin, tk, rfl⟩ := hP
    have ei : (0 + (i : Int) * 1) = (i : Int) := by omega
    rw [ei] at hm
    refine wpAny_mono (helt C i tk s₃ m₃ hin hN hm fun b ob e => hk b ob (old b ob e) (Heap.get?_push_of_some _ e)) (fun r s₄ (q : _ ∧ _) => ⟨fun i' t' e => ?_, q.2⟩) fun _ _ e => e.elim
    injection e with e1 _
    have e3 : i = i' := by omega
    exact e3 ▸ q.1
  · intro D h' tk ys vs hD _ hpl hlen hP hF hN' hk
    have e1 : vs.filter (fun _ => true) = vs := List.filter_eq_self.mpr fun _ _ => rfl
    rw [e1] at hF
    refine hfin D h' tk ys (fun b ob hb e => hk b ob hb (old b ob e) (Heap.get?_push_of_some _ e)) ?_ hpl ?_ hN'
    · cases e : s₁.heap.get? D with
      | none => rfl
      | some ob => have := Heap.get?_push_of_some ({ cls := .type "range_iterator", data := .fields #[rawInt 0, rawInt (Builtin.Range.rangeSize 0 (n : Int) 1), rawInt 1] } : Obj) e; rw [hD] at this; cases this
    · refine paired_of (R := fun (i : Nat) v => ∃ t, v = .int (i : Int) t) (fun v r i ⟨t, e⟩ f => f i t e) hF (by simpa using hlen) fun j v hv => ?_
      obtain ⟨_, t, e⟩ := hP j v hv
      have hj : j < n := by
        have := (List.getElem?_eq_some_iff.mp hv).1
        omega
      exact ⟨j, by simp [hj], t, by rw [e]; congr 1; omega⟩
end
end Mine

namespace Mine
/-- a text by its signs -/
def T (l : List Nat) : Str := ⟨l.toArray⟩
theorem T_cps (l : List Nat) : (T l).cps.toList = l := rfl
theorem T_len (l : List Nat) : (T l).length = l.length := by simp [T, Str.length]
theorem T_size (l : List Nat) : (T l).cps.size = l.length := by simp [T]
theorem T_append (a b : List Nat) : T a ++ T b = T (a ++ b) := by
  show Str.mk (a.toArray ++ b.toArray) = Str.mk (a ++ b).toArray
  simp
theorem T_inj {a b : List Nat} (h : T a = T b) : a = b := by
  have := congrArg (fun s => s.cps.toList) h
  exact this
theorem T_eta (y : Str) : T y.cps.toList = y := by
  obtain ⟨a⟩ := y
  show Str.mk a.toList.toArray = Str.mk a
  simp
theorem T_beq (a b : List Nat) : (T a == T b) = (a == b) := by
  rw [Bool.eq_iff_iff, beq_iff_eq, beq_iff_eq]
  exact ⟨T_inj, fun h => h ▸ rfl⟩
theorem T_bne (a b : List Nat) : (T a != T b) = (a != b) := by
  show (!(T a == T b)) = !(a == b)
  rw [T_beq]

theorem slice_toT (l : List Nat) {j : Nat} (h : j ≤ l.length) : Txt.slice (T l) none (some (j : Int)) = T (l.take j) := by
  show StrLaws.sliceText (T l) none (some (j : Int)) = _
  rw [StrLaws.sliceText_to ⟨by omega, by rw [T_cps]; omega⟩, T_cps]
  simp [T]
theorem slice_fromT (l : List Nat) {i : Nat} (h : i ≤ l.length) : Txt.slice (T l) (some (i : Int)) none = T (l.drop i) := by
  show StrLaws.sliceText (T l) (some (i : Int)) none = _
  rw [StrLaws.sliceText_from ⟨by omega, by rw [T_cps]; omega⟩, T_cps]
  have e : ((l.length : Int) - (i : Int)).toNat = l.length - i := by omega
  rw [e, List.take_of_length_le (by simp)]
  simp [T]
theorem slice_negT (l : List Nat) {k : Nat} (hk : 0 < k) (h : k ≤ l.length) : Txt.slice (T l) none (some (-(k : Int))) = T (l.take (l.length - k)) := by
  show StrLaws.sliceText (T l) none (some (-(k : Int))) = _
  rw [StrLaws.sliceText_to_neg (by omega) (by rw [T_len]; omega), T_cps, T_len]
  have e : (-(k : Int) + (l.length : Int) - 0).toNat = l.length - k := by omega
  rw [e]
  rfl
theorem slice_succT (l : List Nat) {i : Nat} (h : i < l.length) : Txt.slice (T l) (some ((i : Int) + 1)) none = T (l.drop (i + 1)) := slice_fromT l (i := i + 1) h
def lo (c : Nat) : Nat := if 65 ≤ c ∧ c ≤ 90 then c + 32 else c
def up (c : Nat) : Nat := if 97 ≤ c ∧ c ≤ 122 then c - 32 else c
theorem lowerT (l : List Nat) (h : ∀ c ∈ l, c < 128) : Txt.lower (T l) = T (l.map lo) := by
  rw [PyProof.Rows.lower_ascii (x := T l) h]
  simp [T]; exact fun _ _ => rfl
theorem upperT (l : List Nat) (h : ∀ c ∈ l, c < 128) : Txt.upper (T l) = T (l.map up) := by
  rw [PyProof.Rows.upper_ascii (x := T l) h]
  simp [T]; exact fun _ _ => rfl
theorem inT (l : List Nat) (c : Nat) : (!(Builtin.Str.occurrences (T l) (T [c]) 0 (T l).length 1).isEmpty) = decide (c ∈ l) := StrLaws.found_one (T l) c
theorem idxOf_first {c : Nat} : ∀ (l : List Nat) (i : Nat), l[i]? = some c → (∀ k, k < i → l[k]? ≠ some c) → l.idxOf c = i
  | [], i, h, _ => by simp at h
  | a :: r, 0, h, _ => by simp at h; simp [h]
  | a :: r, i + 1, h, hn => by
    have ha : a ≠ c := fun e => hn 0 (Nat.succ_pos i) (by simp [e])
    rw [List.idxOf_cons, beq_eq_false_iff_ne.mpr ha]
    simp only [cond_false]
    rw [idxOf_first r i (by simpa using h) fun k hk e => hn (k + 1) (by omega) (by simpa using e)]
theorem findT (l : List Nat) (c : Nat) (h : c ∈ l) : Txt.find (T l) (T [c]) = ((l.idxOf c : Nat) : Int) := by
  unfold Txt.find
  rcases StrLaws.occ_head (T l) (T [c]) 1 (Nat.le_refl 1) with ⟨_, h2⟩ | ⟨i, r, h1, h2, h3⟩
  · obtain ⟨i, hi⟩ := List.mem_iff_getElem?.mp h
    exact absurd ((StrLaws.subAt_one (T l) c i).mpr hi) (h2 i)
  · rw [h1]
    have hi : l[i]? = some c := (StrLaws.subAt_one (T l) c i).mp h2
    have hn : ∀ k, k < i → l[k]? ≠ some c := fun k hk e => h3 k hk ((StrLaws.subAt_one (T l) c k).mpr e)
    rw [idxOf_first l i hi hn]
theorem rfindT (l : List Nat) (c : Nat) : (Txt.rfind (T l) (T [c]) = -1 ∧ c ∉ l) ∨ ∃ i : Nat, Txt.rfind (T l) (T [c]) = (i : Int) ∧ l[i]? = some c ∧ ∀ k, i < k → l[k]? ≠ some c := by
  unfold Txt.rfind
  rcases StrLaws.last_spec (T l) (T [c]) with ⟨h1, h2⟩ | ⟨i, h1, h2, h3⟩
  · rw [h1]
    refine .inl ⟨rfl, fun hm => ?_⟩
    obtain ⟨i, hi⟩ := List.mem_iff_getElem?.mp hm
    exact h2 i ((StrLaws.subAt_one (T l) c i).mpr hi)
  · rw [h1]
    exact .inr ⟨i, rfl, (StrLaws.subAt_one (T l) c i).mp h2, fun k hk e => h3 k hk ((StrLaws.subAt_one (T l) c k).mpr e)⟩

section
variable {w : World} {A : Around} {E : Value → Shared → Prop} {s : Shared} {Q : Value → Shared → Prop} {value slice : PySem.Expr} {t u : Tok} {l : List Nat}
theorem seq_at {n len : Nat} (h : n < len) : seqIndex? (n : Int) len = some n := by
  unfold seqIndex?
  have h1 : ¬ ((n : Int) < 0) := by omega
  simp only [h1, if_false]
  have h2 : (0 : Int) ≤ (n : Int) := by omega
  have h3 : (n : Int) < (len : Int) := by omega
  simp [h2, h3]
theorem itemT {n c : Nat} (hc : l[n]? = some c) (hn : n < 2 ^ 62) (h : Q (.str (T [c]) s.toks) { s with toks := s.toks + 1 })
    (hs : subscripted slice false (.str (T l) t) (.int (n : Int) u) = operate [.str (T l) t, .int (n : Int) u] (getItem (.str (T l) t) (.int (n : Int) u)) := by with_unfolding_all rfl) :
    wpAny (model PR w) A (subscriptTail value slice (.str (T l) t) (.int (n : Int) u)) Q E s := by
  obtain ⟨hlt, he⟩ := List.getElem?_eq_some_iff.mp hc
  refine tail_any (typeIs_str s (T l) t) slot_str_getitem.lookup (getItem_str (c := c) (by simp; omega) ?_ h) hs
  rw [T_len, seq_at hlt]
  simpa [T] using hc
theorem kept_ext (h₀ : Heap) : KeptH (fun h => Ext h₀ h) := fun _ _ k => k.trans (Ext.push _)
theorem slice_ns {j : Int} {uj : Tok} {x : Str} (h : Then (∀ h' t' k, Ext s.heap h' → Q (.str (Txt.slice x none (some j)) t') { s with heap := h', toks := k })) (hsz : x.length ≤ sizeLine)
    (hs : subscripted slice false (.str x t) (.ref s.heap.objs.size) = operate [.ref s.heap.objs.size, .str x t] (getItem (.str x t) (.ref s.heap.objs.size)) := by with_unfolding_all rfl)
    (ht : ∀ r, letTemporaryGo value (.str x t) r = pure () := by intro _; with_unfolding_all rfl) :
    wpAny (model PR w) A (subscriptTail value slice (.str x t) (.ref s.heap.objs.size)) Q E { s with heap := s.heap.push { cls := .type "slice", data := .fields #[.none, .int j uj, .none] } } :=
  tail_of_ItemOn (SBH.sliceItem_ns (kept_ext s.heap) (Ext.refl _) h hsz) hs ht
theorem slice_sn {i : Int} {ui : Tok} {x : Str} (h : Then (∀ h' t' k, Ext s.heap h' → Q (.str (Txt.slice x (some i) none) t') { s with heap := h', toks := k })) (hsz : x.length ≤ sizeLine)
    (hs : subscripted slice false (.str x t) (.ref s.heap.objs.size) = operate [.ref s.heap.objs.size, .str x t] (getItem (.str x t) (.ref s.heap.objs.size)) := by with_unfolding_all rfl)
    (ht : ∀ r, letTemporaryGo value (.str x t) r = pure () := by intro _; with_unfolding_all rfl) :
    wpAny (model PR w) A (subscriptTail value slice (.str x t) (.ref s.heap.objs.size)) Q E { s with heap := s.heap.push { cls := .type "slice", data := .fields #[.int i ui, .none, .none] } } :=
  tail_of_ItemOn (SBH.sliceItem_sn (kept_ext s.heap) (Ext.refl _) h hsz) hs ht
theorem lenX (hl : l.length ≤ 1000) (h : Q (.int (l.length : Int) (s.toks + 1)) { s with toks := s.toks + 1 + 1 }) : wpAny (model PR w) A (call (.builtin "len") [.str (T l) t]) Q E s :=
  PyProof.Rows.len_str (by rw [T_len]; omega) (by rw [T_len]; exact h)
theorem lenLX {a : Addr} {vs : List Value} (hl : s.heap.IsList a vs.toArray) (hz : vs.length ≤ 1000) (h : Q (.int (vs.length : Int) (s.toks + 1)) { s with toks := s.toks + 1 + 1 }) : wpAny (model PR w) A (call (.builtin "len") [.ref a]) Q E s :=
  PyProof.Rows.len_list hl (by rw [List.size_toArray]; omega) (by rw [List.size_toArray]; exact h)
end
end Mine
local macro_rules | `(tactic| walk_at "call builtin:len") => `(tactic| first | (refine' Mine.lenX ?z ?_; (case z => (first | assumption | omega)); (try dsimp only)) | (refine' Mine.lenLX (by assumption) ?z ?_; (case z => (first | assumption | omega)); (try dsimp only)) | refine' Mine.stopW ?_)

namespace Mine
def gens : List Nat := [996825010, 642813549, 513874426, 1027748829, 705979059]
def pinner (top : Nat) (c i : Nat) : Nat := c ^^^ (if top / 2 ^ i % 2 = 1 then gens.getD i 0 else 0)
def pmid (c v : Nat) : Nat := ((c % 2 ^ 25) * 2 ^ 5) ^^^ v
def pstep (c v : Nat) : Nat := (List.range 5).foldl (pinner (c / 2 ^ 25)) (pmid c v)
def pm (l : List Nat) : Nat := l.foldl pstep 1

/-- a list of naturals as the machine's ints -/
inductive NatsAre : List Value → List Nat → Prop
  | nil : NatsAre [] []
  | cons (n : Nat) (t : Tok) {vs : List Value} {ns : List Nat} : NatsAre vs ns → NatsAre (.int n t :: vs) (n :: ns)
theorem NatsAre.length : ∀ {vs : List Value} {ns : List Nat}, NatsAre vs ns → vs.length = ns.length
  | _, _, .nil => rfl
  | _, _, .cons _ _ h => congrArg (· + 1) h.length
theorem NatsAre.get : ∀ {vs : List Value} {ns : List Nat}, NatsAre vs ns → ∀ {i : Nat} {v : Value}, vs[i]? = some v → ∃ n t, ns[i]? = some n ∧ v = .int (n : Nat) t
  | _, _, .nil, _, _, e => by simp at e
  | _, _, .cons n t h, 0, v, e => by simp at e; exact ⟨n, t, rfl, e.symm⟩
  | _, _, .cons n t h, i + 1, v, e => by simp at e; simpa using h.get e

theorem foldl_take_succ (l : List Nat) (i : Nat) {n : Nat} (h : l[i]? = some n) (c : Nat) : (l.take (i + 1)).foldl pstep c = pstep ((l.take i).foldl pstep c) n := by
  rw [List.take_add_one, h, List.foldl_append]; rfl
theorem band25 (c : Nat) : Builtin.bitAnd (c : Int) 33554431 = ((c % 2 ^ 25 : Nat) : Int) := by
  have := and_nat c 33554431
  rw [show (33554431 : Nat) = 2 ^ 25 - 1 from rfl, Nat.and_two_pow_sub_one_eq_mod] at this
  exact this
theorem band1 (c : Nat) : Builtin.bitAnd (c : Int) 1 = ((c % 2 : Nat) : Int) := by
  have := and_nat c 1
  rw [show (1 : Nat) = 2 ^ 1 - 1 from rfl, Nat.and_two_pow_sub_one_eq_mod] at this
  exact this
theorem fdiv_pow (c : Nat) (i : Nat) : Int.fdiv (c : Int) (2 ^ i) = ((c / 2 ^ i : Nat) : Int) := by
  have := fdiv_nat c (2 ^ i)
  rw [Int.natCast_pow] at this
  exact this
theorem mid_cast (c n : Nat) : Builtin.bitXor (((c % 2 ^ 25 : Nat) : Int) * 2 ^ Int.toNat 5) (n : Int) = ((pmid c n : Nat) : Int) := by
  have e : (((c % 2 ^ 25 : Nat) : Int) * 2 ^ Int.toNat 5) = (((c % 2 ^ 25) * 2 ^ 5 : Nat) : Int) := by
    rw [Int.natCast_mul]; rfl
  rw [e, xor_nat]; rfl

theorem gens_cast {j : Nat} (hj : j < 5) : ([996825010, 642813549, 513874426, 1027748829, 705979059] : List Int).getD (j : Int).toNat 0 = ((gens.getD j 0 : Nat) : Int) := by
  rw [Int.toNat_natCast]
  match j, hj with
  | 0, _ | 1, _ | 2, _ | 3, _ | 4, _ => rfl
theorem inner_on {t d j : Nat} (hj : j < 5) (h : Builtin.bitAnd ((t : Int).fdiv (2 ^ (j : Int).toNat)) 1 ≠ 0) :
    Builtin.bitXor (d : Int) (([996825010, 642813549, 513874426, 1027748829, 705979059] : List Int).getD (j : Int).toNat 0) = ((pinner t d j : Nat) : Int) := by
  rw [gens_cast hj, xor_nat]
  rw [Int.toNat_natCast, fdiv_pow, band1] at h
  unfold pinner
  rw [if_pos (by omega)]
theorem inner_off {t d j : Nat} (h : Builtin.bitAnd ((t : Int).fdiv (2 ^ (j : Int).toNat)) 1 = 0) : Builtin.bitXor (d : Int) 0 = ((pinner t d j : Nat) : Int) := by
  have e := xor_nat d 0
  rw [Int.toNat_natCast, fdiv_pow, band1] at h
  unfold pinner
  rw [if_neg (by omega)]
  exact e

set_option maxHeartbeats 4000000 in
theorem polymod {f : Addr} (hf : f = 35 ∨ f = 69) {w : World} {A : Around} {s : Shared} {mg mb : Str → Option Value} {l : Addr} {vs : List Value} {ns : List Nat} {Q E : Value → Shared → Prop}
   (hA : A.handled = none) (hroom : A.depth < 900) (G : Gd w mg mb s.heap) (hl : s.heap.IsList l vs.toArray) (hi : NatsAre vs ns)
   (hQ : ∀ h' tk t, Ext s.heap h' → Q (.int (pm ns : Nat) t) { s with heap := h', toks := tk }) :
   wpAny (model PR w) A (call (.ref f) [.ref l]) Q E s := by
  rcases hf with rfl | rfl
  all_goals (
    refine wpAny_call (enter [("values", .ref l)] (by simp only [recursionLimit]; omega) G rfl rfl rfl (by decide) (locs rfl) rfl rfl rfl (fun h₁ L N₁ k₁ hL G₁ => ?_))
    have hl₁ : h₁.IsList l vs.toArray := list_ext hl k₁
    have hL' : 114 ≤ L := Nat.le_trans G.size hL
    walk_at "go"
    refine Then.mk fun g h₂ k₂ _ P₂ => ?_
    have N₂ := N₁.keeps k₂
    walk_at "go"
    refine Then.mk fun h₃ N₃ b₃ => ?_
    walk_at "go"
    refine Then.mk fun h₄ N₄ b₄ => ?_
    have hl₄ : h₄.IsList l vs.toArray := list_but N₃ b₄ (list_but N₂ b₃ (list_ext hl₁ k₂))
    have P₄ : h₄.IsList g _ := list_but N₃ b₄ (list_but N₂ b₃ P₂.isList)
    have G₄ := ((G₁.keeps k₂).but b₃ hL').but b₄ hL'
    try dsimp only
    walk1
    refine wpAny_For ?_
    walk1
    refine forList (by exact hA) hl₄ N₄ rfl rfl rfl (fun i m => m "generator" = some (.ref g) ∧ ∃ t, m "chk" = some (.int (((ns.take i).foldl pstep 1 : Nat) : Int) t)) ?_
      (fun i v m₅ h₅ tk₅ hv hJ N₅ k₅ => ?_) (fun h₆ tk₆ m₆ N₆ hJ k₆ => ?_)
    · exact ⟨rfl, _, rfl⟩
    · obtain ⟨n, t, hn, rfl⟩ := hi.get hv
      obtain ⟨hg, tc, hc⟩ := hJ
      have G₅ := G₄.but k₅ hL'
      have P₅ := list_but N₄ k₅ P₄
      rw [foldl_take_succ ns i hn]
      generalize (ns.take i).foldl pstep 1 = c at hc ⊢
      walk_at "go"
      refine Then.mk fun h₆ N₆ b₆ => ?_
      rw [fdiv_pow] at N₆
      walk_at "go"
      rw [band25]
      refine lshift_int_small (by decide) (by decide) (by omega) ?_
      walk_at "go"
      rw [mid_cast]
      refine Then.mk fun h₇ N₇ b₇ => ?_
      have G₇ := (G₅.but b₆ hL').but b₇ hL'
      have P₇ := list_but N₆ b₇ (list_but N₅ b₆ P₅)
      try dsimp only
      walk1
      refine wpAny_For ?_
      walk_at "go"
      refine Then.mk fun r h₈ t₁ t₂ t₃ k₈ hr => ?_
      have N₈ := N₇.keeps k₈
      have G₈ := G₇.keeps k₈
      have P₈ := list_ext P₇ k₈
      try dsimp only
      have e5 : (5 : Int) = ((5 : Nat) : Int) := rfl
      rw [e5] at hr
      refine forRange (by exact hA) hr (by decide) N₈ rfl rfl rfl (fun j m => m "generator" = some (.ref g) ∧ (∃ t, m "top" = some (.int ((c / 2 ^ 25 : Nat) : Int) t)) ∧ ∃ t, m "chk" = some (.int (((List.range j).foldl (pinner (c / 2 ^ 25)) (pmid c n) : Nat) : Int) t)) ?_
        (fun j tj m₉ h₉ tk₉ hj hJ N₉ k₉ => ?_) (fun h₉ tk₉ m₉ N₉ hJ k₉ => ?_)
      · exact ⟨hg, ⟨_, rfl⟩, _, rfl⟩
      · obtain ⟨hg', ⟨tt, htop⟩, tc', hc'⟩ := hJ
        rw [List.range_succ, List.foldl_append]
        generalize (List.range j).foldl (pinner (c / 2 ^ 25)) (pmid c n) = d at hc' ⊢
        have G₉ := G₈.but k₉ hL'
        have P₉ := list_but N₈ k₉ P₈
        walk_at "go"
        · rename_i hb _
          refine Then.mk fun h N b => ?_
          rw [inner_on hj hb] at N
          exact wpAny_execs_nil ⟨rfl, _, _, _, rfl, b, N, hg', ⟨_, htop⟩, _, rfl⟩
        · rename_i hb
          walk_at "go"
          refine Then.mk fun h N b => ?_
          rw [inner_off hb] at N
          exact wpAny_execs_nil ⟨rfl, _, _, _, rfl, b, N, hg', ⟨_, htop⟩, _, rfl⟩
      · obtain ⟨hg', ⟨tt, htop⟩, tc', hc'⟩ := hJ
        dsimp only
        exact wpAny_execs_nil ⟨rfl, _, _, _, rfl, ((b₆.trans b₇).trans k₈.but).trans k₉, N₉, hg', _, hc'⟩
    · obtain ⟨hg, tc, hc⟩ := hJ
      dsimp only
      rw [hi.length, List.take_length] at hc
      walk_at "go"
      exact hQ _ _ _ (fun b o e => k₆ b o (Nat.ne_of_lt (Nat.lt_of_lt_of_le (Heap.lt_size e) hL)) (b₄ b o (Nat.ne_of_lt (Nat.lt_of_lt_of_le (Heap.lt_size e) hL)) (b₃ b o (Nat.ne_of_lt (Nat.lt_of_lt_of_le (Heap.lt_size e) hL)) (k₂ b o (k₁ b o e))))))
end Mine

namespace Mine
def hx (l : List Nat) : List Nat := l.map (· / 2 ^ 5) ++ [0] ++ l.map (· % 2 ^ 5)
theorem band31 (c : Nat) : Builtin.bitAnd (c : Int) 31 = ((c % 2 ^ 5 : Nat) : Int) := by
  have := and_nat c 31
  rw [show (31 : Nat) = 2 ^ 5 - 1 from rfl, Nat.and_two_pow_sub_one_eq_mod] at this
  exact this
theorem NatsAre.append : ∀ {vs ws : List Value} {ns ms : List Nat}, NatsAre vs ns → NatsAre ws ms → NatsAre (vs ++ ws) (ns ++ ms)
  | _, _, _, _, .nil, h => h
  | _, _, _, _, .cons n t r, h => .cons n t (r.append h)
theorem nats_of_paired {α : Type} {f : α → Nat} : ∀ {as : List α} {ys : List Value}, Paired (fun a r => ∃ t, r = .int ((f a : Nat) : Int) t) as ys → NatsAre ys (as.map f)
  | _, _, .nil => .nil
  | _, _, .cons ⟨t, e⟩ r => by subst e; exact .cons _ t (nats_of_paired r)

set_option maxHeartbeats 4000000 in
theorem hrp_expand {f : Addr} (hf : f = 40 ∨ f = 74) {w : World} {A : Around} {s : Shared} {mg mb : Str → Option Value} {y : Str} {t : Tok} {Q E : Value → Shared → Prop}
   (hA : A.handled = none) (hroom : A.depth < 900) (G : Gd w mg mb s.heap) (hsz : y.cps.size ≤ 1000)
   (hQ : ∀ h' tk l vs, Ext s.heap h' → s.heap.get? l = none → h'.PlainList l vs.toArray → NatsAre vs (hx y.cps.toList) → Q (.ref l) { s with heap := h', toks := tk }) :
   wpAny (model PR w) A (call (.ref f) [.str y t]) Q E s := by
  rcases hf with rfl | rfl
  all_goals (
    refine wpAny_call (enter [("hrp", .str y t)] (by simp only [recursionLimit]; omega) G rfl rfl rfl (by decide) (locs rfl) rfl rfl rfl (fun h₁ L N₁ k₁ hL G₁ => ?_))
    walk_at "go"
    refine Then.mk (compStr (fun c r => ∃ t, r = .int ((c / 2 ^ 5 : Nat) : Int) t) (by exact hA) rfl (by decide) rfl (by decide) rfl ?_)
    walk1
    refine ⟨y, t, rfl, by rw [sizeLine_eq]; omega, ?_, ?_⟩
    · intro C c u s₃ m₃ hc N₃ hm k₃
      have G₃ := G₁.keeps k₃
      walk_at "go"
      exact Then.mk ⟨⟨_, by rw [← fdiv_pow]; rfl⟩, _, _, rfl, Ext.refl _⟩
    · intro D h₂ tk₂ ys k₂ hD P₂ hp₂
      try dsimp only at k₂ hD
      have N₂ := N₁.keeps k₂
      have G₂ := G₁.keeps k₂
      walk_at "go"
      refine Then.mk fun a h₃ k₃ na P₃ => ?_
      refine addListsX (vs := ys.toList) (list_ext P₂.isList k₃) P₃.isList (by have := hp₂.length; simp only [Array.length_toList, List.length_cons, List.length_nil] at this ⊢; rw [sizeLine_eq]; omega) fun b h₄ k₄ nb P₄ => ?_
      have N₄ := (N₂.keeps k₃).keeps k₄
      have G₄ := (G₂.keeps k₃).keeps k₄
      try dsimp only
      walk_at "go"
      refine Then.mk (compStr (fun c r => ∃ t, r = .int ((c % 2 ^ 5 : Nat) : Int) t) (by exact hA) rfl (by decide) rfl (by decide) rfl ?_)
      walk1
      refine ⟨y, t, rfl, by rw [sizeLine_eq]; omega, ?_, ?_⟩
      · intro C c u s₃ m₃ hc N₃ hm k₃
        have G₃ := G₄.keeps k₃
        walk_at "go"
        exact Then.mk ⟨⟨_, by rw [← band31]⟩, _, _, rfl, Ext.refl _⟩
      · intro D' h₅ tk₅ zs k₅ hD' P₅ hp₅
        refine addListsX (vs := ys.toList ++ [Value.int 0 tk₂]) (ws := zs.toList) (list_ext P₄.isList k₅) P₅.isList (by have l2 := hp₂.length; have l5 := hp₅.length; simp only [Array.length_toList, List.length_append, List.length_cons, List.length_nil] at l2 l5 ⊢; rw [sizeLine_eq]; omega) fun r h₆ k₆ nr P₆ => ?_
        have kk : Ext s.heap h₆ := k₁.trans (k₂.trans (k₃.trans (k₄.trans (k₅.trans k₆))))
        refine hQ h₆ _ r _ kk ?_ P₆ (((nats_of_paired hp₂).append (.cons 0 _ .nil)).append (nats_of_paired hp₅))
        cases e : s.heap.get? r with
        | none => rfl
        | some o => rw [k₅ _ _ (k₄ _ _ (k₃ _ _ (k₂ _ _ (k₁ _ _ e))))] at nr; cases nr)
end Mine

namespace Mine
theorem fresh_of {h h' : Heap} {a : Addr} (k : Ext h h') (e : h'.get? a = none) : h.get? a = none := by
  cases q : h.get? a with
  | none => rfl
  | some o => rw [k _ _ q] at e; cases e

theorem hx_length (l : List Nat) : (hx l).length = 2 * l.length + 1 := by simp [hx]; omega

set_option maxHeartbeats 4000000 in
theorem verify2 {w : World} {A : Around} {s : Shared} {mg mb : Str → Option Value} {y : Str} {t : Tok} {l : Addr} {vs : List Value} {ds : List Nat} {Q E : Value → Shared → Prop}
   (hA : A.handled = none) (hroom : A.depth < 890) (G : Gd w mg mb s.heap) (hsz : y.cps.size ≤ 1000) (hl : s.heap.IsList l vs.toArray) (hi : NatsAre vs ds) (hds : ds.length ≤ 1000)
   (hQ : ∀ h' tk, Ext s.heap h' → Q (.bool (((pm (hx y.cps.toList ++ ds) : Nat) : Int) == 1)) { s with heap := h', toks := tk }) :
   wpAny (model PR w) A (call (.ref 81) [.str y t, .ref l]) Q E s := by
  refine wpAny_call (enter [("hrp", .str y t), ("data", .ref l)] (by simp only [recursionLimit]; omega) G rfl rfl rfl (by decide) (locs rfl) rfl rfl rfl (fun h₁ L N₁ k₁ hL G₁ => ?_))
  walk_at "go"
  refine Then.mk ?_
  refine hrp_expand (.inr rfl) (by exact hA) (by show A.depth + 1 < 900; omega) G₁ hsz fun h₂ tk₂ a as k₂ na P₂ ha => ?_
  try dsimp only at k₂ na
  have G₂ := G₁.keeps k₂
  have N₂ := N₁.keeps k₂
  have la := ha.length
  rw [hx_length] at la
  have li := hi.length
  walk_at "go"
  refine Then.mk ?_
  refine listCopyX (list_ext hl (k₁.trans k₂)) (by rw [sizeLine_eq]; omega) fun b h₃ k₃ nb P₃ => ?_
  have G₃ := G₂.keeps k₃
  try dsimp only
  walk_at "go"
  refine Then.mk ?_
  refine addListsX (list_ext P₂.isList k₃) P₃.isList (by rw [sizeLine_eq]; simp only [Array.length_toList] at la ⊢; omega) fun c h₄ k₄ nc P₄ => ?_
  have G₄ := G₃.keeps k₄
  try dsimp only
  walk_at "go"
  refine Then.mk ?_
  refine polymod (.inr rfl) (by exact hA) (by show A.depth + 1 < 900; omega) G₄ P₄.isList (ha.append hi) fun h₅ tk₅ t₅ k₅ => ?_
  try dsimp only
  walk_at "go"
  exact hQ _ _ (k₁.trans (k₂.trans (k₃.trans (k₄.trans k₅))))
end Mine

namespace Mine
theorem xor1 (n : Nat) : Builtin.bitXor (n : Int) 1 = ((n ^^^ 1 : Nat) : Int) := xor_nat n 1
/-- the six signs of a checksum -/
def six (p : Nat) : List Nat := (List.range 6).map fun i => p / 2 ^ (5 * (5 - i)) % 2 ^ 5
def zeros6 : List Nat := [0, 0, 0, 0, 0, 0]
theorem six_elt (p i : Nat) (hi : i < 6) : Builtin.bitAnd ((p : Int).fdiv (2 ^ ((5 : Int) * (5 - (i : Int))).toNat)) 31 = ((p / 2 ^ (5 * (5 - i)) % 2 ^ 5 : Nat) : Int) := by
  have e : ((5 : Int) * (5 - (i : Int))).toNat = 5 * (5 - i) := by omega
  rw [e, fdiv_pow, band31]

set_option maxHeartbeats 4000000 in
theorem create2 {w : World} {A : Around} {s : Shared} {mg mb : Str → Option Value} {y : Str} {t : Tok} {l : Addr} {vs : List Value} {ds : List Nat} {Q E : Value → Shared → Prop}
   (hA : A.handled = none) (hroom : A.depth < 890) (G : Gd w mg mb s.heap) (hsz : y.cps.size ≤ 1000) (hl : s.heap.IsList l vs.toArray) (hi : NatsAre vs ds) (hds : ds.length ≤ 1000)
   (hQ : ∀ h' tk l' vs', Ext s.heap h' → s.heap.get? l' = none → h'.PlainList l' vs'.toArray → NatsAre vs' (six (pm (hx y.cps.toList ++ ds ++ zeros6) ^^^ 1)) → Q (.ref l') { s with heap := h', toks := tk }) :
   wpAny (model PR w) A (call (.ref 86) [.str y t, .ref l]) Q E s := by
  refine wpAny_call (enterC [("hrp", .str y t), ("data", .ref l)] "polymod" (by simp only [recursionLimit]; omega) G rfl rfl rfl (fun _ => rfl) (by intro x hx; left; revert x; exact locs rfl) rfl rfl rfl (fun h₁ L tk₁ N₁ C₁ k₁ hL G₁ => ?_))
  have hL' : 114 ≤ L := Nat.le_trans G.size hL
  walk_at "go"
  refine Then.mk ?_
  refine hrp_expand (.inr rfl) (by exact hA) (by show A.depth + 1 < 900; omega) G₁ hsz fun h₂ tk₂ a as k₂ na P₂ ha => ?_
  try dsimp only at k₂ na
  have G₂ := G₁.keeps k₂
  have N₂ := N₁.keeps k₂
  have la := ha.length
  rw [hx_length] at la
  have li := hi.length
  walk_at "go"
  refine Then.mk ?_
  refine listCopyX (list_ext hl (k₁.trans k₂)) (by rw [sizeLine_eq]; omega) fun b h₃ k₃ nb P₃ => ?_
  have G₃ := G₂.keeps k₃
  try dsimp only
  walk_at "go"
  refine Then.mk ?_
  refine addListsX (list_ext P₂.isList k₃) P₃.isList (by rw [sizeLine_eq]; simp only [Array.length_toList] at la ⊢; omega) fun c h₄ k₄ nc P₄ => ?_
  have G₄ := G₃.keeps k₄
  have N₄ := (N₂.keeps k₃).keeps k₄
  have C₄ := ((cell_ext (cell_ext C₁ k₂) k₃)).keeps k₄
  try dsimp only
  walk_at "go"
  refine Then.mk fun h₅ N₅ b₅ => ?_
  have G₅ := G₄.but b₅ hL'
  have P₅ := list_but N₄ b₅ P₄.isList
  have C₅ := cell_but C₄ b₅ (Nat.succ_ne_self L)
  walk_at "go"
  refine Then.mk fun z h₆ k₆ nz P₆ => ?_
  have G₆ := G₅.keeps k₆
  walk_at "go"
  refine Then.mk ?_
  refine addListsX (list_ext P₅ k₆) P₆.isList (by rw [sizeLine_eq]; simp only [List.length_append, List.length_cons, List.length_nil, Array.length_toList] at la ⊢; omega) fun d h₇ k₇ nd P₇ => ?_
  have G₇ := G₆.keeps k₇
  have N₇ := (N₅.keeps k₆).keeps k₇
  have C₇ := cell_ext (cell_ext C₅ k₆) k₇
  try dsimp only
  walk_at "go"
  refine Then.mk ?_
  refine polymod (ns := hx y.cps.toList ++ ds ++ zeros6) (.inr rfl) (by exact hA) (by show A.depth + 1 < 900; omega) G₇ P₇.isList ((ha.append hi).append (.cons 0 _ (.cons 0 _ (.cons 0 _ (.cons 0 _ (.cons 0 _ (.cons 0 _ .nil))))))) fun h₈ tk₈ t₈ k₈ => ?_
  generalize hp : pm (hx y.cps.toList ++ ds ++ zeros6) = q at *
  have G₈ := G₇.keeps k₈
  have N₈ := N₇.keeps k₈
  have C₈ := cell_ext C₇ k₈
  try dsimp only
  walk_at "go"
  rw [xor1]
  refine Then.mk fun h₉ C₉ b₉ => ?_
  have G₉ := G₈.but b₉ (Nat.le_succ_of_le hL')
  have N₉ := ns_but N₈ b₉ (Nat.ne_of_lt (Nat.lt_succ_self L))
  walk_at "go"
  refine Then.mk (compRange (fun i r => ∃ t, r = .int (((q ^^^ 1) / 2 ^ (5 * (5 - i)) % 2 ^ 5 : Nat) : Int) t) (by exact hA) rfl (by decide) rfl (by decide) rfl ?_)
  walk_at "go"
  refine Then.mk fun r h₁₀ t₁ t₂ t₃ k₁₀ hr => ?_
  have C₁₀ := cell_ext C₉ k₁₀
  have G₁₀ := G₉.keeps k₁₀
  refine ⟨r, 6, t₁, t₂, t₃, rfl, hr, by rw [sizeLine_eq]; omega, ?_, ?_⟩
  · intro C i tk s₃ m₃ hin N₃ hm k₃
    have G₃ := G₁₀.keeps k₃
    have C₃ := cell_ext C₁₀ k₃
    walk_at "go"
    rw [six_elt _ _ hin]
    exact Then.mk ⟨⟨_, rfl⟩, _, _, rfl, Ext.refl _⟩
  · intro D h₁₁ tk₁₁ ys k₁₁ nD P₁₁ hp₁₁
    have o₄ : Ext s.heap h₄ := k₁.trans (k₂.trans (k₃.trans k₄))
    have o₈ : Ext s.heap h₈ := ((o₄.but_trans b₅ hL).trans k₆).trans (k₇.trans k₈)
    have o₁₀ : Ext s.heap h₁₀ := (o₈.but_trans b₉ (Nat.le_succ_of_le hL)).trans k₁₀
    exact hQ h₁₁ _ D ys.toList (o₁₀.trans k₁₁) (fresh_of o₁₀ nD) P₁₁ (nats_of_paired hp₁₁)
end Mine

namespace Mine
def VerIs (p : Nat) (v : Value) : Prop := (p = 1 ∧ ∃ t, v = .int 1 t) ∨ (p = 734539939 ∧ ∃ t, v = .int 2 t) ∨ (p ≠ 1 ∧ p ≠ 734539939 ∧ v = .none)

set_option maxHeartbeats 4000000 in
theorem verify1 {w : World} {A : Around} {s : Shared} {mg mb : Str → Option Value} {y : Str} {t : Tok} {l : Addr} {vs : List Value} {ds : List Nat} {Q E : Value → Shared → Prop}
   (hA : A.handled = none) (hroom : A.depth < 890) (G : Gd w mg mb s.heap) (hsz : y.cps.size ≤ 1000) (hl : s.heap.IsList l vs.toArray) (hi : NatsAre vs ds) (hds : ds.length ≤ 1000)
   (hQ : ∀ h' tk v, Ext s.heap h' → VerIs (pm (hx y.cps.toList ++ ds)) v → Q v { s with heap := h', toks := tk }) :
   wpAny (model PR w) A (call (.ref 47) [.str y t, .ref l]) Q E s := by
  refine wpAny_call (enter [("hrp", .str y t), ("data", .ref l)] (by simp only [recursionLimit]; omega) G rfl rfl rfl (by decide) (locs rfl) rfl rfl rfl (fun h₁ L N₁ k₁ hL G₁ => ?_))
  have hL' : 114 ≤ L := Nat.le_trans G.size hL
  walk_at "go"
  refine Then.mk ?_
  refine hrp_expand (.inl rfl) (by exact hA) (by show A.depth + 1 < 900; omega) G₁ hsz fun h₂ tk₂ a as k₂ na P₂ ha => ?_
  try dsimp only at k₂ na
  have G₂ := G₁.keeps k₂
  have N₂ := N₁.keeps k₂
  have la := ha.length
  rw [hx_length] at la
  have li := hi.length
  walk_at "go"
  refine Then.mk ?_
  refine addListsX P₂.isList (list_ext hl (k₁.trans k₂)) (by rw [sizeLine_eq]; simp only [Array.length_toList] at la ⊢; omega) fun c h₄ k₄ nc P₄ => ?_
  have G₄ := G₂.keeps k₄
  have N₄ := N₂.keeps k₄
  try dsimp only
  walk_at "go"
  refine Then.mk ?_
  refine polymod (.inl rfl) (by exact hA) (by show A.depth + 1 < 900; omega) G₄ P₄.isList (ha.append hi) fun h₅ tk₅ t₅ k₅ => ?_
  generalize hp : pm (hx y.cps.toList ++ ds) = q at *
  have N₅ := N₄.keeps k₅
  have G₅ := G₄.keeps k₅
  try dsimp only
  walk_at "go"
  refine Then.mk fun h₆ N₆ b₆ => ?_
  have G₆ := G₅.but b₆ hL'
  have o₆ : Ext s.heap h₆ := (k₁.trans (k₂.trans (k₄.trans k₅))).but_trans b₆ hL
  walk_at "go"
  · rename_i h1
    exact hQ _ _ _ o₆ (.inl ⟨by omega, _, rfl⟩)
  · rename_i h1
    walk_at "go"
    · rename_i h2
      exact hQ _ _ _ o₆ (.inr (.inl ⟨by omega, _, rfl⟩))
    · rename_i h2
      walk_at "go"
      exact hQ _ _ _ o₆ (.inr (.inr ⟨by omega, by omega, rfl⟩))
end Mine

namespace Mine
def cst (e : Int) : Nat := if e = 2 then 734539939 else 1

set_option maxHeartbeats 4000000 in
theorem create1 {w : World} {A : Around} {s : Shared} {mg mb : Str → Option Value} {y : Str} {e : Int} {te t : Tok} {l : Addr} {vs : List Value} {ds : List Nat} {Q E : Value → Shared → Prop}
   (hA : A.handled = none) (hroom : A.depth < 890) (G : Gd w mg mb s.heap) (hsz : y.cps.size ≤ 1000) (hl : s.heap.IsList l vs.toArray) (hi : NatsAre vs ds) (hds : ds.length ≤ 1000)
   (hQ : ∀ h' tk l' vs', Ext s.heap h' → s.heap.get? l' = none → h'.PlainList l' vs'.toArray → NatsAre vs' (six (pm (hx y.cps.toList ++ ds ++ zeros6) ^^^ cst e)) → Q (.ref l') { s with heap := h', toks := tk }) :
   wpAny (model PR w) A (call (.ref 52) [.int e te, .str y t, .ref l]) Q E s := by
  refine wpAny_call (enterC [("encoding", .int e te), ("hrp", .str y t), ("data", .ref l)] "polymod" (by simp only [recursionLimit]; omega) G rfl rfl rfl (fun _ => rfl) (by intro x hx; left; revert x; exact locs rfl) rfl rfl rfl (fun h₁ L tk₁ N₁ C₁ k₁ hL G₁ => ?_))
  have hL' : 114 ≤ L := Nat.le_trans G.size hL
  walk_at "go"
  refine Then.mk ?_
  refine hrp_expand (.inl rfl) (by exact hA) (by show A.depth + 1 < 900; omega) G₁ hsz fun h₂ tk₂ a as k₂ na P₂ ha => ?_
  try dsimp only at k₂ na
  have G₂ := G₁.keeps k₂
  have N₂ := N₁.keeps k₂
  have la := ha.length
  rw [hx_length] at la
  have li := hi.length
  walk_at "go"
  refine Then.mk ?_
  refine addListsX P₂.isList (list_ext hl (k₁.trans k₂)) (by rw [sizeLine_eq]; simp only [Array.length_toList] at la ⊢; omega) fun c h₄ k₄ nc P₄ => ?_
  have G₄ := G₂.keeps k₄
  have N₄ := N₂.keeps k₄
  have C₄ := cell_ext (cell_ext C₁ k₂) k₄
  try dsimp only
  walk_at "go"
  refine Then.mk fun h₅ N₅ b₅ => ?_
  have G₅ := G₄.but b₅ hL'
  have P₅ := list_but N₄ b₅ P₄.isList
  have C₅ := cell_but C₄ b₅ (Nat.succ_ne_self L)
  walk_at "go"
  · rename_i he
    refine Then.mk fun h₆ N₆ b₆ => ?_
    have hk : (734539939 : Int) = ((cst e : Nat) : Int) := by rw [cst, if_pos he]; rfl
    rw [hk] at N₆
    have G₆ := G₅.but b₆ hL'
    have P₆ := list_but N₅ b₆ P₅
    have C₆ := cell_but C₅ b₆ (Nat.succ_ne_self L)
    walk_at "go"
    refine Then.mk fun z h₇ k₇ nz P₇ => ?_
    have G₇ := G₆.keeps k₇
    walk_at "go"
    refine Then.mk ?_
    refine addListsX (list_ext P₆ k₇) P₇.isList (by rw [sizeLine_eq]; simp only [List.length_append, List.length_cons, List.length_nil, Array.length_toList] at la ⊢; omega) fun d h₈ k₈ nd P₈ => ?_
    have G₈ := G₇.keeps k₈
    have N₈ := (N₆.keeps k₇).keeps k₈
    have C₈ := cell_ext (cell_ext C₆ k₇) k₈
    try dsimp only
    walk_at "go"
    refine Then.mk ?_
    refine polymod (ns := hx y.cps.toList ++ ds ++ zeros6) (.inl rfl) (by exact hA) (by show A.depth + 1 < 900; omega) G₈ P₈.isList ((ha.append hi).append (.cons 0 _ (.cons 0 _ (.cons 0 _ (.cons 0 _ (.cons 0 _ (.cons 0 _ .nil))))))) fun h₉ tk₉ t₉ k₉ => ?_
    generalize hp : pm (hx y.cps.toList ++ ds ++ zeros6) = q at *
    have G₉ := G₈.keeps k₉
    have N₉ := N₈.keeps k₉
    have C₉ := cell_ext C₈ k₉
    try dsimp only
    walk_at "go"
    rw [xor_nat]
    refine Then.mk fun h₁₀ C₁₀ b₁₀ => ?_
    have G₁₀ := G₉.but b₁₀ (Nat.le_succ_of_le hL')
    have N₁₀ := ns_but N₉ b₁₀ (Nat.ne_of_lt (Nat.lt_succ_self L))
    walk_at "go"
    refine Then.mk (compRange (fun i r => ∃ t, r = .int (((q ^^^ cst e) / 2 ^ (5 * (5 - i)) % 2 ^ 5 : Nat) : Int) t) (by exact hA) rfl (by decide) rfl (by decide) rfl ?_)
    walk_at "go"
    refine Then.mk fun r h₁₁ t₁ t₂ t₃ k₁₁ hr => ?_
    have C₁₁ := cell_ext C₁₀ k₁₁
    have G₁₁ := G₁₀.keeps k₁₁
    refine ⟨r, 6, t₁, t₂, t₃, rfl, hr, by rw [sizeLine_eq]; omega, ?_, ?_⟩
    · intro C i tk s₃ m₃ hin N₃ hm k₃
      have G₃ := G₁₁.keeps k₃
      have C₃ := cell_ext C₁₁ k₃
      walk_at "go"
      rw [six_elt _ _ hin]
      exact Then.mk ⟨⟨_, rfl⟩, _, _, rfl, Ext.refl _⟩
    · intro D h₁₂ tk₁₂ ys k₁₂ nD P₁₂ hp₁₂
      have o₄ : Ext s.heap h₄ := k₁.trans (k₂.trans k₄)
      have o₉ : Ext s.heap h₉ := (((o₄.but_trans b₅ hL).but_trans b₆ hL).trans k₇).trans (k₈.trans k₉)
      have o₁₁ : Ext s.heap h₁₁ := (o₉.but_trans b₁₀ (Nat.le_succ_of_le hL)).trans k₁₁
      exact hQ h₁₂ _ D ys.toList (o₁₁.trans k₁₂) (fresh_of o₁₁ nD) P₁₂ (nats_of_paired hp₁₂)
  · rename_i he
    walk_at "go"
    refine Then.mk fun h₆ N₆ b₆ => ?_
    have hk : (1 : Int) = ((cst e : Nat) : Int) := by rw [cst, if_neg he]; rfl
    rw [hk] at N₆
    have G₆ := G₅.but b₆ hL'
    have P₆ := list_but N₅ b₆ P₅
    have C₆ := cell_but C₅ b₆ (Nat.succ_ne_self L)
    walk_at "go"
    refine Then.mk fun z h₇ k₇ nz P₇ => ?_
    have G₇ := G₆.keeps k₇
    walk_at "go"
    refine Then.mk ?_
    refine addListsX (list_ext P₆ k₇) P₇.isList (by rw [sizeLine_eq]; simp only [List.length_append, List.length_cons, List.length_nil, Array.length_toList] at la ⊢; omega) fun d h₈ k₈ nd P₈ => ?_
    have G₈ := G₇.keeps k₈
    have N₈ := (N₆.keeps k₇).keeps k₈
    have C₈ := cell_ext (cell_ext C₆ k₇) k₈
    try dsimp only
    walk_at "go"
    refine Then.mk ?_
    refine polymod (ns := hx y.cps.toList ++ ds ++ zeros6) (.inl rfl) (by exact hA) (by show A.depth + 1 < 900; omega) G₈ P₈.isList ((ha.append hi).append (.cons 0 _ (.cons 0 _ (.cons 0 _ (.cons 0 _ (.cons 0 _ (.cons 0 _ .nil))))))) fun h₉ tk₉ t₉ k₉ => ?_
    generalize hp : pm (hx y.cps.toList ++ ds ++ zeros6) = q at *
    have G₉ := G₈.keeps k₉
    have N₉ := N₈.keeps k₉
    have C₉ := cell_ext C₈ k₉
    try dsimp only
    walk_at "go"
    rw [xor_nat]
    refine Then.mk fun h₁₀ C₁₀ b₁₀ => ?_
    have G₁₀ := G₉.but b₁₀ (Nat.le_succ_of_le hL')
    have N₁₀ := ns_but N₉ b₁₀ (Nat.ne_of_lt (Nat.lt_succ_self L))
    walk_at "go"
    refine Then.mk (compRange (fun i r => ∃ t, r = .int (((q ^^^ cst e) / 2 ^ (5 * (5 - i)) % 2 ^ 5 : Nat) : Int) t) (by exact hA) rfl (by decide) rfl (by decide) rfl ?_)
    walk_at "go"
    refine Then.mk fun r h₁₁ t₁ t₂ t₃ k₁₁ hr => ?_
    have C₁₁ := cell_ext C₁₀ k₁₁
    have G₁₁ := G₁₀.keeps k₁₁
    refine ⟨r, 6, t₁, t₂, t₃, rfl, hr, by rw [sizeLine_eq]; omega, ?_, ?_⟩
    · intro C i tk s₃ m₃ hin N₃ hm k₃
      have G₃ := G₁₁.keeps k₃
      have C₃ := cell_ext C₁₁ k₃
      walk_at "go"
      rw [six_elt _ _ hin]
      exact Then.mk ⟨⟨_, rfl⟩, _, _, rfl, Ext.refl _⟩
    · intro D h₁₂ tk₁₂ ys k₁₂ nD P₁₂ hp₁₂
      have o₄ : Ext s.heap h₄ := k₁.trans (k₂.trans k₄)
      have o₉ : Ext s.heap h₉ := (((o₄.but_trans b₅ hL).but_trans b₆ hL).trans k₇).trans (k₈.trans k₉)
      have o₁₁ : Ext s.heap h₁₁ := (o₉.but_trans b₁₀ (Nat.le_succ_of_le hL)).trans k₁₁
      exact hQ h₁₂ _ D ys.toList (o₁₁.trans k₁₂) (fresh_of o₁₁ nD) P₁₂ (nats_of_paired hp₁₂)
end Mine

namespace Mine
/-- the table of signs -/
def CH : List Nat := [113, 112, 122, 114, 121, 57, 120, 56, 103, 102, 50, 116, 118, 100, 119, 48, 115, 51, 106, 110, 53, 52, 107, 104, 99, 101, 54, 109, 117, 97, 55, 108]
theorem charset_T : Str.ofString "qpzry9x8gf2tvdw0s3jn54khce6mua7l" = T CH := by decide +kernel
theorem one_T : Str.ofString "1" = T [49] := by decide +kernel
theorem none_T : Str.ofString "" = T [] := by decide +kernel
def chr (d : Nat) : Nat := CH.getD d 0
theorem chr_at {d : Nat} (h : d < 32) : CH[d]? = some (chr d) := by
  have h' : d < CH.length := h
  unfold chr
  rw [List.getD_eq_getElem?_getD, List.getElem?_eq_getElem h']
  rfl
def enc (hr ds ck : List Nat) : List Nat := hr ++ [49] ++ (ds ++ ck).map chr
theorem strs_of_paired {ns : List Nat} : ∀ {vs ys : List Value}, NatsAre vs ns → Paired (fun v r => ∀ (d : Nat) t, v = .int (d : Int) t → ∃ u, r = .str (T [chr d]) u) vs ys → StrsAre ys (ns.map fun d => T [chr d])
  | _, _, .nil, .nil => .nil
  | _, _, .cons n t h, .cons f r => by
    obtain ⟨u, e⟩ := f n t rfl
    subst e
    exact .cons _ u (strs_of_paired h r)
theorem joined_foldl (l : List Nat) : ∀ acc : Array Nat, (l.map fun d => T [chr d]).foldl (fun acc p => acc ++ (T []).cps ++ p.cps) acc = acc ++ (l.map chr).toArray := by
  induction l with
  | nil => intro acc; simp
  | cons a r ih => intro acc; rw [List.map_cons, List.foldl_cons, ih]; simp [T]
theorem joinT (l : List Nat) : Txt.join (T []) (l.map fun d => T [chr d]) = T (l.map chr) := by
  show Builtin.Str.glued (T []) _ = _
  unfold Builtin.Str.glued
  cases l with
  | nil => rfl
  | cons a r =>
    rw [List.map_cons, List.drop_succ_cons, List.drop_zero, List.headD_cons, joined_foldl]
    simp [T]
theorem six_length (p : Nat) : (six p).length = 6 := by simp [six]
theorem six_lt (p : Nat) : ∀ d ∈ six p, d < 32 := by
  intro d hd
  simp only [six, List.mem_map] at hd
  obtain ⟨i, _, rfl⟩ := hd
  exact Nat.mod_lt _ (by decide)
theorem nats_mem {ns : List Nat} : ∀ {vs : List Value}, NatsAre vs ns → ∀ v ∈ vs, ∃ d t, d ∈ ns ∧ v = .int ((d : Nat) : Int) t
  | _, .nil, _, h => nomatch h
  | _, .cons n t r, v, h => by
    rcases List.mem_cons.mp h with e | h
    · exact ⟨n, t, .head _, e⟩
    · obtain ⟨d, t, hd, e⟩ := nats_mem r v h
      exact ⟨d, t, .tail _ hd, e⟩
def ck2 (hr ds : List Nat) : List Nat := six (pm (hx hr ++ ds ++ zeros6) ^^^ 1)
def enc2 (hr ds : List Nat) : List Nat := enc hr ds (ck2 hr ds)

set_option maxHeartbeats 4000000 in
theorem encode2 {w : World} {A : Around} {s : Shared} {mg mb : Str → Option Value} {hr : List Nat} {t : Tok} {l : Addr} {vs : List Value} {ds : List Nat} {Q E : Value → Shared → Prop}
   (hA : A.handled = none) (hroom : A.depth < 880) (G : Gd w mg mb s.heap) (hsz : hr.length ≤ 1000) (hl : s.heap.IsList l vs.toArray) (hi : NatsAre vs ds) (hds : ds.length ≤ 1000) (h32 : ∀ d ∈ ds, d < 32)
   (hQ : ∀ h' tk t', Ext s.heap h' → Q (.str (T (enc2 hr ds)) t') { s with heap := h', toks := tk }) :
   wpAny (model PR w) A (call (.ref 91) [.str (T hr) t, .ref l]) Q E s := by
  refine wpAny_call (enter [("hrp", .str (T hr) t), ("data", .ref l)] (by simp only [recursionLimit]; omega) G rfl rfl rfl (by decide) (locs rfl) rfl rfl rfl (fun h₁ L N₁ k₁ hL G₁ => ?_))
  have hL' : 114 ≤ L := Nat.le_trans G.size hL
  have li := hi.length
  have hsz' : (T hr).cps.size ≤ 1000 := by rw [T_size]; exact hsz
  walk_at "go"
  refine Then.mk ?_
  refine listCopyX (list_ext hl k₁) (by rw [sizeLine_eq]; omega) fun a h₂ k₂ na P₂ => ?_
  have G₂ := G₁.keeps k₂
  have N₂ := N₁.keeps k₂
  try dsimp only
  walk_at "go"
  refine Then.mk ?_
  refine create2 (by exact hA) (by show A.depth + 1 < 890; omega) G₂ hsz' (list_ext hl (k₁.trans k₂)) hi hds fun h₃ tk₃ b bs k₃ nb P₃ hb => ?_
  have G₃ := G₂.keeps k₃
  have N₃ := N₂.keeps k₃
  have lb := hb.length
  rw [six_length] at lb
  try dsimp only
  walk_at "go"
  refine Then.mk ?_
  refine addListsX (list_ext P₂.isList k₃) P₃.isList (by rw [sizeLine_eq]; omega) fun c h₄ k₄ nc P₄ => ?_
  have G₄ := G₃.keeps k₄
  have N₄ := N₃.keeps k₄
  try dsimp only
  walk_at "go"
  refine Then.mk fun h₅ N₅ b₅ => ?_
  have G₅ := G₄.but b₅ hL'
  have P₅ := list_but N₄ b₅ P₄.isList
  walk_at "go"
  refine Then.mk ?_
  rw [one_T]
  refine PyProof.Rows.add_str (fun t₁ tk₁ => ?_) (by rw [sizeLine_eq, T_len, T_len]; simp only [List.length_cons, List.length_nil]; omega)
  rw [T_append]
  try dsimp only
  walk_at "go"
  refine Then.mk ?_
  have hcs := hi.append hb
  refine compList (fun v r => ∀ (d : Nat) t, v = .int (d : Int) t → ∃ u, r = .str (T [chr d]) u) (by exact hA) rfl (by decide) rfl (by decide) rfl ?_
  walk1
  refine ⟨c, _, rfl, P₅, by rw [sizeLine_eq]; simp only [List.length_append]; omega, ?_, ?_⟩
  · intro C v s₃ m₃ hv N₃ hm k₃
    have G₃ := G₅.keeps k₃
    obtain ⟨d, td, hd, rfl⟩ := nats_mem hcs v hv
    have hd32 : d < 32 := by
      rcases List.mem_append.mp hd with q | q
      · exact h32 d q
      · exact six_lt _ d q
    walk_at "go"
    rw [charset_T]
    refine itemT (chr_at hd32) (by omega) ?_
    refine Then.mk ⟨fun d' t' e => ?_, _, _, rfl, Ext.refl _⟩
    injection e with e1 _
    have : d = d' := by omega
    subst this
    exact ⟨_, rfl⟩
  · intro D h₆ tk₆ ys k₆ nD P₆ hp₆
    walk_at "go"
    refine Then.mk ?_
    rw [none_T]
    have hst := strs_of_paired hcs hp₆
    refine join_list P₆.isList hst ?_ fun t₂ tk₂ => ?_
    · rw [T_len]
      simp only [List.length_nil, Nat.mul_zero, List.map_map]
      have e : ((ds ++ six (pm (hx (T hr).cps.toList ++ ds ++ zeros6) ^^^ 1)).map (Str.length ∘ fun d => T [chr d])) = (ds ++ six (pm (hx (T hr).cps.toList ++ ds ++ zeros6) ^^^ 1)).map fun _ => 1 := by
        refine List.map_congr_left fun d _ => ?_
        show (T [chr d]).length = 1
        rw [T_len]; rfl
      rw [e]
      simp only [List.map_const', List.sum_replicate_nat, List.length_append, six_length]
      omega
    rw [joinT]
    try dsimp only
    walk_at "go"
    refine Then.mk ?_
    refine PyProof.Rows.add_str (fun t₃ tk₃ => ?_) (by rw [sizeLine_eq, T_len, T_len]; simp only [List.length_append, List.length_cons, List.length_nil, List.length_map, six_length]; omega)
    rw [T_append]
    try dsimp only
    have old : Ext s.heap h₆ := ((k₁.trans (k₂.trans (k₃.trans k₄))).but_trans b₅ hL).trans k₆
    exact hQ h₆ _ _ old
end Mine

namespace Mine
def ck1 (e : Int) (hr ds : List Nat) : List Nat := six (pm (hx hr ++ ds ++ zeros6) ^^^ cst e)
def enc1 (e : Int) (hr ds : List Nat) : List Nat := enc hr ds (ck1 e hr ds)

set_option maxHeartbeats 4000000 in
theorem encode1 {w : World} {A : Around} {s : Shared} {mg mb : Str → Option Value} {hr : List Nat} {e : Int} {te t : Tok} {l : Addr} {vs : List Value} {ds : List Nat} {Q E : Value → Shared → Prop}
   (hA : A.handled = none) (hroom : A.depth < 880) (G : Gd w mg mb s.heap) (hsz : hr.length ≤ 1000) (hl : s.heap.IsList l vs.toArray) (hi : NatsAre vs ds) (hds : ds.length ≤ 1000) (h32 : ∀ d ∈ ds, d < 32)
   (hQ : ∀ h' tk t', Ext s.heap h' → Q (.str (T (enc1 e hr ds)) t') { s with heap := h', toks := tk }) :
   wpAny (model PR w) A (call (.ref 57) [.int e te, .str (T hr) t, .ref l]) Q E s := by
  refine wpAny_call (enter [("encoding", .int e te), ("hrp", .str (T hr) t), ("data", .ref l)] (by simp only [recursionLimit]; omega) G rfl rfl rfl (by decide) (locs rfl) rfl rfl rfl (fun h₁ L N₁ k₁ hL G₁ => ?_))
  have hL' : 114 ≤ L := Nat.le_trans G.size hL
  have li := hi.length
  have hsz' : (T hr).cps.size ≤ 1000 := by rw [T_size]; exact hsz
  walk_at "go"
  refine Then.mk ?_
  refine create1 (by exact hA) (by show A.depth + 1 < 890; omega) G₁ hsz' (list_ext hl k₁) hi hds fun h₃ tk₃ b bs k₃ nb P₃ hb => ?_
  have G₃ := G₁.keeps k₃
  have N₃ := N₁.keeps k₃
  have lb := hb.length
  rw [six_length] at lb
  try dsimp only
  walk_at "go"
  refine Then.mk ?_
  refine addListsX (list_ext hl (k₁.trans k₃)) P₃.isList (by rw [sizeLine_eq]; omega) fun c h₄ k₄ nc P₄ => ?_
  have G₄ := G₃.keeps k₄
  have N₄ := N₃.keeps k₄
  try dsimp only
  walk_at "go"
  refine Then.mk fun h₅ N₅ b₅ => ?_
  have G₅ := G₄.but b₅ hL'
  have P₅ := list_but N₄ b₅ P₄.isList
  walk_at "go"
  refine Then.mk ?_
  rw [one_T]
  refine PyProof.Rows.add_str (fun t₁ tk₁ => ?_) (by rw [sizeLine_eq, T_len, T_len]; simp only [List.length_cons, List.length_nil]; omega)
  rw [T_append]
  try dsimp only
  walk_at "go"
  refine Then.mk ?_
  have hcs := hi.append hb
  refine compList (fun v r => ∀ (d : Nat) t, v = .int (d : Int) t → ∃ u, r = .str (T [chr d]) u) (by exact hA) rfl (by decide) rfl (by decide) rfl ?_
  walk1
  refine ⟨c, _, rfl, P₅, by rw [sizeLine_eq]; simp only [List.length_append]; omega, ?_, ?_⟩
  · intro C v s₃ m₃ hv N₃ hm k₃
    have G₃ := G₅.keeps k₃
    obtain ⟨d, td, hd, rfl⟩ := nats_mem hcs v hv
    have hd32 : d < 32 := by
      rcases List.mem_append.mp hd with q | q
      · exact h32 d q
      · exact six_lt _ d q
    walk_at "go"
    rw [charset_T]
    refine itemT (chr_at hd32) (by omega) ?_
    refine Then.mk ⟨fun d' t' q => ?_, _, _, rfl, Ext.refl _⟩
    injection q with e1 _
    have : d = d' := by omega
    subst this
    exact ⟨_, rfl⟩
  · intro D h₆ tk₆ ys k₆ nD P₆ hp₆
    walk_at "go"
    refine Then.mk ?_
    rw [none_T]
    have hst := strs_of_paired hcs hp₆
    refine join_list P₆.isList hst ?_ fun t₂ tk₂ => ?_
    · rw [T_len]
      simp only [List.length_nil, Nat.mul_zero, List.map_map]
      have e' : ((ds ++ six (pm (hx (T hr).cps.toList ++ ds ++ zeros6) ^^^ cst e)).map (Str.length ∘ fun d => T [chr d])) = (ds ++ six (pm (hx (T hr).cps.toList ++ ds ++ zeros6) ^^^ cst e)).map fun _ => 1 := by
        refine List.map_congr_left fun d _ => ?_
        show (T [chr d]).length = 1
        rw [T_len]; rfl
      rw [e']
      simp only [List.map_const', List.sum_replicate_nat, List.length_append, six_length]
      omega
    rw [joinT]
    try dsimp only
    walk_at "go"
    refine Then.mk ?_
    refine PyProof.Rows.add_str (fun t₃ tk₃ => ?_) (by rw [sizeLine_eq, T_len, T_len]; simp only [List.length_append, List.length_cons, List.length_nil, List.length_map, six_length]; omega)
    rw [T_append]
    try dsimp only
    have old : Ext s.heap h₆ := ((k₁.trans (k₃.trans k₄)).but_trans b₅ hL).trans k₆
    exact hQ h₆ _ _ old
end Mine

namespace Mine
theorem genexprCode_found {M : Model} {A : Around} {E : Value → Shared → Prop} {s : Shared} {env : Env} {c P : Addr} {ps : Array Value} {pos : Pos} {qualname : Str} {scope : Scope} {c' : Value} {Q : Value → Shared → Prop}
    (hc : env.code = .ref c) (hok : s.heap.IsCode c P ps) (hf : codeAmong pos ps.toList = some c') (hQ : Q c' s) : wpAny M A (genexprCode env pos qualname scope) Q E s := by
  obtain ⟨o, vs, file, tf, flags, tg, inF, text, tt, op, ho, hd, h11, h2, h7, h9, h10, hop, hpd, htr, hne⟩ := hok
  unfold genexprCode codeAt
  rw [hc, if_neg (show ¬ ((Value.ref c == Value.none) = true) from Bool.false_ne_true)]
  refine wpAny_bind (wpAny_fieldsOf ho hd ?_)
  rw [h11]
  refine wpAny_bind (wpAny_fieldsOf hop hpd ?_)
  rw [hf]
  exact wpAny_pure hQ

section
variable {w : World} {A : Around} {E : Value → Shared → Prop} {s : Shared} {env : Env} {elt iter : PySem.Expr} {x : Str} {px : Pos} {scope : Scope} {cl : List (Str × Addr)} {pos : Pos} {Q : Value → Shared → Prop} {c P L : Addr} {ps : Array Value} {mg mb m : Str → Option Value}
/-- a generator expression over a text's signs -/
theorem genStr (q : Nat → Bool) (hA : A.handled = none) (hroom : A.depth < recursionLimit) (hcode : env.code = .ref c) (hg : env.globals = mainGlobals) (hb : env.builtins = builtinsNs)
    (hco : scope.isCoroutine = false) (hclos : closureFor scope env = pure cl) (hcell : ∀ y ∈ scope.names, y.2 ≠ .cell) (h0 : scope.names.lookup (".0" : Str) = some NameKind.local)
    (hx : scope.names.lookup x = some .local) (hkind : scope.kind = .function) (hP : P = 59 ∨ P = 93)
    (h : wpAny (model PR w) A (eval iter env) (fun xv s₁ => ∃ y t, xv = .str y t ∧ Gd w mg mb s₁.heap ∧ s₁.heap.IsCode c P ps ∧ s₁.heap.TableAt c P ps ∧ AllBare s₁.gens ∧ s₁.heap.Ns L m ∧
      (∀ (A' : Around) C code (k : Nat) u s₃ m₃, A'.handled = none → A'.depth ≤ A.depth + 1 → k ∈ y.cps.toList → s₃.heap.Ns C m₃ → m₃ x = some (.str ⟨#[k]⟩ u) → Gd w mg mb s₃.heap →
        wpAny (model PR w) A' (eval elt (genEnv scope cl C code builtinsNs env)) (fun r s₄ => Then (r = .bool (q k) ∧ Keeps s₃ s₄)) (fun _ _ => False) s₃) ∧
      (∀ a s₅ more Kb, But P s₁.heap s₅.heap → s₅.heap.IsCode c P (ps ++ more) → s₅.heap.TableAt c P (ps ++ more) → AllBare s₅.gens → s₅.os = s₁.os → L ≤ Kb → (∀ b o, s₁.heap.get? b = some o → b ≤ Kb) →
        GenOnD PR w A Kb a (signs y) (fun _ => true) (fun (k : Str) => .bool (q (k.cps.getD 0 0))) s₅ → Q (.ref a) s₅)) E s)
    (hs : ∀ x, genFold iter env x = pure x) :
    wpAny (model PR w) A (eval (.GeneratorExp elt [⟨.Name x px, iter, [], 0⟩] scope pos) env) Q E s := by
  refine wpAny_GeneratorExp_walksQD hA hco hclos hcell h0 hx hkind hroom (wpAny_mono h (fun xv s₁ h₁ => ?_) fun _ _ e => e) hs
  obtain ⟨y, t, rfl, G, hc₁, ht₁, AB, N, helt, hfin⟩ := h₁
  refine wpAny_pyIter_str fun o St W hst => ⟨G.nolimit.push _, ?_⟩
  have hPlt : P < s₁.heap.objs.size := Heap.lt_size ht₁.2
  have old : ∀ b ob, s₁.heap.get? b = some ob → b ∉ [s₁.heap.objs.size] := fun b ob e z => Nat.ne_of_lt (Heap.lt_size e) (List.mem_singleton.mp z)
  have core : ∀ (code : Value) (h₃ : Heap) (tk₃ : Nat) (more : Array Value), But P (s₁.heap.push o) h₃ → s₁.heap.objs.size + 1 ≤ h₃.objs.size → h₃.IsCode c P (ps ++ more) → h₃.TableAt c P (ps ++ more) →
      wpAny (model PR w) A (builtinsFor env.globals env.builtins) (fun bi s₄ =>
        ∃ I fp wr n₀ P St₀ pz F, (Value.ref s₁.heap.objs.size) = .ref I ∧ (∀ A' : Around, A'.handled = none → Walks PR w A' I fp wr n₀ P St₀) ∧ St₀ 0 s₄.heap ∧ (∀ b ∈ fp, b < s₄.heap.objs.size) ∧ s₄.heap.NoLimit ∧ cStatics ∉ wr ∧
          (∀ href : Heap, (∀ b o, s₄.heap.get? b = some o → href.get? b = some o) →
            QuietGenD PR w (genEnv scope cl s₄.heap.objs.size code bi env) x [] elt (List.range s₄.heap.objs.size) wr P pz F href (A.depth + 1) (A.units + 8)) ∧
          (∀ a h₅ tk gs, gs.bare = true → s₄.heap.objs.size < a → h₅.objs.size = a + 1 → (∀ b o, s₄.heap.get? b = some o → h₅.get? b = some o) →
            WalksS PR w A.in4 a (a :: s₄.heap.objs.size :: List.range s₄.heap.objs.size) (s₄.heap.objs.size :: wr) (GenOnlyQ s₄.gens.size) (passing pz n₀ 0).length
              (fun j y => ∃ i, (passing pz n₀ 0)[j]? = some i ∧ F i y) (GenAt PR w A.in4 a s₄.gens.size s₄.heap.objs.size (List.range s₄.heap.objs.size) wr pz n₀ F) →
            GenAt PR w A.in4 a s₄.gens.size s₄.heap.objs.size (List.range s₄.heap.objs.size) wr pz n₀ F 0 { s₄ with gens := s₄.gens.push gs, toks := tk, heap := h₅ } →
            Q (.ref a) { s₄ with gens := s₄.gens.push gs, toks := tk, heap := h₅ })) E { s₁ with heap := h₃, toks := tk₃ } := by
    intro code h₃ tk₃ more k₃ hsz hc₃ ht₃
    have B₁ : But P s₁.heap h₃ := fun b ob hbP e => k₃ b ob hbP (Heap.get?_push_of_some _ e)
    have G₃ : Gd w mg mb h₃ := G.butP B₁ hP
    obtain ⟨ob, hob, hcls, hdict, hdata⟩ := G₃.bm
    rw [hg, hb]
    refine wpAny_builtinsFor G₃.g (G₃.mgv (n := "__builtins__") rfl) (by decide) hob hcls hdict hdata ?_
    have hIP : s₁.heap.objs.size ≠ P := Nat.ne_of_gt hPlt
    refine ⟨s₁.heap.objs.size, [s₁.heap.objs.size], [s₁.heap.objs.size], y.cps.size, SignAt y, St, fun _ => true, (fun i r => ∃ b, (signs y)[i]? = some b ∧ Carried r (.bool (q (b.cps.getD 0 0)))), rfl, W,
      (W A hA).frame _ _ _ hst (fun b hb ob e => k₃ b ob (by rw [List.mem_singleton.mp hb]; exact hIP) e), ?_, G₃.nolimit, ?_, fun href hhref => ⟨?_, ?_⟩, fun a h₅ tk gs hgb hag hsz₅ hk₅ Wg hat => ?_⟩
    · intro b hb
      rw [List.mem_singleton.mp hb]
      exact hsz
    · intro hm
      have h1 := G.size
      have h2 : cStatics = s₁.heap.objs.size := List.mem_singleton.mp hm
      rw [← h2] at h1
      exact absurd h1 (by decide)
    · intro A' E' i v s₃ m₃ _ _ _ _ _ _ _
      exact wpAny_tests_nil ⟨rfl, keeps_refl _⟩
    · intro A' E' i v s₃ m₃ hA' hD _ hPv _ hn hm hkp
      obtain ⟨k, u, hk, rfl⟩ := hPv
      have hB : But P s₁.heap s₃.heap := fun b ob hbP e => hkp b (List.mem_range.mpr (Heap.lt_size (B₁ b ob hbP e))) (old b ob e) ob (hhref b ob (B₁ b ob hbP e))
      refine wpAny_mono (helt A' _ code k u s₃ m₃ hA' hD (by rw [← Array.getElem?_toList] at hk; exact List.mem_of_getElem? hk) hn hm (G.butP hB hP)) (fun r s₄ (z : _ ∧ _) => ⟨⟨⟨#[k]⟩, signs_at hk, ?_⟩, z.2⟩) fun _ _ e => e.elim
      rw [z.1]
      exact Carried.bool _
    · have hlen : (signs y).length = y.cps.size := signs_length y
      have hpass : passing (fun _ => true) y.cps.size 0 = List.range y.cps.size := by simp [passing]
      refine hfin a _ more (s₁.heap.objs.size - 1) (fun b ob hbP e => hk₅ b ob (B₁ b ob hbP e)) (hc₃.keeps hk₅) (ht₃.keeps hk₅) (AB.push hgb) rfl (Nat.le_sub_one_of_lt N.lt) (fun b ob e => Nat.le_sub_one_of_lt (Heap.lt_size e)) ?_
      have X : Gen PR w A (s₁.heap.objs.size - 1) a (passing (fun _ => true) y.cps.size 0).length (fun j r => ∃ i, (passing (fun _ => true) y.cps.size 0)[j]? = some i ∧ ∃ b, (signs y)[i]? = some b ∧ Carried r (.bool (q (b.cps.getD 0 0)))) { s₁ with gens := s₁.gens.push gs, toks := tk, heap := h₅ } := by
        refine ⟨_, _, _, _, Wg, hat, (fun i s' st => st.1.typeIs), List.mem_cons_self, ?_, ?_⟩
        · intro b hb
          show b < h₅.objs.size
          rw [hsz₅]
          rcases List.mem_cons.mp hb with rfl | hb
          · exact Nat.lt_succ_self _
          · rcases List.mem_cons.mp hb with rfl | hb
            · exact Nat.lt_succ_of_lt hag
            · exact Nat.lt_succ_of_lt (Nat.lt_trans (List.mem_range.mp hb) hag)
        · intro b hb
          have hs1 : 114 ≤ s₁.heap.objs.size := G.size
          rcases List.mem_cons.mp hb with e | hb
          · rw [e]
            exact Nat.lt_of_lt_of_le (Nat.lt_of_le_of_lt (Nat.sub_le _ _) (Nat.lt_succ_self _)) hsz
          · rw [List.mem_singleton.mp hb]
            exact Nat.sub_lt (Nat.lt_of_lt_of_le (by decide) hs1) Nat.one_pos
      rw [hpass, List.length_range, ← hlen] at X
      unfold GenOnD
      have ef : (signs y).filter (fun _ => true) = signs y := List.filter_eq_self.mpr fun _ _ => rfl
      rw [ef]
      refine X.imp fun j r hy => ?_
      obtain ⟨i, hij, b, hb', hc⟩ := hy
      have hj : j < (signs y).length := by
        have := (List.getElem?_eq_some_iff.mp hij).1
        simpa [hlen] using this
      have e1 : j = i := by
        rw [List.getElem?_range (by omega)] at hij
        exact Option.some.inj hij
      exact ⟨b, e1 ▸ hb', hc⟩
  have hc₂ : (s₁.heap.push o).IsCode c P ps := hc₁.keeps (Ext.push o)
  have ht₂ : (s₁.heap.push o).TableAt c P ps := ht₁.push o
  cases hf : codeAmong pos ps.toList with
  | none =>
    refine wpAny_genexprCodeX hcode hc₂ ht₂ hf fun c' h₃ tk₃ hx₃ hge hlt hcode₃ _ htab₃ _ => ?_
    exact core (.ref c') h₃ tk₃ _ (fun b ob hb e => hx₃ b ob hb e) (by rw [← Heap.size_push s₁.heap o]; exact Nat.le_trans hge (Nat.le_of_lt hlt)) hcode₃ htab₃
  | some c' =>
    refine genexprCode_found hcode hc₂ hf ?_
    exact core c' (s₁.heap.push o) s₁.toks #[] (But.refl _ _) (by rw [Heap.size_push]; exact Nat.le_refl _) (by simpa using hc₂) (by simpa using ht₂)
theorem fr_of {h : Heap} (N : h.Ns L m) : Fr {} L h m := ⟨N, (fun b o e => by
  have : (({} : Heap).get? b) = none := by simp [Heap.get?]
  rw [this] at e; cases e), Nat.zero_le _⟩
theorem signs_any (y : Str) (q : Nat → Bool) : ((signs y).filter (fun _ => true)).any (fun (k : Str) => q (k.cps.getD 0 0)) = y.cps.toList.any q := by
  have ef : (signs y).filter (fun _ => true) = signs y := List.filter_eq_self.mpr fun _ _ => rfl
  rw [ef, signs, List.any_map]
  rfl
theorem signs_all (y : Str) (q : Nat → Bool) : ((signs y).filter (fun _ => true)).all (fun (k : Str) => q (k.cps.getD 0 0)) = y.cps.toList.all q := by
  have ef : (signs y).filter (fun _ => true) = signs y := List.filter_eq_self.mpr fun _ _ => rfl
  rw [ef, signs, List.all_map]
  rfl
theorem anyX {a Kb : Addr} {y : Str} {q : Nat → Bool} (N : s.heap.Ns L m) (AB : AllBare s.gens) (X : GenOnD PR w A Kb a (signs y) (fun _ => true) (fun (k : Str) => .bool (q (k.cps.getD 0 0))) s) (hLK : L ≤ Kb)
    (hQ : ∀ s', AllBare s'.gens → s'.os = s.os → (∀ b o, b ≤ Kb → s.heap.get? b = some o → s'.heap.get? b = some o) → Q (.bool (y.cps.toList.any q)) s') : wpAny (model PR w) A (call (.builtin "any") [.ref a]) Q E s :=
  any_genD (q := fun (k : Str) => q (k.cps.getD 0 0)) (fr_of N) AB X hLK fun s' _ AB' hos hk => by rw [signs_any]; exact hQ s' AB' hos hk
theorem allX {a Kb : Addr} {y : Str} {q : Nat → Bool} (N : s.heap.Ns L m) (AB : AllBare s.gens) (X : GenOnD PR w A Kb a (signs y) (fun _ => true) (fun (k : Str) => .bool (q (k.cps.getD 0 0))) s) (hLK : L ≤ Kb)
    (hQ : ∀ s', AllBare s'.gens → s'.os = s.os → (∀ b o, b ≤ Kb → s.heap.get? b = some o → s'.heap.get? b = some o) → Q (.bool (y.cps.toList.all q)) s') : wpAny (model PR w) A (call (.builtin "all") [.ref a]) Q E s :=
  all_genD (q := fun (k : Str) => q (k.cps.getD 0 0)) (fr_of N) AB X hLK fun s' _ AB' hos hk => by rw [signs_all]; exact hQ s' AB' hos hk
end
/-- a code table that stands at P -/
structure Tab (P : Addr) (ps : Array Value) (h : Heap) : Prop where
  at_ : h.get? P = some { cls := .none, data := .fields ps }
  ok : TriplesOk ps.toList
theorem Tab.table {w : World} {mg mb : Str → Option Value} {h : Heap} {P c : Addr} {ps : Array Value} (t : Tab P ps h) (G : Gd w mg mb h) {d : Option Addr} {vs : Array Value} {sl : Array (Option Value)}
    (e : (KF w).lookup c = some ⟨.type "code", d, .fields vs, sl⟩) (h11 : vs[11]? = some (.ref P)) : h.TableAt c P ps := ⟨⟨_, vs, G.X c _ e, rfl, rfl, h11⟩, t.at_⟩
theorem Tab.code {w : World} {mg mb : Str → Option Value} {h : Heap} {P c : Addr} {ps : Array Value} (t : Tab P ps h) (G : Gd w mg mb h) {d : Option Addr} {vs : Array Value} {sl : Array (Option Value)}
    (e : (KF w).lookup c = some ⟨.type "code", d, .fields vs, sl⟩) {file : Str} {tf tg tt : Tok} {flags text : Int} {inF : Bool} (h11 : vs.getD 11 .none = .ref P) (h18 : vs.getD 18 .none = .str file tf) (h7 : vs.getD 7 .none = .int flags tg)
    (h9 : vs.getD 9 .none = .bool inF) (h10 : vs.getD 10 .none = .int text tt) (hne : c ≠ P) : h.IsCode c P ps :=
  ⟨_, vs, file, tf, flags, tg, inF, text, tt, _, G.X c _ e, rfl, h11, h18, h7, h9, h10, t.at_, rfl, t.ok, hne⟩
theorem Tab.of {h : Heap} {P c : Addr} {ps : Array Value} (hc : h.IsCode c P ps) (ht : h.TableAt c P ps) : Tab P ps h := by
  obtain ⟨o, vs, file, tf, flags, tg, inF, text, tt, op, ho, hd, h11, h2, h7, h9, h10, hop, hpd, htr, hne⟩ := hc
  exact ⟨ht.2, htr⟩
theorem Tab.keep {h h' : Heap} {P : Addr} {ps : Array Value} (t : Tab P ps h) (k : ∀ o, h.get? P = some o → h'.get? P = some o) : Tab P ps h' := ⟨k _ t.at_, t.ok⟩
theorem Tab.ne_ns {h : Heap} {P L : Addr} {ps : Array Value} {m : Str → Option Value} (t : Tab P ps h) (N : h.Ns L m) : L ≠ P := fun q => by
  subst q
  obtain ⟨o, es, ep, ho, hd, _⟩ := N
  rw [t.at_] at ho
  cases ho
  cases hd
theorem newTupleX {M : Model} {A : Around} {E : Value → Shared → Prop} {s : Shared} {vs : List Value} {Q : Value → Shared → Prop}
    (h : Then (∀ a h', Ext s.heap h' → s.heap.get? a = none → IsTup h' a vs.toArray → Q (.ref a) { s with heap := h' })) (hsz : vs.length ≤ sizeLine) :
    wpAny M A (newTuple vs) Q E s :=
  wpAny_newObj_type (h _ _ (Ext.push _) (by
    cases e : s.heap.get? s.heap.objs.size with
    | none => rfl
    | some o => exact absurd (Heap.lt_size e) (Nat.lt_irrefl _)) ⟨_, Heap.get?_push_size _ rfl, rfl, _, rfl⟩) (by show vs.toArray.size ≤ sizeLine; rw [List.size_toArray]; exact hsz)
end Mine
local macro_rules | `(tactic| walk_at "newTuple") => `(tactic| (refine' Mine.newTupleX ?_ ?sz; (case sz => ((try simp only [List.length_cons, List.length_nil]); exact Nat.le_of_ble_eq_true rfl))))

namespace Mine
/-- the text cut at its last '1' -/
def cut : List Nat → Option (List Nat × List Nat)
  | [] => none
  | x :: r => match cut r with
    | some (a, b) => some (x :: a, b)
    | none => if x = 49 then some ([], r) else none
theorem cut_none : ∀ {l : List Nat}, 49 ∉ l → cut l = none
  | [], _ => rfl
  | x :: r, h => by
    simp only [cut, cut_none fun m => h (.tail _ m)]
    rw [if_neg (fun (e : x = 49) => h (e ▸ List.Mem.head _))]
theorem cut_some : ∀ {a b : List Nat}, 49 ∉ b → cut (a ++ 49 :: b) = some (a, b)
  | [], b, h => by simp only [List.nil_append, cut, cut_none h]; rfl
  | x :: a, b, h => by simp only [List.cons_append, cut, cut_some (a := a) h]
theorem cut_at {l : List Nat} {i : Nat} (h : l[i]? = some 49) (hn : ∀ k, i < k → l[k]? ≠ some 49) : cut l = some (l.take i, l.drop (i + 1)) := by
  obtain ⟨hlt, he⟩ := List.getElem?_eq_some_iff.mp h
  have e : l = l.take i ++ 49 :: l.drop (i + 1) := by
    rw [← he, List.getElem_cons_drop, List.take_append_drop]
  have hb : 49 ∉ l.drop (i + 1) := fun hm => by
    obtain ⟨j, hj⟩ := List.mem_iff_getElem?.mp hm
    rw [List.getElem?_drop] at hj
    exact hn (i + 1 + j) (by omega) hj
  have := cut_some (a := l.take i) hb
  rw [← e] at this
  exact this
abbrev nsOf {h : Heap} {L : Addr} {m : Str → Option Value} (_ : h.Ns L m) : Str → Option Value := m
theorem after {P Kb : Addr} {h₁ h₅ h₆ : Heap} (b₅ : But P h₁ h₅) (hKb : ∀ b o, h₁.get? b = some o → b ≤ Kb) (k₆ : ∀ b o, b ≤ Kb → h₅.get? b = some o → h₆.get? b = some o) : But P h₁ h₆ :=
  fun b o ne e => k₆ b o (hKb b o e) (b₅ b o ne e)
def mixed (l : List Nat) : Bool := l.map lo != l && l.map up != l
def numsOf (b : List Nat) : List Nat := b.map CH.idxOf
def D2 (l : List Nat) : Option (List Nat × List Nat) :=
  if mixed l then none else match cut (l.map lo) with
  | none => none
  | some (a, b) => if 1 ≤ a.length ∧ a.length ≤ 83 ∧ 6 ≤ b.length ∧ (b.all fun c => decide (c ∈ CH)) = true ∧ pm (hx a ++ numsOf b) = 1 then some (a, (numsOf b).take (b.length - 6)) else none
def D1 (l : List Nat) : Option (Nat × List Nat × List Nat) :=
  if mixed l then none else match cut (l.map lo) with
  | none => none
  | some (a, b) => if 1 ≤ a.length ∧ 6 ≤ b.length ∧ l.length ≤ 90 ∧ (b.all fun c => decide (c ∈ CH)) = true then
      (if pm (hx a ++ numsOf b) = 1 then some (1, a, (numsOf b).take (b.length - 6)) else if pm (hx a ++ numsOf b) = 734539939 then some (2, a, (numsOf b).take (b.length - 6)) else none) else none
def IsD2 (h : Heap) (v : Value) : Option (List Nat × List Nat) → Prop
  | none => ∃ p, v = .ref p ∧ IsTup h p #[.none, .none]
  | some (a, d) => ∃ p q t vs, v = .ref p ∧ IsTup h p #[.str (T a) t, .ref q] ∧ h.PlainList q vs.toArray ∧ NatsAre vs d
def IsD1 (h : Heap) (v : Value) : Option (Nat × List Nat × List Nat) → Prop
  | none => ∃ p, v = .ref p ∧ IsTup h p #[.none, .none, .none]
  | some (k, a, d) => ∃ p q t u vs, v = .ref p ∧ IsTup h p #[.int (k : Int) u, .str (T a) t, .ref q] ∧ h.PlainList q vs.toArray ∧ NatsAre vs d
theorem rfind_cases (ll : List Nat) : (Txt.rfind (T ll) (T [49]) = -1 ∧ cut ll = none) ∨ ∃ i : Nat, Txt.rfind (T ll) (T [49]) = (i : Int) ∧ i < ll.length ∧ cut ll = some (ll.take i, ll.drop (i + 1)) := by
  rcases rfindT ll 49 with ⟨h1, h2⟩ | ⟨i, h1, h2, h3⟩
  · exact .inl ⟨h1, cut_none h2⟩
  · exact .inr ⟨i, h1, (List.getElem?_eq_some_iff.mp h2).1, cut_at h2 h3⟩
theorem D2_off {l : List Nat} {r : Int} (hr : Txt.rfind (T (l.map lo)) (T [49]) = r) (h : r < 1 ∨ r > 83 ∨ r + 7 > ((l.map lo).length : Int)) : D2 l = none := by
  unfold D2
  split
  · rfl
  rcases rfind_cases (l.map lo) with ⟨h1, h2⟩ | ⟨i, h1, h2, h3⟩
  · rw [h2]
  · rw [h3]
    dsimp only
    rw [if_neg]
    rintro ⟨c1, c2, c3, _⟩
    rw [List.length_take] at c1 c2
    rw [List.length_drop] at c3
    omega
theorem D2_on {l a b : List Nat} (hm : mixed l = false) (hc : cut (l.map lo) = some (a, b)) (h1 : 1 ≤ a.length) (h2 : a.length ≤ 83) (h3 : 6 ≤ b.length) :
    D2 l = if (b.all fun c => decide (c ∈ CH)) = true ∧ pm (hx a ++ numsOf b) = 1 then some (a, (numsOf b).take (b.length - 6)) else none := by
  unfold D2
  rw [hm, hc]
  simp only [h1, h2, h3, true_and, Bool.false_eq_true, if_false]
theorem D1_off {l : List Nat} {r : Int} (hr : Txt.rfind (T (l.map lo)) (T [49]) = r) (h : r < 1 ∨ r + 7 > ((l.map lo).length : Int) ∨ ((l.map lo).length : Int) > 90) : D1 l = none := by
  unfold D1
  split
  · rfl
  rcases rfind_cases (l.map lo) with ⟨h1, h2⟩ | ⟨i, h1, h2, h3⟩
  · rw [h2]
  · rw [h3]
    dsimp only
    rw [if_neg]
    rintro ⟨c1, c3, c4, _⟩
    rw [List.length_take] at c1
    rw [List.length_drop] at c3
    rw [List.length_map] at *
    omega
theorem D1_on {l a b : List Nat} (hm : mixed l = false) (hc : cut (l.map lo) = some (a, b)) (h1 : 1 ≤ a.length) (h2 : l.length ≤ 90) (h3 : 6 ≤ b.length) :
    D1 l = if (b.all fun c => decide (c ∈ CH)) = true then
      (if pm (hx a ++ numsOf b) = 1 then some (1, a, (numsOf b).take (b.length - 6)) else if pm (hx a ++ numsOf b) = 734539939 then some (2, a, (numsOf b).take (b.length - 6)) else none) else none := by
  unfold D1
  rw [hm, hc]
  simp only [h1, h2, h3, true_and, Bool.false_eq_true, if_false]
theorem D2_mixed {l : List Nat} (h : mixed l = true) : D2 l = none := by unfold D2; rw [if_pos h]
theorem D1_mixed {l : List Nat} (h : mixed l = true) : D1 l = none := by unfold D1; rw [if_pos h]
theorem D2_none {l : List Nat} (h : 49 ∉ l.map lo) : D2 l = none := by unfold D2; rw [cut_none h]; split <;> rfl
theorem D1_none {l : List Nat} (h : 49 ∉ l.map lo) : D1 l = none := by unfold D1; rw [cut_none h]; split <;> rfl
/-- a block whose first statement may leave -/
theorem seqR {M : Model} {A : Around} {E : Value → Shared → Prop} {s : Shared} {env : Env} {st : Stmt} {rest : List Stmt} {Q : Flow → Shared → Prop} (P : Shared → Prop)
    (h1 : wpAny M A (exec st env) (fun f s' => match f with | .next => Then (P s') | f => Then (Q f s')) E s) (h2 : ∀ s', P s' → wpAny M A (execs rest env) Q E s') : wpAny M A (execs (st :: rest) env) Q E s :=
  wpAny_execs_cons (wpAny_mono h1 (fun f s' x => by
    cases f with
    | next => exact h2 s' x
    | _ => exact x) fun _ _ e => e)
section
variable {w : World} {A : Around} {E : Value → Shared → Prop} {s : Shared} {Q : Value → Shared → Prop} {t u : Tok} {l : List Nat}
theorem lowerX (hs : ∀ c ∈ l, c < 128) (hl : l.length ≤ 1000) (h : Q (.str (T (l.map lo)) s.toks) { s with toks := s.toks + 1 }) : wpAny (model PR w) A (call (.builtin "str.lower") [.str (T l) t]) Q E s :=
  PyProof.Rows.SCL.lower (by rw [T_len]; omega) fun _ => by rw [lowerT l hs]; exact h
theorem upperX (hs : ∀ c ∈ l, c < 128) (hl : l.length ≤ 1000) (h : Q (.str (T (l.map up)) s.toks) { s with toks := s.toks + 1 }) : wpAny (model PR w) A (call (.builtin "str.upper") [.str (T l) t]) Q E s :=
  PyProof.Rows.SCL.upper (by rw [T_len]; omega) fun _ => by rw [upperT l hs]; exact h
theorem sliceListX {value slice : PySem.Expr} {a : Addr} {items : Array Value} {vl vu : Value} {lo hi : Option Int} (hl : s.heap.IsList a items) (pl : IsPart vl lo) (pu : IsPart vu hi)
    (h : Then (∀ b h', Ext s.heap h' → s.heap.get? b = none → h'.PlainList b (slicePick items lo hi none) → Q (.ref b) { s with heap := h' })) (hsz : items.size ≤ sizeLine)
    (hs : subscripted slice false (.ref a) (.ref s.heap.objs.size) = operate [.ref s.heap.objs.size, .ref a] (getItem (.ref a) (.ref s.heap.objs.size)) := by with_unfolding_all rfl)
    (ht : ∀ r, letTemporaryGo value (.ref a) r = pure () := by intro _; with_unfolding_all rfl) :
    wpAny (model PR w) A (subscriptTail value slice (.ref a) (.ref s.heap.objs.size)) Q E { s with heap := s.heap.push { cls := .type "slice", data := .fields #[vl, vu, .none] } } := by
  refine subscriptTail_ops (Heap.IsList.typeIs (s := { s with heap := s.heap.push { cls := .type "slice", data := .fields #[vl, vu, .none] } }) (hl.push _)) list_getitem_lookup
    (wpAny_getItem_list_slice (hl.push _) (Heap.IsSliceOf.new ..) pl pu .none (by simp) ?_ hsz) hs ht
  refine h _ _ ((Ext.push _).trans (Ext.push _)) ?_ ⟨_, Heap.get?_push_size _ rfl⟩
  cases e : s.heap.get? (s.heap.push { cls := .type "slice", data := .fields #[vl, vu, .none] }).objs.size with
  | none => rfl
  | some o =>
    have := Heap.lt_size e
    rw [Heap.size_push] at this
    exact absurd this (Nat.not_lt.mpr (Nat.le_succ _))
theorem pl_ext {h h' : Heap} {a : Addr} {xs : Array Value} (l : h.PlainList a xs) (k : Ext h h') : h'.PlainList a xs := let ⟨n, e⟩ := l; ⟨n, k _ _ e⟩
theorem NatsAre.take {ns : List Nat} : ∀ {vs : List Value}, NatsAre vs ns → ∀ k : Nat, NatsAre (vs.take k) (ns.take k)
  | _, _, 0 => .nil
  | _, .nil, _ + 1 => .nil
  | _, .cons n t h, k + 1 => .cons n t (h.take k)
theorem unpX {p : Addr} {items : Array Value} {n : Nat} {Q : List Value → Shared → Prop} (hA : A.handled = none) (ht : IsTup s.heap p items) (hn : items.size = n)
    (h : Then (∀ h', Ext s.heap h' → Q items.toList { s with heap := h' })) : wpAny (model PR w) A (unpackItems (.ref p) n none) Q E s := by
  subst hn
  exact unpackItems_tuple hA ht fun h' he => h h' fun b o e => he b o (Nat.ne_of_lt (Heap.lt_size e)) e
theorem tup_ext {h h' : Heap} {a : Addr} {xs : Array Value} (l : IsTup h a xs) (k : Ext h h') : IsTup h' a xs := let ⟨o, e, r⟩ := l; ⟨o, k _ _ e, r⟩
theorem tup_but {h h' : Heap} {L a : Addr} {m : Str → Option Value} {xs : Array Value} (N : h.Ns L m) (k : But L h h') (l : IsTup h a xs) : IsTup h' a xs := by
  obtain ⟨o', ho', hc, n, hd⟩ := l
  refine ⟨o', k a o' (fun q => ?_) ho', hc, n, hd⟩
  subst q
  obtain ⟨o, es, ep, ho, hd2, _⟩ := N
  rw [ho] at ho'
  cases ho'
  rw [hd2] at hd
  cases hd
end
end Mine
local macro_rules | `(tactic| walk_at "unpackItems ref") => `(tactic| (refine' Mine.unpX ?hA ?ht ?hn ?_; (case hA => assumption); (case ht => assumption); (case hn => rfl)))

namespace Mine
set_option maxHeartbeats 4000000 in
theorem decode2 {w : World} {A : Around} {s : Shared} {mg mb : Str → Option Value} {l : List Nat} {t : Tok} {ps : Array Value} {Q E : Value → Shared → Prop}
   (hA : A.handled = none) (hroom : A.depth < 880) (G : Gd w mg mb s.heap) (Tb : Tab 93 ps s.heap) (AB : AllBare s.gens) (hsg : ∀ c ∈ l, 33 ≤ c ∧ c ≤ 126) (hlen : l.length ≤ 1000)
   (hQ : ∀ s' v more, But 93 s.heap s'.heap → Tab 93 (ps ++ more) s'.heap → AllBare s'.gens → s'.os = s.os → IsD2 s'.heap v (D2 l) → Q v s') :
   wpAny (model PR w) A (call (.ref 96) [.str (T l) t]) Q E s := by
  refine wpAny_call (enter [("bech", .str (T l) t)] (by simp only [recursionLimit]; omega) G rfl rfl rfl (by decide) (locs rfl) rfl rfl rfl (fun h₁ L N₁ k₁ hL G₁ => ?_))
  have h128 : ∀ c ∈ l, c < 128 := fun c hc => by have := hsg c hc; omega
  have hL' : 114 ≤ L := Nat.le_trans G.size hL
  have old : ∀ h', But 93 h₁ h' → But 93 s.heap h' := fun h' b => k₁.but.trans b
  have Tb₁ : Tab 93 ps h₁ := Tb.keep fun o e => k₁ _ o e
  refine seqR (fun s' => ∃ more, But 93 h₁ s'.heap ∧ Tab 93 (ps ++ more) s'.heap ∧ AllBare s'.gens ∧ s'.os = s.os ∧ mixed l = false) ?_ ?_
  walk_at "go"
  refine Then.mk ?_
  refine genStr (m := nsOf N₁) (mg := mg) (mb := mb) (L := L) (P := 93) (ps := ps) (c := 95) (q := fun _ => false) hA (by show A.depth + 1 < recursionLimit; simp only [recursionLimit]; omega) rfl rfl rfl rfl rfl (by decide) rfl rfl rfl (.inr rfl) ?_ (fun _ => rfl)
  walk1
  refine ⟨T l, t, rfl, G₁, Tb₁.code G₁ rfl rfl rfl rfl rfl rfl (by decide), Tb₁.table G₁ rfl rfl, AB, N₁, ?_, ?_⟩
  · intro A' C code k u s₃ m₃ hA' hD hk N₃ hm G₃
    have hk1 := hsg k hk
    walk_at "go"
    · rename_i q
      exact absurd q (by omega)
    walk_at "go"
    have e : (decide ((k : Int) > 126)) = false := decide_eq_false (by omega)
    rw [e]
    exact Then.mk ⟨rfl, _, _, rfl, Ext.refl _⟩
  intro a s₅ more Kb b₅ hc₅ ht₅ AB₅ hos₅ hLK hKb X
  have G₅ := G₁.butP b₅ (.inr rfl)
  have N₅ := ns_but N₁ b₅ (Tb₁.ne_ns N₁)
  walk_at "go"
  refine Then.mk ?_
  refine anyX (q := fun _ => false) (y := T l) N₅ AB₅ X hLK fun s₆ AB₆ hos₆ hk₆ => ?_
  have b₆ := after b₅ hKb hk₆
  have Tb₆ : Tab 93 (ps ++ more) s₆.heap := (Tab.of hc₅ ht₅).keep fun o e => hk₆ _ o (hKb _ _ Tb₁.at_) e
  have G₆ := G₁.butP b₆ (.inr rfl)
  have N₆ := ns_but N₁ b₆ (Tb₁.ne_ns N₁)
  rw [List.any_eq_false.mpr (fun _ _ => Bool.false_ne_true)]
  walk_at "go"
  refine Then.mk (lowerX h128 hlen ?_)
  try dsimp only
  walk_at "go"
  · rename_i q1
    rw [T_bne] at q1
    refine Then.mk (upperX h128 hlen ?_)
    try dsimp only
    walk_at "go"
    · rename_i q2
      rw [T_bne] at q2
      have hm : mixed l = true := by unfold mixed; rw [q1, q2]; rfl
      walk_at "go"
      refine Then.mk fun p h₇ k₇ np P₇ => ?_
      try dsimp only
      walk_at "go"
      refine Then.mk ?_
      exact hQ _ _ more ((old _ b₆).trans k₇.but) (Tb₆.keep fun o e => k₇ _ o e) AB₆ (hos₆.trans hos₅) (by rw [D2_mixed hm]; exact ⟨p, rfl, P₇⟩)
    rename_i q2
    rw [T_bne] at q2
    walk_at "go"
    exact Then.mk ⟨more, b₆, Tb₆, AB₆, hos₆.trans hos₅, by unfold mixed; rw [q1, q2]; rfl⟩
  rename_i q1
  rw [T_bne] at q1
  walk_at "go"
  exact Then.mk ⟨more, b₆, Tb₆, AB₆, hos₆.trans hos₅, by unfold mixed; rw [q1]; rfl⟩
  rintro s₇ ⟨more, b₇, Tb₇, AB₇, hos₇, hmix⟩
  have G₇ := G₁.butP b₇ (.inr rfl)
  have N₇ := ns_but N₁ b₇ (Tb₁.ne_ns N₁)
  have hne := Tb₇.ne_ns N₇
  walk_at "go"
  refine Then.mk (lowerX h128 hlen ?_)
  try dsimp only
  walk_at "go"
  refine Then.mk fun h₈ N₈ b₈ => ?_
  have G₈ := G₇.but b₈ hL'
  generalize hll : l.map lo = ll at *
  walk_at "go"
  refine Then.mk ?_
  rw [one_T]
  refine SC.rfind ?_
  try dsimp only
  walk_at "go"
  refine Then.mk fun h₉ N₉ b₉ => ?_
  have G₉ := G₈.but b₉ hL'
  generalize hr : Txt.rfind (T ll) (T [49]) = r at *
  have b0 : But 93 s.heap h₉ := fun b o hb e => b₉ b o (Nat.ne_of_lt (Nat.lt_of_lt_of_le (Heap.lt_size e) hL)) (b₈ b o (Nat.ne_of_lt (Nat.lt_of_lt_of_le (Heap.lt_size e) hL)) (b₇ b o hb (k₁ b o e)))
  have Tb₉ : Tab 93 (ps ++ more) h₉ := Tb₇.keep fun o e => b₉ _ o hne.symm (b₈ _ o hne.symm e)
  have leave : ∀ tk h' p, Ext h₉ h' → IsTup h' p #[.none, .none] → D2 l = none → Q (.ref p) { s₇ with heap := h', toks := tk } := fun tk h' p k P e =>
    hQ _ _ more (b0.trans k.but) (Tb₉.keep fun o e => k _ o e) AB₇ hos₇ (by rw [e]; exact ⟨p, rfl, P⟩)
  have lenll : ll.length ≤ 1000 := by rw [← hll, List.length_map]; exact hlen
  have rle : r ≤ 1000 ∧ -1 ≤ r := by
    rcases rfind_cases ll with ⟨h1, _⟩ | ⟨i, h1, h2, _⟩
    · omega
    · omega
  refine seqR (fun s' => ∃ tk, s' = { s₇ with heap := h₉, toks := tk } ∧ 1 ≤ r ∧ r ≤ 83 ∧ r + 7 ≤ (ll.length : Int)) ?_ ?_
  have off : (r < 1 ∨ r > 83 ∨ r + 7 > (ll.length : Int)) → D2 l = none := fun h => D2_off (r := r) (by rw [hll]; exact hr) (by rw [hll]; exact h)
  walk_at "go"
  · rename_i q
    exact Then.mk fun p h' k np P => leave _ h' p k P (off (.inl q))
  walk_at "go"
  · rename_i q
    exact Then.mk fun p h' k np P => leave _ h' p k P (off (.inr (.inl q)))
  walk_at "go"
  · rename_i q
    exact Then.mk fun p h' k np P => leave _ h' p k P (off (.inr (.inr q)))
  rename_i q1 q2 q3
  walk_at "go"
  exact Then.mk ⟨_, rfl, by omega, by omega, by omega⟩
  rintro s₁₀ ⟨tk₁₀, rfl, q1, q2, q3⟩
  obtain ⟨i, hri, hi, hcut⟩ : ∃ i : Nat, r = (i : Int) ∧ i < ll.length ∧ cut ll = some (ll.take i, ll.drop (i + 1)) := by
    rcases rfind_cases ll with ⟨h1, _⟩ | ⟨i, h1, h2, h3⟩
    · omega
    · exact ⟨i, by omega, h2, h3⟩
  subst hri
  refine seqR (fun s' => ∃ more, But 93 h₉ s'.heap ∧ Tab 93 (ps ++ more) s'.heap ∧ AllBare s'.gens ∧ s'.os = s.os ∧ ((ll.drop (i + 1)).all fun c => decide (c ∈ CH)) = true) ?_ ?_
  walk_at "go"
  refine Then.mk ?_
  refine genStr (m := nsOf N₉) (mg := mg) (mb := mb) (L := L) (P := 93) (ps := ps ++ more) (c := 95) (q := fun c => decide (c ∈ CH)) hA (by show A.depth + 1 < recursionLimit; simp only [recursionLimit]; omega) rfl rfl rfl rfl rfl (by decide) rfl rfl rfl (.inr rfl) ?_ (fun _ => rfl)
  walk_at "go"
  refine slice_sn (s := { s₇ with heap := h₉, toks := _ }) (Then.mk fun h₁₀ t₁₀ tk' k₁₀ => ?_) (by rw [T_len, sizeLine_eq]; omega)
  rw [slice_succT ll hi]
  have G₁₀ := G₉.keeps k₁₀
  have Tb₁₀ := Tb₉.keep fun o e => k₁₀ _ o e
  refine ⟨T (ll.drop (i + 1)), _, rfl, G₁₀, Tb₁₀.code G₁₀ rfl rfl rfl rfl rfl rfl (by decide), Tb₁₀.table G₁₀ rfl rfl, AB₇, N₉.keeps k₁₀, ?_, ?_⟩
  · intro A' C code k u s₃ m₃ hA' hD hk N₃ hm G₃
    walk_at "go"
    rw [charset_T]
    refine Then.mk ⟨congrArg Value.bool (inT CH k), keeps_refl _⟩
  intro a s₁₁ more2 Kb b₁₁ hc₁₁ ht₁₁ AB₁₁ hos₁₁ hLK hKb X
  have b₁₁' := (k₁₀.but (L := 93)).trans b₁₁
  have G₁₁ := G₉.butP b₁₁' (.inr rfl)
  have N₁₁ := ns_but N₉ b₁₁' hne
  walk_at "go"
  refine Then.mk ?_
  refine allX (q := fun c => decide (c ∈ CH)) (y := T (ll.drop (i + 1))) N₁₁ AB₁₁ X hLK fun s₁₂ AB₁₂ hos₁₂ hk₁₂ => ?_
  have b₁₂ := (k₁₀.but (L := 93)).trans (after b₁₁ hKb hk₁₂)
  have Tb₁₂ : Tab 93 (ps ++ more ++ more2) s₁₂.heap := (Tab.of hc₁₁ ht₁₁).keep fun o e => hk₁₂ _ o (hKb _ _ Tb₁₀.at_) e
  rw [T_cps]
  rw [Array.append_assoc] at Tb₁₂
  walk_at "go"
  · rename_i q
    exact Then.mk ⟨_, b₁₂, Tb₁₂, AB₁₂, hos₁₂.trans (hos₁₁.trans hos₇), q⟩
  · rename_i q
    walk_at "go"
    refine Then.mk fun p h' k np P => Then.mk (hQ _ _ _ ((b0.trans b₁₂).trans k.but) (Tb₁₂.keep fun o e => k _ o e) AB₁₂ (hos₁₂.trans (hos₁₁.trans hos₇)) ?_)
    rw [D2_on hmix (by rw [hll]; exact hcut) (by rw [List.length_take]; omega) (by rw [List.length_take]; omega) (by rw [List.length_drop]; omega), if_neg (fun x => by rw [q] at x; exact absurd x.1 Bool.false_ne_true)]
    exact ⟨p, rfl, P⟩
  rintro s₁₃ ⟨more', b₁₃, Tb₁₃, AB₁₃, hos₁₃, hall⟩
  have G₁₃ := G₉.butP b₁₃ (.inr rfl)
  have N₁₃ := ns_but N₉ b₁₃ hne
  walk_at "go"
  refine slice_ns (s := { s₁₃ with toks := _ }) (Then.mk fun h₁₄ t₁₄ tk₁₄ k₁₄ => ?_) (by rw [T_len, sizeLine_eq]; omega)
  rw [slice_toT ll (Nat.le_of_lt hi)]
  have G₁₄ := G₁₃.keeps k₁₄
  have N₁₄ := N₁₃.keeps k₁₄
  try dsimp only
  walk_at "go"
  refine Then.mk fun h₁₅ N₁₅ b₁₅ => ?_
  have G₁₅ := G₁₄.but b₁₅ hL'
  walk_at "go"
  refine Then.mk ?_
  refine compStrA (L := L) (fun k r => ∃ t, r = .int ((CH.idxOf k : Nat) : Int) t) (by exact hA) rfl (by with_unfolding_all rfl) rfl (by decide) rfl (by decide) rfl rfl rfl ?_
  walk_at "go"
  refine slice_sn (s := { s₁₃ with heap := h₁₅, toks := _ }) (Then.mk fun h₁₆ t₁₆ tk₁₆ k₁₆ => ?_) (by rw [T_len, sizeLine_eq]; omega)
  rw [slice_succT ll hi]
  have G₁₆ := G₁₅.keeps k₁₆
  have N₁₆ := N₁₅.keeps k₁₆
  have lenb : (ll.drop (i + 1)).length ≤ 1000 := by rw [List.length_drop]; omega
  refine ⟨T (ll.drop (i + 1)), _, _, rfl, by rw [T_size, sizeLine_eq]; omega, N₁₆, ?_, ?_⟩
  · intro C k u s₃ m₃ hk N₃ hm kk
    have G₃ := G₁₆.keeps kk
    have hkc : k ∈ CH := of_decide_eq_true (List.all_eq_true.mp hall k hk)
    walk_at "go"
    rw [charset_T]
    refine Then.mk (SC.find ?_)
    rw [show (⟨#[k]⟩ : Str) = T [k] from rfl, findT CH k hkc]
    exact Then.mk ⟨⟨_, rfl⟩, _, _, rfl, Ext.refl _⟩
  intro D h₁₈ tk₁₇ ys b₁₈ nD P₁₈' hp N₁₈
  have G₁₈ := G₁₆.but b₁₈ hL'
  have P₁₈ := P₁₈'.isList
  have hn : NatsAre ys.toList (numsOf (ll.drop (i + 1))) := nats_of_paired hp
  have ln : (numsOf (ll.drop (i + 1))).length = (ll.drop (i + 1)).length := List.length_map _
  walk_at "go"
  refine Then.mk ?_
  refine verify2 (y := T (ll.take i)) (vs := ys.toList) (ds := numsOf (ll.drop (i + 1))) (by exact hA) (by show A.depth + 1 < 890; omega) G₁₈ (by rw [T_size, List.length_take]; omega) P₁₈ hn (by rw [ln]; exact lenb) fun h₁₉ tk₁₉ k₁₉ => ?_
  have G₁₉ := G₁₈.keeps k₁₉
  have N₁₉ := N₁₈.keeps k₁₉
  rw [T_cps]
  try dsimp only
  have b1 : But 93 s.heap h₁₉ := fun b o hb e => by
    have hbL : b ≠ L := Nat.ne_of_lt (Nat.lt_of_lt_of_le (Heap.lt_size e) hL)
    exact k₁₉ b o (b₁₈ b o hbL (k₁₆ b o (b₁₅ b o hbL (k₁₄ b o (b₁₃ b o hb (b0 b o hb e))))))
  have Tb₁₉ : Tab 93 (ps ++ more') h₁₉ := Tb₁₃.keep fun o e => k₁₉ _ o (b₁₈ _ o hne.symm (k₁₆ _ o (b₁₅ _ o hne.symm (k₁₄ _ o e))))
  have eD := D2_on hmix (by rw [hll]; exact hcut) (by rw [List.length_take]; omega) (by rw [List.length_take]; omega) (by rw [List.length_drop]; omega)
  walk_at "go"
  · rename_i q
    have len6 : 6 ≤ (ll.drop (i + 1)).length := by rw [List.length_drop]; omega
    have ly : ys.size = (ll.drop (i + 1)).length := by have := hn.length; rw [ln] at this; simpa using this
    refine sliceListX (s := { s₁₃ with heap := h₁₉, toks := _ }) (list_ext P₁₈ k₁₉) .none (.int (-6) _) (Then.mk fun b h₂₀ k₂₀ nb P₂₀ => ?_) (by rw [ly, sizeLine_eq]; omega)
    walk_at "go"
    refine Then.mk fun p h₂₁ k₂₁ np P₂₁ => ?_
    refine hQ _ _ more' ((b1.trans k₂₀.but).trans k₂₁.but) (Tb₁₉.keep fun o e => k₂₁ _ o (k₂₀ _ o e)) AB₁₃ hos₁₃ ?_
    rw [eD, if_pos ⟨hall, by exact_mod_cast q⟩]
    refine ⟨p, b, _, (ys.toList.take (ys.size - 6)), rfl, P₂₁, ?_, ?_⟩
    · have := slicePick_butLast ys 6 (by decide)
      rw [← this]
      exact pl_ext P₂₀ k₂₁
    · rw [ly]
      exact hn.take _
  rename_i q
  walk_at "go"
  refine Then.mk fun p h' k np P => hQ _ _ more' (b1.trans k.but) (Tb₁₉.keep fun o e => k _ o e) AB₁₃ hos₁₃ ?_
  rw [eD, if_neg (fun x => q (by exact_mod_cast x.2))]
  exact ⟨p, rfl, P⟩
end Mine

namespace Mine
set_option maxHeartbeats 4000000 in
theorem decode1 {w : World} {A : Around} {s : Shared} {mg mb : Str → Option Value} {l : List Nat} {t : Tok} {ps : Array Value} {Q E : Value → Shared → Prop}
   (hA : A.handled = none) (hroom : A.depth < 880) (G : Gd w mg mb s.heap) (Tb : Tab 59 ps s.heap) (AB : AllBare s.gens) (hsg : ∀ c ∈ l, 33 ≤ c ∧ c ≤ 126) (hlen : l.length ≤ 1000)
   (hQ : ∀ s' v more, But 59 s.heap s'.heap → Tab 59 (ps ++ more) s'.heap → AllBare s'.gens → s'.os = s.os → IsD1 s'.heap v (D1 l) → Q v s') :
   wpAny (model PR w) A (call (.ref 62) [.str (T l) t]) Q E s := by
  refine wpAny_call (enter [("bech", .str (T l) t)] (by simp only [recursionLimit]; omega) G rfl rfl rfl (by decide) (locs rfl) rfl rfl rfl (fun h₁ L N₁ k₁ hL G₁ => ?_))
  have h128 : ∀ c ∈ l, c < 128 := fun c hc => by have := hsg c hc; omega
  have hL' : 114 ≤ L := Nat.le_trans G.size hL
  have old : ∀ h', But 59 h₁ h' → But 59 s.heap h' := fun h' b => k₁.but.trans b
  have Tb₁ : Tab 59 ps h₁ := Tb.keep fun o e => k₁ _ o e
  refine seqR (fun s' => ∃ more, But 59 h₁ s'.heap ∧ Tab 59 (ps ++ more) s'.heap ∧ AllBare s'.gens ∧ s'.os = s.os ∧ mixed l = false) ?_ ?_
  walk_at "go"
  refine Then.mk ?_
  refine genStr (m := nsOf N₁) (mg := mg) (mb := mb) (L := L) (P := 59) (ps := ps) (c := 61) (q := fun _ => false) hA (by show A.depth + 1 < recursionLimit; simp only [recursionLimit]; omega) rfl rfl rfl rfl rfl (by decide) rfl rfl rfl (.inl rfl) ?_ (fun _ => rfl)
  walk1
  refine ⟨T l, t, rfl, G₁, Tb₁.code G₁ rfl rfl rfl rfl rfl rfl (by decide), Tb₁.table G₁ rfl rfl, AB, N₁, ?_, ?_⟩
  · intro A' C code k u s₃ m₃ hA' hD hk N₃ hm G₃
    have hk1 := hsg k hk
    walk_at "go"
    · rename_i q
      exact absurd q (by omega)
    walk_at "go"
    have e : (decide ((k : Int) > 126)) = false := decide_eq_false (by omega)
    rw [e]
    exact Then.mk ⟨rfl, _, _, rfl, Ext.refl _⟩
  intro a s₅ more Kb b₅ hc₅ ht₅ AB₅ hos₅ hLK hKb X
  have G₅ := G₁.butP b₅ (.inl rfl)
  have N₅ := ns_but N₁ b₅ (Tb₁.ne_ns N₁)
  walk_at "go"
  refine Then.mk ?_
  refine anyX (q := fun _ => false) (y := T l) N₅ AB₅ X hLK fun s₆ AB₆ hos₆ hk₆ => ?_
  have b₆ := after b₅ hKb hk₆
  have Tb₆ : Tab 59 (ps ++ more) s₆.heap := (Tab.of hc₅ ht₅).keep fun o e => hk₆ _ o (hKb _ _ Tb₁.at_) e
  have G₆ := G₁.butP b₆ (.inl rfl)
  have N₆ := ns_but N₁ b₆ (Tb₁.ne_ns N₁)
  rw [List.any_eq_false.mpr (fun _ _ => Bool.false_ne_true)]
  walk_at "go"
  refine Then.mk (lowerX h128 hlen ?_)
  try dsimp only
  walk_at "go"
  · rename_i q1
    rw [T_bne] at q1
    refine Then.mk (upperX h128 hlen ?_)
    try dsimp only
    walk_at "go"
    · rename_i q2
      rw [T_bne] at q2
      have hm : mixed l = true := by unfold mixed; rw [q1, q2]; rfl
      walk_at "go"
      refine Then.mk fun p h₇ k₇ np P₇ => ?_
      try dsimp only
      walk_at "go"
      refine Then.mk ?_
      exact hQ _ _ more ((old _ b₆).trans k₇.but) (Tb₆.keep fun o e => k₇ _ o e) AB₆ (hos₆.trans hos₅) (by rw [D1_mixed hm]; exact ⟨p, rfl, P₇⟩)
    rename_i q2
    rw [T_bne] at q2
    walk_at "go"
    exact Then.mk ⟨more, b₆, Tb₆, AB₆, hos₆.trans hos₅, by unfold mixed; rw [q1, q2]; rfl⟩
  rename_i q1
  rw [T_bne] at q1
  walk_at "go"
  exact Then.mk ⟨more, b₆, Tb₆, AB₆, hos₆.trans hos₅, by unfold mixed; rw [q1]; rfl⟩
  rintro s₇ ⟨more, b₇, Tb₇, AB₇, hos₇, hmix⟩
  have G₇ := G₁.butP b₇ (.inl rfl)
  have N₇ := ns_but N₁ b₇ (Tb₁.ne_ns N₁)
  have hne := Tb₇.ne_ns N₇
  walk_at "go"
  refine Then.mk (lowerX h128 hlen ?_)
  try dsimp only
  walk_at "go"
  refine Then.mk fun h₈ N₈ b₈ => ?_
  have G₈ := G₇.but b₈ hL'
  generalize hll : l.map lo = ll at *
  walk_at "go"
  refine Then.mk ?_
  rw [one_T]
  refine SC.rfind ?_
  try dsimp only
  walk_at "go"
  refine Then.mk fun h₉ N₉ b₉ => ?_
  have G₉ := G₈.but b₉ hL'
  generalize hr : Txt.rfind (T ll) (T [49]) = r at *
  have b0 : But 59 s.heap h₉ := fun b o hb e => b₉ b o (Nat.ne_of_lt (Nat.lt_of_lt_of_le (Heap.lt_size e) hL)) (b₈ b o (Nat.ne_of_lt (Nat.lt_of_lt_of_le (Heap.lt_size e) hL)) (b₇ b o hb (k₁ b o e)))
  have Tb₉ : Tab 59 (ps ++ more) h₉ := Tb₇.keep fun o e => b₉ _ o hne.symm (b₈ _ o hne.symm e)
  have leave : ∀ tk h' p, Ext h₉ h' → IsTup h' p #[.none, .none, .none] → D1 l = none → Q (.ref p) { s₇ with heap := h', toks := tk } := fun tk h' p k P e =>
    hQ _ _ more (b0.trans k.but) (Tb₉.keep fun o e => k _ o e) AB₇ hos₇ (by rw [e]; exact ⟨p, rfl, P⟩)
  have lenll : ll.length ≤ 1000 := by rw [← hll, List.length_map]; exact hlen
  have rle : r ≤ 1000 ∧ -1 ≤ r := by
    rcases rfind_cases ll with ⟨h1, _⟩ | ⟨i, h1, h2, _⟩
    · omega
    · omega
  refine seqR (fun s' => ∃ tk, s' = { s₇ with heap := h₉, toks := tk } ∧ 1 ≤ r ∧ (ll.length : Int) ≤ 90 ∧ r + 7 ≤ (ll.length : Int)) ?_ ?_
  have off : (r < 1 ∨ r + 7 > (ll.length : Int) ∨ (ll.length : Int) > 90) → D1 l = none := fun h => D1_off (r := r) (by rw [hll]; exact hr) (by rw [hll]; exact h)
  walk_at "go"
  · rename_i q
    exact Then.mk fun p h' k np P => leave _ h' p k P (off (.inl q))
  walk_at "go"
  · rename_i q
    exact Then.mk fun p h' k np P => leave _ h' p k P (off (.inr (.inl q)))
  walk_at "go"
  · rename_i q
    exact Then.mk fun p h' k np P => leave _ h' p k P (off (.inr (.inr q)))
  rename_i q1 q2 q3
  walk_at "go"
  exact Then.mk ⟨_, rfl, by omega, by omega, by omega⟩
  rintro s₁₀ ⟨tk₁₀, rfl, q1, q2, q3⟩
  obtain ⟨i, hri, hi, hcut⟩ : ∃ i : Nat, r = (i : Int) ∧ i < ll.length ∧ cut ll = some (ll.take i, ll.drop (i + 1)) := by
    rcases rfind_cases ll with ⟨h1, _⟩ | ⟨i, h1, h2, h3⟩
    · omega
    · exact ⟨i, by omega, h2, h3⟩
  subst hri
  refine seqR (fun s' => ∃ more, But 59 h₉ s'.heap ∧ Tab 59 (ps ++ more) s'.heap ∧ AllBare s'.gens ∧ s'.os = s.os ∧ ((ll.drop (i + 1)).all fun c => decide (c ∈ CH)) = true) ?_ ?_
  walk_at "go"
  refine Then.mk ?_
  refine genStr (m := nsOf N₉) (mg := mg) (mb := mb) (L := L) (P := 59) (ps := ps ++ more) (c := 61) (q := fun c => decide (c ∈ CH)) hA (by show A.depth + 1 < recursionLimit; simp only [recursionLimit]; omega) rfl rfl rfl rfl rfl (by decide) rfl rfl rfl (.inl rfl) ?_ (fun _ => rfl)
  walk_at "go"
  refine slice_sn (s := { s₇ with heap := h₉, toks := _ }) (Then.mk fun h₁₀ t₁₀ tk' k₁₀ => ?_) (by rw [T_len, sizeLine_eq]; omega)
  rw [slice_succT ll hi]
  have G₁₀ := G₉.keeps k₁₀
  have Tb₁₀ := Tb₉.keep fun o e => k₁₀ _ o e
  refine ⟨T (ll.drop (i + 1)), _, rfl, G₁₀, Tb₁₀.code G₁₀ rfl rfl rfl rfl rfl rfl (by decide), Tb₁₀.table G₁₀ rfl rfl, AB₇, N₉.keeps k₁₀, ?_, ?_⟩
  · intro A' C code k u s₃ m₃ hA' hD hk N₃ hm G₃
    walk_at "go"
    rw [charset_T]
    refine Then.mk ⟨congrArg Value.bool (inT CH k), keeps_refl _⟩
  intro a s₁₁ more2 Kb b₁₁ hc₁₁ ht₁₁ AB₁₁ hos₁₁ hLK hKb X
  have b₁₁' := (k₁₀.but (L := 59)).trans b₁₁
  have G₁₁ := G₉.butP b₁₁' (.inl rfl)
  have N₁₁ := ns_but N₉ b₁₁' hne
  walk_at "go"
  refine Then.mk ?_
  refine allX (q := fun c => decide (c ∈ CH)) (y := T (ll.drop (i + 1))) N₁₁ AB₁₁ X hLK fun s₁₂ AB₁₂ hos₁₂ hk₁₂ => ?_
  have b₁₂ := (k₁₀.but (L := 59)).trans (after b₁₁ hKb hk₁₂)
  have Tb₁₂ : Tab 59 (ps ++ more ++ more2) s₁₂.heap := (Tab.of hc₁₁ ht₁₁).keep fun o e => hk₁₂ _ o (hKb _ _ Tb₁₀.at_) e
  rw [T_cps]
  rw [Array.append_assoc] at Tb₁₂
  walk_at "go"
  · rename_i q
    exact Then.mk ⟨_, b₁₂, Tb₁₂, AB₁₂, hos₁₂.trans (hos₁₁.trans hos₇), q⟩
  · rename_i q
    walk_at "go"
    refine Then.mk fun p h' k np P => Then.mk (hQ _ _ _ ((b0.trans b₁₂).trans k.but) (Tb₁₂.keep fun o e => k _ o e) AB₁₂ (hos₁₂.trans (hos₁₁.trans hos₇)) ?_)
    rw [D1_on hmix (by rw [hll]; exact hcut) (by rw [List.length_take]; omega) (by rw [← List.length_map lo, hll]; omega) (by rw [List.length_drop]; omega), if_neg (fun x => by rw [q] at x; exact absurd x Bool.false_ne_true)]
    exact ⟨p, rfl, P⟩
  rintro s₁₃ ⟨more', b₁₃, Tb₁₃, AB₁₃, hos₁₃, hall⟩
  have G₁₃ := G₉.butP b₁₃ (.inl rfl)
  have N₁₃ := ns_but N₉ b₁₃ hne
  walk_at "go"
  refine slice_ns (s := { s₁₃ with toks := _ }) (Then.mk fun h₁₄ t₁₄ tk₁₄ k₁₄ => ?_) (by rw [T_len, sizeLine_eq]; omega)
  rw [slice_toT ll (Nat.le_of_lt hi)]
  have G₁₄ := G₁₃.keeps k₁₄
  have N₁₄ := N₁₃.keeps k₁₄
  try dsimp only
  walk_at "go"
  refine Then.mk fun h₁₅ N₁₅ b₁₅ => ?_
  have G₁₅ := G₁₄.but b₁₅ hL'
  walk_at "go"
  refine Then.mk ?_
  refine compStrA (L := L) (fun k r => ∃ t, r = .int ((CH.idxOf k : Nat) : Int) t) (by exact hA) rfl (by with_unfolding_all rfl) rfl (by decide) rfl (by decide) rfl rfl rfl ?_
  walk_at "go"
  refine slice_sn (s := { s₁₃ with heap := h₁₅, toks := _ }) (Then.mk fun h₁₆ t₁₆ tk₁₆ k₁₆ => ?_) (by rw [T_len, sizeLine_eq]; omega)
  rw [slice_succT ll hi]
  have G₁₆ := G₁₅.keeps k₁₆
  have N₁₆ := N₁₅.keeps k₁₆
  have lenb : (ll.drop (i + 1)).length ≤ 1000 := by rw [List.length_drop]; omega
  refine ⟨T (ll.drop (i + 1)), _, _, rfl, by rw [T_size, sizeLine_eq]; omega, N₁₆, ?_, ?_⟩
  · intro C k u s₃ m₃ hk N₃ hm kk
    have G₃ := G₁₆.keeps kk
    have hkc : k ∈ CH := of_decide_eq_true (List.all_eq_true.mp hall k hk)
    walk_at "go"
    rw [charset_T]
    refine Then.mk (SC.find ?_)
    rw [show (⟨#[k]⟩ : Str) = T [k] from rfl, findT CH k hkc]
    exact Then.mk ⟨⟨_, rfl⟩, _, _, rfl, Ext.refl _⟩
  intro D h₁₈ tk₁₇ ys b₁₈ nD P₁₈' hp N₁₈
  have G₁₈ := G₁₆.but b₁₈ hL'
  have P₁₈ := P₁₈'.isList
  have hn : NatsAre ys.toList (numsOf (ll.drop (i + 1))) := nats_of_paired hp
  have ln : (numsOf (ll.drop (i + 1))).length = (ll.drop (i + 1)).length := List.length_map _
  walk_at "go"
  refine Then.mk ?_
  refine verify1 (y := T (ll.take i)) (vs := ys.toList) (ds := numsOf (ll.drop (i + 1))) (by exact hA) (by show A.depth + 1 < 890; omega) G₁₈ (by rw [T_size, List.length_take]; omega) P₁₈ hn (by rw [ln]; exact lenb) fun h₁₉ tk₁₉ v k₁₉ hv => ?_
  have G₁₉ := G₁₈.keeps k₁₉
  have N₁₉ := N₁₈.keeps k₁₉
  rw [T_cps] at hv
  try dsimp only
  have eD := D1_on hmix (by rw [hll]; exact hcut) (by rw [List.length_take]; omega) (by rw [← List.length_map lo, hll]; omega) (by rw [List.length_drop]; omega)
  rw [if_pos hall] at eD
  have hv' : (∃ (k : Nat) (t : Tok), v = .int (k : Int) t ∧ D1 l = some (k, ll.take i, (numsOf (ll.drop (i + 1))).take ((ll.drop (i + 1)).length - 6))) ∨ (v = .none ∧ D1 l = none) := by
    rcases hv with ⟨q, t, e⟩ | ⟨q, t, e⟩ | ⟨q1, q2, e⟩
    · exact .inl ⟨1, t, e, by rw [eD, if_pos q]⟩
    · exact .inl ⟨2, t, e, by rw [eD, if_neg (by rw [q]; decide), if_pos q]⟩
    · exact .inr ⟨e, by rw [eD, if_neg q1, if_neg q2]⟩
  walk_at "go"
  refine Then.mk fun h₂₀ N₂₀ b₂₀ => ?_
  have G₂₀ := G₁₉.but b₂₀ hL'
  have P₂₀ := list_but N₁₉ b₂₀ (list_ext P₁₈ k₁₉)
  have b1 : But 59 s.heap h₂₀ := fun b o hb e => by
    have hbL : b ≠ L := Nat.ne_of_lt (Nat.lt_of_lt_of_le (Heap.lt_size e) hL)
    exact b₂₀ b o hbL (k₁₉ b o (b₁₈ b o hbL (k₁₆ b o (b₁₅ b o hbL (k₁₄ b o (b₁₃ b o hb (b0 b o hb e)))))))
  have Tb₂₀ : Tab 59 (ps ++ more') h₂₀ := Tb₁₃.keep fun o e => b₂₀ _ o hne.symm (k₁₉ _ o (b₁₈ _ o hne.symm (k₁₆ _ o (b₁₅ _ o hne.symm (k₁₄ _ o e)))))
  rcases hv' with ⟨k, t, rfl, e⟩ | ⟨rfl, e⟩
  · walk_at "go"
    have ly : ys.size = (ll.drop (i + 1)).length := by have := hn.length; rw [ln] at this; simpa using this
    refine sliceListX (s := { s₁₃ with heap := h₂₀, toks := _ }) P₂₀ .none (.int (-6) _) (Then.mk fun b h₂₁ k₂₁ nb P₂₁ => ?_) (by rw [ly, sizeLine_eq]; omega)
    walk_at "go"
    refine Then.mk fun p h₂₂ k₂₂ np P₂₂ => ?_
    refine hQ _ _ more' ((b1.trans k₂₁.but).trans k₂₂.but) (Tb₂₀.keep fun o e => k₂₂ _ o (k₂₁ _ o e)) AB₁₃ hos₁₃ ?_
    rw [e]
    refine ⟨p, b, _, _, (ys.toList.take (ys.size - 6)), rfl, P₂₂, ?_, ?_⟩
    · have := slicePick_butLast ys 6 (by decide)
      rw [← this]
      exact pl_ext P₂₁ k₂₂
    · rw [ly]
      exact hn.take _
  walk_at "go"
  refine Then.mk fun p h' k np P => hQ _ _ more' (b1.trans k.but) (Tb₂₀.keep fun o e => k _ o e) AB₁₃ hos₁₃ ?_
  rw [e]
  exact ⟨p, rfl, P⟩
end Mine

namespace Mine
theorem ints_of_paired : ∀ {as : List Nat} {ys : List Value}, Paired (fun _ r => ∃ n t, r = .int n t) as ys → ∃ ns, IntsAre ys ns ∧ ns.length = as.length
  | _, _, .nil => ⟨[], .nil, rfl⟩
  | _, _, .cons ⟨n, t, e⟩ r => by
    obtain ⟨ns, h, l⟩ := ints_of_paired r
    subst e
    exact ⟨n :: ns, .cons n t h, by simp [l]⟩

set_option maxHeartbeats 4000000 in
theorem numbers {w : World} {A : Around} {s : Shared} {mg mb : Str → Option Value} {l : Addr} {vs : List Value} {ns : List Int} {u : Tok} {Q E : Value → Shared → Prop}
   (hA : A.handled = none) (hroom : A.depth < 880) (G : Gd w mg mb s.heap) (hl : s.heap.IsList l vs.toArray) (hi : IntsAre vs ns) (hlen : vs.length ≤ 1000)
   (hQ : ∀ h' tk l' vs' ns', Ext s.heap h' → s.heap.get? l' = none → h'.PlainList l' vs'.toArray → IntsAre vs' ns' → ns'.length = 8 → Q (.ref l') { s with heap := h', toks := tk }) :
   wpAny (model PR w) A (call (.ref 101) [.ref l, .int 8 u]) Q E s := by
  refine wpAny_call (enterC [("script", .ref l), ("count", .int 8 u)] "script" (by simp only [recursionLimit]; omega) G rfl rfl rfl (fun _ => rfl) (by
    intro x hx
    rcases List.mem_cons.mp hx with rfl | hx
    · exact .inr ⟨rfl, rfl⟩
    rcases List.mem_cons.mp hx with rfl | hx
    · exact .inl rfl
    cases hx) rfl rfl rfl (fun h₁ L tk₁ N₁ C₁ k₁ hL G₁ => ?_))
  have hL' : 114 ≤ L := Nat.le_trans G.size hL
  walk_at "go"
  have C₁' : h₁.IsCell (L + 1) (some (.ref l)) := C₁
  refine Then.mk (compRange (fun _ r => ∃ n t, r = .int n t) (by exact hA) rfl (by decide) rfl (by decide) rfl ?_)
  walk_at "go"
  refine Then.mk fun r h₂ t₁ t₂ t₃ k₂ hr => ?_
  have C₂ := cell_ext C₁' k₂
  have G₂ := G₁.keeps k₂
  have l₂ := list_ext hl (k₁.trans k₂)
  refine ⟨r, 8, t₁, t₂, t₃, rfl, hr, by rw [sizeLine_eq]; omega, ?_, ?_⟩
  · intro C i tk s₃ m₃ hin N₃ hm k₃
    have G₃ := G₂.keeps k₃
    have C₃ := cell_ext C₂ k₃
    have l₃ := list_ext l₂ k₃
    walk_at "go"
    · exact Then.mk ⟨⟨_, _, rfl⟩, _, _, rfl, Ext.refl _⟩
    walk_at "go"
    exact Then.mk ⟨⟨_, _, rfl⟩, _, _, rfl, Ext.refl _⟩
  intro D h₃ tk₃ ys k₃ nD P₃ hp
  obtain ⟨ns', hi', ln'⟩ := ints_of_paired hp
  exact hQ _ _ D ys.toList ns' (k₁.trans (k₂.trans k₃)) (fresh_of (k₁.trans k₂) nD) P₃ hi' (by rw [ln', List.length_range])
end Mine

namespace Mine
/-- a text of printable signs -/
def Pr (l : List Nat) : Prop := ∀ c ∈ l, 33 ≤ c ∧ c ≤ 126
def SG : List Nat := CH ++ [49, 98, 105, 111, 33, 65]
theorem more_T : Str.ofString "1bio!A" = T [49, 98, 105, 111, 33, 65] := by decide +kernel
theorem fmod_nat (a : Int) {k : Nat} (h : 0 < k) : ∃ p : Nat, a.fmod (k : Int) = (p : Int) ∧ p < k := by
  have h1 := Int.fmod_nonneg_of_pos a (b := (k : Int)) (by omega)
  have h2 := Int.fmod_lt_of_pos a (b := (k : Int)) (by omega)
  exact ⟨(a.fmod k).toNat, by omega, by omega⟩
theorem SG_at {i : Nat} (h : i < 38) : SG[i]? = some (SG.getD i 0) := by
  have h' : i < SG.length := h
  rw [List.getD_eq_getElem?_getD, List.getElem?_eq_getElem h']
  rfl
theorem SG_pr : ∀ c ∈ SG, 33 ≤ c ∧ c ≤ 126 := by decide
set_option maxHeartbeats 4000000 in
theorem turned {w : World} {A : Around} {s : Shared} {mg mb : Str → Option Value} {l : List Nat} {t u : Tok} {n : Int} {Q E : Value → Shared → Prop}
   (hA : A.handled = none) (hroom : A.depth < 880) (G : Gd w mg mb s.heap) (hp : Pr l) (h0 : 0 < l.length) (hlen : l.length ≤ 900)
   (hQ : ∀ h' tk l' t', Ext s.heap h' → Pr l' → l.length ≤ l'.length + 1 → l'.length ≤ l.length + 1 → 0 < l'.length → Q (.str (T l') t') { s with heap := h', toks := tk }) :
   wpAny (model PR w) A (call (.ref 108) [.str (T l) t, .int n u]) Q E s := by
  refine wpAny_call (enter [("text", .str (T l) t), ("n", .int n u)] (by simp only [recursionLimit]; omega) G rfl rfl rfl (by decide) (locs rfl) rfl rfl rfl (fun h₁ L N₁ k₁ hL G₁ => ?_))
  have hL' : 114 ≤ L := Nat.le_trans G.size hL
  walk_at "go"
  refine Then.mk fun p h₂ k₂ np P₂ => ?_
  have G₂ := G₁.keeps k₂
  have N₂ := N₁.keeps k₂
  walk_at "go"
  refine Then.mk fun h₃ k₃ => ?_
  have G₃ := G₂.keeps k₃
  have N₃ := N₂.keeps k₃
  walk_at "go"
  refine Then.mk fun h₄ N₄ b₄ => ?_
  have G₄ := G₃.but b₄ hL'
  walk_at "go"
  refine Then.mk fun h₅ N₅ b₅ => ?_
  have G₅ := G₄.but b₅ hL'
  have lenl : l.length ≤ 1000 := by omega
  walk_at "go"
  refine Then.mk ?_
  rw [charset_T, more_T]
  refine PyProof.Rows.add_str (fun t₁ tk₁ => ?_) (by rw [sizeLine_eq, T_len, T_len]; decide)
  rw [T_append]
  try dsimp only
  obtain ⟨pl, hpl, plt⟩ := fmod_nat (n.fdiv 5) h0
  obtain ⟨sx, hsx, slt⟩ := fmod_nat ((n.fdiv 5).fdiv 100) (k := 38) (by decide)
  rw [hpl]
  have hsx' : ((n.fdiv 5).fdiv 100).fmod 38 = (sx : Int) := hsx
  walk_at "go"
  rw [hsx']
  refine itemT (l := SG) (SG_at slt) (by omega) ?_
  walk_at "go"
  refine Then.mk fun p₆ h₆ k₆ np₆ P₆ => ?_
  have G₆ := G₅.keeps k₆
  have N₆ := N₅.keeps k₆
  walk_at "go"
  refine Then.mk fun h₇ k₇ => ?_
  have G₇ := G₆.keeps k₇
  have N₇ := N₆.keeps k₇
  walk_at "go"
  refine Then.mk fun h₈ N₈ b₈ => ?_
  have G₈ := G₇.but b₈ hL'
  walk_at "go"
  refine Then.mk fun h₉ N₉ b₉ => ?_
  have G₉ := G₈.but b₉ hL'
  have e₉ : Ext s.heap h₉ := ((((((k₁.trans (k₂.trans k₃)).but_trans b₄ hL).but_trans b₅ hL).trans (k₆.trans k₇)).but_trans b₈ hL).but_trans b₉ hL)
  have hcs : ∀ c ∈ [SG.getD sx 0], 33 ≤ c ∧ c ≤ 126 := by
    intro c hc
    rw [List.mem_singleton.mp hc]
    exact SG_pr _ (List.mem_of_getElem? (SG_at slt))
  generalize SG.getD sx 0 = sg at *
  walk_at "go"
  · exact hQ _ _ l _ e₉ hp (by omega) (by omega) h0
  have pup : ∀ {x : List Nat}, Pr x → Pr (x.map up) := fun {x} h c hc => by
    obtain ⟨d, hd, rfl⟩ := List.mem_map.mp hc
    have := h d hd
    unfold up
    split <;> omega
  have p128 : ∀ {x : List Nat}, Pr x → ∀ c ∈ x, c < 128 := fun h c hc => by have := h c hc; omega
  obtain ⟨c0, hc0⟩ : ∃ c, l[pl]? = some c := ⟨_, List.getElem?_eq_getElem plt⟩
  have pc0 : Pr [c0] := fun c hc => by
    rw [List.mem_singleton.mp hc]
    exact hp _ (List.mem_of_getElem? hc0)
  have hsl : ∀ h, Ext h₉ h → Ext s.heap h := fun _ k => e₉.trans k
  have htk : (l.take pl).length = pl := by rw [List.length_take]; omega
  have hdr : (l.drop (pl + 1)).length = l.length - (pl + 1) := List.length_drop
  have hdr0 : (l.drop pl).length = l.length - pl := List.length_drop
  have ptk : Pr (l.take pl) := fun c hc => hp c (List.mem_of_mem_take hc)
  have pdr : ∀ k, Pr (l.drop k) := fun k c hc => hp c (List.mem_of_mem_drop hc)
  have papp : ∀ {a b : List Nat}, Pr a → Pr b → Pr (a ++ b) := fun x y c hc => (List.mem_append.mp hc).elim (x c) (y c)
  walk_at "go"
  · refine slice_ns (s := { s with heap := h₉, toks := _ }) (Then.mk fun h₁₀ t₁₀ tk₁₀ k₁₀ => ?_) (by rw [T_len, sizeLine_eq]; omega)
    rw [slice_toT l (Nat.le_of_lt plt)]
    have G₁₀ := G₉.keeps k₁₀
    have N₁₀ := N₉.keeps k₁₀
    try dsimp only
    walk_at "go"
    refine Then.mk ?_
    refine PyProof.Rows.add_str (fun t₁₁ tk₁₁ => ?_) (by rw [sizeLine_eq, T_len, T_len]; simp only [List.length_cons, List.length_nil]; omega)
    rw [T_append]
    try dsimp only
    walk_at "go"
    refine slice_sn (s := { s with heap := h₁₀, toks := _ }) (Then.mk fun h₁₂ t₁₂ tk₁₂ k₁₂ => ?_) (by rw [T_len, sizeLine_eq]; omega)
    rw [slice_succT l plt]
    try dsimp only
    walk_at "go"
    refine Then.mk ?_
    refine PyProof.Rows.add_str (fun t₁₃ tk₁₃ => ?_) (by rw [sizeLine_eq, T_len, T_len]; simp only [List.length_append, List.length_cons, List.length_nil]; omega)
    rw [T_append]
    try dsimp only
    exact hQ _ _ _ _ (hsl _ (k₁₀.trans k₁₂)) (papp (papp ptk hcs) (pdr _)) (by simp only [List.length_append, List.length_cons, List.length_nil]; omega) (by simp only [List.length_append, List.length_cons, List.length_nil]; omega) (by simp only [List.length_append, List.length_cons, List.length_nil]; omega)
  walk_at "go"
  · refine slice_ns (s := { s with heap := h₉, toks := _ }) (Then.mk fun h₁₀ t₁₀ tk₁₀ k₁₀ => ?_) (by rw [T_len, sizeLine_eq]; omega)
    rw [slice_toT l (Nat.le_of_lt plt)]
    have G₁₀ := G₉.keeps k₁₀
    have N₁₀ := N₉.keeps k₁₀
    try dsimp only
    walk_at "go"
    refine Then.mk ?_
    refine PyProof.Rows.add_str (fun t₁₁ tk₁₁ => ?_) (by rw [sizeLine_eq, T_len, T_len]; simp only [List.length_cons, List.length_nil]; omega)
    rw [T_append]
    try dsimp only
    walk_at "go"
    refine slice_sn (s := { s with heap := h₁₀, toks := _ }) (Then.mk fun h₁₂ t₁₂ tk₁₂ k₁₂ => ?_) (by rw [T_len, sizeLine_eq]; omega)
    rw [slice_fromT l (Nat.le_of_lt plt)]
    try dsimp only
    walk_at "go"
    refine Then.mk ?_
    refine PyProof.Rows.add_str (fun t₁₃ tk₁₃ => ?_) (by rw [sizeLine_eq, T_len, T_len]; simp only [List.length_append, List.length_cons, List.length_nil]; omega)
    rw [T_append]
    try dsimp only
    exact hQ _ _ _ _ (hsl _ (k₁₀.trans k₁₂)) (papp (papp ptk hcs) (pdr _)) (by simp only [List.length_append, List.length_cons, List.length_nil]; omega) (by simp only [List.length_append, List.length_cons, List.length_nil]; omega) (by simp only [List.length_append, List.length_cons, List.length_nil]; omega)
  walk_at "go"
  walk_at "go"
  · rename_i q3 q4
    refine slice_ns (s := { s with heap := h₉, toks := _ }) (Then.mk fun h₁₀ t₁₀ tk₁₀ k₁₀ => ?_) (by rw [T_len, sizeLine_eq]; omega)
    rw [slice_toT l (Nat.le_of_lt plt)]
    have G₁₀ := G₉.keeps k₁₀
    have N₁₀ := N₉.keeps k₁₀
    try dsimp only
    walk_at "go"
    refine slice_sn (s := { s with heap := h₁₀, toks := _ }) (Then.mk fun h₁₂ t₁₂ tk₁₂ k₁₂ => ?_) (by rw [T_len, sizeLine_eq]; omega)
    rw [slice_succT l plt]
    try dsimp only
    walk_at "go"
    refine Then.mk ?_
    refine PyProof.Rows.add_str (fun t₁₃ tk₁₃ => ?_) (by rw [sizeLine_eq, T_len, T_len]; omega)
    rw [T_append]
    try dsimp only
    exact hQ _ _ _ _ (hsl _ (k₁₀.trans k₁₂)) (papp ptk (pdr _)) (by simp only [List.length_append]; omega) (by simp only [List.length_append]; omega) (by simp only [List.length_append]; omega)
  all_goals (
    walk_at "go"
    · refine slice_ns (s := { s with heap := h₉, toks := _ }) (Then.mk fun h₁₀ t₁₀ tk₁₀ k₁₀ => ?_) (by rw [T_len, sizeLine_eq]; omega)
      rw [slice_toT l (Nat.le_of_lt plt)]
      have G₁₀ := G₉.keeps k₁₀
      have N₁₀ := N₉.keeps k₁₀
      try dsimp only
      walk_at "go"
      refine itemT hc0 (by omega) ?_
      walk_at "go"
      refine Then.mk (upperX (p128 pc0) (by simp) ?_)
      try dsimp only
      walk_at "go"
      refine Then.mk ?_
      refine PyProof.Rows.add_str (fun t₁₁ tk₁₁ => ?_) (by rw [sizeLine_eq, T_len, T_len]; simp only [List.length_map, List.length_cons, List.length_nil]; omega)
      rw [T_append]
      try dsimp only
      walk_at "go"
      refine slice_sn (s := { s with heap := h₁₀, toks := _ }) (Then.mk fun h₁₂ t₁₂ tk₁₂ k₁₂ => ?_) (by rw [T_len, sizeLine_eq]; omega)
      rw [slice_succT l plt]
      try dsimp only
      walk_at "go"
      refine Then.mk ?_
      refine PyProof.Rows.add_str (fun t₁₃ tk₁₃ => ?_) (by rw [sizeLine_eq, T_len, T_len]; simp only [List.length_append, List.length_map, List.length_cons, List.length_nil]; omega)
      rw [T_append]
      try dsimp only
      exact hQ _ _ _ _ (hsl _ (k₁₀.trans k₁₂)) (papp (papp ptk (pup pc0)) (pdr _)) (by simp only [List.length_append, List.length_map, List.length_cons, List.length_nil]; omega) (by simp only [List.length_append, List.length_map, List.length_cons, List.length_nil]; omega) (by simp only [List.length_append, List.length_map, List.length_cons, List.length_nil]; omega)
    walk_at "go"
    refine Then.mk (upperX (p128 hp) lenl ?_)
    try dsimp only
    exact hQ _ _ _ _ e₉ (pup hp) (by rw [List.length_map]; omega) (by rw [List.length_map]; omega) (by rw [List.length_map]; omega))
end Mine

namespace Mine
/-! The check is linear: six signs at the end land unmoved in the thirty bits. -/
def bt (t i : Nat) : Nat := if t / 2 ^ i % 2 = 1 then gens.getD i 0 else 0
def gx (t : Nat) : Nat := bt t 0 ^^^ (bt t 1 ^^^ (bt t 2 ^^^ (bt t 3 ^^^ bt t 4)))
theorem pstep_eq (c v : Nat) : pstep c v = (c % 2 ^ 25) * 2 ^ 5 ^^^ (v ^^^ gx (c / 2 ^ 25)) := by
  unfold pstep
  show pinner _ (pinner _ (pinner _ (pinner _ (pinner _ _ 0) 1) 2) 3) 4 = _
  simp only [pinner, pmid, gx, bt, Nat.xor_assoc]
theorem bt_xor (t u i : Nat) : bt (t ^^^ u) i = bt t i ^^^ bt u i := by
  unfold bt
  have e : ∀ n : Nat, (n / 2 ^ i % 2 = 1) = (n.testBit i = true) := fun n => by
    rw [Nat.testBit_eq_decide_div_mod_eq, decide_eq_true_eq]
  simp only [e, Nat.testBit_xor]
  cases t.testBit i <;> cases u.testBit i <;> simp
theorem gx_xor (t u : Nat) : gx (t ^^^ u) = gx t ^^^ gx u := by
  simp only [gx, bt_xor]
  ac_rfl
theorem pstep_xor (c c' v v' : Nat) : pstep (c ^^^ c') (v ^^^ v') = pstep c v ^^^ pstep c' v' := by
  rw [pstep_eq, pstep_eq, pstep_eq]
  have e1 : (c ^^^ c') / 2 ^ 25 = c / 2 ^ 25 ^^^ c' / 2 ^ 25 := by
    rw [← Nat.shiftRight_eq_div_pow, Nat.shiftRight_xor_distrib, Nat.shiftRight_eq_div_pow, Nat.shiftRight_eq_div_pow]
  have e2 : (c ^^^ c') % 2 ^ 25 * 2 ^ 5 = c % 2 ^ 25 * 2 ^ 5 ^^^ c' % 2 ^ 25 * 2 ^ 5 := by
    rw [Nat.xor_mod_two_pow, ← Nat.shiftLeft_eq, Nat.shiftLeft_xor_distrib, Nat.shiftLeft_eq, Nat.shiftLeft_eq]
  rw [e1, e2, gx_xor]
  ac_rfl
theorem fold_xor : ∀ (u v : List Nat) (c c' : Nat), u.length = v.length → (List.zipWith (· ^^^ ·) u v).foldl pstep (c ^^^ c') = u.foldl pstep c ^^^ v.foldl pstep c'
  | [], [], _, _, _ => rfl
  | x :: u, y :: v, c, c', h => by
    rw [List.zipWith_cons_cons, List.foldl_cons, List.foldl_cons, List.foldl_cons, pstep_xor]
    exact fold_xor u v _ _ (by simpa using h)
theorem pstep_small {c v : Nat} (hc : c < 2 ^ 25) (hv : v < 32) : pstep c v = c * 32 + v := by
  rw [pstep_eq, Nat.mod_eq_of_lt hc, Nat.div_eq_of_lt hc]
  have g0 : gx 0 = 0 := by decide
  rw [g0, Nat.xor_zero]
  have h : c * 2 ^ 5 ^^^ v = 2 ^ 5 * c + v := by
    rw [Nat.mul_comm, Nat.two_pow_add_eq_or_of_lt (i := 5) hv c]
    apply Nat.eq_of_testBit_eq
    intro i
    rw [Nat.testBit_xor, Nat.testBit_or, Nat.testBit_two_pow_mul]
    by_cases hi : 5 ≤ i
    · rw [Nat.testBit_lt_two_pow (x := v) (Nat.lt_of_lt_of_le hv (Nat.pow_le_pow_right (Nat.succ_pos 1) hi))]
      simp
    · simp [hi]
  omega
def bits (c : List Nat) : Nat := c.foldl (fun n v => n * 32 + v) 0
theorem fold0 : ∀ {c : List Nat}, c.length = 6 → (∀ x ∈ c, x < 32) → c.foldl pstep 0 = bits c := by
  intro c hl h
  match c, hl with
  | [a, b, d, e, f, g], _ =>
    have ha := h a (by simp); have hb := h b (by simp); have hd := h d (by simp); have he := h e (by simp); have hf := h f (by simp); have hg := h g (by simp)
    simp only [bits, List.foldl_cons, List.foldl_nil]
    rw [pstep_small (by omega) ha, pstep_small (by omega) hb, pstep_small (by omega) hd, pstep_small (by omega) he, pstep_small (by omega) hf, pstep_small (by omega) hg]
theorem pm_tail (v : List Nat) {c : List Nat} (hl : c.length = 6) (h : ∀ x ∈ c, x < 32) : pm (v ++ c) = pm (v ++ zeros6) ^^^ bits c := by
  unfold pm
  rw [List.foldl_append, List.foldl_append, ← fold0 hl h, ← fold_xor zeros6 c _ 0 (by rw [hl]; rfl), Nat.xor_zero]
  congr 1
  match c, hl with
  | [a, b, d, e, f, g], _ => simp [zeros6]
theorem six_bits {c : List Nat} (hl : c.length = 6) (h : ∀ x ∈ c, x < 32) : six (bits c) = c := by
  match c, hl with
  | [a, b, d, e, f, g], _ =>
    have ha := h a (by simp); have hb := h b (by simp); have hd := h d (by simp); have he := h e (by simp); have hf := h f (by simp); have hg := h g (by simp)
    have e6 : List.range 6 = [0, 1, 2, 3, 4, 5] := rfl
    simp only [six, e6, bits, List.map_cons, List.map_nil, List.foldl_cons, List.foldl_nil]
    refine congr (congrArg _ ?_) (congr (congrArg _ ?_) (congr (congrArg _ ?_) (congr (congrArg _ ?_) (congr (congrArg _ ?_) (congrArg (· :: []) ?_))))) <;> omega
theorem bits_six {X : Nat} (h : X < 2 ^ 30) : bits (six X) = X := by
  have e6 : List.range 6 = [0, 1, 2, 3, 4, 5] := rfl
  simp only [six, e6, bits, List.map_cons, List.map_nil, List.foldl_cons, List.foldl_nil]
  omega
theorem gx_lt (t : Nat) : gx t < 2 ^ 30 := by
  have b : ∀ i, bt t i < 2 ^ 30 := fun i => by
    unfold bt
    split
    · match i with
      | 0 | 1 | 2 | 3 | 4 => decide
      | i + 5 => exact (by decide : (0 : Nat) < 2 ^ 30)
    · decide
  exact Nat.xor_lt_two_pow (b 0) (Nat.xor_lt_two_pow (b 1) (Nat.xor_lt_two_pow (b 2) (Nat.xor_lt_two_pow (b 3) (b 4))))
theorem pstep_lt {c v : Nat} (hv : v < 2 ^ 30) : pstep c v < 2 ^ 30 := by
  rw [pstep_eq]
  exact Nat.xor_lt_two_pow (by omega) (Nat.xor_lt_two_pow hv (gx_lt _))
theorem fold_lt : ∀ {l : List Nat} {c : Nat}, c < 2 ^ 30 → (∀ x ∈ l, x < 2 ^ 30) → l.foldl pstep c < 2 ^ 30
  | [], _, hc, _ => hc
  | x :: r, c, _, h => fold_lt (l := r) (pstep_lt (h x (.head _))) fun y hy => h y (.tail _ hy)
theorem pm_lt {l : List Nat} (h : ∀ x ∈ l, x < 2 ^ 30) : pm l < 2 ^ 30 := fold_lt (by decide) h
/-- the six signs are fixed by the rest -/
theorem six_of_pm {v c : List Nat} {K : Nat} (hl : c.length = 6) (h : ∀ x ∈ c, x < 32) (e : pm (v ++ c) = K) : six (pm (v ++ zeros6) ^^^ K) = c := by
  rw [pm_tail v hl h] at e
  have : pm (v ++ zeros6) ^^^ K = bits c := by
    rw [← e, ← Nat.xor_assoc, Nat.xor_self, Nat.zero_xor]
  rw [this, six_bits hl h]
theorem pm_of_six {v : List Nat} {K : Nat} (hv : ∀ x ∈ v, x < 2 ^ 30) (hK : K < 2 ^ 30) : pm (v ++ six (pm (v ++ zeros6) ^^^ K)) = K := by
  have hX : pm (v ++ zeros6) ^^^ K < 2 ^ 30 := Nat.xor_lt_two_pow (pm_lt (fun x hx => by
    rcases List.mem_append.mp hx with hx | hx
    · exact hv x hx
    · have : ∀ x ∈ zeros6, x < 2 ^ 30 := by decide
      exact this x hx)) hK
  rw [pm_tail v (six_length _) (six_lt _), bits_six hX, ← Nat.xor_assoc, Nat.xor_self, Nat.zero_xor]
end Mine

namespace Mine
theorem chr_pr {d : Nat} (h : d < 32) : 33 ≤ chr d ∧ chr d ≤ 126 := by
  have : ∀ d, d < 32 → 33 ≤ chr d ∧ chr d ≤ 126 := by decide
  exact this d h
theorem enc_pr {a d ck : List Nat} (ha : Pr a) (hd : ∀ x ∈ d, x < 32) (hc : ∀ x ∈ ck, x < 32) : Pr (enc a d ck) := by
  intro c h
  unfold enc at h
  rcases List.mem_append.mp h with h | h
  · rcases List.mem_append.mp h with h | h
    · exact ha c h
    · rw [List.mem_singleton.mp h]; exact ⟨by decide, by decide⟩
  · obtain ⟨x, hx, rfl⟩ := List.mem_map.mp h
    exact chr_pr ((List.mem_append.mp hx).elim (hd x) (hc x))
theorem enc2_pr {a d : List Nat} (ha : Pr a) (hd : ∀ x ∈ d, x < 32) : Pr (enc2 a d) := enc_pr ha hd (six_lt _)
theorem enc1_pr {k : Int} {a d : List Nat} (ha : Pr a) (hd : ∀ x ∈ d, x < 32) : Pr (enc1 k a d) := enc_pr ha hd (six_lt _)
theorem enc2_len (a d : List Nat) : (enc2 a d).length = a.length + d.length + 7 := by
  simp only [enc2, enc, ck2, List.length_append, List.length_map, List.length_cons, List.length_nil, six_length]; omega
theorem enc1_len (k : Int) (a d : List Nat) : (enc1 k a d).length = a.length + d.length + 7 := by
  simp only [enc1, enc, ck1, List.length_append, List.length_map, List.length_cons, List.length_nil, six_length]; omega
theorem chr_idx : ∀ x ∈ CH, chr (CH.idxOf x) = x := by decide
theorem idx_chr : ∀ n, n < 32 → CH.idxOf (chr n) = n := by decide
theorem chr_mem : ∀ n, n < 32 → chr n ∈ CH := by decide
theorem chr_lo : ∀ n, n < 32 → lo (chr n) = chr n := by decide
theorem chr_ne : ∀ n, n < 32 → chr n ≠ 49 := by decide
theorem idx_lt : ∀ x ∈ CH, CH.idxOf x < 32 := by decide
theorem lo_lo (c : Nat) : lo (lo c) = lo c := by unfold lo; split <;> (try split) <;> omega
theorem lo_pr {c : Nat} (h : 33 ≤ c ∧ c ≤ 126) : 33 ≤ lo c ∧ lo c ≤ 126 := by unfold lo; split <;> omega
theorem cut_spec : ∀ {l a b : List Nat}, cut l = some (a, b) → l = a ++ 49 :: b ∧ 49 ∉ b
  | [], _, _, h => nomatch h
  | x :: r, a, b, h => by
    have aux : ∀ {r : List Nat}, cut r = none → 49 ∉ r := by
      intro r
      induction r with
      | nil => intro _; simp
      | cons y r ih =>
        intro h hm
        cases e : cut r with
        | some ab => simp only [cut, e] at h; cases h
        | none =>
          simp only [cut, e] at h
          by_cases hy : y = 49
          · rw [if_pos hy] at h; cases h
          · rcases List.mem_cons.mp hm with q | q
            · exact hy q.symm
            · exact ih e q
    cases e : cut r with
    | some ab =>
      obtain ⟨a', b'⟩ := ab
      simp only [cut, e] at h
      obtain ⟨rfl, rfl⟩ := Prod.mk.inj (Option.some.inj h)
      obtain ⟨q, n⟩ := cut_spec e
      exact ⟨by rw [List.cons_append, ← q], n⟩
    | none =>
      simp only [cut, e] at h
      by_cases hx : x = 49
      · rw [if_pos hx] at h
        obtain ⟨rfl, rfl⟩ := Prod.mk.inj (Option.some.inj h)
        exact ⟨by rw [hx]; rfl, aux e⟩
      · rw [if_neg hx] at h; cases h
/-- what is read of a text: the name, the numbers, the six signs -/
structure Rd (l a d c : List Nat) (K : Nat) : Prop where
  low : l.map lo = a ++ 49 :: (d ++ c).map chr
  c6 : c.length = 6
  c32 : ∀ x ∈ c, x < 32
  d32 : ∀ x ∈ d, x < 32
  chk : pm (hx a ++ (d ++ c)) = K
theorem rd_of {l a b : List Nat} {K : Nat} (hc : cut (l.map lo) = some (a, b)) (h6 : 6 ≤ b.length) (hb : (b.all fun c => decide (c ∈ CH)) = true) (hK : pm (hx a ++ numsOf b) = K) :
    Rd l a ((numsOf b).take (b.length - 6)) ((numsOf b).drop (b.length - 6)) K := by
  obtain ⟨e, n⟩ := cut_spec hc
  have hb' : ∀ x ∈ b, x ∈ CH := fun x hx => of_decide_eq_true (List.all_eq_true.mp hb x hx)
  have n32 : ∀ x ∈ numsOf b, x < 32 := fun x hx => by
    obtain ⟨y, hy, rfl⟩ := List.mem_map.mp hx
    exact idx_lt y (hb' y hy)
  have back : (numsOf b).map chr = b := by
    unfold numsOf
    rw [List.map_map]
    exact (List.map_congr_left fun x hx => chr_idx x (hb' x hx)).trans (List.map_id' b)
  have ln : (numsOf b).length = b.length := List.length_map ..
  exact ⟨by rw [List.take_append_drop, back]; exact e, by rw [List.length_drop, ln]; omega, fun x hx => n32 x (List.mem_of_mem_drop hx), fun x hx => n32 x (List.mem_of_mem_take hx), by rw [List.take_append_drop]; exact hK⟩
section
variable {l a d c : List Nat} {K : Nat}
theorem Rd.len (r : Rd l a d c K) : l.length = a.length + d.length + 7 := by
  have := congrArg List.length r.low
  simp only [List.length_append, List.length_map, List.length_cons, r.c6] at this
  omega
theorem Rd.pr (r : Rd l a d c K) (hp : Pr l) : Pr a := fun x hx => by
  have : x ∈ l.map lo := by rw [r.low]; exact List.mem_append_left _ hx
  obtain ⟨y, hy, rfl⟩ := List.mem_map.mp this
  exact lo_pr (hp y hy)
theorem Rd.six (r : Rd l a d c K) : six (pm (hx a ++ d ++ zeros6) ^^^ K) = c :=
  six_of_pm r.c6 r.c32 (by rw [List.append_assoc]; exact r.chk)
theorem Rd.enc (r : Rd l a d c K) : enc a d (Mine.six (pm (hx a ++ d ++ zeros6) ^^^ K)) = l.map lo := by
  rw [r.six, r.low]
  unfold Mine.enc
  rw [List.append_assoc]; rfl
end
theorem D2_rd {l a d : List Nat} (h : D2 l = some (a, d)) : ∃ c, Rd l a d c 1 ∧ mixed l = false ∧ 1 ≤ a.length ∧ a.length ≤ 83 ∧ ∃ b, cut (l.map lo) = some (a, b) ∧ 6 ≤ b.length ∧ (b.all fun c => decide (c ∈ CH)) = true ∧ pm (hx a ++ numsOf b) = 1 ∧ d = (numsOf b).take (b.length - 6) := by
  unfold D2 at h
  by_cases hm : mixed l = true
  · rw [if_pos hm] at h; cases h
  rw [if_neg hm] at h
  cases hc : cut (l.map lo) with
  | none => rw [hc] at h; cases h
  | some ab =>
    obtain ⟨a', b⟩ := ab
    rw [hc] at h
    dsimp only at h
    by_cases hq : 1 ≤ a'.length ∧ a'.length ≤ 83 ∧ 6 ≤ b.length ∧ (b.all fun c => decide (c ∈ CH)) = true ∧ pm (hx a' ++ numsOf b) = 1
    · rw [if_pos hq] at h
      obtain ⟨rfl, rfl⟩ := Prod.mk.inj (Option.some.inj h)
      exact ⟨_, rd_of hc hq.2.2.1 hq.2.2.2.1 hq.2.2.2.2, by simpa using hm, hq.1, hq.2.1, b, rfl, hq.2.2.1, hq.2.2.2.1, hq.2.2.2.2, rfl⟩
    · rw [if_neg hq] at h; cases h
theorem D1_rd {l a d : List Nat} {k : Nat} (h : D1 l = some (k, a, d)) : ∃ c K, ((k = 1 ∧ K = 1) ∨ (k = 2 ∧ K = 734539939)) ∧ Rd l a d c K ∧ mixed l = false ∧ 1 ≤ a.length ∧ l.length ≤ 90 ∧ ∃ b, cut (l.map lo) = some (a, b) ∧ 6 ≤ b.length ∧ (b.all fun c => decide (c ∈ CH)) = true ∧ pm (hx a ++ numsOf b) = K ∧ d = (numsOf b).take (b.length - 6) := by
  unfold D1 at h
  by_cases hm : mixed l = true
  · rw [if_pos hm] at h; cases h
  rw [if_neg hm] at h
  cases hc : cut (l.map lo) with
  | none => rw [hc] at h; cases h
  | some ab =>
    obtain ⟨a', b⟩ := ab
    rw [hc] at h
    dsimp only at h
    by_cases hq : 1 ≤ a'.length ∧ 6 ≤ b.length ∧ l.length ≤ 90 ∧ (b.all fun c => decide (c ∈ CH)) = true
    · rw [if_pos hq] at h
      by_cases h1 : pm (hx a' ++ numsOf b) = 1
      · rw [if_pos h1] at h
        obtain ⟨q1, q2⟩ := Prod.mk.inj (Option.some.inj h)
        subst q1
        obtain ⟨rfl, rfl⟩ := Prod.mk.inj q2
        exact ⟨_, 1, .inl ⟨rfl, rfl⟩, rd_of hc hq.2.1 hq.2.2.2 h1, by simpa using hm, hq.1, hq.2.2.1, b, rfl, hq.2.1, hq.2.2.2, h1, rfl⟩
      · rw [if_neg h1] at h
        by_cases h2 : pm (hx a' ++ numsOf b) = 734539939
        · rw [if_pos h2] at h
          obtain ⟨q1, q2⟩ := Prod.mk.inj (Option.some.inj h)
          subst q1
          obtain ⟨rfl, rfl⟩ := Prod.mk.inj q2
          exact ⟨_, 734539939, .inr ⟨rfl, rfl⟩, rd_of hc hq.2.1 hq.2.2.2 h2, by simpa using hm, hq.1, hq.2.2.1, b, rfl, hq.2.1, hq.2.2.2, h2, rfl⟩
        · rw [if_neg h2] at h; cases h
    · rw [if_neg hq] at h; cases h
theorem P1 {l a d : List Nat} (hp : Pr l) (h : D2 l = some (a, d)) : D1 l = (if l.length ≤ 90 then some (1, a, d) else none) ∧ enc2 a d = l.map lo ∧ (∀ x ∈ d, x < 32) ∧ d.length ≤ l.length ∧ a.length ≤ l.length ∧ Pr a := by
  obtain ⟨c, r, hm, h1, h83, b, hc, h6, hb, hk, hd⟩ := D2_rd h
  refine ⟨?_, r.enc, r.d32, by rw [r.len]; omega, by rw [r.len]; omega, r.pr hp⟩
  by_cases hl : l.length ≤ 90
  · rw [if_pos hl, D1_on hm hc h1 hl h6, if_pos hb, if_pos hk, hd]
  · rw [if_neg hl]
    unfold D1
    rw [hm, hc]
    simp only [hl, false_and, and_false, if_false, Bool.false_eq_true]
theorem P3 {l a d : List Nat} {k : Nat} (hp : Pr l) (h : D1 l = some (k, a, d)) : (k = 1 ∨ k = 2) ∧ l.length ≤ 90 ∧ enc1 k a d = l.map lo ∧ (k = 1 → D2 l = some (a, d)) ∧ (∀ x ∈ d, x < 32) ∧ d.length ≤ l.length ∧ a.length ≤ l.length ∧ Pr a := by
  obtain ⟨c, K, hk, r, hm, h1, hl, b, hc, h6, hb, hkk, hd⟩ := D1_rd h
  have hlen := r.len
  have e := r.enc
  refine ⟨hk.elim (fun h => .inl h.1) fun h => .inr h.1, hl, ?_, ?_, r.d32, by omega, by omega, r.pr hp⟩
  · rcases hk with ⟨rfl, rfl⟩ | ⟨rfl, rfl⟩ <;> exact e
  · intro k1
    rcases hk with ⟨_, rfl⟩ | ⟨rfl, _⟩
    · rw [D2_on hm hc h1 (by omega) h6, if_pos ⟨hb, hkk⟩, hd]
    · omega
theorem P2 {l : List Nat} (hp : Pr l) (h : D2 l = none) : D1 l = none ∨ ∃ a d, D1 l = some (2, a, d) := by
  cases e : D1 l with
  | none => exact .inl rfl
  | some x =>
    obtain ⟨k, a, d⟩ := x
    rcases (P3 hp e).1 with rfl | rfl
    · rw [(P3 hp e).2.2.2.1 rfl] at h; cases h
    · exact .inr ⟨a, d, rfl⟩
def own (l a d : List Nat) : List Nat := (l.map lo).take (l.length - 6) ++ (ck2 a d).map chr
theorem hx_lt {a : List Nat} (ha : Pr a) : ∀ x ∈ hx a, x < 2 ^ 30 := by
  intro x h
  unfold hx at h
  rcases List.mem_append.mp h with h | h
  · rcases List.mem_append.mp h with h | h
    · obtain ⟨y, hy, rfl⟩ := List.mem_map.mp h
      have := ha y hy
      omega
    · rw [List.mem_singleton.mp h]; decide
  · obtain ⟨y, hy, rfl⟩ := List.mem_map.mp h
    have := ha y hy
    omega
theorem own_enc {l a d c : List Nat} {K : Nat} (r : Rd l a d c K) : own l a d = enc2 a d := by
  unfold own enc2 enc
  rw [r.low, r.len]
  have e : a ++ 49 :: (d ++ c).map chr = (a ++ [49] ++ d.map chr) ++ c.map chr := by simp
  rw [e, List.take_left' (by simp only [List.length_append, List.length_map, List.length_cons, List.length_nil]; omega)]
  simp
theorem D2_enc2 {a d : List Nat} (ha : Pr a) (hlo : ∀ x ∈ a, lo x = x) (h1 : 1 ≤ a.length) (h83 : a.length ≤ 83) (hd : ∀ x ∈ d, x < 32) : D2 (enc2 a d) = some (a, d) := by
  have hall : ∀ x ∈ d ++ ck2 a d, x < 32 := fun x hx => (List.mem_append.mp hx).elim (hd x) (six_lt _ x)
  have el : (enc2 a d).map lo = enc2 a d := by
    refine (List.map_congr_left fun x hx => ?_).trans (List.map_id' _)
    unfold enc2 enc at hx
    rcases List.mem_append.mp hx with hx | hx
    · rcases List.mem_append.mp hx with hx | hx
      · exact hlo x hx
      · rw [List.mem_singleton.mp hx]; rfl
    · obtain ⟨y, hy, rfl⟩ := List.mem_map.mp hx
      exact chr_lo y (hall y hy)
  have hm : mixed (enc2 a d) = false := by
    unfold mixed
    rw [el]
    simp
  have hn : 49 ∉ (d ++ ck2 a d).map chr := fun h => by
    obtain ⟨y, hy, e⟩ := List.mem_map.mp h
    exact chr_ne y (hall y hy) e
  have hc : cut ((enc2 a d).map lo) = some (a, (d ++ ck2 a d).map chr) := by
    rw [el]
    have e : enc2 a d = a ++ 49 :: (d ++ ck2 a d).map chr := by
      unfold enc2 enc
      rw [List.append_assoc]; rfl
    rw [e]
    exact cut_some hn
  have lc : (ck2 a d).length = 6 := six_length _
  have en : numsOf ((d ++ ck2 a d).map chr) = d ++ ck2 a d := by
    unfold numsOf
    rw [List.map_map]
    exact (List.map_congr_left fun x hx => idx_chr x (hall x hx)).trans (List.map_id' _)
  have hb : (((d ++ ck2 a d).map chr).all fun c => decide (c ∈ CH)) = true := by
    rw [List.all_eq_true]
    intro x hx
    obtain ⟨y, hy, rfl⟩ := List.mem_map.mp hx
    exact decide_eq_true (chr_mem y (hall y hy))
  have hpm : pm (hx a ++ (d ++ ck2 a d)) = 1 := by
    unfold ck2
    rw [← List.append_assoc]
    refine pm_of_six (fun x hx => ?_) (by decide)
    rcases List.mem_append.mp hx with hx | hx
    · exact hx_lt ha x hx
    · exact Nat.lt_of_lt_of_le (hd x hx) (by decide)
  rw [D2_on hm hc h1 h83 (by rw [List.length_map, List.length_append, lc]; omega), en, if_pos ⟨hb, hpm⟩]
  rw [List.take_left' (by rw [List.length_map, List.length_append, lc]; omega)]
theorem P4 {l a d : List Nat} (hp : Pr l) (h : D1 l = some (2, a, d)) : own l a d ≠ l.map lo ∧ D2 (own l a d) = some (a, d) ∧ Pr (own l a d) ∧ 6 ≤ l.length ∧ (own l a d).length = l.length := by
  obtain ⟨c, K, hk, r, hm, h1, hl, b, hc, h6, hb, hkk, hd⟩ := D1_rd h
  have hlen := r.len
  rcases hk with ⟨q, _⟩ | ⟨_, rfl⟩
  · cases q
  have ha := r.pr hp
  rw [own_enc r]
  refine ⟨fun e => ?_, D2_enc2 ha (fun x hx => ?_) h1 (by omega) r.d32, enc2_pr ha r.d32, by omega, by rw [enc2_len]; omega⟩
  · rw [r.low] at e
    unfold enc2 enc at e
    rw [List.append_assoc] at e
    have e2 := List.append_cancel_left e
    have e3 : (d ++ ck2 a d).map chr = (d ++ c).map chr := List.append_cancel_left (as := [49]) e2
    rw [List.map_append, List.map_append] at e3
    have e4 : (ck2 a d).map chr = c.map chr := List.append_cancel_left e3
    have e5 := congrArg (List.map CH.idxOf) e4
    rw [List.map_map, List.map_map] at e5
    have id1 : ∀ v : List Nat, (∀ x ∈ v, x < 32) → v.map (CH.idxOf ∘ chr) = v := fun v hv => (List.map_congr_left fun x hx => idx_chr x (hv x hx)).trans (List.map_id' _)
    rw [id1 (ck2 a d) (six_lt _), id1 c r.c32] at e5
    have chk := r.chk
    rw [← e5, ← List.append_assoc] at chk
    have := pm_of_six (v := hx a ++ d) (K := 1) (fun x hx => by
      rcases List.mem_append.mp hx with hx | hx
      · exact hx_lt ha x hx
      · exact Nat.lt_of_lt_of_le (r.d32 x hx) (by decide)) (by decide)
    unfold ck2 at chk
    rw [this] at chk
    cases chk
  · have : x ∈ l.map lo := by rw [r.low]; exact List.mem_append_left _ hx
    obtain ⟨y, hy, rfl⟩ := List.mem_map.mp this
    exact lo_lo y
end Mine

namespace Mine
def natsD (d : List Nat) : PyData := .list (d.map fun (n : Nat) => PyData.int (n : Int))
def dat2 : Option (List Nat × List Nat) → PyData
  | none => .tuple [.none, .none]
  | some (a, d) => .tuple [.str (T a), natsD d]
def dat1 : Option (Nat × List Nat × List Nat) → PyData
  | none => .tuple [.none, .none, .none]
  | some (k, a, d) => .tuple [.int (k : Int), .str (T a), natsD d]
theorem reads_tup {h : Heap} {p : Addr} {items : Array Value} {xs : List PyData} {as : List Addr} (t : IsTup h p items) (r : ReadsAll h items.toList xs as) : Reads h (.ref p) (.tuple xs) as :=
  let ⟨_, ho, hc, _, hd⟩ := t; .tuple ho hc hd r
theorem reads_ints {h : Heap} : ∀ {vs : List Value} {d : List Nat}, NatsAre vs d → ∃ as, ReadsAll h vs (d.map fun (n : Nat) => PyData.int (n : Int)) as
  | _, _, .nil => ⟨_, .nil⟩
  | _, _, .cons n t r => let ⟨_, x⟩ := reads_ints r; ⟨_, .cons (.int _ t) x⟩
theorem reads_nats {h : Heap} {q : Addr} {vs : List Value} {d : List Nat} (l : h.PlainList q vs.toArray) (n : NatsAre vs d) : ∃ as, Reads h (.ref q) (natsD d) as :=
  let ⟨_, e⟩ := l; let ⟨_, r⟩ := reads_ints n; ⟨_, .list e rfl rfl r⟩
/-- a pair (text, numbers), or two Nones -/
theorem reads_none2 {h : Heap} {p : Addr} (t : IsTup h p #[.none, .none]) : ∃ as, Reads h (.ref p) (dat2 none) as := ⟨_, reads_tup t (.cons .none (.cons .none .nil))⟩
theorem reads_some2 {h : Heap} {p q : Addr} {a d : List Nat} {t : Tok} {vs : List Value} (x : IsTup h p #[.str (T a) t, .ref q]) (l : h.PlainList q vs.toArray) (n : NatsAre vs d) : ∃ as, Reads h (.ref p) (dat2 (some (a, d))) as :=
  let ⟨_, r⟩ := reads_nats l n; ⟨_, reads_tup x (.cons (.str _ _) (.cons r .nil))⟩
theorem reads_none1 {h : Heap} {p : Addr} (t : IsTup h p #[.none, .none, .none]) : ∃ as, Reads h (.ref p) (dat1 none) as := ⟨_, reads_tup t (.cons .none (.cons .none (.cons .none .nil)))⟩
theorem reads_some1 {h : Heap} {p q : Addr} {k : Nat} {a d : List Nat} {t u : Tok} {vs : List Value} (x : IsTup h p #[.int (k : Int) u, .str (T a) t, .ref q]) (l : h.PlainList q vs.toArray) (n : NatsAre vs d) : ∃ as, Reads h (.ref p) (dat1 (some (k, a, d))) as :=
  let ⟨_, r⟩ := reads_nats l n; ⟨_, reads_tup x (.cons (.int _ _) (.cons (.str _ _) (.cons r .nil)))⟩
theorem canAll_ints : ∀ d : List Nat, PyData.canLayAll0 (d.map fun (n : Nat) => PyData.int (n : Int)) = true
  | [] => rfl
  | n :: d => by rw [List.map_cons, PyData.canLayAll0, canAll_ints d]; rfl
theorem depthAll_ints : ∀ d : List Nat, PyData.depthAll (d.map fun (n : Nat) => PyData.int (n : Int)) ≤ 1
  | [] => Nat.zero_le _
  | n :: d => by
    rw [List.map_cons, PyData.depthAll]
    exact Nat.max_le.mpr ⟨by simp [PyData.depth], depthAll_ints d⟩
theorem strOk_T {a : List Nat} (h : Pr a) : PyData.strOk (T a) = true := by
  unfold PyData.strOk
  rw [← Array.all_toList, List.all_eq_true]
  intro c hc
  have := h c hc
  exact decide_eq_true (by omega)
theorem canLay_nats (d : List Nat) : PyData.canLay0 (natsD d) = true := by rw [natsD, PyData.canLay0]; exact canAll_ints d
theorem depth_nats (d : List Nat) : PyData.depth (natsD d) ≤ 2 := by rw [natsD, PyData.depth]; exact Nat.succ_le_succ (depthAll_ints d)
theorem can2 {a d : List Nat} (h : Pr a) : PyData.canLay0 (dat2 (some (a, d))) = true := by
  simp [dat2, PyData.canLay0, PyData.canLayAll0, canLay_nats, strOk_T h]
theorem can1 {k : Nat} {a d : List Nat} (h : Pr a) : PyData.canLay0 (dat1 (some (k, a, d))) = true := by
  simp [dat1, PyData.canLay0, PyData.canLayAll0, canLay_nats, strOk_T h]
theorem sh2 {a d : List Nat} (h : Pr a) : SeqAt.shaped (dat2 (some (a, d))) = true := by
  have := depth_nats d
  unfold SeqAt.shaped
  rw [can2 h, Bool.true_and]
  refine decide_eq_true ?_
  simp only [dat2, PyData.depth, PyData.depthAll]
  omega
theorem sh1 {k : Nat} {a d : List Nat} (h : Pr a) : SeqAt.shaped (dat1 (some (k, a, d))) = true := by
  have := depth_nats d
  unfold SeqAt.shaped
  rw [can1 h, Bool.true_and]
  refine decide_eq_true ?_
  simp only [dat1, PyData.depth, PyData.depthAll]
  omega
theorem sh2n : SeqAt.shaped (dat2 none) = true := by rfl
theorem sh1n : SeqAt.shaped (dat1 none) = true := by rfl
theorem ev2 {a d : List Nat} (h : Pr a) : PyData.eqv (dat2 (some (a, d))) (dat2 (some (a, d))) = true := SeqAt.eqv_refl _ (can2 h)
theorem ev1 {k : Nat} {a d : List Nat} (h : Pr a) : PyData.eqv (dat1 (some (k, a, d))) (dat1 (some (k, a, d))) = true := SeqAt.eqv_refl _ (can1 h)
theorem ev2n {a d : List Nat} : PyData.eqv (dat2 (some (a, d))) (dat2 none) = false := by simp [dat2, PyData.eqv, PyData.eqvAll]
theorem evnn : PyData.eqv (dat2 none) (dat2 none) = true := by simp [dat2, PyData.eqv, PyData.eqvAll]
theorem ev1n : PyData.eqv (dat1 none) (dat1 none) = true := by simp [dat1, PyData.eqv, PyData.eqvAll]
section
variable {w : World} {A : Around} {E : Value → Shared → Prop} {s : Shared} {Q : Value → Shared → Prop} {a b : Value} {da db : PyData}
theorem eqX {r : Bool} (hu : A.units + 64 < cLine) (ra : ∃ as, Reads s.heap a da as) (rb : ∃ bs, Reads s.heap b db bs) (sa : SeqAt.shaped da = true) (sb : SeqAt.shaped db = true) (e : PyData.eqv da db = r) (h : Q (.bool r) s) :
    wpAny (model PR w) A (compareOp .Eq a b) Q E s := by
  obtain ⟨_, ra⟩ := ra
  obtain ⟨_, rb⟩ := rb
  exact eq_dataH ra rb sa sb hu (by rw [e]; exact h)
theorem neX {r : Bool} (hu : A.units + 64 < cLine) (ra : ∃ as, Reads s.heap a da as) (rb : ∃ bs, Reads s.heap b db bs) (sa : SeqAt.shaped da = true) (sb : SeqAt.shaped db = true) (e : PyData.eqv da db = r) (h : Q (.bool (!r)) s) :
    wpAny (model PR w) A (compareOp .NotEq a b) Q E s := by
  obtain ⟨_, ra⟩ := ra
  obtain ⟨_, rb⟩ := rb
  exact ne_dataH ra rb sa sb hu (by rw [e]; exact h)
def isN : Value → Bool
  | .none => true
  | _ => false
/-- `x not in (None, 2)` -/
theorem notInX_none {p : Addr} {u : Tok} (t : IsTup s.heap p #[.none, .int 2 u]) (h : Q (.bool false) s) : wpAny (model PR w) A (compareOp .NotIn .none (.ref p)) Q E s := by
  refine SeqAt.notIn_tupleAt isN t (fun y hy => ?_) ?_
  · rcases Array.mem_def.mp hy with _ | ⟨_, _ | ⟨_, hh⟩⟩
    · exact SeqAt.EqAt.same _
    · exact SeqAt.EqAt.int_none _ _
    · cases hh
  · simpa [isN] using h
theorem notInX_two {p : Addr} {u v : Tok} (t : IsTup s.heap p #[.none, .int 2 u]) (h : Q (.bool false) s) : wpAny (model PR w) A (compareOp .NotIn (.int 2 v) (.ref p)) Q E s := by
  refine SeqAt.notIn_tupleAt (fun x => !isN x) t (fun y hy => ?_) ?_
  · rcases Array.mem_def.mp hy with _ | ⟨_, _ | ⟨_, hh⟩⟩
    · exact SeqAt.EqAt.none_int _ _
    · exact SeqAt.EqAt.int_int _ _ _ _
    · cases hh
  · simpa [isN] using h
end
theorem isTup_butP {h h' : Heap} {P p : Addr} {ps xs : Array Value} (t : Tab P ps h) (k : But P h h') (x : IsTup h p xs) : IsTup h' p xs := by
  obtain ⟨o, ho, hc, r⟩ := x
  refine ⟨o, k p o (fun q => ?_) ho, hc, r⟩
  subst q
  rw [t.at_] at ho
  cases ho
  cases hc
theorem pl_butP {h h' : Heap} {P p : Addr} {ps xs : Array Value} (t : Tab P ps h) (k : But P h h') (x : h.PlainList p xs) : h'.PlainList p xs := by
  obtain ⟨n, e⟩ := x
  refine ⟨n, k p _ (fun q => ?_) e⟩
  subst q
  rw [t.at_] at e
  cases e
theorem pl_but {h h' : Heap} {L a : Addr} {m : Str → Option Value} {xs : Array Value} (N : h.Ns L m) (k : But L h h') (l : h.PlainList a xs) : h'.PlainList a xs := by
  have hne := ns_ne_list N l.isList
  obtain ⟨n, e⟩ := l
  exact ⟨n, k _ _ hne e⟩
/-- what carries tuples and lists on -/
structure Car (h h' : Heap) : Prop where
  tup : ∀ {p xs}, IsTup h p xs → IsTup h' p xs
  pl : ∀ {p xs}, h.PlainList p xs → h'.PlainList p xs
theorem Car.ext {h h' : Heap} (k : Ext h h') : Car h h' := ⟨fun x => tup_ext x k, fun x => pl_ext x k⟩
theorem Car.but {h h' : Heap} {L : Addr} {m : Str → Option Value} (N : h.Ns L m) (k : But L h h') : Car h h' := ⟨fun x => tup_but N k x, fun x => pl_but N k x⟩
theorem Car.butP {h h' : Heap} {P : Addr} {ps : Array Value} (t : Tab P ps h) (k : But P h h') : Car h h' := ⟨fun x => isTup_butP t k x, fun x => pl_butP t k x⟩
theorem IsD2.car {h h' : Heap} (c : Car h h') : ∀ {v : Value} {r}, IsD2 h v r → IsD2 h' v r
  | _, none, ⟨p, e, t⟩ => ⟨p, e, c.tup t⟩
  | _, some _, ⟨p, q, t, vs, e, x, l, n⟩ => ⟨p, q, t, vs, e, c.tup x, c.pl l, n⟩
theorem IsD1.car {h h' : Heap} (c : Car h h') : ∀ {v : Value} {r}, IsD1 h v r → IsD1 h' v r
  | _, none, ⟨p, e, t⟩ => ⟨p, e, c.tup t⟩
  | _, some _, ⟨p, q, t, u, vs, e, x, l, n⟩ => ⟨p, q, t, u, vs, e, c.tup x, c.pl l, n⟩
end Mine

namespace Mine
def But2 (h h' : Heap) : Prop := ∀ b o, b ≠ 59 → b ≠ 93 → h.get? b = some o → h'.get? b = some o
theorem ints_at : ∀ {vs : List Value} {ns : List Int}, IntsAre vs ns → ∀ {i : Nat} {v : Value}, vs[i]? = some v → ∃ n t, v = .int n t
  | _, _, .nil, _, _, e => by simp at e
  | _, _, .cons n t h, 0, v, e => by simp at e; exact ⟨n, t, e.symm⟩
  | _, _, .cons n t h, i + 1, v, e => by simp at e; exact ints_at h e
theorem pow_fit : ∀ k : Nat, k < 9 → ((32 : Int) ^ k ≠ 0) ∧ ((32 : Int) ^ k).natAbs.log2 < 9000 := by decide +kernel
theorem bc_T : Str.ofString "bc" = T [98, 99] := by decide +kernel
theorem tb_T : Str.ofString "tb" = T [116, 98] := by decide +kernel
theorem a1b_T : Str.ofString "a1b" = T [97, 49, 98] := by decide +kernel
theorem x_T : Str.ofString "x" = T [120] := by decide +kernel
theorem name_at (a b c d : Tok) : ∀ i : Nat, i < 4 → ∃ nm t, [Value.str (Str.ofString "bc") a, .str (Str.ofString "tb") b, .str (Str.ofString "a1b") c, .str (Str.ofString "x") d][i]? = some (.str (T nm) t) ∧ Pr nm ∧ 1 ≤ nm.length ∧ nm.length ≤ 3
  | 0, _ => ⟨_, a, by rw [bc_T]; rfl, by unfold Pr; decide, by decide, by decide⟩
  | 1, _ => ⟨_, b, by rw [tb_T]; rfl, by unfold Pr; decide, by decide, by decide⟩
  | 2, _ => ⟨_, c, by rw [a1b_T]; rfl, by unfold Pr; decide, by decide, by decide⟩
  | 3, _ => ⟨_, d, by rw [x_T]; rfl, by unfold Pr; decide, by decide, by decide⟩
theorem nats32 : ∀ {as : List Nat} {ys : List Value}, Paired (fun _ r => ∃ (n : Nat) (t : Tok), n < 32 ∧ r = .int (n : Int) t) as ys → ∃ ns, NatsAre ys ns ∧ ns.length = as.length ∧ ∀ d ∈ ns, d < 32
  | _, _, .nil => ⟨[], .nil, rfl, nofun⟩
  | _, _, .cons ⟨n, t, hn, e⟩ r => by
    obtain ⟨ns, h, l, q⟩ := nats32 r
    subst e
    refine ⟨n :: ns, .cons n t h, by simp [l], fun d hd => ?_⟩
    rcases List.mem_cons.mp hd with rfl | hd
    · exact hn
    · exact q d hd
section
variable {w : World} {A : Around} {E : Value → Shared → Prop} {s : Shared} {Q : Value → Shared → Prop}
theorem tupItem {value slice : PySem.Expr} {t : Addr} {l : List Value} {k : Int} {u : Tok} {x : Value} (ht : IsTup s.heap t l.toArray) (h0 : 0 ≤ k) (h3 : k < 3) (hx : l[k.toNat]? = some x) (h : Q x s)
    (hs : subscripted slice false (.ref t) (.int k u) = operate [.ref t, .int k u] (getItem (.ref t) (.int k u)) := by with_unfolding_all rfl) (hg : ∀ r, letTemporaryGo value (.ref t) r = pure () := by intro _; with_unfolding_all rfl) :
    wpAny (model PR w) A (subscriptTail value slice (.ref t) (.int k u)) Q E s := by
  have lt := (List.getElem?_eq_some_iff.mp hx).1
  refine item_tupleL ht (by omega) (by omega) ?_ hx h hs hg
  simp only [seqIndex?]
  rw [if_neg (show ¬ k < 0 by omega), if_pos]
  simp
  omega
end
local macro_rules | `(tactic| walk_at "subscriptTail") => `(tactic| ((with_reducible show wpAny _ _ (subscriptTail _ _ (Value.ref _) (Value.int _ _)) _ _ _); refine' Mine.tupItem ?ht ?h0 ?h3 ?hx ?_; (case ht => assumption); (case h0 => decide); (case h3 => decide); (case hx => rfl); (try dsimp only)))
set_option maxHeartbeats 8000000 in
theorem law {w : World} {A : Around} {s : Shared} {mg mb : Str → Option Value} {l : Addr} {vs : List Value} {ns : List Int} {ps qs : Array Value} {Q E : Value → Shared → Prop}
   (hA : A.handled = none) (hroom : A.depth < 870) (hun : A.units < 9000) (G : Gd w mg mb s.heap) (T1 : Tab 59 ps s.heap) (T2 : Tab 93 qs s.heap) (AB : AllBare s.gens) (hl : s.heap.IsList l vs.toArray) (hi : IntsAre vs ns) (hlen : vs.length ≤ 1000)
   (hQ : ∀ s' more more', But2 s.heap s'.heap → Tab 59 (ps ++ more) s'.heap → Tab 93 (qs ++ more') s'.heap → AllBare s'.gens → s'.os = s.os → Q (.bool true) s') :
   wpAny (model PR w) A (call (.ref 113) [.ref l]) Q E s := by
  refine wpAny_call (enterC [("script", .ref l)] "digits" (by simp only [recursionLimit]; omega) G rfl rfl rfl (fun _ => rfl) (by intro x hx; left; revert x; exact locs rfl) rfl rfl rfl (fun h₁ L tk₁ N₁ C₁ k₁ hL G₁ => ?_))
  have hL' : 114 ≤ L := Nat.le_trans G.size hL
  walk_at "go"
  refine Then.mk ?_
  refine numbers (by exact hA) (by show A.depth + 1 < 880; omega) G₁ (list_ext hl k₁) hi hlen fun h₂ tk₂ dl dvs dns k₂ nd P₂ di dlen => ?_
  have G₂ := G₁.keeps k₂
  have N₂ := N₁.keeps k₂
  have C₂ := cell_ext C₁ k₂
  try dsimp only
  walk_at "go"
  refine Then.mk fun h₃ C₃ b₃ => ?_
  have G₃ := G₂.but b₃ (Nat.le_succ_of_le hL')
  have N₃ := ns_but N₂ b₃ (Nat.ne_of_lt (Nat.lt_succ_self L))
  have D₃ : h₃.IsList dl dvs.toArray := list_but' P₂.isList b₃ (list_ne_cell P₂.isList C₂)
  have ld : dvs.length = 8 := by rw [di.length]; exact dlen
  have dl8 : ∀ i : Nat, i < 8 → ((i : Int)) < (dns.length : Int) := fun i h => by omega
  walk_at "go"
  refine Then.mk fun a4 h₄ k₄ n₄ P₄ => ?_
  have G₄ := G₃.keeps k₄
  have N₄ := N₃.keeps k₄
  have C₄ := cell_ext C₃ k₄
  have D₄ := list_ext D₃ k₄
  walk_at "go"
  obtain ⟨c4, hc4, lt4⟩ := fmod_nat (dns.getD (Int.toNat 0) 0) (k := 4) (by decide)
  have hc4' : (dns.getD (Int.toNat 0) 0).fmod 4 = (c4 : Int) := hc4
  rw [hc4']
  obtain ⟨nm, tn, hnm, pnm, lnm1, lnm3⟩ := name_at tk₂ (tk₂ + 1) (tk₂ + 1 + 1) (tk₂ + 1 + 1 + 1) c4 lt4
  refine item_listR P₄.isList (by omega) (by omega) (by rw [Int.toNat_natCast]; exact (List.getElem?_toArray ..).trans hnm) ?_
  walk_at "go"
  refine Then.mk fun h₅ N₅ b₅ => ?_
  have G₅ := G₄.but b₅ hL'
  have D₅ := list_but N₄ b₅ D₄
  have C₅ := cell_but C₄ b₅ (Nat.succ_ne_self L)
  walk_at "go"
  refine Then.mk ?_
  obtain ⟨cnt, hcnt, ltc⟩ := fmod_nat (dns.getD (Int.toNat 1) 0) (k := 83) (by decide)
  have hcnt' : (dns.getD (Int.toNat 1) 0).fmod 83 = (cnt : Int) := hcnt
  refine compRangeA (L := L) (fun _ r => ∃ (n : Nat) (t : Tok), n < 32 ∧ r = .int (n : Int) t) (by exact hA) rfl (by with_unfolding_all rfl) rfl (by decide) rfl (by decide) rfl rfl rfl ?_
  walk_at "go"
  rw [hcnt']
  refine Then.mk fun r h₆ t₁ t₂ t₃ k₆ hr => ?_
  have G₆ := G₅.keeps k₆
  have N₆ := N₅.keeps k₆
  have C₆ := cell_ext C₅ k₆
  have D₆ := list_ext D₅ k₆
  refine ⟨r, cnt, t₁, t₂, t₃, nsOf N₆, rfl, hr, by rw [sizeLine_eq]; omega, N₆, ?_, ?_⟩
  · intro C i tk s₃ m₃ hin N₃ hm k₃
    have G₃ := G₆.keeps k₃
    have C₃ := cell_ext C₆ k₃
    have D₃ := list_ext D₆ k₃
    walk_at "go"
    obtain ⟨ke, hke, ltk⟩ := fmod_nat ((i : Int).fdiv 3) (k := 9) (by decide)
    have hke' : ((i : Int).fdiv 3).fmod 9 = (ke : Int) := hke
    rw [hke']
    refine Then.mk ?_
    refine pow_int_small (by omega) (by omega) (by decide) ?_
    rw [Int.toNat_natCast]
    obtain ⟨hne, hlog⟩ := pow_fit ke ltk
    try dsimp only
    refine floordiv_int hne ?_ (.inl (PyProof.noPylong_of_log2 hlog))
    try dsimp only
    walk_at "go"
    obtain ⟨v5, hv5, lt5⟩ := fmod_nat (Int.fdiv (dns.getD (2 + (i : Int).fmod 3).toNat 0) (32 ^ ke)) (k := 32) (by decide)
    exact Then.mk ⟨⟨v5, _, lt5, congrArg (Value.int · _) hv5⟩, _, _, rfl, Ext.refl _⟩
  intro D h₇ tk₇ ys b₇ nD P₇ hp N₇
  have G₇ := G₆.but b₇ hL'
  have D₇ := list_but N₆ b₇ D₆
  have C₇ := cell_but C₆ b₇ (Nat.succ_ne_self L)
  have R₇ := P₇.isList
  obtain ⟨rns, hrn, lr, h32⟩ := nats32 hp
  rw [List.length_range] at lr
  walk_at "go"
  refine Then.mk fun h₈ N₈ b₈ => ?_
  have G₈ := G₇.but b₈ hL'
  have D₈ := list_but N₇ b₈ D₇
  have C₈ := cell_but C₇ b₈ (Nat.succ_ne_self L)
  have R₈ := list_but N₇ b₈ R₇
  have lrv : ys.toList.length = cnt := by rw [hrn.length, lr]
  refine seqR (fun s' => ∃ h' tk m' l0 t', s' = { s with heap := h', toks := tk } ∧ But L h₈ h' ∧ h'.Ns L m' ∧ m' (Str.ofString "text") = some (.str (T l0) t') ∧ Pr l0 ∧ 0 < l0.length ∧ l0.length ≤ 95) ?_ ?_
  generalize hmd : ((dns.getD (Int.toNat 0) 0).fdiv 4).fmod 3 = md at *
  walk_at "go"
  · refine Then.mk ?_
    refine encode2 (vs := ys.toList) (ds := rns) (by exact hA) (by show A.depth + 1 < 880; omega) G₈ (by omega) R₈ hrn (by omega) h32 fun h₉ tk₉ t₉ k₉ => ?_
    have N₉ := N₈.keeps k₉
    try dsimp only
    walk_at "go"
    refine Then.mk fun h₁₀ N₁₀ b₁₀ => ?_
    refine Then.mk ⟨h₁₀, _, _, enc2 nm rns, t₉, rfl, (k₉.but).trans b₁₀, N₁₀, rfl, enc2_pr pnm h32, ?_, ?_⟩
    · rw [enc2_len]; omega
    · rw [enc2_len]; omega
  · walk_at "go"
    refine Then.mk ?_
    refine encode1 (vs := ys.toList) (ds := rns) (by exact hA) (by show A.depth + 1 < 880; omega) G₈ (by omega) R₈ hrn (by omega) h32 fun h₉ tk₉ t₉ k₉ => ?_
    have N₉ := N₈.keeps k₉
    try dsimp only
    walk_at "go"
    refine Then.mk fun h₁₀ N₁₀ b₁₀ => ?_
    refine Then.mk ⟨h₁₀, _, _, enc1 md nm rns, t₉, rfl, (k₉.but).trans b₁₀, N₁₀, rfl, enc1_pr pnm h32, ?_, ?_⟩
    · rw [enc1_len]; omega
    · rw [enc1_len]; omega
  rintro s₉ ⟨h₉, tk₉, m₉, l0, t₉, rfl, b₉, N₉, ht₉, pl0, l0a, l0b⟩
  have G₉ := G₈.but b₉ hL'
  have D₉ := list_but N₈ b₉ D₈
  have C₉ := cell_but C₈ b₉ (Nat.succ_ne_self L)
  refine seqR (fun s' => ∃ h' tk m' l0 t', s' = { s with heap := h', toks := tk } ∧ But L h₉ h' ∧ h'.Ns L m' ∧ m' (Str.ofString "text") = some (.str (T l0) t') ∧ Pr l0 ∧ 0 < l0.length ∧ l0.length ≤ 98) ?_ ?_
  refine wpAny_For ?_
  walk_at "go"
  refine sliceListX (s := { s with heap := h₉, toks := _ }) D₉ (.int 5 _) .none (Then.mk fun b h₁₀ k₁₀ nb P₁₀ => ?_) (by rw [List.size_toArray, ld, sizeLine_eq]; decide)
  have e5 := slicePick_from' dvs.toArray 5
  have e5' : slicePick dvs.toArray (some 5) none none = (dvs.drop 5).toArray := e5
  rw [e5'] at P₁₀
  have G₁₀ := G₉.keeps k₁₀
  have N₁₀ := N₉.keeps k₁₀
  try dsimp only
  refine forList (by exact hA) P₁₀.isList N₁₀ rfl rfl rfl (fun i m => ∃ li t, m (Str.ofString "text") = some (.str (T li) t) ∧ Pr li ∧ 0 < li.length ∧ li.length ≤ 95 + i) ?_
      (fun i v m₁₁ h₁₁ tk₁₁ hv hJ N₁₁ b₁₁ => ?_) (fun h₁₁ tk₁₁ m₁₁ N₁₁ hJ b₁₁ => ?_)
  · exact ⟨l0, t₉, ht₉, pl0, l0a, by omega⟩
  · obtain ⟨li, tl, hm, pli, li0, lib⟩ := hJ
    have hi3 : i < 3 := by
      have := (List.getElem?_eq_some_iff.mp hv).1
      rw [List.length_drop, ld] at this
      exact this
    obtain ⟨n, tn, rfl⟩ : ∃ n t, v = .int n t := by
      rw [List.getElem?_drop] at hv
      exact ints_at di hv
    have G₁₁ := G₁₀.but b₁₁ hL'
    walk_at "go"
    refine Then.mk ?_
    refine turned (by exact hA) (by show A.depth + 1 < 880; omega) G₁₁ pli li0 (by omega) fun h₁₂ tk₁₂ l' t' k₁₂ pl' la lb l0' => ?_
    have N₁₂ := N₁₁.keeps k₁₂
    try dsimp only
    walk_at "go"
    refine Then.mk fun h₁₃ N₁₃ b₁₃ => ?_
    exact wpAny_execs_nil ⟨rfl, _, _, _, rfl, (k₁₂.but).trans b₁₃, N₁₃, l', t', rfl, pl', l0', by omega⟩
  · obtain ⟨li, tl, hm, pli, li0, lib⟩ := hJ
    dsimp only
    rw [List.length_drop, ld] at lib
    exact Then.mk ⟨h₁₁, tk₁₁, m₁₁, li, tl, rfl, (k₁₀.but).trans b₁₁, N₁₁, hm, pli, li0, lib⟩
  rintro s₁₀ ⟨h₁₀, tk₁₀, m₁₀, tx, tt, rfl, b₁₀, N₁₀, htx, ptx, tx0, txb⟩
  have G₁₀ := G₉.but b₁₀ hL'
  have e₁₀ : Ext s.heap h₁₀ := ((((((((k₁.trans k₂).but_trans b₃ (Nat.le_succ_of_le hL)).trans k₄).but_trans b₅ hL).trans k₆).but_trans b₇ hL).but_trans b₈ hL).but_trans b₉ hL).but_trans b₁₀ hL
  have T1₁₀ : Tab 59 ps h₁₀ := T1.keep fun o e => e₁₀ _ o e
  have T2₁₀ : Tab 93 qs h₁₀ := T2.keep fun o e => e₁₀ _ o e
  have hu : (A.deeper (envX "law" default L 113 (.ref 112) [])).units + 64 < cLine := by show A.units + 3 + 64 < 9900; omega
  clear D₃ D₄ D₅ D₆ D₇ D₈ D₉ R₇ R₈ P₄ P₇ P₂ N₂ N₃ N₄ N₅ N₆ N₇ N₈ N₉ C₂ C₃ C₄ C₅ C₆ C₇ C₈ C₉ C₁ G₂ G₃ G₄ G₅ G₆ G₇ G₈ G₉
  walk_at "go"
  refine Then.mk ?_
  refine decode2 (by exact hA) (by show A.depth + 1 < 880; omega) G₁₀ T2₁₀ AB ptx (by omega) fun s₁₁ v2 more2 b₁₁ T2₁₁ AB₁₁ os₁₁ hv2 => ?_
  have G₁₁ := G₁₀.butP b₁₁ (.inr rfl)
  have N₁₁ := ns_but N₁₀ b₁₁ (T2₁₀.ne_ns N₁₀)
  have T1₁₁ : Tab 59 ps s₁₁.heap := T1₁₀.keep fun o e => b₁₁ _ o (by decide) e
  walk_at "go"
  refine Then.mk ?_
  refine decode1 (by exact hA) (by show A.depth + 1 < 880; omega) G₁₁ T1₁₁ AB₁₁ ptx (by omega) fun s₁₂ v1 more1 b₁₂ T1₁₂ AB₁₂ os₁₂ hv1 => ?_
  have G₁₂ := G₁₁.butP b₁₂ (.inl rfl)
  have N₁₂ := ns_but N₁₁ b₁₂ (T1₁₁.ne_ns N₁₁)
  have T2₁₂ : Tab 93 (qs ++ more2) s₁₂.heap := T2₁₁.keep fun o e => b₁₂ _ o (by decide) e
  have hv2 := hv2.car (Car.butP T1₁₁ b₁₂)
  walk_at "go"
  refine Then.mk fun p₁₃ h₁₃ k₁₃ n₁₃ P₁₃ => ?_
  have G₁₃ := G₁₂.keeps k₁₃
  have N₁₃ := N₁₂.keeps k₁₃
  walk_at "go"
  refine Then.mk fun h₁₄ k₁₄ => ?_
  have G₁₄ := G₁₃.keeps k₁₄
  have N₁₄ := N₁₃.keeps k₁₄
  walk_at "go"
  refine Then.mk fun h₁₅ N₁₅ b₁₅ => ?_
  have G₁₅ := G₁₄.but b₁₅ hL'
  walk_at "go"
  refine Then.mk fun h₁₆ N₁₆ b₁₆ => ?_
  have G₁₆ := G₁₅.but b₁₆ hL'
  have b13 : But L s₁₂.heap h₁₆ := ((k₁₃.but).trans k₁₄.but).trans (b₁₅.trans b₁₆)
  have hv2 := hv2.car (Car.but N₁₂ b13)
  have hv1 := hv1.car (Car.but N₁₂ b13)
  have T1₁₆ : Tab 59 (ps ++ more1) h₁₆ := T1₁₂.keep fun o e => b13 _ o (fun q => absurd hL' (by rw [← q]; decide)) e
  have T2₁₆ : Tab 93 (qs ++ more2) h₁₆ := T2₁₂.keep fun o e => b13 _ o (fun q => absurd hL' (by rw [← q]; decide)) e
  have hos : s₁₂.os = s.os := os₁₂.trans os₁₁
  have B2 : But2 s.heap h₁₆ := fun b o n1 n2 e => b13 b o (Nat.ne_of_lt (Nat.lt_of_lt_of_le (Heap.lt_size e) hL)) (b₁₂ b o n1 (b₁₁ b o n2 (e₁₀ b o e)))
  have hQ' : ∀ s' more', (∀ b o, b ≠ L → b ≠ 93 → h₁₆.get? b = some o → s'.heap.get? b = some o) → Tab 93 (qs ++ more2 ++ more') s'.heap → AllBare s'.gens → s'.os = s₁₂.os → Q (.bool true) s' := fun s' more' k t2 ab os =>
    hQ s' more1 (more2 ++ more') (fun b o n1 n2 e => k b o (Nat.ne_of_lt (Nat.lt_of_lt_of_le (Heap.lt_size e) hL)) n2 (B2 b o n1 n2 e)) (T1₁₆.keep fun o e => k _ o (fun q => absurd hL' (by rw [← q]; decide)) (by decide) e) (by rw [← Array.append_assoc]; exact t2) ab (os.trans hos)
  have hQe : ∀ h' tk, Ext h₁₆ h' → Q (.bool true) { s₁₂ with heap := h', toks := tk } := fun h' tk k =>
    hQ' _ #[] (fun b o _ _ e => k b o e) (by rw [Array.append_empty]; exact T2₁₆.keep fun o e => k _ o e) AB₁₂ rfl
  clear T1₁₆ B2 hos hQ b13 b₁₆ b₁₅ k₁₄ k₁₃ n₁₃ P₁₃ N₁₅ N₁₄ N₁₃ G₁₅ G₁₄ G₁₃ N₁₂ G₁₂ T2₁₂ T1₁₂ os₁₂ b₁₂ T1₁₁ N₁₁ G₁₁ os₁₁ AB₁₁ T2₁₁ b₁₁ T1₁₀ T2₁₀ e₁₀ G₁₀ N₁₀ b₁₀ b₉ b₈ b₇ k₆ hr b₅ k₄ b₃ k₂ nd G₁ N₁ k₁ hp nD n₄ hl hi T1 T2 AB G hlen ht₉ pl0 l0a l0b
  have txsz : tx.length ≤ 1000 := by omega
  have tx128 : ∀ c ∈ tx, c < 128 := fun c hc => Nat.lt_of_le_of_lt (ptx c hc).2 (by decide)
  cases e2 : D2 tx with
  | some ad =>
    obtain ⟨a, d⟩ := ad
    rw [e2] at hv2
    obtain ⟨q1, qe, qd, ql, qa, qp⟩ := P1 ptx e2
    rw [q1] at hv1
    obtain ⟨p2, l2, ta, vs2, rfl, P2, L2, A2⟩ := hv2
    walk_at "go"
    refine Then.mk fun p₁₇ h₁₇ k₁₇ _ P₁₇ => ?_
    have G₁₇ := G₁₆.keeps k₁₇
    have N₁₇ := N₁₆.keeps k₁₇
    walk_at "go"
    refine Then.mk ?_
    refine neX (r := false) (by exact hu) (reads_some2 (tup_ext P2 k₁₇) (pl_ext L2 k₁₇) A2) (reads_none2 P₁₇) (sh2 qp) sh2n ev2n ?_
    have P2₁₇ := tup_ext P2 k₁₇
    walk_at "go"
    · rename_i hle
      rw [if_pos (by omega)] at hv1
      obtain ⟨p1, l1, ta1, tu1, vs1, rfl, P1₁₆, L1, A1⟩ := hv1
      refine Then.mk fun p₁₈ h₁₈ k₁₈ _ P₁₈ => ?_
      have G₁₈ := G₁₇.keeps k₁₈
      have N₁₈ := N₁₇.keeps k₁₈
      have e₁₈ := k₁₇.trans k₁₈
      walk_at "go"
      refine Then.mk ?_
      have P2₁₈ := tup_ext P2₁₇ k₁₈
      have P1₁₈ := tup_ext P1₁₆ e₁₈
      refine neX (r := true) (by exact hu) (reads_some1 P1₁₈ (pl_ext L1 e₁₈) A1) (reads_some1 (k := 1) P₁₈ (pl_ext L2 e₁₈) A2) (sh1 qp) (sh1 qp) (ev1 qp) ?_
      walk_at "go"
      refine Then.mk ?_
      refine encode2 (by exact hA) (by show A.depth + 1 < 880; omega) G₁₈ (by omega) (pl_ext L2 e₁₈).isList A2 (by omega) qd fun h₁₉ tk₁₉ t₁₉ k₁₉ => ?_
      rw [qe]
      have G₁₉ := G₁₈.keeps k₁₉
      have N₁₉ := N₁₈.keeps k₁₉
      have P2₁₉ := tup_ext P2₁₈ k₁₉
      have P1₁₉ := tup_ext P1₁₈ k₁₉
      have e₁₉ := e₁₈.trans k₁₉
      try dsimp only
      walk_at "go"
      refine Then.mk ?_
      refine lowerX tx128 txsz ?_
      walk_at "go"
      · rename_i hx
        simp at hx
      walk_at "go"
      refine Then.mk ?_
      obtain ⟨_, _, q3, _⟩ := P3 ptx (q1.trans (if_pos (by omega)))
      refine encode1 (by exact hA) (by show A.depth + 1 < 880; omega) G₁₉ (by omega) (pl_ext L1 e₁₉).isList A1 (by omega) qd fun h₂₀ tk₂₀ t₂₀ k₂₀ => ?_
      rw [q3]
      have G₂₀ := G₁₉.keeps k₂₀
      have N₂₀ := N₁₉.keeps k₂₀
      have P2₂₀ := tup_ext P2₁₉ k₂₀
      have P1₂₀ := tup_ext P1₁₉ k₂₀
      have e₂₀ := e₁₉.trans k₂₀
      try dsimp only
      walk_at "go"
      refine Then.mk ?_
      refine lowerX tx128 txsz ?_
      walk_at "go"
      · rename_i hx
        simp at hx
      walk_at "go"
      · rename_i hx
        exact absurd hx (by omega)
      walk_at "go"
      refine Then.mk fun p₂₁ h₂₁ k₂₁ _ P₂₁ => ?_
      have e₂₁ := e₂₀.trans k₂₁
      walk_at "go"
      refine Then.mk ?_
      refine eqX (r := true) (by exact hu) (reads_some2 (tup_ext P2₂₀ k₂₁) (pl_ext L2 e₂₁) A2) (reads_some2 P₂₁ (pl_ext L1 e₂₁) A1) (sh2 qp) (sh2 qp) (ev2 qp) ?_
      walk_at "go"
      exact hQe _ _ e₂₁
    · rename_i hle
      rw [if_neg (by omega)] at hv1
      obtain ⟨p1, rfl, P1₁₆⟩ := hv1
      walk_at "go"
      refine Then.mk fun p₁₈ h₁₈ k₁₈ _ P₁₈ => ?_
      have G₁₈ := G₁₇.keeps k₁₈
      have N₁₈ := N₁₇.keeps k₁₈
      have e₁₈ := k₁₇.trans k₁₈
      walk_at "go"
      refine Then.mk ?_
      refine neX (r := true) (by exact hu) (reads_none1 (tup_ext P1₁₆ e₁₈)) (reads_none1 P₁₈) sh1n sh1n ev1n ?_
      have P2₁₈ := tup_ext P2₁₇ k₁₈
      have P1₁₈ := tup_ext P1₁₆ e₁₈
      walk_at "go"
      refine Then.mk ?_
      refine encode2 (by exact hA) (by show A.depth + 1 < 880; omega) G₁₈ (by omega) (pl_ext L2 e₁₈).isList A2 (by omega) qd fun h₁₉ tk₁₉ t₁₉ k₁₉ => ?_
      rw [qe]
      have G₁₉ := G₁₈.keeps k₁₉
      have N₁₉ := N₁₈.keeps k₁₉
      have P2₁₉ := tup_ext P2₁₈ k₁₉
      have P1₁₉ := tup_ext P1₁₈ k₁₉
      have e₁₉ := e₁₈.trans k₁₉
      try dsimp only
      walk_at "go"
      refine Then.mk ?_
      refine lowerX tx128 txsz ?_
      walk_at "go"
      · rename_i hx
        simp at hx
      walk_at "go"
      refine Then.mk fun p₂₀ h₂₀ k₂₀ _ P₂₀ => ?_
      have G₂₀ := G₁₉.keeps k₂₀
      have N₂₀ := N₁₉.keeps k₂₀
      have P2₂₀ := tup_ext P2₁₉ k₂₀
      have P1₂₀ := tup_ext P1₁₉ k₂₀
      have e₂₀ := e₁₉.trans k₂₀
      walk_at "go"
      refine Then.mk ?_
      refine eqX (r := true) (by exact hu) (reads_none1 P1₂₀) (reads_none1 P₂₀) sh1n sh1n ev1n ?_
      walk_at "go"
      refine Then.mk fun p₂₁ h₂₁ k₂₁ _ P₂₁ => ?_
      have G₂₁ := G₂₀.keeps k₂₁
      have N₂₁ := N₂₀.keeps k₂₁
      have P2₂₁ := tup_ext P2₂₀ k₂₁
      have e₂₁ := e₂₀.trans k₂₁
      walk_at "go"
      refine Then.mk ?_
      refine eqX (r := false) (by exact hu) (reads_some2 P2₂₁ (pl_ext L2 e₂₁) A2) (reads_none2 P₂₁) (sh2 qp) sh2n ev2n ?_
      walk_at "go"
      rw [decide_eq_true (by omega)]
      exact hQe _ _ e₂₁
  | none =>
    rw [e2] at hv2
    obtain ⟨p2, rfl, P2⟩ := hv2
    walk_at "go"
    refine Then.mk fun p₁₇ h₁₇ k₁₇ _ P₁₇ => ?_
    have G₁₇ := G₁₆.keeps k₁₇
    have N₁₇ := N₁₆.keeps k₁₇
    have P2₁₇ := tup_ext P2 k₁₇
    walk_at "go"
    refine Then.mk ?_
    refine neX (r := true) (by exact hu) (reads_none2 P2₁₇) (reads_none2 P₁₇) sh2n sh2n evnn ?_
    rcases Mine.P2 ptx e2 with e1 | ⟨a, d, e1⟩
    · rw [e1] at hv1
      obtain ⟨p1, rfl, P1₁₆⟩ := hv1
      have P1₁₇ := tup_ext P1₁₆ k₁₇
      walk_at "go"
      refine Then.mk fun p₁₈ h₁₈ k₁₈ _ P₁₈ => ?_
      have G₁₈ := G₁₇.keeps k₁₈
      have N₁₈ := N₁₇.keeps k₁₈
      have P2₁₈ := tup_ext P2₁₇ k₁₈
      have P1₁₈ := tup_ext P1₁₇ k₁₈
      have e₁₈ := k₁₇.trans k₁₈
      walk_at "go"
      refine Then.mk ?_
      refine notInX_none P₁₈ ?_
      walk_at "go"
      refine Then.mk fun p₁₉ h₁₉ k₁₉ _ P₁₉ => ?_
      have G₁₉ := G₁₈.keeps k₁₉
      have N₁₉ := N₁₈.keeps k₁₉
      have P2₁₉ := tup_ext P2₁₈ k₁₉
      have P1₁₉ := tup_ext P1₁₈ k₁₉
      have e₁₉ := e₁₈.trans k₁₉
      walk_at "go"
      refine Then.mk ?_
      refine eqX (r := true) (by exact hu) (reads_none1 P1₁₉) (reads_none1 P₁₉) sh1n sh1n ev1n ?_
      walk_at "go"
      refine Then.mk fun p₂₀ h₂₀ k₂₀ _ P₂₀ => ?_
      have e₂₀ := e₁₉.trans k₂₀
      walk_at "go"
      refine Then.mk ?_
      refine eqX (r := true) (by exact hu) (reads_none2 (tup_ext P2₁₉ k₂₀)) (reads_none2 P₂₀) sh2n sh2n evnn ?_
      walk_at "go"
      exact hQe _ _ e₂₀
    · rw [e1] at hv1
      obtain ⟨p1, l1, ta1, tu1, vs1, rfl, P1₁₆, L1, A1⟩ := hv1
      have P1₁₇ := tup_ext P1₁₆ k₁₇
      obtain ⟨_, q90, q3, _, qd, ql, qa, qp⟩ := P3 ptx e1
      obtain ⟨o1, o2, o3, o6, o7⟩ := P4 ptx e1
      walk_at "go"
      refine Then.mk fun p₁₈ h₁₈ k₁₈ _ P₁₈ => ?_
      have G₁₈ := G₁₇.keeps k₁₈
      have N₁₈ := N₁₇.keeps k₁₈
      have P2₁₈ := tup_ext P2₁₇ k₁₈
      have P1₁₈ := tup_ext P1₁₇ k₁₈
      have e₁₈ := k₁₇.trans k₁₈
      walk_at "go"
      refine Then.mk ?_
      refine notInX_two P₁₈ ?_
      walk_at "go"
      refine Then.mk ?_
      refine encode1 (by exact hA) (by show A.depth + 1 < 880; omega) G₁₈ (by omega) (pl_ext L1 e₁₈).isList A1 (by omega) qd fun h₁₉ tk₁₉ t₁₉ k₁₉ => ?_
      rw [q3]
      have G₁₉ := G₁₈.keeps k₁₉
      have N₁₉ := N₁₈.keeps k₁₉
      have P1₁₉ := tup_ext P1₁₈ k₁₉
      have e₁₉ := e₁₈.trans k₁₉
      try dsimp only
      walk_at "go"
      refine Then.mk ?_
      refine lowerX tx128 txsz ?_
      walk_at "go"
      · rename_i hx
        simp at hx
      walk_at "go"
      · rename_i hx
        exact absurd hx (by omega)
      walk_at "go"
      refine Then.mk ?_
      refine lowerX tx128 txsz ?_
      walk_at "go"
      refine slice_ns (s := { s₁₂ with heap := h₁₉, toks := _ }) (Then.mk fun h₂₀ t₂₀ tk₂₀ k₂₀ => ?_) (by rw [T_len, sizeLine_eq, List.length_map]; omega)
      have G₂₀ := G₁₉.keeps k₂₀
      have N₂₀ := N₁₉.keeps k₂₀
      have P1₂₀ := tup_ext P1₁₉ k₂₀
      have e₂₀ := e₁₉.trans k₂₀
      have esl : Txt.slice (T (tx.map lo)) none (some (-6)) = T ((tx.map lo).take (tx.length - 6)) := by
        have := slice_negT (tx.map lo) (k := 6) (by decide) (by rw [List.length_map]; exact o6)
        rw [List.length_map] at this
        exact this
      try dsimp only
      walk_at "go"
      refine Then.mk ?_
      refine compList (fun v r => ∀ (d : Nat) t, v = .int (d : Int) t → ∃ u, r = .str (T [chr d]) u) (by exact hA) rfl (by decide) rfl (by decide) rfl ?_
      walk_at "go"
      refine Then.mk ?_
      refine create2 (by exact hA) (by show A.depth + 1 < 890; omega) G₂₀ (by rw [T_size]; omega) (pl_ext L1 e₂₀).isList A1 (by omega) fun h₂₁ tk₂₁ c cs k₂₁ nc P₂₁ hc => ?_
      have hc : NatsAre cs (ck2 a d) := hc
      have lc : cs.length = 6 := by rw [hc.length]; exact six_length _
      have G₂₁ := G₂₀.keeps k₂₁
      have N₂₁ := N₂₀.keeps k₂₁
      have P1₂₁ := tup_ext P1₂₀ k₂₁
      have e₂₁ := e₂₀.trans k₂₁
      refine ⟨c, cs, rfl, P₂₁.isList, by rw [lc, sizeLine_eq]; decide, ?_, ?_⟩
      · intro C v s₃ m₃ hv N₃ hm k₃
        have G₃ := G₂₁.keeps k₃
        obtain ⟨x, td, hd, rfl⟩ := nats_mem hc v hv
        walk_at "go"
        rw [charset_T]
        refine itemT (chr_at (six_lt _ x hd)) (by have := six_lt _ x hd; omega) ?_
        refine Then.mk ⟨fun d' t' e => ?_, _, _, rfl, Ext.refl _⟩
        injection e with e1 _
        have : x = d' := by omega
        subst this
        exact ⟨_, rfl⟩
      intro D h₂₂ tk₂₂ ys k₂₂ nD P₂₂ hp
      have G₂₂ := G₂₁.keeps k₂₂
      have N₂₂ := N₂₁.keeps k₂₂
      have P1₂₂ := tup_ext P1₂₁ k₂₂
      have e₂₂ := e₂₁.trans k₂₂
      walk_at "go"
      refine Then.mk ?_
      rw [none_T]
      refine join_list P₂₂.isList (strs_of_paired hc hp) ?_ fun t₂₃ tk₂₃ => ?_
      · rw [T_len]
        simp only [List.length_nil, Nat.mul_zero, List.map_map]
        have e : ((ck2 a d).map (Str.length ∘ fun d => T [chr d])) = (ck2 a d).map fun _ => 1 := by
          refine List.map_congr_left fun d _ => ?_
          show (T [chr d]).length = 1
          rw [T_len]; rfl
        rw [e, List.map_const', List.sum_replicate_nat, show (ck2 a d).length = 6 from six_length _]
        decide
      rw [joinT]
      try dsimp only
      walk_at "go"
      refine Then.mk ?_
      rw [esl]
      refine PyProof.Rows.add_str (fun t₂₄ tk₂₄ => ?_) (by rw [sizeLine_eq, T_len, T_len, List.length_map, show (ck2 a d).length = 6 from six_length _, List.length_take, List.length_map]; omega)
      rw [T_append]
      have eo : (tx.map lo).take (tx.length - 6) ++ (ck2 a d).map chr = own tx a d := rfl
      rw [eo]
      try dsimp only
      walk_at "go"
      refine Then.mk fun h₂₃ N₂₃ b₂₃ => ?_
      have G₂₃ := G₂₂.but b₂₃ hL'
      have P1₂₃ := tup_but N₂₂ b₂₃ P1₂₂
      have L₂₃ := pl_but N₂₂ b₂₃ (pl_ext L1 e₂₂)
      have T2₂₃ : Tab 93 (qs ++ more2) h₂₃ := (T2₁₆.keep fun o e => e₂₂ _ o e).keep fun o e => b₂₃ _ o (fun q => absurd hL' (by rw [← q]; decide)) e
      walk_at "go"
      refine Then.mk ?_
      refine lowerX tx128 txsz ?_
      walk_at "go"
      · refine Then.mk ?_
        refine decode2 (by exact hA) (by show A.depth + 1 < 880; omega) G₂₃ T2₂₃ AB₁₂ o3 (by omega) fun s₂₄ v3 more3 b₂₄ T2₂₄ AB₂₄ os₂₄ hv3 => ?_
        rw [o2] at hv3
        obtain ⟨p3, l3, ta3, vs3, rfl, P3, L3, A3⟩ := hv3
        have G₂₄ := G₂₃.butP b₂₄ (.inr rfl)
        have N₂₄ := ns_but N₂₃ b₂₄ (T2₂₃.ne_ns N₂₃)
        have P1₂₄ := isTup_butP T2₂₃ b₂₄ P1₂₃
        have L₂₄ := pl_butP T2₂₃ b₂₄ L₂₃
        walk_at "go"
        refine Then.mk fun p₂₅ h₂₅ k₂₅ _ P₂₅ => ?_
        walk_at "go"
        refine Then.mk ?_
        refine eqX (r := true) (by exact hu) (reads_some2 (tup_ext P3 k₂₅) (pl_ext L3 k₂₅) A3) (reads_some2 P₂₅ (pl_ext L₂₄ k₂₅) A1) (sh2 qp) (sh2 qp) (ev2 qp) ?_
        walk_at "go"
        exact hQ' _ more3 (fun b o n1 n2 e => k₂₅ b o (b₂₄ b o n2 (b₂₃ b o n1 (e₂₂ b o e)))) (T2₂₄.keep fun o e => k₂₅ _ o e) AB₂₄ os₂₄
      · walk_at "go"
        rename_i hx
        simp at hx
        exact absurd (T_inj hx) o1
end Mine

namespace Mine
theorem oldK_of {h h' : Heap} {ps qs : Array Value} (c1 : isCodeTable h 59) (c2 : isCodeTable h 93) (t1 : h.get? 59 = some (tabObj #[])) (t2 : h.get? 93 = some (tabObj #[])) (k : But2 h h') (u1 : Tab 59 ps h') (u2 : Tab 93 qs h') : OldK h h' := by
  refine ⟨fun b o e => ?_, fun b o e => ?_⟩
  · by_cases h1 : b = 59
    · subst h1
      rw [t1] at e
      cases e
      exact .inr (.inl ⟨c1, rfl, #[], ps, rfl, by rw [u1.at_]; simp⟩)
    · by_cases h2 : b = 93
      · subst h2
        rw [t2] at e
        cases e
        exact .inr (.inl ⟨c2, rfl, #[], qs, rfl, by rw [u2.at_]; simp⟩)
      · exact .inl (k b o h1 h2 e)
  · by_cases h1 : b = 59
    · subst h1
      exact ⟨_, u1.at_⟩
    · by_cases h2 : b = 93
      · subst h2
        exact ⟨_, u2.at_⟩
      · exact ⟨_, k b o h1 h2 e⟩
theorem entry {w : World} {s₁ : Shared} {mg mb : Str → Option Value} {fa l : Addr} {vs : List Value} {ns : List Int} (X : (KF w).In s₁.heap) (KT : ∀ P ∈ [59, 93], s₁.heap.get? P = some (tabObj #[]))
    (g : s₁.heap.Ns mainGlobals mg) (b : s₁.heap.Ns builtinsNs mb) (nl : s₁.heap.NoLimit) (bi : ∀ x : Str, x ≠ "__name__" → mb x = bootBuiltins x)
    (bm : ∃ bm ob, mg "__builtins__" = some (.ref bm) ∧ bm ≠ builtinsNs ∧ s₁.heap.get? bm = some ob ∧ ob.cls = .type "module" ∧ ob.dict = some builtinsNs ∧ ob.data = .plain)
    (hg : s₁.gens = #[]) (hmg : mg "law" = some (.ref fa)) (hl : s₁.heap.IsList l vs.toArray) (hi : IntsAre vs ns) (hlen : ns.length ≤ 63) :
    wpAny (model PR w) callerA (call (.ref fa) [.ref l]) (fun v s' => v = .bool true ∧ OldK s₁.heap s'.heap ∧ s'.os = s₁.os ∧ AllBare s'.gens) (fun _ _ => False) s₁ := by
  have ebm : mg "__builtins__" = some (.ref 4) := mg_of X g (by rfl)
  have efa : mg "law" = some (.ref 113) := mg_of X g (by rfl)
  rw [efa] at hmg
  cases hmg
  obtain ⟨a, ob, e, _, h1, h2, h3, h4⟩ := bm
  rw [ebm] at e
  cases e
  have G : Gd w mg mb s₁.heap := ⟨X, g, b, nl, bi, ob, h1, h2, h3, h4⟩
  have t1 : s₁.heap.get? 59 = some (tabObj #[]) := KT 59 (.head _)
  have t2 : s₁.heap.get? 93 = some (tabObj #[]) := KT 93 (.tail _ (.head _))
  have T1 : Tab 59 #[] s₁.heap := ⟨t1, trivial⟩
  have T2 : Tab 93 #[] s₁.heap := ⟨t2, trivial⟩
  have c1 : isCodeTable s₁.heap 59 := (T1.table (c := 61) G rfl rfl).isCodeTable
  have c2 : isCodeTable s₁.heap 93 := (T2.table (c := 95) G rfl rfl).isCodeTable
  refine law (by rfl) (by decide) (by decide) G T1 T2 (by rw [hg]; exact AllBare.empty) hl hi (by rw [hi.length]; omega) fun s' more more' k u1 u2 ab os => ⟨rfl, oldK_of c1 c2 t1 t2 k u1 u2, os, ab⟩
end Mine
end
set_option maxHeartbeats 8000000 in
theorem PySem.Challenge.cw_vn0011_01_holds : PySem.Challenge.rw_vn0011_01.Holds := by
  w_on
  o_law
  o_head (kmHook Mine.hd.heap_39 [2, 3, 6, 22, 23, 24, 25, 26, 29, 31, 32, 34, 35, 36, 39, 40, 41, 43, 44, 46, 47, 48, 51, 52, 53, 56, 57, 58, 61, 62, 63, 65, 66, 68, 69, 70, 73, 74, 75, 77, 78, 80, 81, 82, 85, 86, 87, 90, 91, 92, 95, 96, 97, 100, 101, 102, 104, 105, 107, 108, 109, 112, 113] (fun _ => by kernel_rfl) [59, 93])
  (case hw => w_witness2)
  intro w s₀ s₁ mg mb G Y fa o pm cd doc dV kV ho hd hcd hD hmg hg args vals as hpre hlay hrd hwl hlo
  have KX := km_in_of Y
  have KT := km_tabs_of Y
  refine Ground.open G ?_
  intro T B D TE TW
  wrow_args hpre hlay hrd hwl hlo
  refine wpAny_mono (Mine.entry KX KT (Top.g T) (Top.b T) (Top.nolimit T) (Top.builtins T) (Top.bmain T) hg hmg (by assumption) (by assumption) (by omega)) (fun v s' h => ?_) fun _ _ e => e.elim
  obtain ⟨rfl, ok, os, ab⟩ := h
  refine ⟨.inl ⟨_, _, _, rfl, fun _ => rfl, .bool true, ?_, ?_⟩, ok, os, ab⟩
  · first | rfl | wrow_post
  · exact fun _ => ⟨.nil, fun _ h => nomatch h⟩
