import PyProof.Rows.All
import Wide.All
import OpenK.AllK
import Wide.FinOn
import PySem.Challenge.RW_xi0020_01
open PySem PySem.W PyProof.Rows
set_option linter.all false
set_option Elab.async false
set_option maxRecDepth 100000
set_option maxHeartbeats 8000000
set_option pp.deepTerms false
set_option pp.maxSteps 20000
set_option rowWalk.seconds 100000
namespace Mine
set_option maxRecDepth 100000
set_option maxHeartbeats 8000000
/-- the statements of the text that the law's call looks at -/
def hdView : Program := { PySem.Challenge.rw_xi0020_01.row.toRowW.prog with main := { PySem.Challenge.rw_xi0020_01.row.toRowW.prog.main with body := [2, 3, 4, 5, 6, 7, 8, 9, 10, 12, 14, 16, 17, 18, 19, 21, 22, 23, 24].filterMap fun i => PySem.Challenge.rw_xi0020_01.row.toRowW.prog.main.body[i]? } }
section
local macro_rules | `(tactic| o_head $H) => `(tactic| ((refine holds_open (q := hdView) (loose := [PySem.Str.ofString "compute_powers", PySem.Str.ofString "length_hint"]) (Xt := fun s => xlAt hdView [] s && recOk (RowW.records PySem.Challenge.rw_xi0020_01.row.toRowW) s) (XP := XL hdView []) (Yf := Hook.obs $H) (Ya := Hook.val $H) (YP := Hook.says $H) (N := 1544) ?hl (Hook.of $H) (Hook.keeps $H) (fun s e => xl_of s (Bool.and_eq_true_iff.mp e).1) XL.keeps (by rfl) (by rfl) (by rfl) (fun s e => recFacts_of (Bool.and_eq_true_iff.mp e).2) (by rfl) (by first | assumption | decide +kernel) (by decide +kernel) ⟨rfl, rfl, rfl, rfl, rfl, by decide +kernel⟩ ?hw ?hc); (case hl => (intro w; kernel_rfl))))
local macro_rules | `(tactic| o_law) => `(tactic| (refine holds_law ?hsaid fun said => ?_; (case hsaid => decide +kernel)))
open_top hd for PySem.Challenge.rw_xi0020_01
end
local macro_rules | `(tactic| walk_at $s:str) => `(tactic| (k_here; k_extra $(Lean.Syntax.mkStrLit ("m " ++ s.getString))))
example {prog : Program} {w : World} {A : Around} {env : Env} {Q : Flow → Shared → Prop} {E : Value → Shared → Prop} {s : Shared} (h : wpAny (model prog w) A (execs [] env) Q E s) : wpAny (model prog w) A (execs [] env) Q E s := by ((k_with "now" => have kReset : True := trivial); (k_with "piece" => have kP_B : True := trivial); w_top off; first | (walk1; fail) | exact h)
section
section
variable {s : Shared} {fd : FuncData} {n1 n2 n3 n4 : Str} {a1 a2 a3 a4 : Option PySem.Expr} {p1 p2 p3 p4 : Pos} {v1 v2 v3 v4 : Value}
theorem bP1 (_ : fd.params.args = [⟨n1, a1, p1⟩]) (e : bindArgs fd ⟨[v1], []⟩ = pure [(n1, v1)]) : BindsTo s fd ⟨[v1], []⟩ [(n1, v1)] := BindsTo.of_eq e
theorem bP2 (_ : fd.params.args = [⟨n1, a1, p1⟩, ⟨n2, a2, p2⟩]) (e : bindArgs fd ⟨[v1, v2], []⟩ = pure [(n1, v1), (n2, v2)]) : BindsTo s fd ⟨[v1, v2], []⟩ [(n1, v1), (n2, v2)] := BindsTo.of_eq e
theorem bP3 (_ : fd.params.args = [⟨n1, a1, p1⟩, ⟨n2, a2, p2⟩, ⟨n3, a3, p3⟩]) (e : bindArgs fd ⟨[v1, v2, v3], []⟩ = pure [(n1, v1), (n2, v2), (n3, v3)]) : BindsTo s fd ⟨[v1, v2, v3], []⟩ [(n1, v1), (n2, v2), (n3, v3)] := BindsTo.of_eq e
theorem bP5 {n5 : Str} {a5 : Option PySem.Expr} {p5 : Pos} {v5 : Value} (_ : fd.params.args = [⟨n1, a1, p1⟩, ⟨n2, a2, p2⟩, ⟨n3, a3, p3⟩, ⟨n4, a4, p4⟩, ⟨n5, a5, p5⟩]) (e : bindArgs fd ⟨[v1, v2, v3, v4, v5], []⟩ = pure [(n1, v1), (n2, v2), (n3, v3), (n4, v4), (n5, v5)]) : BindsTo s fd ⟨[v1, v2, v3, v4, v5], []⟩ [(n1, v1), (n2, v2), (n3, v3), (n4, v4), (n5, v5)] := BindsTo.of_eq e
theorem bP4 (_ : fd.params.args = [⟨n1, a1, p1⟩, ⟨n2, a2, p2⟩, ⟨n3, a3, p3⟩, ⟨n4, a4, p4⟩]) (e : bindArgs fd ⟨[v1, v2, v3, v4], []⟩ = pure [(n1, v1), (n2, v2), (n3, v3), (n4, v4)]) : BindsTo s fd ⟨[v1, v2, v3, v4], []⟩ [(n1, v1), (n2, v2), (n3, v3), (n4, v4)] := BindsTo.of_eq e
end
def premOf3 {α β γ : Type} {A : α → β → γ → Prop} {B : Prop} (_ : (∀ x y z, A x y z) → B) : α → β → γ → Prop := A
theorem allne_of {d : Addr} {l : List (Addr × Obj)} (h : AllLt d l) : ∀ p ∈ l, p.1 ≠ d := fun p hp => Nat.ne_of_lt (ktn_ltOf h p hp)
theorem allne_of' {d : Addr} {l : List (Addr × Obj)} (h : ∀ p ∈ l, p.1 ≠ d) : ∀ p ∈ l, p.1 ≠ d := h
structure Sp (h₀ : Heap) (L : Addr) (h : Heap) (ow rest : List (Addr × Obj)) : Prop where
  a : News h₀ L h ow
  b : News h₀ L h rest
  c : ∀ q ∈ rest, ∀ p ∈ ow, q.1 ≠ p.1
theorem Sp.none {h₀ : Heap} {L : Addr} {h : Heap} {news : List (Addr × Obj)} (N : News h₀ L h news) : Sp h₀ L h [] news := ⟨News.nil, N, fun _ _ _ hp => nomatch hp⟩
theorem Sp.one {h₀ : Heap} {L d : Addr} {o : Obj} {h : Heap} {rest : List (Addr × Obj)} (N : News h₀ L h ((d, o) :: rest)) (hr : ∀ p ∈ rest, p.1 ≠ d) : Sp h₀ L h [(d, o)] rest :=
  ⟨fun p hp => by rw [List.mem_singleton.mp hp]; exact N _ (.head _), fun p hp => N p (.tail _ hp), fun q hq p hp => by rw [List.mem_singleton.mp hp]; exact hr q hq⟩
theorem news_app {h₀ : Heap} {L : Addr} {h : Heap} {a b : List (Addr × Obj)} (A : News h₀ L h a) (B : News h₀ L h b) : News h₀ L h (a ++ b) :=
  fun p hp => (List.mem_append.mp hp).elim (A p) (B p)
theorem news_sub {h₀ : Heap} {L : Addr} {h : Heap} {a b : List (Addr × Obj)} (A : News h₀ L h a) (hs : ∀ p ∈ b, p ∈ a) : News h₀ L h b := fun p hp => A p (hs p hp)
theorem sp_keep {prog : Program} {h₀ : Heap} {L : Addr} {h h' : Heap} {ow rest : List (Addr × Obj)} {L' : Addr} {m' : Str → Option Value} (S : Sp h₀ L h ow rest) (F' : Fr (hideAll h (ow.map (·.1))) L' h' m') : News h₀ L h' rest := fun p hp =>
  ⟨F'.keep _ _ (hideAll_get _ (S.b p hp).1 fun q => by
    obtain ⟨r, hr, e⟩ := List.mem_map.mp q
    exact S.c p hp r hr e.symm), (S.b p hp).2⟩
theorem Sp.two {h₀ : Heap} {L d e : Addr} {o oe : Obj} {h : Heap} {rest : List (Addr × Obj)} (N : News h₀ L h ((d, o) :: (e, oe) :: rest)) (hr : ∀ p ∈ rest, p.1 ≠ d) (hr2 : ∀ p ∈ rest, p.1 ≠ e) : Sp h₀ L h [(d, o), (e, oe)] rest :=
  ⟨fun p hp => N p (by rcases List.mem_cons.mp hp with rfl | hp; exact .head _; rw [List.mem_singleton.mp hp]; exact .tail _ (.head _)), fun p hp => N p (.tail _ (.tail _ hp)), fun q hq p hp => by
    rcases List.mem_cons.mp hp with rfl | hp
    · exact hr q hq
    · rw [List.mem_singleton.mp hp]; exact hr2 q hq⟩
/-- the ledger without one entry -/
inductive Pull (x : Addr × Obj) : List (Addr × Obj) → List (Addr × Obj) → Prop
  | head {r} : Pull x (x :: r) r
  | tail {y r r'} : Pull x r r' → Pull x (y :: r) (y :: r')
theorem Pull.sub {x : Addr × Obj} : ∀ {l r : List (Addr × Obj)}, Pull x l r → ∀ p ∈ x :: r, p ∈ l
  | _, _, .head => fun _ h => h
  | _, _, .tail (y := y) h => fun p hp => by
    rcases List.mem_cons.mp hp with rfl | hp
    · exact .tail _ (h.sub _ (.head _))
    · rcases List.mem_cons.mp hp with rfl | hp
      · exact .head _
      · exact .tail _ (h.sub _ (.tail _ hp))
section
variable {prog : Program} {w : World} {A A₀ : Around} {s : Shared} {K : Frag} {L : Addr} {h₀ base : Heap} {m mg mb : Str → Option Value} {ow rest : List (Addr × Obj)} {p : Program} {loose : List Str} {mean : ExcName → Option Value}
theorem code_fr {env : Env} {outer : List Env} {R : Result → Shared → Prop} {name qual : Str} {params : Arguments} {body : List Stmt} {scope : Scope} {dV kV doc pm cdv ct oc : Value} {an od : Option Addr} {osl : Array (Option Value)} {f : Addr} {args : Args} {binds : List (Str × Value)}
    (B : Below A₀ base outer h₀) (F : Fr h₀ L s.heap m) (X₀ : K.In h₀) (S : Sp h₀ L s.heap ow rest) (T : Top p loose mean mg mb h₀) (hA : A.frames = some (env :: outer)) (hf : env.frame = some L) (hke : env.scope.kind = .function)
    (ho : K.lookup f = some ⟨oc, od, .func (fnOf name qual params body scope dV kV doc pm an cdv ct), osl⟩) (hcd : codeIn K cdv qual = true) (hroom : A.depth < recursionLimit)
    (hbind : BindsTo s (fnOf name qual params body scope dV kV doc pm an cdv ct) args binds) (hloc : ∀ y ∈ binds, scope.names.lookup y.1 = some .local)
    (h : ∀ g L' h₁, Fr h₀ L g m → Fr g L' h₁ (fun y => binds.reverse.lookup y) → News g L' h₁ ow → Below A base (env :: outer) g → K.In g → Top p loose mean mg mb g → (∀ p ∈ ow, p.1 < L') → (∀ q ∈ rest, q.1 < L') → @LE.le Nat _ s.heap.objs.size L' →
      wpAny (model prog w) (A.deeper (envOf qual scope L' f cdv)) (execs body (envOf qual scope L' f cdv))
        (fun fl s' => LeaveK h₀ L m g (fun r s' => News h₀ L s'.heap rest → R r s') (match fl with | .ret v => v | _ => .none) s')
        (fun e s' => wpAny (model prog w) (A.deeper (envOf qual scope L' f cdv)) (leaving (envOf qual scope L' f cdv) e) (fun _ s'' => R (.error e) s'') (fun e' s'' => R (.error e') s'') s')
        { s with heap := h₁, toks := s.toks + binds.length })
    (hco : scope.isCoroutine = false) (hgen : scope.isGenerator = false) (hk : scope.kind = .function)
    (hcell : ∀ x ∈ scope.names, x.2 ≠ .cell) : codeAny (model prog w) A (.call (.ref f) args) R s := by
  obtain ⟨FG, BG, st, lv⟩ := groundX (R := fun r s' => News h₀ L s'.heap rest → R r s') B F S.a hA hf hke
  refine codeAny_call_def (fd := fnX name qual params body scope [] dV kV doc pm an cdv ct) (body := body) (binds := binds) hroom ((X₀.keeps F.keep) _ _ ho) rfl (T.nolimit.keeps F.keep) (codeRec_of (X₀.keeps F.keep) hcd) rfl hbind hcell hloc (fun h₁ hns hk₁ => ?_) hco hgen hk
  exact wpAny_mono (h _ s.heap.objs.size h₁ FG ⟨hns, fun b o e => hk₁ b o (of_hideAll _ e), Nat.le_of_eq (hideAll_size _ _)⟩
    (fun p hp => ⟨hk₁ _ _ (S.a p hp).1, Nat.ne_of_lt (Heap.lt_size (S.a p hp).1), hideAll_none _ (List.mem_map_of_mem hp)⟩) BG (X₀.keeps st) (T.keeps st) (fun p hp => Heap.lt_size (S.a p hp).1) (fun p hp => Heap.lt_size (S.b p hp).1) (Nat.le_refl _))
    (fun fl s' hl => lv _ _ hl (by obtain ⟨L', m', news', F', _, _⟩ := hl; exact sp_keep (prog := prog) S F')) fun _ _ y => y
theorem code_frC {env : Env} {outer : List Env} {R : Result → Shared → Prop} {name qual : Str} {params : Arguments} {body : List Stmt} {scope : Scope} {dV kV doc pm cdv ct oc : Value} {an od : Option Addr} {osl : Array (Option Value)} {f : Addr} {args : Args} {binds : List (Str × Value)}
    (B : Below A₀ base outer h₀) (F : Fr h₀ L s.heap m) (X₀ : K.In h₀) (S : Sp h₀ L s.heap ow rest) (T : Top p loose mean mg mb h₀) (hA : A.frames = some (env :: outer)) (hf : env.frame = some L) (hke : env.scope.kind = .function)
    (ho : K.lookup f = some ⟨oc, od, .func (fnOf name qual params body scope dV kV doc pm an cdv ct), osl⟩) (hcd : codeIn K cdv qual = true) (hroom : A.depth < recursionLimit)
    (hbind : BindsTo s (fnOf name qual params body scope dV kV doc pm an cdv ct) args binds) (hkind : (binds.all fun y => scope.names.lookup y.1 == some .local || scope.names.lookup y.1 == some .cell) = true)
    (hnd : ((cellsFrom 0 scope.names []).map (·.1)).Nodup)
    (h : ∀ g L' h₁ tk cells, Fr h₀ L g m → Fr g L' h₁ (bindL (envOfC qual scope L' f cdv).kindOf binds fun _ => none) → News g L' h₁ (cells ++ ow) →
      CellsAre (bindC (envOfC qual scope L' f cdv).kindOf binds fun _ => none) (cellsFrom (L' + 1) scope.names []) cells → Below A base (env :: outer) g → K.In g → Top p loose mean mg mb g → (∀ p ∈ ow, p.1 < L') → (∀ q ∈ rest, q.1 < L') → @LE.le Nat _ s.heap.objs.size L' →
      wpAny (model prog w) (A.deeper (envOfC qual scope L' f cdv)) (execs body (envOfC qual scope L' f cdv))
        (fun fl s' => LeaveK h₀ L m g (fun r s' => News h₀ L s'.heap rest → R r s') (match fl with | .ret v => v | _ => .none) s')
        (fun e s' => wpAny (model prog w) (A.deeper (envOfC qual scope L' f cdv)) (leaving (envOfC qual scope L' f cdv) e) (fun _ s'' => R (.error e) s'') (fun e' s'' => R (.error e') s'') s')
        { s with heap := h₁, toks := tk })
    (hco : scope.isCoroutine = false) (hgen : scope.isGenerator = false) (hk : scope.kind = .function) : codeAny (model prog w) A (.call (.ref f) args) R s := by
  obtain ⟨FG, BG, st, lv⟩ := groundX (R := fun r s' => News h₀ L s'.heap rest → R r s') B F S.a hA hf hke
  refine codeAny_call_function hroom ((X₀.keeps F.keep) _ _ ho) rfl hco hgen rfl (codeRec_of (X₀.keeps F.keep) hcd) (hbind _ _ _ _ ?_)
  refine wpAny_newFunctionEnv_cells hk (kindsX hkind _) fun env' he s' x => ?_
  subst he
  refine ⟨(T.nolimit.keeps F.keep).keeps x.toInCall.keep, codeAny_func ?_⟩
  obtain ⟨h₁, tk, rfl, _⟩ := x.done
  have hk₁ := x.toInCall.keep
  obtain ⟨cells, NC, Y⟩ := Cl.news (h₀ := s.heap) (Nat.le_refl _) fun n c hm => ⟨x.cell n c (lookup_of_mem_nodup (cellsFrom_names scope.names 0 (s.heap.objs.size + 1) [] [] rfl ▸ hnd) hm), x.above n c hm⟩
  refine wpAny_mono (h _ s.heap.objs.size h₁ tk cells FG ⟨x.toInCall.ns, fun b o e => hk₁ b o (of_hideAll _ e), Nat.le_of_eq (hideAll_size _ _)⟩ (fun p hp => ?_) Y BG (X₀.keeps st) (T.keeps st) (fun p hp => Heap.lt_size (S.a p hp).1) (fun p hp => Heap.lt_size (S.b p hp).1) (Nat.le_refl _))
    (fun fl s' hl => lv _ _ hl (by obtain ⟨L', m', news', F', _, _⟩ := hl; exact sp_keep (prog := prog) S F')) fun _ _ y => y
  rcases List.mem_append.mp hp with hp | hp
  · refine ⟨(NC p hp).1, (NC p hp).2.1, ?_⟩
    cases q : (hideAll s.heap (ow.map (·.1))).get? p.1 with
    | none => rfl
    | some o => have := of_hideAll _ q; rw [(NC p hp).2.2] at this; cases this
  · exact ⟨hk₁ _ _ (S.a p hp).1, Nat.ne_of_lt (Heap.lt_size (S.a p hp).1), hideAll_none _ (List.mem_map_of_mem hp)⟩
end
theorem neLT {a b : Nat} (h : a < b) : a < b := h
theorem leN {a b : Nat} (h : a ≤ b) : a ≤ b := h
theorem ap_ne {rest : List (Addr × Obj)} {L x : Nat} (l : ∀ q ∈ rest, q.1 < L) (h : L ≤ x) : ∀ q ∈ rest, q.1 ≠ x := fun q hq => Nat.ne_of_lt (Nat.lt_of_lt_of_le (l q hq) h)
theorem ap_lt {rest : List (Addr × Obj)} {L x : Nat} (l : ∀ q ∈ rest, q.1 < L) (h : L ≤ x) : ∀ q ∈ rest, q.1 < x := fun q hq => Nat.lt_of_lt_of_le (l q hq) h
theorem newTuple_L {M : Model} {A : Around} {E : Value → Shared → Prop} {s : Shared} {h₀ : Heap} {L : Addr} {m : Str → Option Value} {news : List (Addr × Obj)} {vs : List Value} {Q : Value → Shared → Prop} (F : Fr h₀ L s.heap m) (N : News h₀ L s.heap news) (hz : vs.length ≤ 10)
    (h : ∀ D h', Fr h₀ L h' m → News h₀ L h' ((D, { cls := .type "tuple", data := .seq vs.toArray }) :: news) → (∀ p ∈ news, p.1 < D) → @LT.lt Nat _ L D → Q (.ref D) { s with heap := h' }) : wpAny M A (newTuple vs) Q E s :=
  newTuple_N F N (fun h' F' N' => h _ h' F' N' (fun p hp => Heap.lt_size (N p hp).1) F.ns.lt) (by rw [sizeLine_eq]; lia)
def Ctr (w : World) (p : Program) (loose : List Str) (mean : ExcName → Option Value) (mg mb : Str → Option Value) (d u : Nat) (f : Addr) (vs : List Value) (news : List (Addr × Obj)) (R : Nat → Value → List (Addr × Obj) → Prop) : Prop :=
  ∀ (dp un : Nat) (gd : Option (List Code)) (cn : Str) (cs : Scope) (a : Addr) (ccd : Value) (cl : List (Str × Addr)) (outer : List Env) (A₀ : Around) (base h₀ : Heap) (L : Addr) (m : Str → Option Value) (s : Shared) (Q E : Value → Shared → Prop),
    Below A₀ base outer h₀ → Fr h₀ L s.heap m → (Mine.hd.heap_1 w.params).In h₀ → News h₀ L s.heap news → Top p loose mean mg mb h₀ → cs.kind = .function →
    dp + d < recursionLimit → un + u < cLine →
    (∀ v h' tk' news', R s.heap.objs.size v news' → Fr h₀ L h' m → News h₀ L h' news' → Q v { s with heap := h', toks := tk' }) →
    wpAny (model PySem.Challenge.rw_xi0020_01.prog w) (ktrTop dp un gd cn cs L a ccd cl outer) (call (.ref f) vs) Q E s
def CtrAt (w : World) (p : Program) (loose : List Str) (mean : ExcName → Option Value) (mg mb : Str → Option Value) (d u : Nat) (f : Addr) (vs : List Value) (news : List (Addr × Obj)) (R : Nat → Value → List (Addr × Obj) → Prop) (dp un : Nat) (gd : Option (List Code)) (cn : Str) (cs : Scope) (a : Addr) (ccd : Value) (cl : List (Str × Addr)) (outer : List Env) (A₀ : Around) (base h₀ : Heap) (L : Addr) (m : Str → Option Value) (s : Shared) (Q E : Value → Shared → Prop) : Prop :=
    Below A₀ base outer h₀ → Fr h₀ L s.heap m → (Mine.hd.heap_1 w.params).In h₀ → News h₀ L s.heap news → Top p loose mean mg mb h₀ → cs.kind = .function →
    dp + d < recursionLimit → un + u < cLine →
    (∀ v h' tk' news', R s.heap.objs.size v news' → Fr h₀ L h' m → News h₀ L h' news' → Q v { s with heap := h', toks := tk' }) →
    wpAny (model PySem.Challenge.rw_xi0020_01.prog w) (ktrTop dp un gd cn cs L a ccd cl outer) (call (.ref f) vs) Q E s
def CtrG (w : World) (p : Program) (loose : List Str) (mean : ExcName → Option Value) (mg mb : Str → Option Value) (d u : Nat) (f : Addr) (vs : List Value) (news : List (Addr × Obj)) (R : Nat → Value → List (Addr × Obj) → Prop) (dp un : Nat) (gd : Option (List Code)) (cn : Str) (cs : Scope) (a : Addr) (ccd : Value) (cl : List (Str × Addr)) (outer : List Env) (A₀ : Around) (base h₀ : Heap) (L : Addr) (m : Str → Option Value) (s : Shared) (Q E : Value → Shared → Prop) (G : Prop) : Prop :=
    Below A₀ base outer h₀ → Fr h₀ L s.heap m → (Mine.hd.heap_1 w.params).In h₀ → News h₀ L s.heap news → Top p loose mean mg mb h₀ → cs.kind = .function →
    dp + d < recursionLimit → un + u < cLine →
    (∀ v h' tk' news', R s.heap.objs.size v news' → Fr h₀ L h' m → News h₀ L h' news' → Q v { s with heap := h', toks := tk' }) →
    G
def RInt (x : Int) (news : List (Addr × Obj)) (_ : Nat) (v : Value) (n : List (Addr × Obj)) : Prop := n = news ∧ ∃ t, v = .int x t

section
variable {w : World} {p : Program} {loose : List Str} {mean : ExcName → Option Value} {mg mb : Str → Option Value}

theorem Ctr.use {d u : Nat} {f : Addr} {vs : List Value} {news : List (Addr × Obj)} {R : Nat → Value → List (Addr × Obj) → Prop}
    {dp un : Nat} {gd : Option (List Code)} {cn : Str} {cs : Scope} {a : Addr} {ccd : Value} {cl : List (Str × Addr)} {outer : List Env} {A₀ : Around} {base h₀ : Heap} {L : Addr} {m : Str → Option Value} {s : Shared} {Q E : Value → Shared → Prop}
    (B : Below A₀ base outer h₀) (F : Fr h₀ L s.heap m) (X : (Mine.hd.heap_1 w.params).In h₀) (N : News h₀ L s.heap news) (T : Top p loose mean mg mb h₀) (hk : cs.kind = .function)
    (hd : dp + d < recursionLimit) (hu : un + u < cLine) (C : Ctr w p loose mean mg mb d u f vs news R)
    (ret : ∀ B v h' tk' news', (∀ p ∈ news, p.1 < B) → @LT.lt Nat _ L B → R B v news' → Fr h₀ L h' m → News h₀ L h' news' → Q v { s with heap := h', toks := tk' }) :
    wpAny (model PySem.Challenge.rw_xi0020_01.prog w) (ktrTop dp un gd cn cs L a ccd cl outer) (call (.ref f) vs) Q E s :=
  C _ _ _ _ _ _ _ _ _ _ _ _ _ _ _ _ _ B F X N T hk hd hu fun v h' tk' n' => ret _ v h' tk' n' (fun p hp => Heap.lt_size (N p hp).1) F.ns.lt

theorem c_ipow (a b : Int) (t u : Tok) (news : List (Addr × Obj)) (h0 : 0 ≤ b) (h1 : b ≤ 1000000) (h2 : a.natAbs < 2 ^ 64) :
    Ctr w p loose mean mg mb 1 8 128 [.int a t, .int b u] news (RInt (a ^ b.toNat) news) := by
  intro dp un gd cn cs a' ccd cl outer A₀ base h₀ L m s Q E B F X N T hk hd hu hret
  revert X; k_fill; intro X
  refine wpAny_call ?_
  k_dflt ktr_enter
  k_steps
  all_goals exact hret _ _ _ _ ⟨rfl, _, rfl⟩ (by assumption) (by assumption)

theorem c_imul (a b : Int) (t u : Tok) (news : List (Addr × Obj)) (h0 : IntMulOk a b) :
    Ctr w p loose mean mg mb 1 8 114 [.int a t, .int b u] news (RInt (a * b) news) := by
  intro dp un gd cn cs a' ccd cl outer A₀ base h₀ L m s Q E B F X N T hk hd hu hret
  refine wpAny_call ?_
  k_dflt ktr_enter
  k_steps
  all_goals exact hret _ _ _ _ ⟨rfl, _, rfl⟩ (by assumption) (by assumption)

local macro_rules | `(tactic| walk_at "side") => `(tactic| first | assumption | lia)
example : True := by
  k_with "m inplaceOp LShift int int" => ((fail_if_success (fail_if_success (k_extra "piece"; clear kP_B))); k_dflt (refine' PyProof.Rows.ilshift_int (by walk_at "side") (by walk_at "side") ?_))
  trivial
theorem c_ilshift (a b : Int) (t u : Tok) (news : List (Addr × Obj)) (h0 : 0 ≤ b) (h1 : (Builtin.Int.intBits a : Int) + b ≤ 2 ^ 27) :
    Ctr w p loose mean mg mb 1 8 107 [.int a t, .int b u] news (RInt (a * 2 ^ b.toNat) news) := by
  intro dp un gd cn cs a' ccd cl outer A₀ base h₀ L m s Q E B F X N T hk hd hu hret
  refine wpAny_call ?_
  k_dflt ktr_enter
  k_steps
  all_goals exact hret _ _ _ _ ⟨rfl, _, rfl⟩ (by assumption) (by assumption)

theorem c_ior (a b : Int) (t u : Tok) (news : List (Addr × Obj)) :
    Ctr w p loose mean mg mb 1 8 121 [.int a t, .int b u] news (RInt (Builtin.bitOr a b) news) := by
  intro dp un gd cn cs a' ccd cl outer A₀ base h₀ L m s Q E B F X N T hk hd hu hret
  refine wpAny_call ?_
  k_dflt ktr_enter
  k_steps
  all_goals exact hret _ _ _ _ ⟨rfl, _, rfl⟩ (by assumption) (by assumption)
end
end
example {prog : Program} {w : World} {A : Around} {env : Env} {Q : Flow → Shared → Prop} {E : Value → Shared → Prop} {s : Shared} (h : wpAny (model prog w) A (execs [] env) Q E s) : wpAny (model prog w) A (execs [] env) Q E s := by ((k_with "now" => have kReset : True := trivial); (k_with "piece" => have kP_M : True := trivial); w_top off; first | (walk1; fail) | exact h)
section
theorem nat_and_shift (x d k : Nat) (h : d < 2 ^ k) : (x * 2 ^ k) &&& d = 0 := by
  have h1 := Nat.two_pow_add_eq_or_of_lt h x
  have h2 := PyProof.Rows.nat_or_add_and (x * 2 ^ k) d
  rw [Nat.mul_comm (2 ^ k) x] at h1
  lia
theorem bitOr_shift (x d : Int) (k : Nat) (hx : 0 ≤ x) (hd : 0 ≤ d) (hlt : d < 2 ^ k) : Builtin.bitOr (x * 2 ^ k) d = x * 2 ^ k + d := by
  obtain ⟨x, rfl⟩ := Int.eq_ofNat_of_zero_le hx
  obtain ⟨d, rfl⟩ := Int.eq_ofNat_of_zero_le hd
  have e : ((x : Int) * 2 ^ k) = ((x * 2 ^ k : Nat) : Int) := by simp
  have hlt' : d < 2 ^ k := by
    have : ((d : Nat) : Int) < ((2 ^ k : Nat) : Int) := by simpa using hlt
    exact Int.ofNat_lt.mp this
  rw [e, PyProof.Rows.bitOr_and, PyProof.Rows.bitAnd_pp (by lia) (by lia), Int.toNat_natCast, Int.toNat_natCast, nat_and_shift x d k hlt']
  simp
def apVal (ks : List Int) : Int := ks.foldl (fun a k => a * 16 + (k - 65)) 0
theorem apVal_snoc (ks : List Int) (n : Int) : apVal (ks ++ [n]) = apVal ks * 16 + (n - 65) := by simp [apVal]
theorem worth_turn {worth n : Int} {pre : List Int} (h1 : worth = apVal pre) (h2 : 0 ≤ worth) (h3 : worth < 16 ^ pre.length) (h4 : ¬ n < 65) (h5 : ¬ 80 < n) :
    Builtin.bitOr (Builtin.bitOr (worth * 2 ^ (4 : Int).toNat) (n - 65)) (n - 65) = apVal (pre ++ [n]) ∧ 0 ≤ Builtin.bitOr (Builtin.bitOr (worth * 2 ^ (4 : Int).toNat) (n - 65)) (n - 65) ∧ Builtin.bitOr (Builtin.bitOr (worth * 2 ^ (4 : Int).toNat) (n - 65)) (n - 65) < 16 ^ (pre ++ [n]).length := by
  have e : Builtin.bitOr (Builtin.bitOr (worth * 2 ^ (4 : Int).toNat) (n - 65)) (n - 65) = worth * 16 + (n - 65) := by
    have e1 : (4 : Int).toNat = 4 := rfl
    rw [e1, bitOr_shift worth (n - 65) 4 h2 (by lia) (by lia)]
    have key : ∀ y d : Nat, d < 16 → (y * 16 + d) ||| d = y * 16 + d := by
      intro y d hd
      have h1 := Nat.two_pow_add_eq_or_of_lt (i := 4) (b := d) (by lia) y
      have h2 : y * 16 + d = 2 ^ 4 * y ||| d := by rw [← h1]; lia
      rw [h2, Nat.or_assoc, Nat.or_self]
    obtain ⟨y, rfl⟩ := Int.eq_ofNat_of_zero_le h2
    obtain ⟨d, hd⟩ := Int.eq_ofNat_of_zero_le (show 0 ≤ n - 65 by lia)
    rw [hd]
    have hk := key y d (by lia)
    have e3 : ((y : Int) * 2 ^ 4 + d) = ((y * 16 + d : Nat) : Int) := by push_cast; lia
    have e4 := PyProof.Rows.nat_or_add_and (y * 16 + d) d
    rw [e3, PyProof.Rows.bitOr_and, PyProof.Rows.bitAnd_pp (by lia) (by lia), Int.toNat_natCast, Int.toNat_natCast]
    lia
  rw [e, apVal_snoc, ← h1]
  refine ⟨rfl, by lia, ?_⟩
  rw [List.length_append, List.length_singleton, Int.pow_succ]
  lia
theorem bits_lt {x : Int} {k : Nat} (h0 : 0 ≤ x) (h : x < 2 ^ k) : Builtin.Int.intBits x ≤ k := by
  refine PySem.intBits_le_iff.mpr ?_
  obtain ⟨n, rfl⟩ := Int.eq_ofNat_of_zero_le h0
  have : ((n : Nat) : Int) < ((2 ^ k : Nat) : Int) := by simpa using h
  simpa using Int.ofNat_lt.mp this
theorem pow16_le {a b : Nat} (h : a ≤ b) : (16 : Int) ^ a ≤ 16 ^ b := by
  have := Nat.pow_le_pow_right (show 0 < 16 by decide) h
  exact_mod_cast this
theorem worth_side {worth : Int} {l n : Nat} (h2 : 0 ≤ worth) (h3 : worth < 16 ^ l) (h4 : l < n) (h5 : n ≤ 12) : (Builtin.Int.intBits worth : Int) + 4 ≤ 2 ^ 27 := by
  have h6 : (16 : Int) ^ l ≤ 16 ^ 12 := pow16_le (by lia)
  have := bits_lt (k := 48) h2 (by lia)
  lia
/-- k digits of x to the base 2 ^ n, the least first -/
def dg (n : Nat) : Nat → Nat → List Int
  | 0, _ => []
  | k + 1, x => ((x % 2 ^ n : Nat) : Int) :: dg n k (x / 2 ^ n)
theorem dg_len (n : Nat) : ∀ k x, (dg n k x).length = k
  | 0, _ => rfl
  | k + 1, x => by simp [dg, dg_len n k]
theorem dg_app (n : Nat) : ∀ a b x, dg n (a + b) x = dg n a (x % 2 ^ (n * a)) ++ dg n b (x / 2 ^ (n * a))
  | 0, b, x => by simp [dg]
  | a + 1, b, x => by
    have e : a + 1 + b = (a + b) + 1 := by lia
    rw [e, dg, dg_app n a b, dg, List.cons_append]
    have h1 : 2 ^ (n * (a + 1)) = 2 ^ n * 2 ^ (n * a) := by rw [← Nat.pow_add]; congr 1; rw [Nat.mul_succ]; lia
    rw [h1, Nat.mod_mul_right_mod, Nat.div_div_eq_div_mul, Nat.mod_mul_right_div_self]
theorem dg_one (n x : Nat) (h : x < 2 ^ n) : dg n 1 x = [(x : Int)] := by simp [dg, Nat.mod_eq_of_lt h]
/-- the list with ds laid at place i -/
def put (ns : List Int) (i : Nat) (ds : List Int) : List Int := ns.take i ++ ds ++ ns.drop (i + ds.length)
theorem put_len (ns : List Int) (i : Nat) (ds : List Int) (h : i + ds.length ≤ ns.length) : (put ns i ds).length = ns.length := by
  simp [put]; lia
theorem put_one (ns : List Int) (i : Nat) (x : Int) (h : i < ns.length) : put ns i [x] = ns.set i x := by
  rw [put, List.set_eq_take_append_cons_drop, if_pos h]; simp
theorem put_put (ns : List Int) (i : Nat) (ds es : List Int) (h : i + ds.length + es.length ≤ ns.length) : put (put ns i ds) (i + ds.length) es = put ns i (ds ++ es) := by
  have h1 : (ns.take i).length = i := by simp; lia
  have e1 : (ns.take i ++ ds).length = i + ds.length := by simp; lia
  unfold put
  have t1 : (ns.take i ++ ds ++ ns.drop (i + ds.length)).take (i + ds.length) = ns.take i ++ ds := by
    rw [List.take_append_of_le_length (by lia), List.take_of_length_le (by lia)]
  have t2 : (ns.take i ++ ds ++ ns.drop (i + ds.length)).drop (i + ds.length + es.length) = ns.drop (i + ds.length + es.length) := by
    rw [List.drop_append, List.drop_of_length_le (by lia), List.nil_append, e1, List.drop_drop]
    congr 1
    lia
  rw [t1, t2]
  simp [Nat.add_assoc]
theorem put_all (ns ds : List Int) (h : ns.length = ds.length) : put ns 0 ds = ds := by simp [put, h]
theorem ints_rep (t : Tok) : ∀ k : Nat, IntsAre (List.replicate k [Value.int 0 t]).flatten (List.replicate k 0)
  | 0 => .nil
  | k + 1 => by
    rw [List.replicate_succ, List.flatten_cons, List.replicate_succ]
    exact .cons 0 t (ints_rep t k)
theorem bitXor_low (x s : Nat) : Builtin.bitXor (x : Int) (((x / 2 ^ s : Nat) : Int) * 2 ^ s) = ((x % 2 ^ s : Nat) : Int) := by
  have hm : x % 2 ^ s < 2 ^ s := Nat.mod_lt _ (Nat.two_pow_pos s)
  have e0 := Nat.div_add_mod x (2 ^ s)
  have e1 := Nat.two_pow_add_eq_or_of_lt hm (x / 2 ^ s)
  have e2 : ((x / 2 ^ s : Nat) : Int) * 2 ^ s = ((2 ^ s * (x / 2 ^ s) : Nat) : Int) := by push_cast; rw [Int.mul_comm]
  have h : x &&& (2 ^ s * (x / 2 ^ s)) = 2 ^ s * (x / 2 ^ s) := by
    have h1 : x = 2 ^ s * (x / 2 ^ s) ||| x % 2 ^ s := by rw [← e1, e0]
    have h2 : (2 ^ s * (x / 2 ^ s) ||| x % 2 ^ s) &&& (2 ^ s * (x / 2 ^ s)) = 2 ^ s * (x / 2 ^ s) := by
      rw [Nat.and_or_distrib_right, Nat.and_self, Nat.and_comm, Nat.mul_comm, nat_and_shift _ _ _ hm, Nat.or_zero]
    rw [← h1] at h2; exact h2
  rw [bitXor_and, e2, PyProof.Rows.bitAnd_pp (by lia) (by lia), Int.toNat_natCast, Int.toNat_natCast, h]
  lia
abbrev BL (b : Nat) : Nat := Builtin.Int.intBits (b : Int)
theorem bl_le {b k : Nat} : BL b ≤ k ↔ b < 2 ^ k := by
  have := PySem.intBits_le_iff (m := k) (x := (b : Int))
  simpa using this
theorem bl_lt (b : Nat) : b < 2 ^ BL b := bl_le.mp (Nat.le_refl _)
theorem bl_pos {b : Nat} (h : 0 < b) : 0 < BL b := by
  rcases Nat.eq_zero_or_pos (BL b) with h0 | h0
  · have := bl_lt b; rw [h0] at this; lia
  · exact h0
theorem bl_ge {b : Nat} (h : 0 < b) : 2 ^ (BL b - 1) ≤ b := by
  rcases Nat.lt_or_ge b (2 ^ (BL b - 1)) with h1 | h1
  · have h2 := bl_le.mpr h1
    have := bl_pos h
    lia
  · exact h1
theorem bl_mul {a b k : Nat} (h : a < b * 2 ^ k) : BL a ≤ BL b + k := by
  refine bl_le.mpr (Nat.lt_of_lt_of_le h ?_)
  rw [Nat.pow_add]
  exact Nat.mul_le_mul_right _ (Nat.le_of_lt (bl_lt b))
def cntOf (a b : Nat) : Nat := (BL a + BL b - 1) / BL b
theorem cnt_fdiv {a b : Nat} (hb : 0 < b) : ((BL a : Int) + (BL b : Int) - 1).fdiv (BL b : Int) = (cntOf a b : Int) := by
  have := bl_pos hb
  have e : ((BL a : Int) + (BL b : Int) - 1) = ((BL a + BL b - 1 : Nat) : Int) := by lia
  rw [e, Int.fdiv_eq_ediv_of_nonneg _ (by lia)]
  rfl
theorem cnt_pos {a b : Nat} (ha : 0 < a) (hb : 0 < b) : 0 < cntOf a b := by
  have := bl_pos ha; have := bl_pos hb
  exact Nat.div_pos (by lia) (by lia)
theorem cnt_mul {a b : Nat} : BL b * cntOf a b ≤ BL a + BL b - 1 := Nat.mul_div_le _ _
theorem cnt_ge {a b : Nat} (hb : 0 < b) : BL a ≤ BL b * cntOf a b := by
  have h0 := bl_pos hb
  have h1 := Nat.lt_mul_div_succ (BL a + BL b - 1) h0
  have h2 : BL b * (cntOf a b + 1) = BL b * cntOf a b + BL b := Nat.mul_succ _ _
  unfold cntOf at *
  lia
theorem cnt_top {a b : Nat} (hb : 0 < b) : a < 2 ^ (BL b * cntOf a b) := bl_le.mp (cnt_ge hb)
theorem cnt_le {a b : Nat} (hb : 0 < b) (h : BL a ≤ BL b + 60) : cntOf a b ≤ 200 := by
  have h0 := bl_pos hb
  refine Nat.le_of_lt_succ ((Nat.div_lt_iff_lt_mul h0).mpr ?_)
  lia
def valBE (n : Nat) (qs : List Nat) : Nat := qs.foldl (fun acc q => acc * 2 ^ n + q) 0
theorem valBE_snoc (n : Nat) (qs : List Nat) (q : Nat) : valBE n (qs ++ [q]) = valBE n qs * 2 ^ n + q := by simp [valBE]
theorem dg_get (n : Nat) : ∀ k x i, i < k → (dg n k x)[i]? = some (((x / 2 ^ (n * i)) % 2 ^ n : Nat) : Int)
  | 0, _, _, h => absurd h (Nat.not_lt_zero _)
  | k + 1, x, 0, _ => by simp [dg]
  | k + 1, x, i + 1, h => by
    rw [dg, List.getElem?_cons_succ, dg_get n k (x / 2 ^ n) i (by lia), Nat.div_div_eq_div_mul, Nat.mul_succ, Nat.pow_add, Nat.mul_comm (2 ^ (n * i))]
theorem dm_digit {n cnt a : Nat} {pre post : List Int} {d : Int} (h : (dg n cnt a).reverse = pre ++ d :: post) :
    ∃ D : Nat, d = D ∧ D < 2 ^ n ∧ pre.length < cnt ∧ a / 2 ^ (n * (cnt - (pre.length + 1))) = (a / 2 ^ (n * (cnt - pre.length))) * 2 ^ n + D := by
  have hl : cnt = pre.length + (post.length + 1) := by
    have := congrArg List.length h
    rw [List.length_reverse, dg_len, List.length_append, List.length_cons] at this
    exact this
  have h1 : (dg n cnt a).reverse[pre.length]? = some d := by rw [h]; simp
  rw [List.getElem?_reverse (by rw [dg_len]; lia), dg_len, dg_get n cnt a _ (by lia)] at h1
  refine ⟨_, (Option.some.inj h1).symm, Nat.mod_lt _ (Nat.two_pow_pos _), by lia, ?_⟩
  have e1 : cnt - 1 - pre.length = cnt - (pre.length + 1) := by lia
  rw [e1]
  have e2 : a / 2 ^ (n * (cnt - pre.length)) = a / 2 ^ (n * (cnt - (pre.length + 1))) / 2 ^ n := by
    rw [Nat.div_div_eq_div_mul, ← Nat.pow_add]
    congr 2
    rw [← Nat.mul_succ]
    congr 1
    lia
  rw [e2]
  exact (Nat.div_add_mod' _ _).symm
def DM (a b n cnt : Nat) (pre : List Int) (r : Int) (qs : List Int) : Prop :=
  ∃ (R : Nat) (Q : List Nat), r = R ∧ qs = Q.map (fun q : Nat => (q : Int)) ∧ R < b ∧ valBE n Q * b + R = a / 2 ^ (n * (cnt - pre.length)) ∧ Q.length = pre.length ∧ (∀ q ∈ Q, q < 2 ^ n)
theorem dm_start {a b n cnt : Nat} (hb : 0 < b) (ha : a < 2 ^ (n * cnt)) : DM a b n cnt [] 0 [] :=
  ⟨0, [], rfl, rfl, hb, by simp [valBE, Nat.div_eq_of_lt ha], rfl, fun _ h => nomatch h⟩
theorem dm_turn {a b n cnt : Nat} {pre post : List Int} {r d : Int} {qs : List Int} (h : (dg n cnt a).reverse = pre ++ d :: post) (D : DM a b n cnt pre r qs) :
    DM a b n cnt (pre ++ [d]) ((r * 2 ^ (n : Int).toNat + d).fmod (b : Int)) (qs ++ [(r * 2 ^ (n : Int).toNat + d).fdiv (b : Int)]) := by
  obtain ⟨R, Q, rfl, rfl, hR, hv, hl, hq⟩ := D
  obtain ⟨D, rfl, hD, hp, he⟩ := dm_digit h
  have e : ((R : Int) * 2 ^ (n : Int).toNat + (D : Int)) = ((R * 2 ^ n + D : Nat) : Int) := by rw [Int.toNat_natCast]; push_cast; rfl
  rw [e, Int.fmod_eq_emod_of_nonneg _ (by lia), Int.fdiv_eq_ediv_of_nonneg _ (by lia)]
  have hb : 0 < b := by lia
  have hx : R * 2 ^ n + D < b * 2 ^ n := by
    have h1 : (R + 1) * 2 ^ n ≤ b * 2 ^ n := Nat.mul_le_mul_right _ hR
    rw [Nat.succ_mul] at h1; lia
  refine ⟨(R * 2 ^ n + D) % b, Q ++ [(R * 2 ^ n + D) / b], by push_cast; rfl, by rw [List.map_append]; push_cast; rfl, Nat.mod_lt _ hb, ?_, by simp [hl], ?_⟩
  · rw [valBE_snoc, List.length_append, List.length_singleton, he, ← hv]
    have h2 := Nat.div_add_mod (R * 2 ^ n + D) b
    rw [Nat.add_mul, Nat.add_assoc, Nat.mul_comm ((R * 2 ^ n + D) / b) b, h2]
    rw [Nat.add_mul, Nat.mul_right_comm, Nat.add_assoc]
  · intro q hq'
    rcases List.mem_append.mp hq' with h3 | h3
    · exact hq q h3
    · rw [List.mem_singleton.mp h3]
      exact Nat.div_lt_of_lt_mul hx
theorem dm_small {a b n cnt : Nat} {pre post : List Int} {r d : Int} {qs : List Int} (h : (dg n cnt a).reverse = pre ++ d :: post) (D : DM a b n cnt pre r qs) :
    ∃ X : Nat, (r * 2 ^ (n : Int).toNat + d) = (X : Int) ∧ X ≤ a := by
  obtain ⟨R, Q, rfl, rfl, hR, hv, hl, hq⟩ := D
  obtain ⟨D, rfl, hD, hp, he⟩ := dm_digit h
  refine ⟨R * 2 ^ n + D, by rw [Int.toNat_natCast]; push_cast; rfl, ?_⟩
  have h1 : R ≤ a / 2 ^ (n * (cnt - pre.length)) := by rw [← hv]; lia
  have h2 : R * 2 ^ n + D ≤ a / 2 ^ (n * (cnt - (pre.length + 1))) := by
    rw [he]; exact Nat.add_le_add_right (Nat.mul_le_mul_right _ h1) _
  exact Nat.le_trans h2 (Nat.div_le_self _ _)
theorem bl_mono {a b : Nat} (h : a ≤ b) : BL a ≤ BL b := bl_le.mpr (Nat.lt_of_le_of_lt h (bl_lt b))
theorem dm_side1 {a b n cnt : Nat} {pre : List Int} {r : Int} {qs : List Int} (D : DM a b n cnt pre r qs) (hb : BL b ≤ 50000) (hn : n ≤ 50000) : (Builtin.Int.intBits r : Int) + (n : Int) ≤ 2 ^ 27 := by
  obtain ⟨R, Q, rfl, rfl, hR, hv, hl, hq⟩ := D
  have := bl_mono (Nat.le_of_lt hR)
  dsimp only [BL] at *
  lia
theorem dm_side2 {a b n cnt : Nat} {pre post : List Int} {r d : Int} {qs : List Int} (h : (dg n cnt a).reverse = pre ++ d :: post) (D : DM a b n cnt pre r qs) (ha : BL a ≤ n + 60) : (Builtin.Int.intBits (r * 2 ^ (n : Int).toNat + d) : Int) - (n : Int) ≤ 4000 := by
  obtain ⟨X, e, hX⟩ := dm_small h D
  rw [e]
  have := bl_mono hX
  dsimp only [BL] at *
  lia
theorem log_bl {b : Nat} (h : 0 < b) : b.log2 + 1 = BL b := by
  have : ((b : Int) == 0) = false := by simp; lia
  show _ = Builtin.Int.intBits (b : Int)
  unfold Builtin.Int.intBits
  rw [this]; simp
theorem noPy {x y : Nat} (h : BL x ≤ BL y + 4000) : Builtin.divisionGoesByPylong (x : Int) (y : Int) = false := by
  rcases Nat.eq_zero_or_pos y with h0 | h0
  · subst h0; exact PyProof.noPylong_small (by simp)
  · show (decide ((if (y : Int) == 0 then 0 else (y : Int).natAbs.log2 / 30 + 1) > 300) && decide ((if (x : Int) == 0 then 0 else (x : Int).natAbs.log2 / 30 + 1) > (if (y : Int) == 0 then 0 else (y : Int).natAbs.log2 / 30 + 1) + 150)) = false
    have hy := log_bl h0
    have ey : ((y : Int) == 0) = false := by simp; lia
    rw [ey]
    simp only [Int.natAbs_natCast, Bool.false_eq_true, if_false]
    rw [Bool.and_eq_false_iff]
    right
    refine decide_eq_false ?_
    rcases Nat.eq_zero_or_pos x with hx | hx
    · subst hx; simp
    · have ex : ((x : Int) == 0) = false := by simp; lia
      have hx' := log_bl hx
      rw [ex]
      simp only [Bool.false_eq_true, if_false]
      lia
theorem dm_side3 {a b n cnt : Nat} {pre post : List Int} {r d : Int} {qs : List Int} (h : (dg n cnt a).reverse = pre ++ d :: post) (D : DM a b n cnt pre r qs) (ha : BL a ≤ BL b + 60) : Builtin.divisionGoesByPylong (r * 2 ^ (n : Int).toNat + d) (b : Int) = false := by
  obtain ⟨X, e, hX⟩ := dm_small h D
  rw [e]
  have := bl_mono hX
  exact noPy (by lia)
theorem dm_len {a b n cnt : Nat} {pre post : List Int} {r d : Int} {qs : List Int} (h : (dg n cnt a).reverse = pre ++ d :: post) (D : DM a b n cnt pre r qs) (hc : cnt ≤ 200) : qs.length ≤ 1000 := by
  obtain ⟨R, Q, rfl, rfl, hR, hv, hl, hq⟩ := D
  obtain ⟨_, _, _, hp, _⟩ := dm_digit h
  simp; lia
theorem valN_rev (n : Nat) (valN : List Nat → Nat) (h0 : valN [] = 0) (hc : ∀ d r, valN (d :: r) = d + 2 ^ n * valN r) (qs : List Nat) : valN qs.reverse = valBE n qs := by
  have key : ∀ rs : List Nat, valN rs = valBE n rs.reverse := by
    intro rs
    induction rs with
    | nil => rw [h0]; rfl
    | cons d r ih => rw [hc, List.reverse_cons, valBE_snoc, ih, Nat.mul_comm, Nat.add_comm]
  rw [key, List.reverse_reverse]
theorem dm_done {a b n cnt : Nat} {r : Int} {qs : List Int} (D : DM a b n cnt (dg n cnt a).reverse r qs) : ∃ (R : Nat) (Q : List Nat), r = R ∧ qs = Q.map (fun q : Nat => (q : Int)) ∧ R = a % b ∧ valBE n Q = a / b ∧ Q.length = cnt ∧ (∀ q ∈ Q, q < 2 ^ n) := by
  obtain ⟨R, Q, rfl, rfl, hR, hv, hl, hq⟩ := D
  rw [List.length_reverse, dg_len] at hv hl
  rw [Nat.sub_self, Nat.mul_zero, Nat.pow_zero, Nat.div_one] at hv
  have hb : 0 < b := by lia
  have h1 : a / b = valBE n Q := by rw [← hv, Nat.add_comm, Nat.add_mul_div_right _ _ hb, Nat.div_eq_of_lt hR, Nat.zero_add]
  have h2 : a % b = R := by rw [← hv, Nat.add_comm, Nat.add_mul_mod_self_right, Nat.mod_eq_of_lt hR]
  exact ⟨R, Q, rfl, rfl, h2.symm, h1.symm, hl, hq⟩
end
example : True := by
  k_with "m execs cons" => (k_fold)
  trivial
local macro_rules | `(tactic| k_ne) => `(tactic| (refine neN ?_; (try dsimp only); lia))
local macro_rules | `(tactic| k_all) => `(tactic| first | exact List.forall_mem_nil _ | (refine' List.forall_mem_cons.mpr ⟨?a, ?b⟩; (case a => k_ne); (case b => k_all)))
local macro_rules | `(tactic| walk_at "side") => `(tactic| first | with_reducible assumption | lia | (k_extra "side"; done))
example : True := by
  k_with "ctr" => (((case B => k_asm); (case F => k_asm); (case X => k_asm); (case N => k_asm); (case T => k_asm); (case k => first | exact rfl | assumption); (case d => ktr_room); (case u => ktr_units)))
  k_with "retInt" => ((intro B'ξ v'ξ h'ξ tk'ξ n'ξ hB'ξ hL'ξ R'ξ F'ξ N'ξ; clear hB'ξ hL'ξ; (obtain ⟨e1ξ, t'ξ, e2ξ⟩ := R'ξ); subst e1ξ; subst e2ξ; (try dsimp only); (try k_sweep); (try k_fold)))
  k_with "m inplaceOp LShift int int" => (k_dflt (refine' PyProof.Rows.ilshift_int (by walk_at "side") (by walk_at "side") ?_))
  k_with "m call ref" => (k_dflt (refine' Ctr.use (by k_asm) (by k_asm) (by k_asm) (by k_asm) (by k_asm) (by first | exact rfl | assumption) (by ktr_room) (by ktr_units) (c_ipow _ _ _ _ _ (by walk_at "side") (by walk_at "side") (by walk_at "side")) ?_); walk_at "retInt")
  k_with "m call ref" => (k_dflt (refine' Ctr.use (by k_asm) (by k_asm) (by k_asm) (by k_asm) (by k_asm) (by first | exact rfl | assumption) (by ktr_room) (by ktr_units) (c_imul _ _ _ _ _ (by walk_at "side")) ?_); walk_at "retInt")
  k_with "m call ref" => (k_dflt (refine' Ctr.use (by k_asm) (by k_asm) (by k_asm) (by k_asm) (by k_asm) (by first | exact rfl | assumption) (by ktr_room) (by ktr_units) (c_ilshift _ _ _ _ _ (by walk_at "side") (by walk_at "side")) ?_); walk_at "retInt")
  k_with "m call ref" => (k_dflt (refine' Ctr.use (by k_asm) (by k_asm) (by k_asm) (by k_asm) (by k_asm) (by first | exact rfl | assumption) (by ktr_room) (by ktr_units) (c_ior _ _ _ _ _) ?_); walk_at "retInt")
  k_with "enterC" => (k_dflt (refine wpAny_call ?_; refine' code_frC (by k_asm) (by k_asm) (by k_asm) (by assumption) (by k_asm) (by exact rfl) (by exact rfl) (by assumption) (by k_is) (by k_is) (by ktr_room) (by first | with_reducible exact bP2 (by k_dflt exact rfl) (by kernel_rfl) | with_reducible exact bP3 (by k_dflt exact rfl) (by kernel_rfl) | with_reducible exact bP1 (by k_dflt exact rfl) (by kernel_rfl) | with_reducible exact bP4 (by k_dflt exact rfl) (by kernel_rfl) | with_reducible exact bP5 (by k_dflt exact rfl) (by kernel_rfl) | exact BindsTo.of_eq rfl) (by exact rfl) (by decide +kernel) ?_ (by exact rfl) (by exact rfl) (by exact rfl); k_whole; intro g'ξ L'ξ h'ξ tk'ξ cells'ξ FG'ξ F'ξ N'ξ Y'ξ B'ξ X'ξ T'ξ l1ξ l2ξ l3ξ; (try k_lt l1ξ); (have CH1ξ := codeHd_of_K (c := 28) (P := 24) X'ξ (by kernel_rfl)); (have CH2ξ := codeHd_of_K (c := 56) (P := 52) X'ξ (by kernel_rfl)); (have CH3ξ := codeHd_of_K (c := 63) (P := 59) X'ξ (by kernel_rfl)); k_cells Y'ξ; (try simp only [List.cons_append, List.nil_append] at N'ξ); (try dsimp only); (try k_fold)))
  k_with "enterS" => (k_dflt (refine wpAny_call ?_; refine' code_fr (by k_asm) (by k_asm) (by k_asm) (by assumption) (by k_asm) (by exact rfl) (by exact rfl) (by assumption) (by k_is) (by k_is) (by ktr_room) (by first | with_reducible exact bP2 (by k_dflt exact rfl) (by kernel_rfl) | with_reducible exact bP3 (by k_dflt exact rfl) (by kernel_rfl) | with_reducible exact bP1 (by k_dflt exact rfl) (by kernel_rfl) | with_reducible exact bP4 (by k_dflt exact rfl) (by kernel_rfl) | with_reducible exact bP5 (by k_dflt exact rfl) (by kernel_rfl) | exact BindsTo.of_eq rfl) (by exact locs rfl) ?_ (by exact rfl) (by exact rfl) (by exact rfl) (by decide); k_whole))
  k_with "enter" => ((walk_at "enterS"; intro g'ξ L'ξ h'ξ FG'ξ F'ξ N'ξ B'ξ X'ξ T'ξ l1ξ l2ξ l3ξ; (try k_lt l1ξ); (try dsimp only); (try k_fold)))
  k_with "enterDS" => (k_dflt (refine wpAny_call ?_; refine' code_fr (by k_asm) (by k_asm) (by k_asm) (by assumption) (by k_asm) (by exact rfl) (by exact rfl) (by assumption) (by k_is) (by k_is) (by ktr_room) (by exact binds_K (by k_in) rfl (by k_is) rfl rfl rfl) (by exact locs rfl) ?_ (by exact rfl) (by exact rfl) (by exact rfl) (by decide); k_whole))
  k_with "enterD" => ((walk_at "enterDS"; intro g'ξ L'ξ h'ξ FG'ξ F'ξ N'ξ B'ξ X'ξ T'ξ l1ξ l2ξ l3ξ; (try k_lt l1ξ); (try dsimp only); (try k_fold)))
  k_with "m binaryOp RShift int int" => (k_extra "ov RShift")
  k_with "m binaryOp LShift int int" => (k_extra "ov LShift")
  k_with "m binaryOp BitXor int int" => (k_extra "ov BitXor")
  k_with "m binaryOp Mult int int" => (k_extra "ov Mult")
  k_with "m binaryOp Add int int" => (k_extra "ov Add")
  k_with "m binaryOp Sub int int" => (k_extra "ov Sub")
  k_with "closure" => ((k_dflt (refine wpAny_call ?_; refine' code_nest (by k_asm) (by k_asm) (by k_asm) (by k_asm) (by k_asm) (by exact rfl) (by exact rfl) (by assumption) (by k_mem) (by exact codeRec_news (by k_asm) (by k_mem) (by assumption) (by assumption)) (by ktr_room) (by first | with_reducible exact bP2 (by k_dflt exact rfl) (by kernel_rfl) | with_reducible exact bP3 (by k_dflt exact rfl) (by kernel_rfl) | with_reducible exact bP1 (by k_dflt exact rfl) (by kernel_rfl) | with_reducible exact bP4 (by k_dflt exact rfl) (by kernel_rfl) | with_reducible exact bP5 (by k_dflt exact rfl) (by kernel_rfl) | exact BindsTo.of_eq rfl) (by exact locs rfl) ?_ (by exact rfl) (by exact rfl) (by exact rfl) (by decide); intro g'ξ L'ξ h'ξ FG'ξ F'ξ N'ξ B'ξ X'ξ T'ξ; (try dsimp only); (try k_fold))))
  k_with "allIn" => (first | exact List.forall_mem_nil _ | (refine' List.forall_mem_cons.mpr ⟨(by k_mem), (by walk_at "allIn")⟩))
  k_with "m newTuple" => (k_dflt (refine' newTuple_L (by k_asm) (by k_asm) (by (simp only [List.length_cons, List.length_nil]; lia)) ?_); intro D'ξ h'ξ F'ξ N'ξ l1ξ l2ξ; (try k_lt l1ξ); (try k_sweep))
  k_with "m unaryOp Invert int" => (k_extra "ov Invert")
  k_with "m unaryOp USub int" => (k_extra "ov USub")
  k_with "setroom" => (first | exact Nat.le_of_ble_eq_true rfl | with_reducible assumption | (intro _; exact Nat.le_of_ble_eq_true rfl) | (intro _; with_reducible assumption) | (intro hfaξ; exact absurd hfaξ Bool.false_ne_true) | (k_extra "side"; done))
  k_with "m exec While Name cons nil" => ((k_extra "ov While"))
  k_with "m call builtin:sorted" => ((k_extra "ov sorted"))
  k_with "m pyIter ref" => ((k_extra "ov pyIter"))
  k_with "m exec For Name Name cons nil" => ((k_extra "ov ForN"))
  k_with "m binaryOp Pow int int" => (k_extra "ov Pow")
  trivial
section
section
/-- a name or a whole number, and what it says -/
def opnd (m : PySem.Str → Option Value) (tk : Nat) : PySem.Expr → Option (Value × Nat)
  | .Name x _ => match m x with
    | some v => some (v, tk)
    | none => none
  | .Constant (.int i) _ _ => some (.int i tk, tk + 1)
  | _ => none
def opndOk (cs : Scope) : PySem.Expr → Bool
  | .Name x _ => match cs.names.lookup x with
    | some .local => !(x == ("__debug__" : PySem.Str))
    | _ => false
  | .Constant (.int _) _ _ => true
  | _ => false
def opnds (m : PySem.Str → Option Value) : Nat → List PySem.Expr → Option (List Value × Nat)
  | tk, [] => some ([], tk)
  | tk, e :: r => match opnd m tk e with
    | some (v, t1) => (match opnds m t1 r with
      | some (vs, t2) => some (v :: vs, t2)
      | none => none)
    | none => none
def opndsOk (cs : Scope) : List PySem.Expr → Bool
  | [] => true
  | e :: r => opndOk cs e && opndsOk cs r
variable {M : Model} {A : Around} {cn : PySem.Str} {cs : Scope} {L a : Addr} {ccd : Value} {cl : List (PySem.Str × Addr)}
theorem opnd_ok {e : PySem.Expr} (hk : cs.kind = .function) (ok : opndOk cs e = true) {h₀ : Heap} {E : Value → Shared → Prop} {Q : Value → Shared → Prop} {m : PySem.Str → Option Value} {h : Heap} {g : Array GenState} {d : Drawn} {t : Nat} {o : OsState} {v : Value} {t' : Nat}
    (F : Fr h₀ L h m) (e1 : opnd m t e = some (v, t')) (hQ : Q v ⟨h, g, d, t', o⟩) : wpAny M A (eval e (envX cn cs L a ccd cl)) Q E ⟨h, g, d, t, o⟩ := by
  unfold opndOk at ok
  split at ok
  · split at ok
    · rename_i hl
      dsimp only [opnd] at e1
      split at e1
      · rename_i hm
        obtain ⟨rfl, rfl⟩ := Prod.mk.inj (Option.some.inj e1)
        exact nameX_L F hm hQ hk hl (by simpa using ok)
      · cases e1
    · cases ok
  · dsimp only [opnd] at e1
    obtain ⟨rfl, rfl⟩ := Prod.mk.inj (Option.some.inj e1)
    exact wpAny_Constant_int hQ
  · cases ok
theorem star_plain {e : PySem.Expr} {r : List PySem.Expr} {env : Env} (ok : opndOk cs e = true) : starEach (e :: r) env = (false, eval e env) :: starEach r env := by
  unfold opndOk at ok
  split at ok
  · rfl
  · rfl
  · cases ok
theorem opnds_ok {es : List PySem.Expr} {pos : Pos} (hk : cs.kind = .function) (ok : opndsOk cs es = true) {h₀ : Heap} {E : Value → Shared → Prop} {Q : List Value → Shared → Prop} {m : PySem.Str → Option Value} {h : Heap} {g : Array GenState} {d : Drawn} {t : Nat} {o : OsState} {vs : List Value} {t' : Nat}
    (F : Fr h₀ L h m) (e1 : opnds m t es = some (vs, t')) (hQ : Q vs ⟨h, g, d, t', o⟩) : wpAny M A (spliced (backTo pos (starEach es (envX cn cs L a ccd cl)))) Q E ⟨h, g, d, t, o⟩ := by
  induction es generalizing t vs Q with
  | nil =>
    obtain ⟨rfl, rfl⟩ := Prod.mk.inj (Option.some.inj e1)
    exact args_nil hQ
  | cons e r ih =>
    unfold opnds at e1
    unfold opndsOk at ok
    obtain ⟨ok1, ok2⟩ := Bool.and_eq_true_iff.mp ok
    cases h1 : opnd m t e with
    | none => rw [h1] at e1; cases e1
    | some p =>
      obtain ⟨v, t1⟩ := p
      rw [h1] at e1
      dsimp only at e1
      cases h2 : opnds m t1 r with
      | none => rw [h2] at e1; cases e1
      | some p =>
        obtain ⟨ws, t2⟩ := p
        rw [h2] at e1
        dsimp only at e1
        obtain ⟨rfl, rfl⟩ := Prod.mk.inj (Option.some.inj e1)
        exact args_cons (opnd_ok hk ok1 F h1 (ih ok2 h2 hQ)) (star_plain ok1)
theorem bin2 {l r : PySem.Expr} {op : Operator} {pos : Pos} (hk : cs.kind = .function) (ok : opndOk cs l = true) (ok2 : opndOk cs r = true) {h₀ : Heap} {E : Value → Shared → Prop} {Q : Value → Shared → Prop} {m : PySem.Str → Option Value} {h : Heap} {g : Array GenState} {d : Drawn} {t : Nat} {o : OsState} {v v2 : Value} {t1 t2 : Nat}
    (F : Fr h₀ L h m) (e1 : opnd m t l = some (v, t1)) (e2 : opnd m t1 r = some (v2, t2)) (hQ : wpAny M A (binaryOp op v v2) Q E ⟨h, g, d, t2, o⟩) : wpAny M A (eval (.BinOp l op r pos) (envX cn cs L a ccd cl)) Q E ⟨h, g, d, t, o⟩ :=
  wpAny_BinOp (opnd_ok hk ok F e1 (opnd_ok hk ok2 F e2 hQ))
theorem cmp2 {l r : PySem.Expr} {op : CmpOp} {pos : Pos} {whole : Sem Value} (hk : cs.kind = .function) (ok : opndOk cs l = true) (ok2 : opndOk cs r = true) (hm : behindInMarks op r = false) {h₀ : Heap} {E : Value → Shared → Prop} {Q : Bool → Shared → Prop} {m : PySem.Str → Option Value} {h : Heap} {g : Array GenState} {d : Drawn} {t : Nat} {o : OsState} {v v2 : Value} {t1 t2 : Nat}
    (F : Fr h₀ L h m) (e1 : opnd m t l = some (v, t1)) (e2 : opnd m t1 r = some (v2, t2)) (hQ : wpAny M A (compareOp op v v2) (fun c s₃ => wpAny M A (truthy c) Q E s₃) E ⟨h, g, d, t2, o⟩) : wpAny M A (isTrue (.Compare l [op] [r] pos) (envX cn cs L a ccd cl) whole) Q E ⟨h, g, d, t, o⟩ :=
  wpAny_isTrue_Compare1 (opnd_ok hk ok F e1 (opnd_ok hk ok2 F e2 hQ)) hm
theorem sub2 {l r : PySem.Expr} {pos : Pos} (hk : cs.kind = .function) (ok : opndOk cs l = true) (ok2 : opndOk cs r = true) {h₀ : Heap} {E : Value → Shared → Prop} {Q : Value → Shared → Prop} {m : PySem.Str → Option Value} {h : Heap} {g : Array GenState} {d : Drawn} {t : Nat} {o : OsState} {v v2 : Value} {t1 t2 : Nat}
    (F : Fr h₀ L h m) (e1 : opnd m t l = some (v, t1)) (e2 : opnd m t1 r = some (v2, t2)) (hQ : wpAny M A (subscriptTail l r v v2) Q E ⟨h, g, d, t2, o⟩) : wpAny M A (eval (.Subscript l r pos) (envX cn cs L a ccd cl)) Q E ⟨h, g, d, t, o⟩ :=
  Subscript_ (opnd_ok hk ok F e1 (opnd_ok hk ok2 F e2 hQ))
theorem eC {env : Env} {st : Stmt} {rest : List Stmt} {E : Value → Shared → Prop} {Q : Flow → Shared → Prop} {s : Shared}
    (h : wpAny M A (exec st env) (fun f s' => match f with | .next => wpAny M A (execs rest env) Q E s' | f => Q f s') E s) : wpAny M A (execs (st :: rest) env) Q E s := wpAny_execs_cons h
theorem storeL {x : PySem.Str} (hk : cs.kind = .function) (hx : cs.names.lookup x = some .local) {h₀ : Heap} {E : Value → Shared → Prop} {v : Value} {Q : Unit → Shared → Prop} {m : PySem.Str → Option Value} {h : Heap} {g : Array GenState} {d : Drawn} {t : Nat} {o : OsState} {news : List (Addr × Obj)}
    (F : Fr h₀ L h m) (N : News h₀ L h news) (hQ : ∀ h', Fr h₀ L h' (fun y => if y = x then some v else m y) → News h₀ L h' news → Q () ⟨h', g, d, t + 1, o⟩) : wpAny M A (storeName (envX cn cs L a ccd cl) x v) Q E ⟨h, g, d, t, o⟩ :=
  storeX_L (s := ⟨h, g, d, t, o⟩) F N hQ hk hx
end
end
example : True := by
  k_with "m eval Name" => (k_dflt (refine' opnd_ok (by exact @rfl _ ScopeKind.function) (by exact @rfl _ true) (by k_asm) (by exact @rfl _ (some _)) ?_))
  k_with "m spliced" => (k_dflt (refine' opnds_ok (by exact @rfl _ ScopeKind.function) (by exact @rfl _ true) (by k_asm) (by exact @rfl _ (some _)) ?_); (try dsimp only [List.cons_append, List.nil_append]))
  k_with "m eval BinOp" => (k_dflt (refine' bin2 (by exact @rfl _ ScopeKind.function) (by exact @rfl _ true) (by exact @rfl _ true) (by k_asm) (by exact @rfl _ (some _)) (by exact @rfl _ (some _)) ?_))
  k_with "m isTrue Compare" => (k_dflt (refine' cmp2 (by exact @rfl _ ScopeKind.function) (by exact @rfl _ true) (by exact @rfl _ true) (by with_unfolding_all exact @rfl _ false) (by k_asm) (by exact @rfl _ (some _)) (by exact @rfl _ (some _)) ?_))
  k_with "m eval Subscript" => (k_dflt (refine' sub2 (by exact @rfl _ ScopeKind.function) (by exact @rfl _ true) (by exact @rfl _ true) (by k_asm) (by exact @rfl _ (some _)) (by exact @rfl _ (some _)) ?_))
  k_with "m storeName" => (k_dflt (refine' storeL (by exact @rfl _ ScopeKind.function) (by exact @rfl _ (some NameKind.local)) (by k_asm) (by k_asm) ?_); intro h'ξ F'ξ N'ξ; (try k_sweep))
  trivial
example {prog : Program} {w : World} {A : Around} {env : Env} {Q : Flow → Shared → Prop} {E : Value → Shared → Prop} {s : Shared} (h : wpAny (model prog w) A (execs [] env) Q E s) : wpAny (model prog w) A (execs [] env) Q E s := by ((k_with "now" => have kReset : True := trivial); (k_with "piece" => have kP_R : True := trivial); w_top off; first | (walk1; fail) | exact h)
section
theorem neWorld : Nonempty World := ⟨⟨default, by constructor <;> exact default⟩⟩
section
variable {prog : Program} {w : World} {A : Around} {E : Value → Shared → Prop} {s : Shared} {t u : Tok} {X Y : Int} {Q : Value → Shared → Prop}
theorem rshift_nat (x n : Nat) (eX : X = (x : Int)) (eY : Y = (n : Int)) (h : ∀ t k, Q (.int ((x / 2 ^ n : Nat) : Int) t) { s with toks := k }) : wpAny (model prog w) A (binaryOp .RShift (.int X t) (.int Y u)) Q E s := by
  subst eX; subst eY
  refine PyProof.Rows.rshift_int (by lia) ?_
  have e : ((x : Int).fdiv (2 ^ (n : Int).toNat)) = ((x / 2 ^ n : Nat) : Int) := by
    rw [Int.toNat_natCast, Int.fdiv_eq_ediv_of_nonneg _ (Int.le_of_lt (Int.pow_pos (by lia)))]
    push_cast; rfl
  rw [e]; exact h _ _
theorem lshift_nat (x n b : Nat) (eX : X = (x : Int)) (eY : Y = (n : Int)) (hx : x < 2 ^ b) (hb : b + n ≤ 2 ^ 27) (h : ∀ t k, Q (.int ((x * 2 ^ n : Nat) : Int) t) { s with toks := k }) : wpAny (model prog w) A (binaryOp .LShift (.int X t) (.int Y u)) Q E s := by
  subst eX; subst eY
  have h1 : Builtin.Int.intBits (x : Int) ≤ b := PySem.intBits_le_iff.mpr (by simpa using hx)
  refine PyProof.Rows.lshift_int (by lia) (by lia) ?_
  have e : ((x : Int) * (2 ^ (n : Int).toNat)) = ((x * 2 ^ n : Nat) : Int) := by
    rw [Int.toNat_natCast]; push_cast; rfl
  rw [e]; exact h _ _
theorem xor_low (x n : Nat) (eX : X = (x : Int)) (eY : Y = ((x / 2 ^ n * 2 ^ n : Nat) : Int)) (h : ∀ t k, Q (.int ((x % 2 ^ n : Nat) : Int) t) { s with toks := k }) : wpAny (model prog w) A (binaryOp .BitXor (.int X t) (.int Y u)) Q E s := by
  subst eX; subst eY
  refine PyProof.Rows.xor_int ?_
  have e := bitXor_low x n
  push_cast at e
  push_cast
  rw [e]; exact h _ _
theorem mul_nat (x y b : Nat) (eX : X = (x : Int)) (eY : Y = (y : Int)) (hx : x < 2 ^ b) (hy : y < 2 ^ b) (hb : b ≤ 2 ^ 20) (h : ∀ t k, Q (.int ((x * y : Nat) : Int) t) { s with toks := k }) : wpAny (model prog w) A (binaryOp .Mult (.int X t) (.int Y u)) Q E s := by
  subst eX; subst eY
  have h1 : Builtin.Int.intBits (x : Int) ≤ b := PySem.intBits_le_iff.mpr (by simpa using hx)
  have h2 : Builtin.Int.intBits (y : Int) ≤ b := PySem.intBits_le_iff.mpr (by simpa using hy)
  refine PyProof.Rows.mul_int ?_ (IntMulOk.of_bits (by lia) (by lia))
  have e : ((x : Int) * (y : Int)) = ((x * y : Nat) : Int) := by push_cast; rfl
  rw [e]; exact h _ _
theorem add_nat (x y : Nat) (eX : X = (x : Int)) (eY : Y = (y : Int)) (h : ∀ t k, Q (.int ((x + y : Nat) : Int) t) { s with toks := k }) : wpAny (model prog w) A (binaryOp .Add (.int X t) (.int Y u)) Q E s := by
  subst eX; subst eY
  refine PyProof.Rows.add_int ?_
  have e : ((x : Int) + (y : Int)) = ((x + y : Nat) : Int) := by push_cast; rfl
  rw [e]; exact h _ _
theorem sub_nat (x y : Nat) (eX : X = (x : Int)) (eY : Y = (y : Int)) (hle : y ≤ x) (h : ∀ t k, Q (.int ((x - y : Nat) : Int) t) { s with toks := k }) : wpAny (model prog w) A (binaryOp .Sub (.int X t) (.int Y u)) Q E s := by
  subst eX; subst eY
  refine PyProof.Rows.sub_int ?_
  have e : ((x : Int) - (y : Int)) = ((x - y : Nat) : Int) := by lia
  rw [e]; exact h _ _
end
section
variable {prog : Program} {w : World} {A : Around} {E : Value → Shared → Prop} {s : Shared} {t u : Tok} {X Y : Int} {Q : Value → Shared → Prop}
theorem rshift_mid (lo k : Nat) (eX : X = (lo : Int) + ((lo + k : Nat) : Int)) (eY : Y = 1) (h : ∀ t k', Q (.int ((lo + k / 2 : Nat) : Int) t) { s with toks := k' }) : wpAny (model prog w) A (binaryOp .RShift (.int X t) (.int Y u)) Q E s := by
  refine rshift_nat (lo + (lo + k)) 1 (by lia) (by lia) ?_
  have e : (lo + (lo + k)) / 2 ^ 1 = lo + k / 2 := by lia
  rw [e]; exact h
theorem mul_shift (lo k n : Nat) (hk0 : 0 < k) (hn : n * k ≤ 2 ^ 20) (hk : k ≤ 200) (eX : X = ((lo + k / 2 : Nat) : Int) - (lo : Int)) (eY : Y = (n : Int)) (h : ∀ t k', Q (.int ((n * (k / 2) : Nat) : Int) t) { s with toks := k' }) : wpAny (model prog w) A (binaryOp .Mult (.int X t) (.int Y u)) Q E s := by
  have l1 : k / 2 < 2 ^ 21 := by lia
  have l3 : n * 1 ≤ n * k := Nat.mul_le_mul_left n hk0
  have l2 : n < 2 ^ 21 := by lia
  refine mul_nat (k / 2) n 21 (by lia) eY l1 l2 (by lia) ?_
  rw [Nat.mul_comm (k / 2) n]; exact h
theorem nk_le {n k l : Nat} (hn : n * l ≤ 2 ^ 20) (hk : k ≤ l) : n * k ≤ 2 ^ 20 := Nat.le_trans (Nat.mul_le_mul_left n hk) hn
end
section
variable {prog : Program} {w : World} {A : Around} {E : Value → Shared → Prop} {s : Shared} {t u : Tok} {X Y : Int} {Q : Value → Shared → Prop}
theorem invert_to (Z : Int) (e : -X - 1 = Z) (h : ∀ t k, Q (.int Z t) { s with toks := k }) : wpAny (model prog w) A (unaryOp .Invert (.int X t)) Q E s := by
  subst e
  exact PyProof.Rows.invert_int (h _ _)
theorem neg_to (Z : Int) (e : -X = Z) (h : ∀ t k, Q (.int Z t) { s with toks := k }) : wpAny (model prog w) A (unaryOp .USub (.int X t)) Q E s := by
  subst e
  exact PyProof.Rows.neg_int (h _ _)
theorem add_to (Z : Int) (e : X + Y = Z) (h : ∀ t k, Q (.int Z t) { s with toks := k }) : wpAny (model prog w) A (binaryOp .Add (.int X t) (.int Y u)) Q E s := by
  subst e
  exact PyProof.Rows.add_int (h _ _)
theorem sub_to (Z : Int) (e : X - Y = Z) (h : ∀ t k, Q (.int Z t) { s with toks := k }) : wpAny (model prog w) A (binaryOp .Sub (.int X t) (.int Y u)) Q E s := by
  subst e
  exact PyProof.Rows.sub_int (h _ _)
end
end
example {prog : Program} {w : World} {A : Around} {env : Env} {Q : Flow → Shared → Prop} {E : Value → Shared → Prop} {s : Shared} (h : wpAny (model prog w) A (execs [] env) Q E s) : wpAny (model prog w) A (execs [] env) Q E s := by ((k_with "now" => have kReset : True := trivial); (k_with "piece" => have kP_C1 : True := trivial); w_top off; first | (walk1; fail) | exact h)
section
section
variable {w : World} {p : Program} {loose : List Str} {mean : ExcName → Option Value} {mg mb : Str → Option Value}
theorem c_worth (b : Array UInt8) (tb : Tok) (news : List (Addr × Obj)) (hb : ∀ k ∈ KBw.bInts b, 65 ≤ k ∧ k ≤ 80) (hs : b.toList.length ≤ 12) :
    Ctr w p loose mean mg mb 2 16 135 [.bytes b tb] news (RInt (apVal (KBw.bInts b)) news) := by
  intro dp un gd cn cs a' ccd cl outer A₀ base h₀ L m s Q E B F X N T hk hd hu hret
  revert X; k_fill; intro X
  refine wpAny_call ?_
  k_dflt ktr_enter
  k_with "pyIter bytes" => k_state (fun pre worth => worth = apVal pre ∧ 0 ≤ worth ∧ worth < 16 ^ pre.length) "worth"
  k_with "state" => exact worth_turn (by with_reducible assumption) (by with_reducible assumption) (by with_reducible assumption) (by with_reducible assumption) (by with_reducible assumption)
  k_with "side" => exact worth_side (by with_reducible assumption) (by with_reducible assumption) (by with_reducible assumption) (by with_reducible assumption)
  k_steps
  all_goals try exact absurd (hb kN (by rw [KBw.bInts, kEq]; simp)) (by lia)
  all_goals refine hret _ _ _ _ ⟨rfl, _, congrArg (fun z => Value.int z _) ?_⟩ (by assumption) (by assumption)
  all_goals with_unfolding_all assumption
end
end
example {prog : Program} {w : World} {A : Around} {env : Env} {Q : Flow → Shared → Prop} {E : Value → Shared → Prop} {s : Shared} (h : wpAny (model prog w) A (execs [] env) Q E s) : wpAny (model prog w) A (execs [] env) Q E s := by ((k_with "now" => have kReset : True := trivial); (k_with "piece" => have kP_C2 : True := trivial); w_top off; first | (walk1; fail) | exact h)
section
def apF : Nat → Nat → List UInt8
  | 0, _ => []
  | f + 1, n => if n = 0 then [] else apF f (n / 16) ++ [UInt8.ofNat (65 + n % 16)]
theorem apF_enough : ∀ (f g n : Nat), n ≤ f → n ≤ g → apF f n = apF g n := by
  intro f
  induction f with
  | zero => intro g n h _; have : n = 0 := by lia
            subst this; cases g <;> simp [apF]
  | succ f ih =>
    intro g n h1 h2
    cases g with
    | zero => have : n = 0 := by lia
              subst this; simp [apF]
    | succ g =>
      simp only [apF]
      split
      · rfl
      · rw [ih g (n / 16) (by lia) (by lia)]
@[irreducible] def apW (n : Nat) : List UInt8 := apF n n
theorem apW_zero : apW 0 = [] := by unfold apW; rfl
theorem apW_succ (n : Nat) : apW (n + 1) = apW ((n + 1) / 16) ++ [UInt8.ofNat (65 + (n + 1) % 16)] := by
  unfold apW
  rw [apF, if_neg (by lia), apF_enough n ((n + 1) / 16) ((n + 1) / 16) (by lia) (Nat.le_refl _)]
theorem ap_start {x : Int} (hx : x.natAbs < 2 ^ 60) : 0 ≤ (if x < 0 then -x else x) ∧ (if x < 0 then -x else x) < 2 ^ 60 ∧ apW x.natAbs = apW (if x < 0 then -x else x).toNat ++ (#[] : Array UInt8).toList := by
  have e : (if x < 0 then -x else x) = (x.natAbs : Int) := by split <;> lia
  rw [e]
  refine ⟨by lia, by lia, ?_⟩
  simp
theorem ap_pick {i : Nat} (h : i < 16) : KBy.picked #[65, 66, 67, 68, 69, 70, 71, 72, 73, 74, 75, 76, 77, 78, 79, 80] (some (i : Int)) (some ((i : Int) + 1)) = #[UInt8.ofNat (65 + i)] := by
  have key : ∀ j : Fin 16, KBy.picked #[65, 66, 67, 68, 69, 70, 71, 72, 73, 74, 75, 76, 77, 78, 79, 80] (some ((j.1 : Nat) : Int)) (some (((j.1 : Nat) : Int) + 1)) = #[UInt8.ofNat (65 + j.1)] := by decide +kernel
  exact key ⟨i, h⟩
theorem ap_turn {x num : Int} {val : Array UInt8} (h0 : 0 ≤ num) (h1 : num < 2 ^ 60) (h2 : apW x.natAbs = apW num.toNat ++ val.toList) (h3 : num ≠ 0) :
    0 ≤ num.fdiv 16 ∧ num.fdiv 16 < 2 ^ 60 ∧ apW x.natAbs = apW (num.fdiv 16).toNat ++ (KBy.picked #[65, 66, 67, 68, 69, 70, 71, 72, 73, 74, 75, 76, 77, 78, 79, 80] (some (num.fmod 16)) (some (num.fmod 16 + 1)) ++ val).toList := by
  obtain ⟨n, rfl⟩ := Int.eq_ofNat_of_zero_le h0
  have e1 : ((n : Int).fdiv 16) = ((n / 16 : Nat) : Int) := by rw [Int.fdiv_eq_ediv_of_nonneg _ (by lia)]; lia
  have e2 : ((n : Int).fmod 16) = ((n % 16 : Nat) : Int) := by rw [Int.fmod_eq_emod_of_nonneg _ (by lia)]; lia
  rw [e1, e2, ap_pick (Nat.mod_lt _ (by lia))]
  refine ⟨by lia, by lia, ?_⟩
  rw [h2]
  simp only [Int.toNat_natCast, Array.toList_append]
  cases n with
  | zero => lia
  | succ k => rw [apW_succ]; simp
theorem apW_len : ∀ (k n : Nat), n < 16 ^ k → (apW n).length ≤ k := by
  intro k
  induction k with
  | zero => intro n h; have : n = 0 := by simpa using h
            subst this; simp [apW_zero]
  | succ k ih =>
    intro n h
    cases n with
    | zero => simp [apW_zero]
    | succ n =>
      rw [apW_succ, List.length_append, List.length_singleton]
      have := ih ((n + 1) / 16) (Nat.div_lt_of_lt_mul (by rw [Nat.pow_succ] at h; lia))
      lia
theorem ap_size {x : Int} {N : Nat} {i j : Option Int} {val : Array UInt8} (hx : x.natAbs < 2 ^ 60) (h2 : apW x.natAbs = apW N ++ val.toList) :
    (KBy.picked #[65, 66, 67, 68, 69, 70, 71, 72, 73, 74, 75, 76, 77, 78, 79, 80] i j).size + val.size ≤ 16777216 := by
  have h1 := KBc.size_picked_le #[65, 66, 67, 68, 69, 70, 71, 72, 73, 74, 75, 76, 77, 78, 79, 80] i j
  have h3 := apW_len 15 x.natAbs (by simpa using hx)
  rw [h2, List.length_append] at h3
  have h4 : val.toList.length = val.size := Array.length_toList
  simp only [List.size_toArray, List.length_cons, List.length_nil] at h1
  lia
theorem ap_meas {num : Int} (h0 : 0 ≤ num) (h3 : num ≠ 0) : (num.fdiv 16).toNat < num.toNat := by
  rw [Int.fdiv_eq_ediv_of_nonneg _ (by lia)]; lia
theorem ap_done {x num : Int} {val : Array UInt8} (h2 : apW x.natAbs = apW num.toNat ++ val.toList) (h3 : num = 0) : val = (apW x.natAbs).toArray := by
  subst h3
  rw [h2]
  simp [apW_zero]
end
example {prog : Program} {w : World} {A : Around} {env : Env} {Q : Flow → Shared → Prop} {E : Value → Shared → Prop} {s : Shared} (h : wpAny (model prog w) A (execs [] env) Q E s) : wpAny (model prog w) A (execs [] env) Q E s := by ((k_with "now" => have kReset : True := trivial); (k_with "piece" => have kP_C3 : True := trivial); w_top off; first | (walk1; fail) | exact h)
section
section
variable {w : World} {p : Program} {loose : List Str} {mean : ExcName → Option Value} {mg mb : Str → Option Value}
theorem c_hint (b : Array UInt8) (tb : Tok) (news : List (Addr × Obj)) (hb : b.size < 100) :
    Ctr w p loose mean mg mb 2 16 100 [.bytes b tb] news (RInt b.size news) := by
  intro dp un gd cn cs a' ccd cl outer A₀ base h₀ L m s Q E B F X N T hk hd hu hret
  revert X; k_fill; intro X
  have S := Sp.none N
  walk_at "enterD"
  k_steps
  all_goals exact hret _ _ _ _ ⟨rfl, _, rfl⟩ (by assumption) (by assumption)
end
end
example {prog : Program} {w : World} {A : Around} {env : Env} {Q : Flow → Shared → Prop} {E : Value → Shared → Prop} {s : Shared} (h : wpAny (model prog w) A (execs [] env) Q E s) : wpAny (model prog w) A (execs [] env) Q E s := by ((k_with "now" => have kReset : True := trivial); (k_with "piece" => have kP_C4 : True := trivial); w_top off; first | (walk1; fail) | exact h)
section
section
variable {w : World} {p : Program} {loose : List Str} {mean : ExcName → Option Value} {mg mb : Str → Option Value}
theorem divmod_K {A : Around} {E : Value → Shared → Prop} {s : Shared} {h₀ : Heap} {L : Addr} {m : Str → Option Value} {news : List (Addr × Obj)} {a b : Int} {t u : Tok} {Q : Value → Shared → Prop} {prog : Program}
    (F : Fr h₀ L s.heap m) (N : News h₀ L s.heap news) (hb : b ≠ 0) (hp : Builtin.divisionGoesByPylong a b = false)
    (h : ∀ D h' t1 t2 k, Fr h₀ L h' m → News h₀ L h' ((D, { cls := .type "tuple", data := .seq #[.int (a.fdiv b) t1, .int (a.fmod b) t2] }) :: news) → (∀ q ∈ news, q.1 < D) → @LT.lt Nat _ L D → Q (.ref D) { s with toks := k, heap := h' }) :
    wpAny (model prog w) A (call (.builtin "divmod") [.int a t, .int b u]) Q E s :=
  PyProof.Rows.divmod_N F N hb (fun h' F' N' => h _ h' _ _ _ F' N' (fun q hq => Heap.lt_size (N q hq).1) F.ns.lt) (Or.inl hp)
example : True := by
  k_with "m call builtin:divmod" => ((fail_if_success (fail_if_success (k_extra "piece"; clear kP_C4))); (with_reducible show wpAny _ _ (call (Value.builtin _) [Value.int _ _, Value.int _ _]) _ _ _); k_dflt (refine' divmod_K (by k_asm) (by k_asm) (by lia) (by walk_at "side") ?_); intro D'ξ h'ξ t1'ξ t2'ξ k'ξ F'ξ N'ξ l1ξ l2ξ; (try k_lt l1ξ))
  trivial
theorem c_div2n1n (a b n : Int) (ta tb tn : Tok) (news : List (Addr × Obj)) (hb : 0 < b) (hn : (Builtin.Int.intBits a : Int) - n ≤ 4000) (hp : Builtin.divisionGoesByPylong a b = false)  :
    Ctr w p loose mean mg mb 2 16 43 [.int a ta, .int b tb, .int n tn] news (fun B v n => ∃ d t u, v = .ref d ∧ n = (d, { cls := .type "tuple", data := .seq #[.int (a.fdiv b) t, .int (a.fmod b) u] }) :: news ∧ @LE.le Nat _ B d) := by
  intro dp un gd cn cs a' ccd cl outer A₀ base h₀ L m s Q E B F X N T hk hd hu hret
  revert X; k_fill; intro X
  have S := Sp.none N
  walk_at "enter"
  k_steps
  (rename News _ _ _ (_ :: _) => hN9)
  exact hret _ _ _ _ ⟨_, _, _, rfl, rfl, leN (by lia)⟩ (by assumption) (news_app hN9 (by assumption))
end
end
example {prog : Program} {w : World} {A : Around} {env : Env} {Q : Flow → Shared → Prop} {E : Value → Shared → Prop} {s : Shared} (h : wpAny (model prog w) A (execs [] env) Q E s) : wpAny (model prog w) A (execs [] env) Q E s := by ((k_with "now" => have kReset : True := trivial); (k_with "piece" => have kP_C7r : True := trivial); w_top off; first | (walk1; fail) | exact h)
section
section
variable {prog : Program} {w : World} {A : Around} {E : Value → Shared → Prop} {s : Shared} {env : Env} {h₀ : Heap} {x : PySem.Str} {body : List Stmt} {Q : Flow → Shared → Prop}
theorem ints_at {vs : List Value} {ds : List Int} (hi : IntsAre vs ds) {i : Nat} {v : Value} (hv : vs.toArray[vs.toArray.size - 1 - i]? = some v) (hlt : i < vs.toArray.size) : ∃ n t, v = .int n t ∧ ds.reverse[i]? = some n := by
  have hl := hi.length
  rw [List.size_toArray] at hlt hv
  have h2 : ds[vs.length - 1 - i]? = some (ds[vs.length - 1 - i]'(by lia)) := List.getElem?_eq_getElem (by lia)
  obtain ⟨t, ht⟩ := hi.get _ _ h2
  have h3 : vs[vs.length - 1 - i]? = some v := by simpa using hv
  rw [ht] at h3
  refine ⟨_, t, (Option.some.inj h3).symm, ?_⟩
  rw [List.getElem?_reverse (by lia), show ds.length - 1 - i = vs.length - 1 - i by lia]
  exact h2
/-- a for over reversed(list of ints), by an invariant -/
theorem kst_rev {σ : Type} {vs : List Value} {ds : List Int} {I ax : Addr} {n : Nat} {m₀ : PySem.Str → Option Value} (Led : σ → List (Addr × Obj)) (ps : σ → List (PySem.Str × Value)) (Facts : σ → Prop) (stored : List PySem.Str) (P : List Int → σ → Prop) (c₀ : σ)
    (hh : A.handled = none) (hi : IntsAre vs ds) (F : Fr h₀ env.locals s.heap m₀) (N : News h₀ env.locals s.heap (Led c₀)) (NI : News h₀ env.locals s.heap [(I, revObj ax ((vs.length : Int) - 1)), (ax, listOf vs.toArray n)]) (hne : ax ≠ I)
    (hfp : ∀ q ∈ Led c₀, q.1 ≠ I ∧ q.1 ≠ ax) (hf : Facts c₀) (hk : ∀ p ∈ ps c₀, m₀ p.1 = some p.2) (hp : P [] c₀)
    (turn : ∀ (c : σ) (pre post : List Int) (n : Int) t (u : PySem.Str → Option Value) h tk own, ds.reverse = pre ++ n :: post → OwnOff own ((Led c₀).map (·.1)) → Facts c → P pre c →
      Fr h₀ env.locals h (fun y => if y = x then some (.int n t) else kstB (fun z => if stored.contains z then u z else m₀ z) (ps c) y) → News h₀ env.locals h (Led c ++ own) →
      wpAny (model prog w) A (execs body env) (InvPostN h₀ env.locals (KstS Led ps Facts x stored m₀ P (pre ++ [n])) own ((Led c₀).map (·.1)) { s with heap := h, toks := tk } Q) E { s with heap := h, toks := tk })
    (done : ∀ (c : σ) (u : PySem.Str → Option Value) h tk, Facts c → P ds.reverse c → Fr h₀ env.locals h (fun y => if y = x then u y else kstB (fun z => if stored.contains z then u z else m₀ z) (ps c) y) → News h₀ env.locals h (Led c) → Q .next { s with heap := h, toks := tk }) :
    wpAny (model prog w) A (pyIter (.ref I)) (fun it s₂ => LoopAtV prog w A h₀ env x body Q E it s₂) E s := by
  have hIx := NI _ (.head _)
  have hax := NI _ (.tail _ (.head _))
  have hl : s.heap.IsList ax vs.toArray := PySem.IsL.isList (n := n) hax.1
  have hit : s.heap.IsRevIter I ax ((vs.length : Int) - 1) := ⟨_, hIx.1, rfl, rfl⟩
  have hlen : vs.toArray.size = vs.length := by simp
  have hld := hi.length
  refine wpAny_pyIter_revIter hit ?_
  have W := Walks.listRev (prog := prog) (w := w) hh I ax hne vs.toArray
  refine loop_invN (fun i m nx => KstS Led ps Facts x stored m₀ P (ds.reverse.take i) m nx) W ?_ ?_ ?_ ?_ ⟨Nat.zero_le _, ?_, hl⟩ F N ⟨c₀, rfl, hf, hk, fun _ _ _ _ => rfl, by simpa using hp⟩ ?_ ?_
  · intro hmm
    rcases List.mem_cons.mp hmm with e | hmm
    · exact hIx.2.1 e.symm
    · exact hax.2.1 (List.mem_singleton.mp hmm).symm
  · intro b hb
    rw [List.mem_singleton.mp hb]
    exact hIx.2.2
  · intro p hp hI
    exact (hfp p hp).1 (List.mem_singleton.mp hI)
  · intro p hp hI
    rcases List.mem_cons.mp hI with e | hI
    · exact (hfp p hp).1 e
    · exact (hfp p hp).2 (List.mem_singleton.mp hI)
  · rw [hlen]
    have e : (vs.length : Int) - 1 - ((0 : Nat) : Int) = (vs.length : Int) - 1 := by lia
    rw [e]; exact hit
  · rintro i v m₁ nx h tk own hi' hv _ hoff ⟨c, rfl, hf', h1, h2, hp'⟩ F₁ N₁
    obtain ⟨d, t, rfl, hd⟩ := ints_at hi hv hi'
    have hs : ds.reverse.take (i + 1) = ds.reverse.take i ++ [d] := by simp [List.take_add_one, hd]
    have e : ds.reverse = ds.reverse.take i ++ d :: ds.reverse.drop (i + 1) := by
      have ht := List.take_append_drop (i + 1) ds.reverse
      rw [hs, List.append_assoc] at ht
      exact ht.symm
    rw [hs]
    exact turn c _ _ d t m₁ h tk own e hoff hf' hp' (kst_fr h1 h2 F₁) N₁
  · rintro m₁ nx h tk ⟨c, rfl, hf', h1, h2, hp'⟩ F₁ N₁
    have h8 : vs.toArray.size = ds.reverse.length := by rw [hlen, List.length_reverse]; exact hld
    rw [h8, List.take_length] at hp'
    exact done c m₁ h tk hf' hp' (kst_frOut h1 h2 F₁) N₁
abbrev dmLed (lq : Addr) (tl : List (Addr × Obj)) (c : Int × Tok × List Int × List Value × Nat) : List (Addr × Obj) := (lq, listOf c.2.2.2.1.toArray c.2.2.2.2) :: tl
theorem dm_loop {vs : List Value} {ds : List Int} {I lq ax : Addr} {n : Nat} {tr : Tok} {tl : List (Addr × Obj)} {m₀ : PySem.Str → Option Value} (stored : List PySem.Str) (P : List Int → Int → List Int → Prop)
    (hh : A.handled = none) (hi : IntsAre vs ds) (F : Fr h₀ env.locals s.heap m₀) (N : News h₀ env.locals s.heap ((I, revObj ax ((vs.length : Int) - 1)) :: (lq, listOf #[] 0) :: (ax, listOf vs.toArray n) :: tl)) (hne : @Ne Nat ax I) (hlI : @Ne Nat lq I) (hla : @Ne Nat lq ax)
    (htI : ∀ q ∈ tl, q.1 ≠ I) (hta : ∀ q ∈ tl, q.1 ≠ ax) (hr : m₀ (PySem.Str.ofString "r") = some (.int 0 tr)) (hp : P [] 0 [])
    (turn : ∀ (r : Int) (tr : Tok) (qs : List Int) (qvs : List Value) (ep : Nat) (pre post : List Int) (d : Int) t (u : PySem.Str → Option Value) h tk own, ds.reverse = pre ++ d :: post → OwnOff own (lq :: tl.map (·.1)) → IntsAre qvs qs → P pre r qs →
      Fr h₀ env.locals h (fun y => if y = x then some (.int d t) else if y = PySem.Str.ofString "r" then some (.int r tr) else if stored.contains y then u y else m₀ y) → News h₀ env.locals h ((lq, listOf qvs.toArray ep) :: (tl ++ own)) →
      wpAny (model prog w) A (execs body env) (InvPostN h₀ env.locals (KstS (dmLed lq tl) (fun c => [(PySem.Str.ofString "r", .int c.1 c.2.1)]) (fun c => IntsAre c.2.2.2.1 c.2.2.1) x stored m₀ (fun pre c => P pre c.1 c.2.2.1) (pre ++ [d])) own (lq :: tl.map (·.1)) { s with heap := h, toks := tk } Q) E { s with heap := h, toks := tk })
    (done : ∀ (r : Int) (tr : Tok) (qs : List Int) (qvs : List Value) (ep : Nat) (u : PySem.Str → Option Value) h tk, IntsAre qvs qs → P ds.reverse r qs → Fr h₀ env.locals h (fun y => if y = x then u y else if y = PySem.Str.ofString "r" then some (.int r tr) else if stored.contains y then u y else m₀ y) → News h₀ env.locals h ((lq, listOf qvs.toArray ep) :: tl) → Q .next { s with heap := h, toks := tk }) :
    wpAny (model prog w) A (pyIter (.ref I)) (fun it s₂ => LoopAtV prog w A h₀ env x body Q E it s₂) E s :=
  kst_rev (σ := Int × Tok × List Int × List Value × Nat) (dmLed lq tl) (fun c => [(PySem.Str.ofString "r", .int c.1 c.2.1)]) (fun c => IntsAre c.2.2.2.1 c.2.2.1) stored (fun pre c => P pre c.1 c.2.2.1) (0, tr, [], [], 0)
    hh hi F (news_sub N fun p hp => by
      rcases List.mem_cons.mp hp with rfl | hp
      · exact .tail _ (.head _)
      · exact .tail _ (.tail _ (.tail _ hp)))
    (news_sub N fun p hp => by
      rcases List.mem_cons.mp hp with rfl | hp
      · exact .head _
      · rw [List.mem_singleton.mp hp]; exact .tail _ (.tail _ (.head _)))
    hne (fun q hq => by
      rcases List.mem_cons.mp hq with rfl | hq
      · exact ⟨hlI, hla⟩
      · exact ⟨htI q hq, hta q hq⟩) .nil (fun p hp => by rw [List.mem_singleton.mp hp]; exact hr) hp
    (fun c pre post d t u h tk own e ho hf hP F N => turn c.1 c.2.1 c.2.2.1 c.2.2.2.1 c.2.2.2.2 pre post d t u h tk own e ho hf hP F N)
    (fun c u h tk hf hP F N => done c.1 c.2.1 c.2.2.1 c.2.2.2.1 c.2.2.2.2 u h tk hf hP F N)
end
end
example {prog : Program} {w : World} {A : Around} {env : Env} {Q : Flow → Shared → Prop} {E : Value → Shared → Prop} {s : Shared} (h : wpAny (model prog w) A (execs [] env) Q E s) : wpAny (model prog w) A (execs [] env) Q E s := by ((k_with "now" => have kReset : True := trivial); (k_with "piece" => have kP_C9r : True := trivial); w_top off; first | (walk1; fail) | exact h)
section
section
variable {prog : Program} {w : World} {A : Around} {E : Value → Shared → Prop} {s : Shared} {env : Env} {h₀ : Heap} {x : PySem.Str} {body : List Stmt} {Q : Flow → Shared → Prop}
/-- a for over a written range that seeks: what the turns store is forgotten -/
theorem rng_search {r : Addr} {b₀ : Int} {t₀ u₀ v₀ : Tok} {n : Nat} {m₀ : PySem.Str → Option Value} {news : List (Addr × Obj)} (stored : List PySem.Str) (P : Nat → Prop)
    (hh : A.handled = none) (hr : IsRange s.heap r 0 b₀ 1 t₀ u₀ v₀) (hsmall : Builtin.Range.small 0 b₀ 1 = true) (hn : Builtin.Range.rangeSize 0 b₀ 1 = (n : Int)) (F : Fr h₀ env.locals s.heap m₀) (N : News h₀ env.locals s.heap news) (hp : P 0)
    (turn : ∀ (pre : List Int) (k : Nat) t (u : PySem.Str → Option Value) h tk own, k = pre.length → k < n → OwnOff own (news.map (·.1)) → P k →
      Fr h₀ env.locals h (fun y => if y = x then some (.int (k : Int) t) else if stored.contains y then u y else m₀ y) → News h₀ env.locals h (news ++ own) →
      wpAny (model prog w) A (execs body env) (InvPostN h₀ env.locals (KstS (fun _ : Unit => news) (fun _ => []) (fun _ => True) x stored m₀ (fun pre _ => P pre.length) (pre ++ [(k : Int)])) own (news.map (·.1)) { s with heap := h, toks := tk } Q) E { s with heap := h, toks := tk })
    (done : ∀ (u : PySem.Str → Option Value) h tk, P n → Fr h₀ env.locals h (fun y => if y = x then u y else if stored.contains y then u y else m₀ y) → News h₀ env.locals h news → Q .next { s with heap := h, toks := tk }) :
    wpAny (model prog w) A (pyIter (.ref r)) (fun it s₂ => LoopAtV prog w A h₀ env x body Q E it s₂) E s :=
  kst_range (σ := Unit) (fun _ => news) (fun _ => []) (fun _ => True) stored (fun pre _ => P pre.length) () hh hr hsmall hn F N True.intro (fun _ h => nomatch h) hp
    (fun _ pre k t u h tk own e hlt ho _ hP F N => by
      have e' : k = ((pre.length : Nat) : Int) := by lia
      subst e'
      exact turn pre pre.length t u h tk own rfl hlt ho hP F N)
    (fun _ u h tk _ hP F N => done u h tk (by rw [rangeKs_length] at hP; exact hP) F N)
end
end
example {prog : Program} {w : World} {A : Around} {env : Env} {Q : Flow → Shared → Prop} {E : Value → Shared → Prop} {s : Shared} (h : wpAny (model prog w) A (execs [] env) Q E s) : wpAny (model prog w) A (execs [] env) Q E s := by ((k_with "now" => have kReset : True := trivial); (k_with "piece" => have kP_R2 : True := trivial); w_top off; first | (walk1; fail) | exact h)
section
section
variable {w : World} {p : Program} {loose : List Str} {mean : ExcName → Option Value} {mg mb : Str → Option Value}
theorem c_ipowN (a n : Nat) (t u : Tok) (news : List (Addr × Obj)) (h1 : n ≤ 1000000) (h2 : a < 2 ^ 64) :
    Ctr w p loose mean mg mb 1 8 128 [.int a t, .int n u] news (RInt ((a ^ n : Nat) : Int) news) := by
  have := c_ipow (w := w) (p := p) (loose := loose) (mean := mean) (mg := mg) (mb := mb) (a : Int) (n : Int) t u news (by lia) (by lia) (by simpa using h2)
  rw [Int.toNat_natCast] at this
  push_cast
  exact this
theorem c_imulN (x y b : Nat) (t u : Tok) (news : List (Addr × Obj)) (hx : x < 2 ^ b) (hy : y < 2 ^ b) (hb : b ≤ 2 ^ 20) :
    Ctr w p loose mean mg mb 1 8 114 [.int x t, .int y u] news (RInt ((x * y : Nat) : Int) news) := by
  have h1 : Builtin.Int.intBits (x : Int) ≤ b := PySem.intBits_le_iff.mpr (by simpa using hx)
  have h2 : Builtin.Int.intBits (y : Int) ≤ b := PySem.intBits_le_iff.mpr (by simpa using hy)
  have := c_imul (w := w) (p := p) (loose := loose) (mean := mean) (mg := mg) (mb := mb) (x : Int) (y : Int) t u news (IntMulOk.of_bits (by lia) (by lia))
  push_cast
  exact this
end
section
variable {prog : Program} {w : World} {A : Around} {E : Value → Shared → Prop} {s : Shared} {t u : Tok} {X Y : Int} {Q : Value → Shared → Prop}
theorem pow_nat (x n : Nat) (eX : X = (x : Int)) (eY : Y = (n : Int)) (hx : x < 2 ^ 64) (hb : n ≤ 1000000) (h : ∀ t k, Q (.int ((x ^ n : Nat) : Int) t) { s with toks := k }) : wpAny (model prog w) A (binaryOp .Pow (.int X t) (.int Y u)) Q E s := by
  subst eX; subst eY
  have h1 : Builtin.Int.intBits (x : Int) ≤ 64 := PySem.intBits_le_iff.mpr (by simpa using hx)
  refine PyProof.Rows.pow_int (by lia) ?_ ?_
  · have : (Builtin.Int.intBits (x : Int) : Int) * (n : Int) ≤ 64 * 1000000 := Int.mul_le_mul (by lia) (by lia) (by lia) (by lia)
    lia
  · have e : ((x : Int) ^ (n : Int).toNat) = ((x ^ n : Nat) : Int) := by rw [Int.toNat_natCast]; push_cast; rfl
    rw [e]; exact h _ _
end
theorem pow2_mono {a b : Nat} (h : a ≤ b) : 2 ^ a ≤ 2 ^ b := Nat.pow_le_pow_right (by lia) h
theorem pow_lt (g e : Nat) (hg : g ≤ 16) {b : Nat} (h : 4 * e < b) : g ^ e < 2 ^ b := by
  have h1 : g ^ e ≤ 16 ^ e := Nat.pow_le_pow_left hg e
  have h2 : 16 ^ e = 2 ^ (4 * e) := by rw [Nat.pow_mul]
  exact Nat.lt_of_le_of_lt (h2 ▸ h1) (Nat.pow_lt_pow_right (by lia) h)
theorem mul_lt2 {x y a b c : Nat} (hx : x < 2 ^ a) (hy : y < 2 ^ b) (h : a + b ≤ c) : x * y < 2 ^ c := by
  refine Nat.lt_of_lt_of_le (Nat.mul_lt_mul'' hx hy) ?_
  rw [← Nat.pow_add]; exact pow2_mono h
theorem bl_pow (g e : Nat) (hg : g ≤ 16) : BL (g ^ e) ≤ 4 * e + 1 := bl_le.mpr (pow_lt g e hg (by lia))
theorem bl_mulle (x y : Nat) : BL (x * y) ≤ BL x + BL y := by
  have := PySem.intBits_mul_le (x := (x : Int)) (y := (y : Int)) (Nat.le_refl _) (Nat.le_refl _)
  have e : ((x * y : Nat) : Int) = (x : Int) * (y : Int) := by push_cast; rfl
  show Builtin.Int.intBits _ ≤ _
  rw [e]; exact this
section
variable {w : World} {p : Program} {loose : List Str} {mean : ExcName → Option Value} {mg mb : Str → Option Value}
theorem c_imulB (x y : Nat) (t u : Tok) (news : List (Addr × Obj)) (hx : BL x ≤ 100000) (hy : BL y ≤ 100000) :
    Ctr w p loose mean mg mb 1 8 114 [.int x t, .int y u] news (RInt ((x * y : Nat) : Int) news) := by
  have := c_imul (w := w) (p := p) (loose := loose) (mean := mean) (mg := mg) (mb := mb) (x : Int) (y : Int) t u news (IntMulOk.of_bits (by dsimp only [BL] at *; lia) (by dsimp only [BL] at *; lia))
  push_cast
  exact this
end
section
variable {prog : Program} {w : World} {A : Around} {E : Value → Shared → Prop} {s : Shared} {t u : Tok} {X Y : Int} {Q : Value → Shared → Prop}
theorem mul_natB (x y : Nat) (eX : X = (x : Int)) (eY : Y = (y : Int)) (hx : BL x ≤ 200000) (hy : BL y ≤ 200000) (h : ∀ t k, Q (.int ((x * y : Nat) : Int) t) { s with toks := k }) : wpAny (model prog w) A (binaryOp .Mult (.int X t) (.int Y u)) Q E s := by
  subst eX; subst eY
  refine PyProof.Rows.mul_int ?_ (IntMulOk.of_bits (by dsimp only [BL] at *; lia) (by dsimp only [BL] at *; lia))
  have e : ((x : Int) * (y : Int)) = ((x * y : Nat) : Int) := by push_cast; rfl
  rw [e]; exact h _ _
theorem max0_N {h₀ : Heap} {L : Addr} {m : Str → Option Value} {news : List (Addr × Obj)} (hh : A.handled = none) (F : Fr h₀ L s.heap m) (N : News h₀ L s.heap news)
    (h : ∀ h' t tk, Fr h₀ L h' m → News h₀ L h' news → Q (.int ((X.toNat : Nat) : Int) t) { s with heap := h', toks := tk }) :
    wpAny (model prog w) A (call (.builtin "max") [.int X t, .int 0 u]) Q E s := by
  refine PyProof.Rows.max_two_N hh F N fun h' tk F' N' => ?_
  have e : (if (0 : Int) > X then (0 : Int) else X) = ((X.toNat : Nat) : Int) := by split <;> lia
  rw [e]; exact h h' _ tk F' N'
end
def Stop (P : Prop) : Prop := P
theorem stopAt {M : Model} {A : Around} {Q : Value → Shared → Prop} {E : Value → Shared → Prop} {s : Shared} (a : Addr) {vs : List Value} (h : Stop (wpAny M A (call (.ref a) vs) Q E s)) : wpAny M A (call (.ref a) vs) Q E s := h
theorem Stop.go {P : Prop} (h : P) : Stop P := h
theorem pair_eq {M : Model} {A : Around} : True := trivial
end
example : True := by
  k_with "m call builtin:max" => ((with_reducible show wpAny _ _ (call (Value.builtin _) [Value.int _ _, Value.int _ _]) _ _ _); k_dflt (refine' max0_N (by exact rfl) (by k_asm) (by k_asm) ?_); intro h'ξ t'ξ tk'ξ F'ξ N'ξ; (try k_sweep))
  k_with "m call ref" => (k_dflt (refine' Ctr.use (by k_asm) (by k_asm) (by k_asm) (by k_asm) (by k_asm) (by first | exact rfl | assumption) (by ktr_room) (by ktr_units) (c_ipowN _ _ _ _ _ (by walk_at "side") (by walk_at "side")) ?_); walk_at "retInt")
  k_with "m call ref" => (k_dflt (refine' Ctr.use (by k_asm) (by k_asm) (by k_asm) (by k_asm) (by k_asm) (by first | exact rfl | assumption) (by ktr_room) (by ktr_units) (c_imulB _ _ _ _ _ (by walk_at "side") (by walk_at "side")) ?_); walk_at "retInt")
  k_with "m call ref" => (first | refine stopAt 78 ?_ | refine stopAt 142 ?_ | refine stopAt 149 ?_ | refine stopAt 36 ?_ | refine stopAt 29 ?_ | refine stopAt 22 ?_ | refine stopAt 71 ?_ | refine stopAt 85 ?_ | refine stopAt 100 ?_ | refine stopAt 135 ?_ | refine stopAt 92 ?_)
  trivial
example {prog : Program} {w : World} {A : Around} {env : Env} {Q : Flow → Shared → Prop} {E : Value → Shared → Prop} {s : Shared} (h : wpAny (model prog w) A (execs [] env) Q E s) : wpAny (model prog w) A (execs [] env) Q E s := by ((k_with "now" => have kReset : True := trivial); (k_with "piece" => have kP_R3 : True := trivial); w_top off; first | (walk1; fail) | exact h)
section
theorem fdiv_nat (a b : Nat) : ((a : Int).fdiv (b : Int)) = ((a / b : Nat) : Int) := by rw [Int.fdiv_eq_ediv_of_nonneg _ (by lia)]; push_cast; rfl
theorem fmod_nat (a b : Nat) : ((a : Int).fmod (b : Int)) = ((a % b : Nat) : Int) := by rw [Int.fmod_eq_emod_of_nonneg _ (by lia)]; push_cast; rfl
theorem fdivmod_neg (a b : Nat) (ha : 0 < a) (hb : 0 < b) : ((a : Int).fdiv (-(b : Int))) = -(((a - 1) / b : Nat) : Int) - 1 ∧ ((a : Int).fmod (-(b : Int))) = -((b : Int) + (-(((a - 1) % b : Nat) : Int) - 1)) := by
  have h1 := Nat.div_add_mod (a - 1) b
  have h2 := Nat.mod_lt (a - 1) hb
  generalize hq : (a - 1) / b = q at *
  generalize hm : (a - 1) % b = r at *
  refine (Int.fdiv_fmod_unique' (by lia)).mpr ⟨?_, by lia, by lia⟩
  have e : (a : Int) = (b : Int) * (q : Int) + (r : Int) + 1 := by
    have : a = b * q + r + 1 := by lia
    rw [this]; push_cast; rfl
  rw [e, Int.neg_mul, Int.mul_sub, Int.mul_neg]
  lia
theorem noPyNeg {x y : Nat} (h : BL x ≤ BL y + 4000) (hy : 0 < y) : Builtin.divisionGoesByPylong (x : Int) (-(y : Int)) = false := by
  have h1 := noPy h
  have e : ((-(y : Int)) == 0) = ((y : Int) == 0) := by
    have a1 : ((-(y : Int)) == 0) = false := by simp; lia
    have a2 : ((y : Int) == 0) = false := by simp; lia
    rw [a1, a2]
  have e2 : (-(y : Int)).natAbs = (y : Int).natAbs := Int.natAbs_neg _
  have : Builtin.divisionGoesByPylong (x : Int) (-(y : Int)) = Builtin.divisionGoesByPylong (x : Int) (y : Int) := by
    show (decide ((if (-(y : Int)) == 0 then 0 else (-(y : Int)).natAbs.log2 / 30 + 1) > 300) && decide ((if (x : Int) == 0 then 0 else (x : Int).natAbs.log2 / 30 + 1) > (if (-(y : Int)) == 0 then 0 else (-(y : Int)).natAbs.log2 / 30 + 1) + 150)) = (decide ((if (y : Int) == 0 then 0 else (y : Int).natAbs.log2 / 30 + 1) > 300) && decide ((if (x : Int) == 0 then 0 else (x : Int).natAbs.log2 / 30 + 1) > (if (y : Int) == 0 then 0 else (y : Int).natAbs.log2 / 30 + 1) + 150))
    rw [e, e2]
  rw [this]; exact h1
section
variable {w : World} {A : Around} {E : Value → Shared → Prop} {s : Shared} {h₀ : Heap} {L : Addr} {m : Str → Option Value} {news : List (Addr × Obj)} {X Y : Int} {t u : Tok} {Q : Value → Shared → Prop} {prog : Program}
theorem divmod_pp (a b : Nat) (eX : X = (a : Int)) (eY : Y = (b : Int)) (hb : 0 < b) (hs : BL a ≤ BL b + 4000)
    (F : Fr h₀ L s.heap m) (N : News h₀ L s.heap news)
    (h : ∀ D h' t1 t2 k, Fr h₀ L h' m → News h₀ L h' ((D, { cls := .type "tuple", data := .seq #[.int ((a / b : Nat) : Int) t1, .int ((a % b : Nat) : Int) t2] }) :: news) → (∀ q ∈ news, q.1 < D) → @LT.lt Nat _ L D → Q (.ref D) { s with toks := k, heap := h' }) :
    wpAny (model prog w) A (call (.builtin "divmod") [.int X t, .int Y u]) Q E s := by
  subst eX; subst eY
  refine PyProof.Rows.divmod_N F N (by lia) (fun h' F' N' => ?_) (Or.inl (noPy hs))
  rw [fdiv_nat, fmod_nat] at N'
  exact h _ h' _ _ _ F' N' (fun q hq => Heap.lt_size (N q hq).1) F.ns.lt
theorem divmod_pn (a b : Nat) (eX : X = (a : Int)) (eY : Y = -(b : Int)) (ha : 0 < a) (hb : 0 < b) (hs : BL a ≤ BL b + 4000)
    (F : Fr h₀ L s.heap m) (N : News h₀ L s.heap news)
    (h : ∀ D h' t1 t2 k, Fr h₀ L h' m → News h₀ L h' ((D, { cls := .type "tuple", data := .seq #[.int (-(((a - 1) / b : Nat) : Int) - 1) t1, .int (-((b : Int) + (-(((a - 1) % b : Nat) : Int) - 1))) t2] }) :: news) → (∀ q ∈ news, q.1 < D) → @LT.lt Nat _ L D → Q (.ref D) { s with toks := k, heap := h' }) :
    wpAny (model prog w) A (call (.builtin "divmod") [.int X t, .int Y u]) Q E s := by
  subst eX; subst eY
  refine PyProof.Rows.divmod_N F N (by lia) (fun h' F' N' => ?_) (Or.inl (noPyNeg hs hb))
  rw [(fdivmod_neg a b ha hb).1, (fdivmod_neg a b ha hb).2] at N'
  exact h _ h' _ _ _ F' N' (fun q hq => Heap.lt_size (N q hq).1) F.ns.lt
end
end
example {prog : Program} {w : World} {A : Around} {env : Env} {Q : Flow → Shared → Prop} {E : Value → Shared → Prop} {s : Shared} (h : wpAny (model prog w) A (execs [] env) Q E s) : wpAny (model prog w) A (execs [] env) Q E s := by ((k_with "now" => have kReset : True := trivial); (k_with "piece" => have kP_C5 : True := trivial); w_top off; first | (walk1; fail) | exact h)
section
section
variable {w : World} {p : Program} {loose : List Str} {mean : ExcName → Option Value} {mg mb : Str → Option Value}
theorem mul0 {A : Around} {E : Value → Shared → Prop} {s : Shared} {h₀ : Heap} {L : Addr} {m : Str → Option Value} {news : List (Addr × Obj)} {l : Addr} {t0 u : Tok} {x : Int} {Q : Value → Shared → Prop} {prog : Program}
    (F : Fr h₀ L s.heap m) (N : News h₀ L s.heap news) (hm : (l, listOf #[Value.int 0 t0] 0) ∈ news) (h0 : 0 ≤ x) (h1 : x ≤ 256)
    (h : ∀ D h' vs, IntsAre vs (List.replicate x.toNat 0) → Fr h₀ L h' m → News h₀ L h' ((D, listOf vs.toArray 0) :: news) → (∀ p ∈ news, p.1 < D) → Q (.ref D) { s with heap := h' }) : wpAny (model prog w) A (binaryOp .Mult (.ref l) (.int x u)) Q E s :=
  KMa.mul (vs := [Value.int 0 t0]) F N (PySem.IsL.isList (n := 0) (N _ hm).1) (by lia) (by lia) (by simp; lia) rfl (fun D h' F' N' l1 => h D h' _ (ints_rep t0 _) F' N' l1)
theorem len_ints {A : Around} {E : Value → Shared → Prop} {s : Shared} {h₀ : Heap} {L : Addr} {news : List (Addr × Obj)} {l : Addr} {vs : List Value} {ns : List Int} {Q : Value → Shared → Prop} {prog : Program}
    (N : News h₀ L s.heap news) (hm : (l, listOf vs.toArray 0) ∈ news) (hi : IntsAre vs ns) (h1 : ns.length ≤ 1000) (h : ∀ t k, Q (.int ns.length t) { s with toks := k }) : wpAny (model prog w) A (call (.builtin "len") [.ref l]) Q E s := by
  have e : vs.toArray.size = ns.length := by rw [List.size_toArray]; exact hi.length
  refine len_list (PySem.IsL.isList (n := 0) (N _ hm).1) (by rw [e]; lia) ?_
  rw [e]; exact h _ _
/-- what the closure inner of _int2digits is asked to do with k places -/
def KeyI (w : World) (p : Program) (loose : List Str) (mean : ExcName → Option Value) (mg mb : Str → Option Value) (f : Addr) (G : Obj → List (Addr × Obj)) (n : Nat) (k : Nat) : Prop :=
  ∀ (vs : List Value) (ns : List Int) (x lo top : Nat) (tx tl th : Tok), IntsAre vs ns → 0 < k → top = lo + k → lo + k ≤ ns.length → ns.length ≤ 200 → n * ns.length ≤ 2 ^ 20 → 0 < n → x < 2 ^ (n * k) →
    Ctr w p loose mean mg mb (k + 1) (8 * k + 8) f [.int (x : Int) tx, .int (lo : Int) tl, .int (top : Int) th] (G (listOf vs.toArray 0))
      (fun B v n' => v = .none ∧ ∃ vs', IntsAre vs' (put ns lo (dg n k x)) ∧ n' = G (listOf vs'.toArray 0))
theorem key_intro {h₀ h : Heap} {L f D : Addr} {fo : Obj} {tl : List (Addr × Obj)} {vs : List Value} {ns : List Int} {G : Obj → List (Addr × Obj)} {P : Prop} (n : Nat) (N : News h₀ L h ((f, fo) :: tl)) (hi : IntsAre vs ns)
    (hm : (D, listOf vs.toArray 0) ∈ (f, fo) :: tl) (U : UpdF D (listOf vs.toArray 0) ((f, fo) :: tl) G) (key : ∀ k, (∀ j, j < k → KeyI w p loose mean mg mb f G n j) → KeyI w p loose mean mg mb f G n k)
    (rest : (∀ j, j < 201 → KeyI w p loose mean mg mb f G n j) → P) : P :=
  rest fun j _ => Nat.strongRecOn j key
theorem i2d_two {vs2 : List Value} {ns : List Int} {n k x lo : Nat} (hk : 1 < k) (hl : lo + k ≤ ns.length)
    (h : IntsAre vs2 (put (put ns lo (dg n (k / 2) (x % 2 ^ (n * (k / 2))))) (lo + k / 2) (dg n (k - k / 2) (x / 2 ^ (n * (k / 2)))))) : IntsAre vs2 (put ns lo (dg n k x)) := by
  have e := dg_app n (k / 2) (k - k / 2) x
  rw [show k / 2 + (k - k / 2) = k by lia] at e
  have h2 := put_put ns lo (dg n (k / 2) (x % 2 ^ (n * (k / 2)))) (dg n (k - k / 2) (x / 2 ^ (n * (k / 2)))) (by rw [dg_len, dg_len]; lia)
  rw [dg_len] at h2
  rw [e, ← h2]; exact h
end
example : True := by
  k_with "m binaryOp Mult ref int" => ((fail_if_success (fail_if_success (k_extra "piece"; clear kP_C5))); (with_reducible show wpAny _ _ (binaryOp Operator.Mult (Value.ref _) (Value.int _ _)) _ _ _); k_dflt (refine' mul0 (by k_asm) (by k_asm) (by k_mem) (by lia) (by lia) ?_; k_whole); intro D'ξ h'ξ vs'ξ hi'ξ F'ξ N'ξ l1ξ; (try k_lt l1ξ))
  trivial
section
variable {w : World} {p : Program} {loose : List Str} {mean : ExcName → Option Value} {mg mb : Str → Option Value}
def sec52 : Option (Addr × Obj) → List (Addr × Obj)
  | none => [(52, tabObj #[])]
  | some (c, oc) => [(52, tabObj #[rawInt (86 : Nat), rawInt (4 : Nat), .ref c]), (c, oc)]
def secOk (q : Str) : Option (Addr × Obj) → Prop
  | none => True
  | some (_, oc) => ∃ vs t, oc.data = .fields vs ∧ vs[1]? = some (.str q t)
theorem secok_of {c : Addr} {oc : Obj} {vs : Array Value} {t : Tok} {q : Str} (h1 : oc.data = .fields vs) (h2 : vs[1]? = some (.str q t)) : secOk q (some (c, oc)) := ⟨vs, t, h1, h2⟩
theorem i2d_ret {h₀ h : Heap} {L D c : Addr} {oc : Obj} {ps : Array Value} {vs : List Value} {news rest : List (Addr × Obj)} (N : News h₀ L h news) (Nr : News h₀ L h rest) (m1 : (D, listOf vs.toArray 0) ∈ news) (m2 : (52, tabObj ps) ∈ news) (hps : ps = #[rawInt (86 : Nat), rawInt (4 : Nat), .ref c]) (m3 : (c, oc) ∈ news) :
    News h₀ L h ((D, listOf vs.toArray 0) :: sec52 (some (c, oc)) ++ rest) := by
  subst hps
  refine news_app (fun p hp => ?_) Nr
  rcases List.mem_cons.mp hp with rfl | hp
  · exact N _ m1
  · rcases List.mem_cons.mp hp with rfl | hp
    · exact N _ m2
    · rw [List.mem_singleton.mp hp]; exact N _ m3
theorem c_i2d (a n cnt : Nat) (ta tn : Tok) (d : Option (Addr × Obj)) (rest : List (Addr × Obj)) (hd52 : secOk "_int2digits.<locals>.inner" d) (ha : 0 < a) (hn : 0 < n) (hn2 : n * cnt ≤ 2 ^ 20) (ha2 : Builtin.Int.intBits a ≤ 2 ^ 20)
   (hcnt : ((Builtin.Int.intBits a : Int) + n - 1).fdiv n = (cnt : Int)) (hc1 : 0 < cnt) (hc2 : cnt ≤ 200) (hc3 : a < 2 ^ (n * cnt))
   (hr : ∀ q ∈ rest, ∀ p ∈ sec52 d, q.1 ≠ p.1) :
    Ctr w p loose mean mg mb 210 2000 57 [.int a ta, .int n tn] (sec52 d ++ rest) (fun B v n' => ∃ D vs c9 oc9, v = .ref D ∧ IntsAre vs (dg n cnt a) ∧ secOk "_int2digits.<locals>.inner" (some (c9, oc9)) ∧ n' = (D, listOf vs.toArray 0) :: sec52 (some (c9, oc9)) ++ rest ∧ (@LE.le Nat _ B c9 ∨ d = some (c9, oc9)) ∧ @LE.le Nat _ B D ∧ @Ne Nat c9 D) := by
  intro dp un gd cn cs a' ccd cl outer A₀ base h₀ L m s Q E B F X N T hk hd hu hret
  revert X; k_fill; intro X
  have S : Sp h₀ L s.heap (sec52 d) rest := ⟨news_sub N (fun p hp => List.mem_append_left _ hp), news_sub N (fun p hp => List.mem_append_right _ hp), hr⟩
  k_with "now" => have kNow1 : True := trivial
  have hnb : n ≤ 2 ^ 20 := Nat.le_trans (Nat.le_mul_of_pos_right n hc1) hn2
  have hc0 : ((Builtin.Int.intBits (a : Int) : Int) + n - 1).fdiv n ≤ 200 := by lia
  have hc00 : 0 < ((Builtin.Int.intBits (a : Int) : Int) + n - 1).fdiv n := by lia
  cases d with
  | none =>
    dsimp only [sec52] at S
    walk_at "enterC"
    k_steps
    · refine' key_intro (w := w) (p := p) (loose := loose) (mean := mean) (mg := mg) (mb := mb) n ?N ?hi ?hm ?U ?key ?rest
      case N => with_reducible assumption
      case hi => with_reducible assumption
      case hm => k_mem
      case U => k_updF
      case key =>
        clear hret S F N B X T hr
        intro k IH vs ns x lo top tx tl th hi hk0 htop hlk hns hn200 hn0 hx
        intro dp un gd cn cs a' ccd cl outer A₀ base h₀ L m s Q E B F X N T hk hd hu hret
        dsimp only at N
        subst htop
        have hk2 : k ≤ 200 := by lia
        have hnk := nk_le (k := k) hn200 (by lia)
        have hnk2 : n * (k / 2) ≤ n * k := Nat.mul_le_mul_left n (Nat.div_le_self k 2)
        walk_at "closure"
        k_with "now" => have kNow2 : True := trivial
        k_with "ov RShift" => ((fail_if_success (fail_if_success (k_extra "now"; clear kNow2))); first | (refine rshift_mid lo k rfl rfl ?_; intro _ _) | (refine rshift_nat x (n * (k / 2)) rfl rfl ?_; intro _ _))
        k_with "ov Mult" => ((fail_if_success (fail_if_success (k_extra "now"; clear kNow2))); (refine mul_shift lo k n hk0 hnk hk2 rfl rfl ?_; intro _ _))
        k_with "ov LShift" => ((fail_if_success (fail_if_success (k_extra "now"; clear kNow2))); (refine lshift_nat (x / 2 ^ (n * (k / 2))) (n * (k / 2)) (n * k) rfl rfl (Nat.lt_of_le_of_lt (Nat.div_le_self _ _) hx) (by lia) ?_; intro _ _))
        k_with "ov BitXor" => ((fail_if_success (fail_if_success (k_extra "now"; clear kNow2))); (refine xor_low x (n * (k / 2)) rfl rfl ?_; intro _ _))
        k_steps
        · have k1 : k = 1 := by lia
          subst k1
          refine hret _ _ _ _ ⟨rfl, _, ?_, rfl⟩ (by assumption) (by assumption)
          rw [dg_one n x (by simpa using hx), put_one _ _ _ (by lia)]
          assumption
        · have k1 : 1 < k := by lia
          have hm : x % 2 ^ (n * (k / 2)) < 2 ^ (n * (k / 2)) := Nat.mod_lt _ (Nat.two_pow_pos _)
          have hd9 : x / 2 ^ (n * (k / 2)) < 2 ^ (n * (k - k / 2)) := by
            refine Nat.div_lt_of_lt_mul ?_
            rw [← Nat.pow_add, ← Nat.mul_add, show k / 2 + (k - k / 2) = k by lia]; exact hx
          k_dflt (refine' Ctr.use ?B1 ?F1 ?X1 ?N1 ?T1 ?k1 ?d1 ?u1 (IH (k / 2) (by lia) vs ns (x % 2 ^ (n * (k / 2))) lo (lo + k / 2) _ _ _ hi (by lia) rfl (by lia) hns hn200 hn0 hm) ?_)
          case B1 => k_asm
          case F1 => k_asm
          case X1 => k_asm
          case N1 => k_asm
          case T1 => k_asm
          case k1 => first | exact rfl | assumption
          case d1 => ktr_room
          case u1 => ktr_units
          intro B1 v1 h1 tk1 n1 hB1 hL1 R1 F1 N1
          obtain ⟨e1, vs1, hi1, e2⟩ := R1
          subst e1; subst e2
          dsimp only at N1 ⊢
          try k_fold
          k_steps
          k_dflt (refine' Ctr.use ?B2 ?F2 ?X2 ?N2 ?T2 ?k2 ?d2 ?u2 (IH (k - k / 2) (by lia) vs1 _ (x / 2 ^ (n * (k / 2))) (lo + k / 2) (lo + k) _ _ _ hi1 (by lia) (by lia) (by rw [put_len _ _ _ (by rw [dg_len]; lia)]; lia) (by rw [put_len _ _ _ (by rw [dg_len]; lia)]; lia) (by rw [put_len _ _ _ (by rw [dg_len]; lia)]; exact hn200) hn0 hd9) ?_)
          case B2 => k_asm
          case F2 => k_asm
          case X2 => k_asm
          case N2 => k_asm
          case T2 => k_asm
          case k2 => first | exact rfl | assumption
          case d2 => ktr_room
          case u2 => ktr_units
          intro B2 v2 h2 tk2 n2 hB2 hL2 R2 F2 N2
          obtain ⟨e1, vs2, hi2, e2⟩ := R2
          subst e1; subst e2
          dsimp only at N2 ⊢
          try k_fold
          k_steps
          exact hret _ _ _ _ ⟨rfl, _, i2d_two k1 hlk hi2, rfl⟩ (by assumption) (by assumption)
      case rest =>
        intro KEY
        (rename IntsAre _ (List.replicate _ _) => hz)
        rw [hcnt, Int.toNat_natCast] at hz
        refine len_ints (by k_asm) (by k_mem) hz (by simp; lia) ?_
        intro tl' kl'
        dsimp only
        try k_fold
        k_steps
        k_dflt (refine' Ctr.use ?B3 ?F3 ?X3 ?N3 ?T3 ?k3 ?d3 ?u3 (KEY cnt (by lia) _ _ a 0 _ _ _ _ hz hc1 (by simp) (by simp) (by simp; lia) (by rw [List.length_replicate]; exact hn2) hn hc3) ?_)
        case B3 => k_asm
        case F3 => k_asm
        case X3 => k_asm
        case N3 => k_asm
        case T3 => k_asm
        case k3 => first | exact rfl | assumption
        case d3 => ktr_room
        case u3 => ktr_units
        intro B1 v1 h1 tk1 n1 hB1 hL1 R1 F1 N1
        obtain ⟨e1, vs1, hi1, e2⟩ := R1
        subst e1; subst e2
        rw [put_all _ _ (by rw [dg_len]; simp)] at hi1
        dsimp only at N1 ⊢
        try k_fold
        k_steps
        (rename News _ _ _ (_ :: _) => hN9)
        refine hret _ _ _ _ ⟨_, vs1, _, _, rfl, hi1, secok_of (by assumption) (by assumption), rfl, ?_, ?_, ?_⟩ (by assumption) (i2d_ret hN9 (by assumption) (by k_mem) (by k_mem) (by first | rfl | (simp; done)) (by k_mem))
        · exact Or.inl (leN (by lia))
        · exact leN (by lia)
        · exact neN (by lia)
    · lia
  | some x =>
    obtain ⟨c, oc⟩ := x
    dsimp only [sec52] at S
    obtain ⟨vsc, tc, hd1, hd2⟩ := hd52
    walk_at "enterC"
    k_steps
    have hrc : ∀ q ∈ rest, q.1 ≠ c := fun q hq => hr q hq (c, oc) (by simp [sec52])
    · refine' key_intro (w := w) (p := p) (loose := loose) (mean := mean) (mg := mg) (mb := mb) n ?N ?hi ?hm ?U ?key ?rest
      case N => with_reducible assumption
      case hi => with_reducible assumption
      case hm => k_mem
      case U => k_updF
      case key =>
        clear hret S F N B X T hr
        intro k IH vs ns x lo top tx tl th hi hk0 htop hlk hns hn200 hn0 hx
        intro dp un gd cn cs a' ccd cl outer A₀ base h₀ L m s Q E B F X N T hk hd hu hret
        dsimp only at N
        subst htop
        have hk2 : k ≤ 200 := by lia
        have hnk := nk_le (k := k) hn200 (by lia)
        have hnk2 : n * (k / 2) ≤ n * k := Nat.mul_le_mul_left n (Nat.div_le_self k 2)
        walk_at "closure"
        k_with "now" => have kNow3 : True := trivial
        k_with "ov RShift" => ((fail_if_success (fail_if_success (k_extra "now"; clear kNow3))); first | (refine rshift_mid lo k rfl rfl ?_; intro _ _) | (refine rshift_nat x (n * (k / 2)) rfl rfl ?_; intro _ _))
        k_with "ov Mult" => ((fail_if_success (fail_if_success (k_extra "now"; clear kNow3))); (refine mul_shift lo k n hk0 hnk hk2 rfl rfl ?_; intro _ _))
        k_with "ov LShift" => ((fail_if_success (fail_if_success (k_extra "now"; clear kNow3))); (refine lshift_nat (x / 2 ^ (n * (k / 2))) (n * (k / 2)) (n * k) rfl rfl (Nat.lt_of_le_of_lt (Nat.div_le_self _ _) hx) (by lia) ?_; intro _ _))
        k_with "ov BitXor" => ((fail_if_success (fail_if_success (k_extra "now"; clear kNow3))); (refine xor_low x (n * (k / 2)) rfl rfl ?_; intro _ _))
        k_steps
        · have k1 : k = 1 := by lia
          subst k1
          refine hret _ _ _ _ ⟨rfl, _, ?_, rfl⟩ (by assumption) (by assumption)
          rw [dg_one n x (by simpa using hx), put_one _ _ _ (by lia)]
          assumption
        · have k1 : 1 < k := by lia
          have hm : x % 2 ^ (n * (k / 2)) < 2 ^ (n * (k / 2)) := Nat.mod_lt _ (Nat.two_pow_pos _)
          have hd9 : x / 2 ^ (n * (k / 2)) < 2 ^ (n * (k - k / 2)) := by
            refine Nat.div_lt_of_lt_mul ?_
            rw [← Nat.pow_add, ← Nat.mul_add, show k / 2 + (k - k / 2) = k by lia]; exact hx
          k_dflt (refine' Ctr.use ?B4 ?F4 ?X4 ?N4 ?T4 ?k4 ?d4 ?u4 (IH (k / 2) (by lia) vs ns (x % 2 ^ (n * (k / 2))) lo (lo + k / 2) _ _ _ hi (by lia) rfl (by lia) hns hn200 hn0 hm) ?_)
          case B4 => k_asm
          case F4 => k_asm
          case X4 => k_asm
          case N4 => k_asm
          case T4 => k_asm
          case k4 => first | exact rfl | assumption
          case d4 => ktr_room
          case u4 => ktr_units
          intro B1 v1 h1 tk1 n1 hB1 hL1 R1 F1 N1
          obtain ⟨e1, vs1, hi1, e2⟩ := R1
          subst e1; subst e2
          dsimp only at N1 ⊢
          try k_fold
          k_steps
          k_dflt (refine' Ctr.use ?B5 ?F5 ?X5 ?N5 ?T5 ?k5 ?d5 ?u5 (IH (k - k / 2) (by lia) vs1 _ (x / 2 ^ (n * (k / 2))) (lo + k / 2) (lo + k) _ _ _ hi1 (by lia) (by lia) (by rw [put_len _ _ _ (by rw [dg_len]; lia)]; lia) (by rw [put_len _ _ _ (by rw [dg_len]; lia)]; lia) (by rw [put_len _ _ _ (by rw [dg_len]; lia)]; exact hn200) hn0 hd9) ?_)
          case B5 => k_asm
          case F5 => k_asm
          case X5 => k_asm
          case N5 => k_asm
          case T5 => k_asm
          case k5 => first | exact rfl | assumption
          case d5 => ktr_room
          case u5 => ktr_units
          intro B2 v2 h2 tk2 n2 hB2 hL2 R2 F2 N2
          obtain ⟨e1, vs2, hi2, e2⟩ := R2
          subst e1; subst e2
          dsimp only at N2 ⊢
          try k_fold
          k_steps
          exact hret _ _ _ _ ⟨rfl, _, i2d_two k1 hlk hi2, rfl⟩ (by assumption) (by assumption)
      case rest =>
        intro KEY
        (rename IntsAre _ (List.replicate _ _) => hz)
        rw [hcnt, Int.toNat_natCast] at hz
        refine len_ints (by k_asm) (by k_mem) hz (by simp; lia) ?_
        intro tl' kl'
        dsimp only
        try k_fold
        k_steps
        k_dflt (refine' Ctr.use ?B6 ?F6 ?X6 ?N6 ?T6 ?k6 ?d6 ?u6 (KEY cnt (by lia) _ _ a 0 _ _ _ _ hz hc1 (by simp) (by simp) (by simp; lia) (by rw [List.length_replicate]; exact hn2) hn hc3) ?_)
        case B6 => k_asm
        case F6 => k_asm
        case X6 => k_asm
        case N6 => k_asm
        case T6 => k_asm
        case k6 => first | exact rfl | assumption
        case d6 => ktr_room
        case u6 => ktr_units
        intro B1 v1 h1 tk1 n1 hB1 hL1 R1 F1 N1
        obtain ⟨e1, vs1, hi1, e2⟩ := R1
        subst e1; subst e2
        rw [put_all _ _ (by rw [dg_len]; simp)] at hi1
        dsimp only at N1 ⊢
        try k_fold
        k_steps
        (rename News _ _ _ (_ :: _) => hN9)
        refine hret _ _ _ _ ⟨_, vs1, _, _, rfl, hi1, secok_of (by assumption) (by assumption), rfl, ?_, ?_, ?_⟩ (by assumption) (i2d_ret hN9 (by assumption) (by k_mem) (by k_mem) (by first | rfl | (simp; done)) (by k_mem))
        · exact Or.inr rfl
        · exact leN (by lia)
        · exact neN (by lia)
    · lia
end
end
example {prog : Program} {w : World} {A : Around} {env : Env} {Q : Flow → Shared → Prop} {E : Value → Shared → Prop} {s : Shared} (h : wpAny (model prog w) A (execs [] env) Q E s) : wpAny (model prog w) A (execs [] env) Q E s := by ((k_with "now" => have kReset : True := trivial); (k_with "piece" => have kP_C6 : True := trivial); w_top off; first | (walk1; fail) | exact h)
section
section
variable {w : World} {p : Program} {loose : List Str} {mean : ExcName → Option Value} {mg mb : Str → Option Value}
/-- the worth of places to the base 2 ^ n, the least first -/
def valN (n : Nat) : List Nat → Nat
  | [] => 0
  | d :: r => d + 2 ^ n * valN n r
theorem valN_app (n : Nat) : ∀ xs ys, valN n (xs ++ ys) = valN n xs + 2 ^ (n * xs.length) * valN n ys
  | [], ys => by simp [valN]
  | d :: r, ys => by
    rw [List.cons_append, valN, valN_app n r ys, valN, List.length_cons, Nat.mul_succ, Nat.pow_add, Nat.mul_add, ← Nat.mul_assoc, Nat.mul_comm (2 ^ n) (2 ^ (n * r.length)), Nat.add_assoc]
theorem valN_lt (n : Nat) : ∀ xs : List Nat, (∀ d ∈ xs, d < 2 ^ n) → valN n xs < 2 ^ (n * xs.length)
  | [], _ => by simp [valN]
  | d :: r, h => by
    have h1 := h d (.head _)
    have h2 := valN_lt n r fun e he => h e (.tail _ he)
    rw [valN, List.length_cons, Nat.mul_succ, Nat.pow_add, Nat.mul_comm (2 ^ (n * r.length))]
    calc d + 2 ^ n * valN n r < 2 ^ n + 2 ^ n * valN n r := by lia
      _ = 2 ^ n * (valN n r + 1) := by rw [Nat.mul_add, Nat.mul_one, Nat.add_comm]
      _ ≤ 2 ^ n * 2 ^ (n * r.length) := Nat.mul_le_mul_left _ h2
abbrev subl (ds : List Nat) (lo k : Nat) : List Nat := (ds.drop lo).take k
def sec59 : Option (Addr × Obj) → List (Addr × Obj)
  | none => [(59, tabObj #[])]
  | some (c, oc) => [(59, tabObj #[rawInt (101 : Nat), rawInt (4 : Nat), .ref c]), (c, oc)]
def KeyD (w : World) (p : Program) (loose : List Str) (mean : ExcName → Option Value) (mg mb : Str → Option Value) (f : Addr) (led : List (Addr × Obj)) (ds : List Nat) (n : Nat) (k : Nat) : Prop :=
  ∀ (lo top : Nat) (tl th : Tok), 0 < k → top = lo + k → lo + k ≤ ds.length → 
    Ctr w p loose mean mg mb (k + 1) (8 * k + 8) f [.int (lo : Int) tl, .int (top : Int) th] led
      (fun B v n' => (∃ t, v = .int (valN n (subl ds lo k) : Nat) t) ∧ n' = led)
theorem key_introD {h₀ h : Heap} {L f : Addr} {fo : Obj} {tl : List (Addr × Obj)} {P : Prop} (ds : List Nat) (n : Nat) (N : News h₀ L h ((f, fo) :: tl)) 
    (key : ∀ k, (∀ j, j < k → KeyD w p loose mean mg mb f ((f, fo) :: tl) ds n j) → KeyD w p loose mean mg mb f ((f, fo) :: tl) ds n k)
    (rest : (∀ j, j < 201 → KeyD w p loose mean mg mb f ((f, fo) :: tl) ds n j) → P) : P :=
  rest fun j _ => Nat.strongRecOn j key
theorem subl_two (ds : List Nat) (lo k : Nat) (n : Nat) (hk : 1 < k) (hl : lo + k ≤ ds.length) : valN n (subl ds (lo + k / 2) (k - k / 2)) * 2 ^ (n * (k / 2)) + valN n (subl ds lo (k / 2)) = valN n (subl ds lo k) := by
  have e : subl ds lo k = subl ds lo (k / 2) ++ subl ds (lo + k / 2) (k - k / 2) := by
    unfold subl
    rw [← List.drop_drop, ← List.take_add, show k / 2 + (k - k / 2) = k by lia]
  have hlen : (subl ds lo (k / 2)).length = k / 2 := by simp [subl]; lia
  rw [e, valN_app, hlen, Nat.mul_comm, Nat.add_comm]
theorem subl_one (ds : List Nat) (lo n : Nat) (h : lo < ds.length) : (ds.map fun d : Nat => (d : Int)).getD lo 0 = (valN n (subl ds lo 1) : Nat) := by
  have e : subl ds lo 1 = [ds[lo]] := by
    show List.take 1 (List.drop lo ds) = _
    rw [List.drop_eq_getElem_cons h, List.take_succ_cons, List.take_zero]
  rw [e]; simp [valN, h]
theorem subl_lt (ds : List Nat) (lo k n : Nat) (hds : ∀ d ∈ ds, d < 2 ^ n) (hn : n * ds.length ≤ 2 ^ 20) : valN n (subl ds lo k) < 2 ^ (2 ^ 20) := by
  have h1 := valN_lt n (subl ds lo k) (fun d hd => hds d (List.mem_of_mem_drop (List.mem_of_mem_take hd)))
  have h2 : (subl ds lo k).length ≤ ds.length := by simp [subl]; lia
  have h3 : n * (subl ds lo k).length ≤ 2 ^ 20 := nk_le hn h2
  exact Nat.lt_of_lt_of_le h1 (Nat.pow_le_pow_right (by lia) h3)
theorem d2i_ret {h₀ h : Heap} {L c : Addr} {oc : Obj} {ps : Array Value} {news rest : List (Addr × Obj)} (N : News h₀ L h news) (Nr : News h₀ L h rest) (m2 : (59, tabObj ps) ∈ news) (hps : ps = #[rawInt (101 : Nat), rawInt (4 : Nat), .ref c]) (m3 : (c, oc) ∈ news) :
    News h₀ L h (sec59 (some (c, oc)) ++ rest) := by
  subst hps
  refine news_app (fun p hp => ?_) Nr
  rcases List.mem_cons.mp hp with rfl | hp
  · exact N _ m2
  · rw [List.mem_singleton.mp hp]; exact N _ m3
theorem c_d2i (ds : List Nat) (n : Nat) (D : Addr) (vs : List Value) (ep : Nat) (tn : Tok) (d : Option (Addr × Obj)) (rest : List (Addr × Obj)) (hd59 : secOk "_digits2int.<locals>.inner" d) (hi : IntsAre vs (ds.map fun z : Nat => (z : Int))) (hn : 0 < n) (hn2 : n * ds.length ≤ 2 ^ 20)
   (hl : 0 < ds.length) (hl2 : ds.length ≤ 200) (hds : ∀ z ∈ ds, z < 2 ^ n)
   (hr : ∀ q ∈ rest, ∀ p ∈ sec59 d ++ [(D, listOf vs.toArray ep)], q.1 ≠ p.1) (hD : @LT.lt Nat _ 59 D) (hD2 : ∀ x, d = some x → @Ne Nat x.1 D) :
    Ctr w p loose mean mg mb 210 2000 64 [.ref D, .int n tn] ((sec59 d ++ [(D, listOf vs.toArray ep)]) ++ rest) (fun B v n' => ∃ c9 oc9, (∃ t, v = .int (valN n ds : Nat) t) ∧ secOk "_digits2int.<locals>.inner" (some (c9, oc9)) ∧ n' = sec59 (some (c9, oc9)) ++ rest ∧ (@LE.le Nat _ B c9 ∨ d = some (c9, oc9))) := by
  intro dp un gd cn cs a' ccd cl outer A₀ base h₀ L m s Q E B F X N T hk hd hu hret
  revert X; k_fill; intro X
  have S : Sp h₀ L s.heap (sec59 d ++ [(D, listOf vs.toArray ep)]) rest := ⟨news_sub N (fun p hp => List.mem_append_left _ hp), news_sub N (fun p hp => List.mem_append_right _ hp), hr⟩
  k_with "now" => have kNow4 : True := trivial
  cases d with
  | none =>
    dsimp only [sec59, List.cons_append, List.nil_append] at S
    walk_at "enterC"
    k_steps
    · refine' key_introD (w := w) (p := p) (loose := loose) (mean := mean) (mg := mg) (mb := mb) ds n ?N ?key ?rest
      case N => with_reducible assumption
      case key =>
        clear hret S F N B X T hr
        intro k IH lo top tl th hk0 htop hlk
        intro dp un gd cn cs a' ccd cl outer A₀ base h₀ L m s Q E B F X N T hk hd hu hret
        subst htop
        have hk2 : k ≤ 200 := by lia
        have hnk := nk_le (k := k) hn2 (by lia)
        have hnk2 : n * (k / 2) ≤ n * k := Nat.mul_le_mul_left n (Nat.div_le_self k 2)
        walk_at "closure"
        k_with "now" => have kNow5 : True := trivial
        k_with "ov RShift" => ((fail_if_success (fail_if_success (k_extra "now"; clear kNow5))); (refine rshift_mid lo k rfl rfl ?_; intro _ _))
        k_with "ov Mult" => ((fail_if_success (fail_if_success (k_extra "now"; clear kNow5))); (refine mul_shift lo k n hk0 hnk hk2 rfl rfl ?_; intro _ _))
        k_with "ov LShift" => ((fail_if_success (fail_if_success (k_extra "now"; clear kNow5))); (refine lshift_nat (valN n (subl ds (lo + k / 2) (k - k / 2))) (n * (k / 2)) (2 ^ 20) rfl rfl (subl_lt ds _ _ n hds hn2) (by lia) ?_; intro _ _))
        k_with "ov Add" => ((fail_if_success (fail_if_success (k_extra "now"; clear kNow5))); (refine add_nat (valN n (subl ds (lo + k / 2) (k - k / 2)) * 2 ^ (n * (k / 2))) (valN n (subl ds lo (k / 2))) rfl rfl ?_; intro _ _))
        k_steps
        · have k1 : k = 1 := by lia
          subst k1
          refine hret _ _ _ _ ⟨ktn_int ?_, rfl⟩ (by assumption) (by assumption)
          exact subl_one ds lo n (by lia)
        · have k1 : 1 < k := by lia
          k_dflt (refine' Ctr.use ?B1 ?F1 ?X1 ?N1 ?T1 ?k1 ?d1 ?u1 (IH (k - k / 2) (by lia) (lo + k / 2) (lo + k) _ _ (by lia) (by lia) (by lia)) ?_)
          case B1 => k_asm
          case F1 => k_asm
          case X1 => k_asm
          case N1 => k_asm
          case T1 => k_asm
          case k1 => first | exact rfl | assumption
          case d1 => ktr_room
          case u1 => ktr_units
          intro B1 v1 h1 tk1 n1 hB1 hL1 R1 F1 N1
          obtain ⟨⟨t1, e1⟩, e2⟩ := R1
          subst e1; subst e2
          try k_fold
          k_steps
          k_dflt (refine' Ctr.use ?B2 ?F2 ?X2 ?N2 ?T2 ?k2 ?d2 ?u2 (IH (k / 2) (by lia) lo (lo + k / 2) _ _ (by lia) rfl (by lia)) ?_)
          case B2 => k_asm
          case F2 => k_asm
          case X2 => k_asm
          case N2 => k_asm
          case T2 => k_asm
          case k2 => first | exact rfl | assumption
          case d2 => ktr_room
          case u2 => ktr_units
          intro B2 v2 h2 tk2 n2 hB2 hL2 R2 F2 N2
          obtain ⟨⟨t2, e1⟩, e2⟩ := R2
          subst e1; subst e2
          try k_fold
          k_steps
          refine hret _ _ _ _ ⟨ktn_int ?_, rfl⟩ (by assumption) (by assumption)
          exact congrArg Nat.cast (subl_two ds lo k n k1 hlk)
      case rest =>
        intro KEY
        k_dflt (refine' Ctr.use ?B3 ?F3 ?X3 ?N3 ?T3 ?k3 ?d3 ?u3 (KEY ds.length (by lia) 0 (ds.map fun d : Nat => (d : Int)).length _ _ hl (by simp) (by simp)) ?_)
        case B3 => k_asm
        case F3 => k_asm
        case X3 => k_asm
        case N3 => k_asm
        case T3 => k_asm
        case k3 => first | exact rfl | assumption
        case d3 => ktr_room
        case u3 => ktr_units
        intro B1 v1 h1 tk1 n1 hB1 hL1 R1 F1 N1
        obtain ⟨⟨t1, e1⟩, e2⟩ := R1
        subst e1; subst e2
        try k_fold
        k_steps
        (rename News _ _ _ (_ :: _) => hN9)
        refine hret _ _ _ _ ⟨_, _, ktn_int ?_, secok_of (by assumption) (by assumption), rfl, ?_⟩ (by assumption) (d2i_ret hN9 (by assumption) (by k_mem) (by first | rfl | (simp; done)) (by k_mem))
        · exact congrArg (fun l => ((valN n l : Nat) : Int)) (by simp [subl])
        · exact Or.inl (leN (by lia))
    · exact absurd hl (by (rename ¬ 0 < (List.map _ ds).length => hz); rw [List.length_map] at hz; exact hz)
  | some x =>
    obtain ⟨c, oc⟩ := x
    dsimp only [sec59, List.cons_append, List.nil_append] at S
    obtain ⟨vsc, tc, hd1, hd2⟩ := hd59
    have hcD := hD2 _ rfl
    dsimp only at hcD
    walk_at "enterC"
    k_steps
    have hrc : ∀ q ∈ rest, q.1 ≠ c := fun q hq => hr q hq (c, oc) (by simp [sec59])
    · refine' key_introD (w := w) (p := p) (loose := loose) (mean := mean) (mg := mg) (mb := mb) ds n ?N ?key ?rest
      case N => with_reducible assumption
      case key =>
        clear hret S F N B X T hr
        intro k IH lo top tl th hk0 htop hlk
        intro dp un gd cn cs a' ccd cl outer A₀ base h₀ L m s Q E B F X N T hk hd hu hret
        subst htop
        have hk2 : k ≤ 200 := by lia
        have hnk := nk_le (k := k) hn2 (by lia)
        have hnk2 : n * (k / 2) ≤ n * k := Nat.mul_le_mul_left n (Nat.div_le_self k 2)
        walk_at "closure"
        k_with "now" => have kNow6 : True := trivial
        k_with "ov RShift" => ((fail_if_success (fail_if_success (k_extra "now"; clear kNow6))); (refine rshift_mid lo k rfl rfl ?_; intro _ _))
        k_with "ov Mult" => ((fail_if_success (fail_if_success (k_extra "now"; clear kNow6))); (refine mul_shift lo k n hk0 hnk hk2 rfl rfl ?_; intro _ _))
        k_with "ov LShift" => ((fail_if_success (fail_if_success (k_extra "now"; clear kNow6))); (refine lshift_nat (valN n (subl ds (lo + k / 2) (k - k / 2))) (n * (k / 2)) (2 ^ 20) rfl rfl (subl_lt ds _ _ n hds hn2) (by lia) ?_; intro _ _))
        k_with "ov Add" => ((fail_if_success (fail_if_success (k_extra "now"; clear kNow6))); (refine add_nat (valN n (subl ds (lo + k / 2) (k - k / 2)) * 2 ^ (n * (k / 2))) (valN n (subl ds lo (k / 2))) rfl rfl ?_; intro _ _))
        k_steps
        · have k1 : k = 1 := by lia
          subst k1
          refine hret _ _ _ _ ⟨ktn_int ?_, rfl⟩ (by assumption) (by assumption)
          exact subl_one ds lo n (by lia)
        · have k1 : 1 < k := by lia
          k_dflt (refine' Ctr.use ?B4 ?F4 ?X4 ?N4 ?T4 ?k4 ?d4 ?u4 (IH (k - k / 2) (by lia) (lo + k / 2) (lo + k) _ _ (by lia) (by lia) (by lia)) ?_)
          case B4 => k_asm
          case F4 => k_asm
          case X4 => k_asm
          case N4 => k_asm
          case T4 => k_asm
          case k4 => first | exact rfl | assumption
          case d4 => ktr_room
          case u4 => ktr_units
          intro B1 v1 h1 tk1 n1 hB1 hL1 R1 F1 N1
          obtain ⟨⟨t1, e1⟩, e2⟩ := R1
          subst e1; subst e2
          try k_fold
          k_steps
          k_dflt (refine' Ctr.use ?B5 ?F5 ?X5 ?N5 ?T5 ?k5 ?d5 ?u5 (IH (k / 2) (by lia) lo (lo + k / 2) _ _ (by lia) rfl (by lia)) ?_)
          case B5 => k_asm
          case F5 => k_asm
          case X5 => k_asm
          case N5 => k_asm
          case T5 => k_asm
          case k5 => first | exact rfl | assumption
          case d5 => ktr_room
          case u5 => ktr_units
          intro B2 v2 h2 tk2 n2 hB2 hL2 R2 F2 N2
          obtain ⟨⟨t2, e1⟩, e2⟩ := R2
          subst e1; subst e2
          try k_fold
          k_steps
          refine hret _ _ _ _ ⟨ktn_int ?_, rfl⟩ (by assumption) (by assumption)
          exact congrArg Nat.cast (subl_two ds lo k n k1 hlk)
      case rest =>
        intro KEY
        k_dflt (refine' Ctr.use ?B6 ?F6 ?X6 ?N6 ?T6 ?k6 ?d6 ?u6 (KEY ds.length (by lia) 0 (ds.map fun d : Nat => (d : Int)).length _ _ hl (by simp) (by simp)) ?_)
        case B6 => k_asm
        case F6 => k_asm
        case X6 => k_asm
        case N6 => k_asm
        case T6 => k_asm
        case k6 => first | exact rfl | assumption
        case d6 => ktr_room
        case u6 => ktr_units
        intro B1 v1 h1 tk1 n1 hB1 hL1 R1 F1 N1
        obtain ⟨⟨t1, e1⟩, e2⟩ := R1
        subst e1; subst e2
        try k_fold
        k_steps
        (rename News _ _ _ (_ :: _) => hN9)
        refine hret _ _ _ _ ⟨_, _, ktn_int ?_, secok_of (by assumption) (by assumption), rfl, ?_⟩ (by assumption) (d2i_ret hN9 (by assumption) (by k_mem) (by first | rfl | (simp; done)) (by k_mem))
        · exact congrArg (fun l => ((valN n l : Nat) : Int)) (by simp [subl])
        · exact Or.inr rfl
    · exact absurd hl (by (rename ¬ 0 < (List.map _ ds).length => hz); rw [List.length_map] at hz; exact hz)
end
end
example {prog : Program} {w : World} {A : Around} {env : Env} {Q : Flow → Shared → Prop} {E : Value → Shared → Prop} {s : Shared} (h : wpAny (model prog w) A (execs [] env) Q E s) : wpAny (model prog w) A (execs [] env) Q E s := by ((k_with "now" => have kReset : True := trivial); (k_with "piece" => have kP_C7 : True := trivial); w_top off; first | (walk1; fail) | exact h)
section
example : True := by
  k_with "retTup" => ((fail_if_success (fail_if_success (k_extra "piece"; clear kP_C7))); (intro B'ξ v'ξ h'ξ tk'ξ n'ξ hB'ξ hL'ξ R'ξ F'ξ N'ξ; (obtain ⟨d'ξ, t'ξ, u'ξ, e1ξ, e2ξ, l1ξ⟩ := R'ξ); subst e1ξ; subst e2ξ; (try k_lt hB'ξ); (try dsimp only); (try k_sweep); (try k_fold)))
  k_with "m call ref" => ((fail_if_success (fail_if_success (k_extra "piece"; clear kP_C7))); k_dflt (refine' Ctr.use (by k_asm) (by k_asm) (by k_asm) (by k_asm) (by k_asm) (by first | exact rfl | assumption) (by ktr_room) (by ktr_units) (c_div2n1n _ _ _ _ _ _ _ (by walk_at "side") (by walk_at "side") (by walk_at "side")) ?_); walk_at "retTup")
  trivial
section
variable {w : World} {p : Program} {loose : List Str} {mean : ExcName → Option Value} {mg mb : Str → Option Value}
theorem append_ints {A : Around} {E : Value → Shared → Prop} {s : Shared} {h₀ : Heap} {L D : Addr} {m : Str → Option Value} {news news' : List (Addr × Obj)} {vs : List Value} {ns : List Int} {n : Nat} {x : Value} {Q : Value → Shared → Prop} {prog : Program} (F : Fr h₀ L s.heap m) (N : News h₀ L s.heap news)
    (U : Upd D (listOf vs.toArray n) (listOf (vs.toArray.push x) (n + 1)) news news') (hi : IntsAre vs ns) (hl : ns.length ≤ 1000) (h : ∀ h', Fr h₀ L h' m → News h₀ L h' news' → Q .none { s with heap := h' }) : wpAny (model prog w) A (call (.builtin "list.append") [.ref D, x]) Q E s :=
  append_K F N U h (by rw [List.size_toArray, hi.length, sizeLine_eq]; lia)
end
example : True := by
  k_with "m call builtin:list.append" => ((fail_if_success (fail_if_success (k_extra "piece"; clear kP_C7))); (with_reducible show wpAny _ _ (call (Value.builtin _) [Value.ref _, _]) _ _ _); k_dflt (refine' append_ints (by k_asm) (by k_asm) (by k_upd) (by with_reducible assumption) (by walk_at "side") ?_); intro h'ξ F'ξ N'ξ; (try k_sweep))
  trivial
section
variable {w : World} {p : Program} {loose : List Str} {mean : ExcName → Option Value} {mg mb : Str → Option Value}
theorem reverse_ints {A : Around} {E : Value → Shared → Prop} {s : Shared} {h₀ : Heap} {L D : Addr} {m : Str → Option Value} {news news' : List (Addr × Obj)} {vs : List Value} {ns : List Int} {n : Nat} {Q : Value → Shared → Prop} {prog : Program} (F : Fr h₀ L s.heap m) (N : News h₀ L s.heap news) 
    (U : Upd D (listOf vs.toArray n) (listOf vs.reverse.toArray n) news news') (hi : IntsAre vs ns) (hl : ns.length ≤ 1000) (h : ∀ h', Fr h₀ L h' m → News h₀ L h' news' → Q .none { s with heap := h' }) : wpAny (model prog w) A (call (.builtin "list.reverse") [.ref D]) Q E s :=
  kl_reverse F N rfl U (by have := hi.length; rw [sizeLine_eq]; simp; lia) h
end
example : True := by
  k_with "m call builtin:list.reverse" => ((fail_if_success (fail_if_success (k_extra "piece"; clear kP_C7))); (with_reducible show wpAny _ _ (call (Value.builtin _) [Value.ref _]) _ _ _); k_dflt (refine' reverse_ints (by k_asm) (by k_asm) (by k_upd) (by with_reducible assumption) (by walk_at "side") ?_); intro h'ξ F'ξ N'ξ; (try k_sweep))
  trivial
section
variable {w : World} {p : Program} {loose : List Str} {mean : ExcName → Option Value} {mg mb : Str → Option Value}
def secs : Option ((Addr × Obj) × (Addr × Obj)) → List (Addr × Obj)
  | none => [(52, tabObj #[]), (59, tabObj #[])]
  | some (x, y) => sec52 (some x) ++ sec59 (some y)
def secsOk : Option ((Addr × Obj) × (Addr × Obj)) → Prop
  | none => True
  | some (x, y) => secOk "_int2digits.<locals>.inner" (some x) ∧ secOk "_digits2int.<locals>.inner" (some y) ∧ (@Ne Nat x.1 y.1 ∧ @Ne Nat x.1 59 ∧ @Ne Nat x.1 52 ∧ @Ne Nat y.1 52 ∧ @Ne Nat y.1 59)
end
namespace sk_c_dmpos_n
abbrev skD : Type := (World) × (Program) × (List PySem.Str) × (ExcName → Option Value) × (PySem.Str → Option Value) × (PySem.Str → Option Value) × (Nat) × (Nat) × (Tok) × (Tok) × (List (Addr × Obj)) × (Nat) × (Nat) × (Option (List Code)) × (PySem.Str) × (Scope) × (Addr) × (Value) × (List (PySem.Str × Addr)) × (List Env) × (Around) × (Heap) × (Heap) × (Addr) × (PySem.Str → Option Value) × (Shared) × (Value → Shared → Prop) × (Value → Shared → Prop) × (Heap) × (Addr) × (Heap)
def skP (w : World) (p : Program) (loose : List PySem.Str) (mean : ExcName → Option Value) (mg : PySem.Str → Option Value) (mb : PySem.Str → Option Value) (a : Nat) (b : Nat) (ta : Tok) (tb : Tok) (rest : List (Addr × Obj)) (dp : Nat) (un : Nat) (gd : Option (List Code)) (cn : PySem.Str) (cs : Scope) (a' : Addr) (ccd : Value) (cl : List (PySem.Str × Addr)) (outer : List Env) (A₀ : Around) (base : Heap) (h₀ : Heap) (L : Addr) (m : PySem.Str → Option Value) (s : Shared) (Q : Value → Shared → Prop) (E : Value → Shared → Prop) (g9 : Heap) (L9 : Addr) (h9 : Heap) : Prop := ∀ (hd : secsOk none) (ha : 0 < a) (hb : 0 < b) (hab : a < b * 2 ^ 60) (hb2 : BL b ≤ 50000) (hr : ∀ q ∈ rest, ∀ p ∈ secs none, q.1 ≠ p.1),
    CtrG w p loose mean mg mb 220 3000 71 [.int a ta, .int b tb] (secs none ++ rest) (fun B v n' => ∃ D x y t u, v = .ref D ∧ n' = (D, { cls := .type "tuple", data := .seq #[.int ((a / b : Nat) : Int) t, .int ((a % b : Nat) : Int) u] }) :: secs (some (x, y)) ++ rest ∧
      secsOk (some (x, y)) ∧ @LE.le Nat _ B D ∧ @Ne Nat x.1 D ∧ @Ne Nat y.1 D ∧ (@LE.le Nat _ B x.1 ∨ ∃ y' : Addr × Obj, none = some (x, y')) ∧ (@LE.le Nat _ B y.1 ∨ ∃ x' : Addr × Obj, none = some (x', y))) dp un gd cn cs a' ccd cl outer A₀ base h₀ L m s Q E (premOf3 (B := CtrAt w p loose mean mg mb 220 3000 71 [.int a ta, .int b tb] (secs none ++ rest) (fun B v n' => ∃ D x y t u, v = .ref D ∧ n' = (D, { cls := .type "tuple", data := .seq #[.int ((a / b : Nat) : Int) t, .int ((a % b : Nat) : Int) u] }) :: secs (some (x, y)) ++ rest ∧
      secsOk (some (x, y)) ∧ @LE.le Nat _ B D ∧ @Ne Nat x.1 D ∧ @Ne Nat y.1 D ∧ (@LE.le Nat _ B x.1 ∨ ∃ y' : Addr × Obj, none = some (x, y')) ∧ (@LE.le Nat _ B y.1 ∨ ∃ x' : Addr × Obj, none = some (x', y))) dp un gd cn cs a' ccd cl outer A₀ base h₀ L m s Q E) (by
      intro hh
      unfold CtrAt
      intro B F X N T hk hdp hu hret
      revert X; k_fill; intro X
      have S : Sp h₀ L s.heap (secs none) rest := ⟨news_sub N (fun p hp => List.mem_append_left _ hp), news_sub N (fun p hp => List.mem_append_right _ hp), hr⟩
      have hAB := bl_mul hab
      have hn0 := bl_pos hb
      have hA2 : BL b * cntOf a b ≤ 2 ^ 20 := by have := cnt_mul (a := a) (b := b); lia
      have hA3 : Builtin.Int.intBits (a : Int) ≤ 2 ^ 20 := by dsimp only [BL] at *; lia
      have hcl := cnt_le hb hAB
      have hc0 := cnt_pos ha hb
      dsimp only [secs] at S
      walk_at "enterS"
      exact hh) g9 L9 h9)
theorem skN : Nonempty skD := ⟨(Classical.choice neWorld, default, default, default, default, default, default, default, default, default, default, default, default, default, default, default, default, default, default, default, ({} : Around), default, default, default, default, ({} : Shared), default, default, default, default, default)⟩
@[irreducible] noncomputable def skK : skD := @Classical.epsilon skD skN fun d => ¬ skP d.1 d.2.1 d.2.2.1 d.2.2.2.1 d.2.2.2.2.1 d.2.2.2.2.2.1 d.2.2.2.2.2.2.1 d.2.2.2.2.2.2.2.1 d.2.2.2.2.2.2.2.2.1 d.2.2.2.2.2.2.2.2.2.1 d.2.2.2.2.2.2.2.2.2.2.1 d.2.2.2.2.2.2.2.2.2.2.2.1 d.2.2.2.2.2.2.2.2.2.2.2.2.1 d.2.2.2.2.2.2.2.2.2.2.2.2.2.1 d.2.2.2.2.2.2.2.2.2.2.2.2.2.2.1 d.2.2.2.2.2.2.2.2.2.2.2.2.2.2.2.1 d.2.2.2.2.2.2.2.2.2.2.2.2.2.2.2.2.1 d.2.2.2.2.2.2.2.2.2.2.2.2.2.2.2.2.2.1 d.2.2.2.2.2.2.2.2.2.2.2.2.2.2.2.2.2.2.1 d.2.2.2.2.2.2.2.2.2.2.2.2.2.2.2.2.2.2.2.1 d.2.2.2.2.2.2.2.2.2.2.2.2.2.2.2.2.2.2.2.2.1 d.2.2.2.2.2.2.2.2.2.2.2.2.2.2.2.2.2.2.2.2.2.1 d.2.2.2.2.2.2.2.2.2.2.2.2.2.2.2.2.2.2.2.2.2.2.1 d.2.2.2.2.2.2.2.2.2.2.2.2.2.2.2.2.2.2.2.2.2.2.2.1 d.2.2.2.2.2.2.2.2.2.2.2.2.2.2.2.2.2.2.2.2.2.2.2.2.1 d.2.2.2.2.2.2.2.2.2.2.2.2.2.2.2.2.2.2.2.2.2.2.2.2.2.1 d.2.2.2.2.2.2.2.2.2.2.2.2.2.2.2.2.2.2.2.2.2.2.2.2.2.2.1 d.2.2.2.2.2.2.2.2.2.2.2.2.2.2.2.2.2.2.2.2.2.2.2.2.2.2.2.1 d.2.2.2.2.2.2.2.2.2.2.2.2.2.2.2.2.2.2.2.2.2.2.2.2.2.2.2.2.1 d.2.2.2.2.2.2.2.2.2.2.2.2.2.2.2.2.2.2.2.2.2.2.2.2.2.2.2.2.2.1 d.2.2.2.2.2.2.2.2.2.2.2.2.2.2.2.2.2.2.2.2.2.2.2.2.2.2.2.2.2.2
@[irreducible] noncomputable def w : World := skK.1
@[irreducible] noncomputable def p : Program := skK.2.1
@[irreducible] noncomputable def loose : List PySem.Str := skK.2.2.1
@[irreducible] noncomputable def mean : ExcName → Option Value := skK.2.2.2.1
@[irreducible] noncomputable def mg : PySem.Str → Option Value := skK.2.2.2.2.1
@[irreducible] noncomputable def mb : PySem.Str → Option Value := skK.2.2.2.2.2.1
@[irreducible] noncomputable def a : Nat := skK.2.2.2.2.2.2.1
@[irreducible] noncomputable def b : Nat := skK.2.2.2.2.2.2.2.1
@[irreducible] noncomputable def ta : Tok := skK.2.2.2.2.2.2.2.2.1
@[irreducible] noncomputable def tb : Tok := skK.2.2.2.2.2.2.2.2.2.1
@[irreducible] noncomputable def rest : List (Addr × Obj) := skK.2.2.2.2.2.2.2.2.2.2.1
@[irreducible] noncomputable def dp : Nat := skK.2.2.2.2.2.2.2.2.2.2.2.1
@[irreducible] noncomputable def un : Nat := skK.2.2.2.2.2.2.2.2.2.2.2.2.1
@[irreducible] noncomputable def gd : Option (List Code) := skK.2.2.2.2.2.2.2.2.2.2.2.2.2.1
@[irreducible] noncomputable def cn : PySem.Str := skK.2.2.2.2.2.2.2.2.2.2.2.2.2.2.1
@[irreducible] noncomputable def cs : Scope := skK.2.2.2.2.2.2.2.2.2.2.2.2.2.2.2.1
@[irreducible] noncomputable def a' : Addr := skK.2.2.2.2.2.2.2.2.2.2.2.2.2.2.2.2.1
@[irreducible] noncomputable def ccd : Value := skK.2.2.2.2.2.2.2.2.2.2.2.2.2.2.2.2.2.1
@[irreducible] noncomputable def cl : List (PySem.Str × Addr) := skK.2.2.2.2.2.2.2.2.2.2.2.2.2.2.2.2.2.2.1
@[irreducible] noncomputable def outer : List Env := skK.2.2.2.2.2.2.2.2.2.2.2.2.2.2.2.2.2.2.2.1
@[irreducible] noncomputable def A₀ : Around := skK.2.2.2.2.2.2.2.2.2.2.2.2.2.2.2.2.2.2.2.2.1
@[irreducible] noncomputable def base : Heap := skK.2.2.2.2.2.2.2.2.2.2.2.2.2.2.2.2.2.2.2.2.2.1
@[irreducible] noncomputable def h₀ : Heap := skK.2.2.2.2.2.2.2.2.2.2.2.2.2.2.2.2.2.2.2.2.2.2.1
@[irreducible] noncomputable def L : Addr := skK.2.2.2.2.2.2.2.2.2.2.2.2.2.2.2.2.2.2.2.2.2.2.2.1
@[irreducible] noncomputable def m : PySem.Str → Option Value := skK.2.2.2.2.2.2.2.2.2.2.2.2.2.2.2.2.2.2.2.2.2.2.2.2.1
@[irreducible] noncomputable def s : Shared := skK.2.2.2.2.2.2.2.2.2.2.2.2.2.2.2.2.2.2.2.2.2.2.2.2.2.1
@[irreducible] noncomputable def Q : Value → Shared → Prop := skK.2.2.2.2.2.2.2.2.2.2.2.2.2.2.2.2.2.2.2.2.2.2.2.2.2.2.1
@[irreducible] noncomputable def E : Value → Shared → Prop := skK.2.2.2.2.2.2.2.2.2.2.2.2.2.2.2.2.2.2.2.2.2.2.2.2.2.2.2.1
@[irreducible] noncomputable def g9 : Heap := skK.2.2.2.2.2.2.2.2.2.2.2.2.2.2.2.2.2.2.2.2.2.2.2.2.2.2.2.2.1
@[irreducible] noncomputable def L9 : Addr := skK.2.2.2.2.2.2.2.2.2.2.2.2.2.2.2.2.2.2.2.2.2.2.2.2.2.2.2.2.2.1
@[irreducible] noncomputable def h9 : Heap := skK.2.2.2.2.2.2.2.2.2.2.2.2.2.2.2.2.2.2.2.2.2.2.2.2.2.2.2.2.2.2
theorem skAll (hb : skP w p loose mean mg mb a b ta tb rest dp un gd cn cs a' ccd cl outer A₀ base h₀ L m s Q E g9 L9 h9) : ∀ (y0 : World) (y1 : Program) (y2 : List PySem.Str) (y3 : ExcName → Option Value) (y4 : PySem.Str → Option Value) (y5 : PySem.Str → Option Value) (y6 : Nat) (y7 : Nat) (y8 : Tok) (y9 : Tok) (y10 : List (Addr × Obj)) (y11 : Nat) (y12 : Nat) (y13 : Option (List Code)) (y14 : PySem.Str) (y15 : Scope) (y16 : Addr) (y17 : Value) (y18 : List (PySem.Str × Addr)) (y19 : List Env) (y20 : Around) (y21 : Heap) (y22 : Heap) (y23 : Addr) (y24 : PySem.Str → Option Value) (y25 : Shared) (y26 : Value → Shared → Prop) (y27 : Value → Shared → Prop) (y28 : Heap) (y29 : Addr) (y30 : Heap), skP y0 y1 y2 y3 y4 y5 y6 y7 y8 y9 y10 y11 y12 y13 y14 y15 y16 y17 y18 y19 y20 y21 y22 y23 y24 y25 y26 y27 y28 y29 y30 := by
  intro y0 y1 y2 y3 y4 y5 y6 y7 y8 y9 y10 y11 y12 y13 y14 y15 y16 y17 y18 y19 y20 y21 y22 y23 y24 y25 y26 y27 y28 y29 y30
  refine Classical.byContradiction fun hn => ?_
  have h1 := @Classical.epsilon_spec skD (fun d => ¬ skP d.1 d.2.1 d.2.2.1 d.2.2.2.1 d.2.2.2.2.1 d.2.2.2.2.2.1 d.2.2.2.2.2.2.1 d.2.2.2.2.2.2.2.1 d.2.2.2.2.2.2.2.2.1 d.2.2.2.2.2.2.2.2.2.1 d.2.2.2.2.2.2.2.2.2.2.1 d.2.2.2.2.2.2.2.2.2.2.2.1 d.2.2.2.2.2.2.2.2.2.2.2.2.1 d.2.2.2.2.2.2.2.2.2.2.2.2.2.1 d.2.2.2.2.2.2.2.2.2.2.2.2.2.2.1 d.2.2.2.2.2.2.2.2.2.2.2.2.2.2.2.1 d.2.2.2.2.2.2.2.2.2.2.2.2.2.2.2.2.1 d.2.2.2.2.2.2.2.2.2.2.2.2.2.2.2.2.2.1 d.2.2.2.2.2.2.2.2.2.2.2.2.2.2.2.2.2.2.1 d.2.2.2.2.2.2.2.2.2.2.2.2.2.2.2.2.2.2.2.1 d.2.2.2.2.2.2.2.2.2.2.2.2.2.2.2.2.2.2.2.2.1 d.2.2.2.2.2.2.2.2.2.2.2.2.2.2.2.2.2.2.2.2.2.1 d.2.2.2.2.2.2.2.2.2.2.2.2.2.2.2.2.2.2.2.2.2.2.1 d.2.2.2.2.2.2.2.2.2.2.2.2.2.2.2.2.2.2.2.2.2.2.2.1 d.2.2.2.2.2.2.2.2.2.2.2.2.2.2.2.2.2.2.2.2.2.2.2.2.1 d.2.2.2.2.2.2.2.2.2.2.2.2.2.2.2.2.2.2.2.2.2.2.2.2.2.1 d.2.2.2.2.2.2.2.2.2.2.2.2.2.2.2.2.2.2.2.2.2.2.2.2.2.2.1 d.2.2.2.2.2.2.2.2.2.2.2.2.2.2.2.2.2.2.2.2.2.2.2.2.2.2.2.1 d.2.2.2.2.2.2.2.2.2.2.2.2.2.2.2.2.2.2.2.2.2.2.2.2.2.2.2.2.1 d.2.2.2.2.2.2.2.2.2.2.2.2.2.2.2.2.2.2.2.2.2.2.2.2.2.2.2.2.2.1 d.2.2.2.2.2.2.2.2.2.2.2.2.2.2.2.2.2.2.2.2.2.2.2.2.2.2.2.2.2.2) ⟨(y0, y1, y2, y3, y4, y5, y6, y7, y8, y9, y10, y11, y12, y13, y14, y15, y16, y17, y18, y19, y20, y21, y22, y23, y24, y25, y26, y27, y28, y29, y30), hn⟩
  delta w p loose mean mg mb a b ta tb rest dp un gd cn cs a' ccd cl outer A₀ base h₀ L m s Q E g9 L9 h9 at hb
  delta skK at hb
  exact h1 hb
theorem skBody : skP w p loose mean mg mb a b ta tb rest dp un gd cn cs a' ccd cl outer A₀ base h₀ L m s Q E g9 L9 h9 := by
  unfold skP CtrG premOf3
  intro hd ha hb hab hb2 hr
  intro B F X N T hk hdp hu hret
  revert X; k_fill; intro X
  have S : Sp h₀ L s.heap (secs none) rest := ⟨news_sub N (fun p hp => List.mem_append_left _ hp), news_sub N (fun p hp => List.mem_append_right _ hp), hr⟩
  have hAB := bl_mul hab
  have hn0 := bl_pos hb
  have hA2 : BL b * cntOf a b ≤ 2 ^ 20 := by have := cnt_mul (a := a) (b := b); lia
  have hA3 : Builtin.Int.intBits (a : Int) ≤ 2 ^ 20 := by dsimp only [BL] at *; lia
  have hcl := cnt_le hb hAB
  have hc0 := cnt_pos ha hb
  k_with "now" => have kNow7 : True := trivial
  k_with "side" => ((fail_if_success (fail_if_success (k_extra "now"; clear kNow7))); first | exact dm_side1 (by with_reducible assumption) (by with_reducible assumption) (by with_reducible assumption) | exact dm_side2 (by with_reducible assumption) (by with_reducible assumption) (by with_reducible assumption) | exact dm_len (by with_reducible assumption) (by with_reducible assumption) hcl | exact dm_side3 (by with_reducible assumption) (by with_reducible assumption) (by with_reducible assumption))
  k_with "state" => ((fail_if_success (fail_if_success (k_extra "now"; clear kNow7))); exact dm_turn (by with_reducible assumption) (by with_reducible assumption))
  k_with "ov LShift" => ((fail_if_success (fail_if_success (k_extra "now"; clear kNow7))); (refine PyProof.Rows.lshift_int (by lia) (by walk_at "side") ?_))
  dsimp only [secs] at S
  intro FG' F' N' B' X' T' l1 l2 l3
  (try k_lt l1); (try dsimp only); (try k_fold)
  k_steps
  k_dflt (refine' Ctr.use ?B1 ?F1 ?X1 ?N1 ?T1 ?k1 ?d1 ?u1 (c_i2d a (BL b) (cntOf a b) _ _ none [(59, tabObj #[])] True.intro ha hn0 hA2 hA3 (cnt_fdiv hb) hc0 hcl (cnt_top hb) (by decide)) ?_)
  case B1 => k_asm
  case F1 => k_asm
  case X1 => k_asm
  case N1 => k_asm
  case T1 => k_asm
  case k1 => first | exact rfl | assumption
  case d1 => ktr_room
  case u1 => ktr_units
  intro B1 v1 h1 tk1 n1 hB1 hL1 R1 F1 N1
  obtain ⟨D1, vs1, c1, oc1, e1, hi1, hs1, e2, ap1, ap2, ap3⟩ := R1
  subst e1; subst e2
  dsimp only [sec52, List.cons_append, List.nil_append] at N1
  dsimp only [sec52, List.cons_append, List.nil_append] at hB1
  k_lt hB1
  have ap1 := ap1.resolve_right (by intro h; cases h)
  k_sweep
  try k_fold
  k_steps
  (rename Fr _ _ _ _ => lF9)
  (rename News _ _ _ ((_, revObj _ _) :: _) => lN9)
  refine dm_loop [PySem.Str.ofString "q_digit"] (DM a b (BL b) (cntOf a b)) rfl hi1 lF9 lN9 (neN (by lia)) (neN (by lia)) (neN (by lia)) (by k_all) (by k_all) rfl (dm_start hb (cnt_top hb)) ?_ ?_
  · intro r tr qs qvs ep pre post d t u h9 tk9 own hEq hOff hQ hDM F9 N9
    have kMark := kstMark
    simp only [List.cons_append, List.nil_append] at N9
    simp only [List.map_cons, List.map_nil] at hOff
    clear lF9 lN9
    try k_fold
    k_steps
  · intro r tr qs qvs ep u h9 tk9 hQ hDM F9 N9
    clear lF9 lN9
    obtain ⟨R, Qs, eR, eQ, hR, hV, hlen, hq⟩ := dm_done hDM
    subst hR; subst eR; subst eQ
    have hQl : (Qs.map fun q : Nat => (q : Int)).length ≤ 1000 := by rw [List.length_map]; lia
    have hQr : IntsAre qvs.reverse (Qs.reverse.map fun q : Nat => (q : Int)) := by rw [List.map_reverse]; exact hQ.reverse
    try k_fold
    k_steps
    k_dflt (refine' Ctr.use ?B2 ?F2 ?X2 ?N2 ?T2 ?k2 ?d2 ?u2 (c_d2i Qs.reverse (BL b) _ qvs.reverse ep _ none [(52, tabObj #[rawInt (86 : Nat), rawInt (4 : Nat), .ref c1]), (c1, oc1)] True.intro hQr hn0 (by rw [List.length_reverse, hlen]; exact hA2) (by rw [List.length_reverse, hlen]; exact hc0) (by rw [List.length_reverse, hlen]; exact hcl) (fun q hq' => hq q (List.mem_reverse.mp hq')) (by intro q hq p hp; simp only [sec52, sec59, List.mem_cons, List.not_mem_nil, or_false, List.cons_append, List.nil_append] at hq hp; rcases hq with rfl | rfl <;> rcases hp with rfl | rfl <;> exact neN (by dsimp only; lia)) (ltN (by omega)) (fun x h => by cases h)) ?_)
    case B2 => k_asm
    case F2 => k_asm
    case X2 => k_asm
    case N2 => (refine news_sub (by k_asm) ?_; (try dsimp only [sec52, sec59, secs, List.cons_append, List.nil_append]); walk_at "allIn")
    case T2 => k_asm
    case k2 => first | exact rfl | assumption
    case d2 => ktr_room
    case u2 => ktr_units
    intro B2 v2 h2 tk2 n2 hB2 hL2 R2 F2 N2
    obtain ⟨c2, oc2, ⟨t2, e3⟩, hs2, e4, ap4⟩ := R2
    subst e3; subst e4
    rw [valN_rev (BL b) (valN (BL b)) rfl (fun _ _ => rfl), hV]
    dsimp only [sec59, List.cons_append, List.nil_append] at N2 hB2
    k_lt hB2
    have ap4 := ap4.resolve_right (by intro h; cases h)
    k_sweep
    try k_fold
    k_steps
    (rename News _ _ _ (_ :: _) => hN9)
    refine hret _ _ _ _ ⟨_, (c1, oc1), (c2, oc2), _, _, rfl, rfl, ⟨hs1, hs2, ?_⟩, leN (by lia), neN (by dsimp only; lia), neN (by dsimp only; lia), ?_, ?_⟩ (by assumption) (news_app (news_sub hN9 (by dsimp only [sec52, sec59, secs, List.cons_append, List.nil_append]; walk_at "allIn")) (by assumption))
    · refine ⟨neN (by dsimp only; lia), neN (by dsimp only; lia), neN (by dsimp only; lia), neN (by dsimp only; lia), neN (by dsimp only; lia)⟩
    · exact Or.inl (leN (by dsimp only; lia))
    · exact Or.inl (leN (by dsimp only; lia))
end sk_c_dmpos_n
section
variable {w : World} {p : Program} {loose : List Str} {mean : ExcName → Option Value} {mg mb : Str → Option Value}
theorem c_dmpos_n (a b : Nat) (ta tb : Tok)  (rest : List (Addr × Obj)) (hd : secsOk none) (ha : 0 < a) (hb : 0 < b) (hab : a < b * 2 ^ 60) (hb2 : BL b ≤ 50000)
   (hr : ∀ q ∈ rest, ∀ p ∈ secs none, q.1 ≠ p.1) :
    Ctr w p loose mean mg mb 220 3000 71 [.int a ta, .int b tb] (secs none ++ rest) (fun B v n' => ∃ D x y t u, v = .ref D ∧ n' = (D, { cls := .type "tuple", data := .seq #[.int ((a / b : Nat) : Int) t, .int ((a % b : Nat) : Int) u] }) :: secs (some (x, y)) ++ rest ∧
      secsOk (some (x, y)) ∧ @LE.le Nat _ B D ∧ @Ne Nat x.1 D ∧ @Ne Nat y.1 D ∧ (@LE.le Nat _ B x.1 ∨ ∃ y' : Addr × Obj, none = some (x, y')) ∧ (@LE.le Nat _ B y.1 ∨ ∃ x' : Addr × Obj, none = some (x', y))) := by
  intro dp un gd cn cs a' ccd cl outer A₀ base h₀ L m s Q E
  intro B F X N T hk hdp hu hret
  have X0 := X
  revert X; k_fill; intro X
  have S : Sp h₀ L s.heap (secs none) rest := ⟨news_sub N (fun p hp => List.mem_append_left _ hp), news_sub N (fun p hp => List.mem_append_right _ hp), hr⟩
  have hAB := bl_mul hab
  have hn0 := bl_pos hb
  have hA2 : BL b * cntOf a b ≤ 2 ^ 20 := by have := cnt_mul (a := a) (b := b); lia
  have hA3 : Builtin.Int.intBits (a : Int) ≤ 2 ^ 20 := by dsimp only [BL] at *; lia
  have hcl := cnt_le hb hAB
  have hc0 := cnt_pos ha hb
  dsimp only [secs] at S
  walk_at "enterS"
  intro g9 L9 h9
  exact sk_c_dmpos_n.skAll sk_c_dmpos_n.skBody w p loose mean mg mb a b ta tb rest dp un gd cn cs a' ccd cl outer A₀ base h₀ L m s Q E g9 L9 h9 hd ha hb hab hb2 hr B F X0 N T hk hdp hu hret

end
namespace sk_c_dmpos_s
abbrev skD : Type := (World) × (Program) × (List PySem.Str) × (ExcName → Option Value) × (PySem.Str → Option Value) × (PySem.Str → Option Value) × (Nat) × (Nat) × (Tok) × (Tok) × (Addr) × (Obj) × (Addr) × (Obj) × (List (Addr × Obj)) × (Nat) × (Nat) × (Option (List Code)) × (PySem.Str) × (Scope) × (Addr) × (Value) × (List (PySem.Str × Addr)) × (List Env) × (Around) × (Heap) × (Heap) × (Addr) × (PySem.Str → Option Value) × (Shared) × (Value → Shared → Prop) × (Value → Shared → Prop) × (Heap) × (Addr) × (Heap)
def skP (w : World) (p : Program) (loose : List PySem.Str) (mean : ExcName → Option Value) (mg : PySem.Str → Option Value) (mb : PySem.Str → Option Value) (a : Nat) (b : Nat) (ta : Tok) (tb : Tok) (c : Addr) (oc : Obj) (e : Addr) (oe : Obj) (rest : List (Addr × Obj)) (dp : Nat) (un : Nat) (gd : Option (List Code)) (cn : PySem.Str) (cs : Scope) (a' : Addr) (ccd : Value) (cl : List (PySem.Str × Addr)) (outer : List Env) (A₀ : Around) (base : Heap) (h₀ : Heap) (L : Addr) (m : PySem.Str → Option Value) (s : Shared) (Q : Value → Shared → Prop) (E : Value → Shared → Prop) (g9 : Heap) (L9 : Addr) (h9 : Heap) : Prop := ∀ (hd : secsOk (some ((c, oc), (e, oe)))) (ha : 0 < a) (hb : 0 < b) (hab : a < b * 2 ^ 60) (hb2 : BL b ≤ 50000) (hr : ∀ q ∈ rest, ∀ p ∈ secs (some ((c, oc), (e, oe))), q.1 ≠ p.1),
    CtrG w p loose mean mg mb 220 3000 71 [.int a ta, .int b tb] (secs (some ((c, oc), (e, oe))) ++ rest) (fun B v n' => ∃ D x y t u, v = .ref D ∧ n' = (D, { cls := .type "tuple", data := .seq #[.int ((a / b : Nat) : Int) t, .int ((a % b : Nat) : Int) u] }) :: secs (some (x, y)) ++ rest ∧
      secsOk (some (x, y)) ∧ @LE.le Nat _ B D ∧ @Ne Nat x.1 D ∧ @Ne Nat y.1 D ∧ (@LE.le Nat _ B x.1 ∨ ∃ y' : Addr × Obj, (some ((c, oc), (e, oe))) = some (x, y')) ∧ (@LE.le Nat _ B y.1 ∨ ∃ x' : Addr × Obj, (some ((c, oc), (e, oe))) = some (x', y))) dp un gd cn cs a' ccd cl outer A₀ base h₀ L m s Q E (premOf3 (B := CtrAt w p loose mean mg mb 220 3000 71 [.int a ta, .int b tb] (secs (some ((c, oc), (e, oe))) ++ rest) (fun B v n' => ∃ D x y t u, v = .ref D ∧ n' = (D, { cls := .type "tuple", data := .seq #[.int ((a / b : Nat) : Int) t, .int ((a % b : Nat) : Int) u] }) :: secs (some (x, y)) ++ rest ∧
      secsOk (some (x, y)) ∧ @LE.le Nat _ B D ∧ @Ne Nat x.1 D ∧ @Ne Nat y.1 D ∧ (@LE.le Nat _ B x.1 ∨ ∃ y' : Addr × Obj, (some ((c, oc), (e, oe))) = some (x, y')) ∧ (@LE.le Nat _ B y.1 ∨ ∃ x' : Addr × Obj, (some ((c, oc), (e, oe))) = some (x', y))) dp un gd cn cs a' ccd cl outer A₀ base h₀ L m s Q E) (by
      intro hh
      unfold CtrAt
      intro B F X N T hk hdp hu hret
      revert X; k_fill; intro X
      have S : Sp h₀ L s.heap (secs (some ((c, oc), (e, oe)))) rest := ⟨news_sub N (fun p hp => List.mem_append_left _ hp), news_sub N (fun p hp => List.mem_append_right _ hp), hr⟩
      have hAB := bl_mul hab
      have hn0 := bl_pos hb
      have hA2 : BL b * cntOf a b ≤ 2 ^ 20 := by have := cnt_mul (a := a) (b := b); lia
      have hA3 : Builtin.Int.intBits (a : Int) ≤ 2 ^ 20 := by dsimp only [BL] at *; lia
      have hcl := cnt_le hb hAB
      have hc0 := cnt_pos ha hb
      have hd0 := hd
      obtain ⟨hk1, hk2, hk3, hk4, hk5, hk6, hk7⟩ := hd0
      dsimp only at hk3 hk4 hk5 hk6 hk7
      dsimp only [secs, sec52, sec59, List.cons_append, List.nil_append] at S
      walk_at "enterS"
      exact hh) g9 L9 h9)
theorem skN : Nonempty skD := ⟨(Classical.choice neWorld, default, default, default, default, default, default, default, default, default, default, default, default, default, default, default, default, default, default, default, default, default, default, default, ({} : Around), default, default, default, default, ({} : Shared), default, default, default, default, default)⟩
@[irreducible] noncomputable def skK : skD := @Classical.epsilon skD skN fun d => ¬ skP d.1 d.2.1 d.2.2.1 d.2.2.2.1 d.2.2.2.2.1 d.2.2.2.2.2.1 d.2.2.2.2.2.2.1 d.2.2.2.2.2.2.2.1 d.2.2.2.2.2.2.2.2.1 d.2.2.2.2.2.2.2.2.2.1 d.2.2.2.2.2.2.2.2.2.2.1 d.2.2.2.2.2.2.2.2.2.2.2.1 d.2.2.2.2.2.2.2.2.2.2.2.2.1 d.2.2.2.2.2.2.2.2.2.2.2.2.2.1 d.2.2.2.2.2.2.2.2.2.2.2.2.2.2.1 d.2.2.2.2.2.2.2.2.2.2.2.2.2.2.2.1 d.2.2.2.2.2.2.2.2.2.2.2.2.2.2.2.2.1 d.2.2.2.2.2.2.2.2.2.2.2.2.2.2.2.2.2.1 d.2.2.2.2.2.2.2.2.2.2.2.2.2.2.2.2.2.2.1 d.2.2.2.2.2.2.2.2.2.2.2.2.2.2.2.2.2.2.2.1 d.2.2.2.2.2.2.2.2.2.2.2.2.2.2.2.2.2.2.2.2.1 d.2.2.2.2.2.2.2.2.2.2.2.2.2.2.2.2.2.2.2.2.2.1 d.2.2.2.2.2.2.2.2.2.2.2.2.2.2.2.2.2.2.2.2.2.2.1 d.2.2.2.2.2.2.2.2.2.2.2.2.2.2.2.2.2.2.2.2.2.2.2.1 d.2.2.2.2.2.2.2.2.2.2.2.2.2.2.2.2.2.2.2.2.2.2.2.2.1 d.2.2.2.2.2.2.2.2.2.2.2.2.2.2.2.2.2.2.2.2.2.2.2.2.2.1 d.2.2.2.2.2.2.2.2.2.2.2.2.2.2.2.2.2.2.2.2.2.2.2.2.2.2.1 d.2.2.2.2.2.2.2.2.2.2.2.2.2.2.2.2.2.2.2.2.2.2.2.2.2.2.2.1 d.2.2.2.2.2.2.2.2.2.2.2.2.2.2.2.2.2.2.2.2.2.2.2.2.2.2.2.2.1 d.2.2.2.2.2.2.2.2.2.2.2.2.2.2.2.2.2.2.2.2.2.2.2.2.2.2.2.2.2.1 d.2.2.2.2.2.2.2.2.2.2.2.2.2.2.2.2.2.2.2.2.2.2.2.2.2.2.2.2.2.2.1 d.2.2.2.2.2.2.2.2.2.2.2.2.2.2.2.2.2.2.2.2.2.2.2.2.2.2.2.2.2.2.2.1 d.2.2.2.2.2.2.2.2.2.2.2.2.2.2.2.2.2.2.2.2.2.2.2.2.2.2.2.2.2.2.2.2.1 d.2.2.2.2.2.2.2.2.2.2.2.2.2.2.2.2.2.2.2.2.2.2.2.2.2.2.2.2.2.2.2.2.2.1 d.2.2.2.2.2.2.2.2.2.2.2.2.2.2.2.2.2.2.2.2.2.2.2.2.2.2.2.2.2.2.2.2.2.2
@[irreducible] noncomputable def w : World := skK.1
@[irreducible] noncomputable def p : Program := skK.2.1
@[irreducible] noncomputable def loose : List PySem.Str := skK.2.2.1
@[irreducible] noncomputable def mean : ExcName → Option Value := skK.2.2.2.1
@[irreducible] noncomputable def mg : PySem.Str → Option Value := skK.2.2.2.2.1
@[irreducible] noncomputable def mb : PySem.Str → Option Value := skK.2.2.2.2.2.1
@[irreducible] noncomputable def a : Nat := skK.2.2.2.2.2.2.1
@[irreducible] noncomputable def b : Nat := skK.2.2.2.2.2.2.2.1
@[irreducible] noncomputable def ta : Tok := skK.2.2.2.2.2.2.2.2.1
@[irreducible] noncomputable def tb : Tok := skK.2.2.2.2.2.2.2.2.2.1
@[irreducible] noncomputable def c : Addr := skK.2.2.2.2.2.2.2.2.2.2.1
@[irreducible] noncomputable def oc : Obj := skK.2.2.2.2.2.2.2.2.2.2.2.1
@[irreducible] noncomputable def e : Addr := skK.2.2.2.2.2.2.2.2.2.2.2.2.1
@[irreducible] noncomputable def oe : Obj := skK.2.2.2.2.2.2.2.2.2.2.2.2.2.1
@[irreducible] noncomputable def rest : List (Addr × Obj) := skK.2.2.2.2.2.2.2.2.2.2.2.2.2.2.1
@[irreducible] noncomputable def dp : Nat := skK.2.2.2.2.2.2.2.2.2.2.2.2.2.2.2.1
@[irreducible] noncomputable def un : Nat := skK.2.2.2.2.2.2.2.2.2.2.2.2.2.2.2.2.1
@[irreducible] noncomputable def gd : Option (List Code) := skK.2.2.2.2.2.2.2.2.2.2.2.2.2.2.2.2.2.1
@[irreducible] noncomputable def cn : PySem.Str := skK.2.2.2.2.2.2.2.2.2.2.2.2.2.2.2.2.2.2.1
@[irreducible] noncomputable def cs : Scope := skK.2.2.2.2.2.2.2.2.2.2.2.2.2.2.2.2.2.2.2.1
@[irreducible] noncomputable def a' : Addr := skK.2.2.2.2.2.2.2.2.2.2.2.2.2.2.2.2.2.2.2.2.1
@[irreducible] noncomputable def ccd : Value := skK.2.2.2.2.2.2.2.2.2.2.2.2.2.2.2.2.2.2.2.2.2.1
@[irreducible] noncomputable def cl : List (PySem.Str × Addr) := skK.2.2.2.2.2.2.2.2.2.2.2.2.2.2.2.2.2.2.2.2.2.2.1
@[irreducible] noncomputable def outer : List Env := skK.2.2.2.2.2.2.2.2.2.2.2.2.2.2.2.2.2.2.2.2.2.2.2.1
@[irreducible] noncomputable def A₀ : Around := skK.2.2.2.2.2.2.2.2.2.2.2.2.2.2.2.2.2.2.2.2.2.2.2.2.1
@[irreducible] noncomputable def base : Heap := skK.2.2.2.2.2.2.2.2.2.2.2.2.2.2.2.2.2.2.2.2.2.2.2.2.2.1
@[irreducible] noncomputable def h₀ : Heap := skK.2.2.2.2.2.2.2.2.2.2.2.2.2.2.2.2.2.2.2.2.2.2.2.2.2.2.1
@[irreducible] noncomputable def L : Addr := skK.2.2.2.2.2.2.2.2.2.2.2.2.2.2.2.2.2.2.2.2.2.2.2.2.2.2.2.1
@[irreducible] noncomputable def m : PySem.Str → Option Value := skK.2.2.2.2.2.2.2.2.2.2.2.2.2.2.2.2.2.2.2.2.2.2.2.2.2.2.2.2.1
@[irreducible] noncomputable def s : Shared := skK.2.2.2.2.2.2.2.2.2.2.2.2.2.2.2.2.2.2.2.2.2.2.2.2.2.2.2.2.2.1
@[irreducible] noncomputable def Q : Value → Shared → Prop := skK.2.2.2.2.2.2.2.2.2.2.2.2.2.2.2.2.2.2.2.2.2.2.2.2.2.2.2.2.2.2.1
@[irreducible] noncomputable def E : Value → Shared → Prop := skK.2.2.2.2.2.2.2.2.2.2.2.2.2.2.2.2.2.2.2.2.2.2.2.2.2.2.2.2.2.2.2.1
@[irreducible] noncomputable def g9 : Heap := skK.2.2.2.2.2.2.2.2.2.2.2.2.2.2.2.2.2.2.2.2.2.2.2.2.2.2.2.2.2.2.2.2.1
@[irreducible] noncomputable def L9 : Addr := skK.2.2.2.2.2.2.2.2.2.2.2.2.2.2.2.2.2.2.2.2.2.2.2.2.2.2.2.2.2.2.2.2.2.1
@[irreducible] noncomputable def h9 : Heap := skK.2.2.2.2.2.2.2.2.2.2.2.2.2.2.2.2.2.2.2.2.2.2.2.2.2.2.2.2.2.2.2.2.2.2
theorem skAll (hb : skP w p loose mean mg mb a b ta tb c oc e oe rest dp un gd cn cs a' ccd cl outer A₀ base h₀ L m s Q E g9 L9 h9) : ∀ (y0 : World) (y1 : Program) (y2 : List PySem.Str) (y3 : ExcName → Option Value) (y4 : PySem.Str → Option Value) (y5 : PySem.Str → Option Value) (y6 : Nat) (y7 : Nat) (y8 : Tok) (y9 : Tok) (y10 : Addr) (y11 : Obj) (y12 : Addr) (y13 : Obj) (y14 : List (Addr × Obj)) (y15 : Nat) (y16 : Nat) (y17 : Option (List Code)) (y18 : PySem.Str) (y19 : Scope) (y20 : Addr) (y21 : Value) (y22 : List (PySem.Str × Addr)) (y23 : List Env) (y24 : Around) (y25 : Heap) (y26 : Heap) (y27 : Addr) (y28 : PySem.Str → Option Value) (y29 : Shared) (y30 : Value → Shared → Prop) (y31 : Value → Shared → Prop) (y32 : Heap) (y33 : Addr) (y34 : Heap), skP y0 y1 y2 y3 y4 y5 y6 y7 y8 y9 y10 y11 y12 y13 y14 y15 y16 y17 y18 y19 y20 y21 y22 y23 y24 y25 y26 y27 y28 y29 y30 y31 y32 y33 y34 := by
  intro y0 y1 y2 y3 y4 y5 y6 y7 y8 y9 y10 y11 y12 y13 y14 y15 y16 y17 y18 y19 y20 y21 y22 y23 y24 y25 y26 y27 y28 y29 y30 y31 y32 y33 y34
  refine Classical.byContradiction fun hn => ?_
  have h1 := @Classical.epsilon_spec skD (fun d => ¬ skP d.1 d.2.1 d.2.2.1 d.2.2.2.1 d.2.2.2.2.1 d.2.2.2.2.2.1 d.2.2.2.2.2.2.1 d.2.2.2.2.2.2.2.1 d.2.2.2.2.2.2.2.2.1 d.2.2.2.2.2.2.2.2.2.1 d.2.2.2.2.2.2.2.2.2.2.1 d.2.2.2.2.2.2.2.2.2.2.2.1 d.2.2.2.2.2.2.2.2.2.2.2.2.1 d.2.2.2.2.2.2.2.2.2.2.2.2.2.1 d.2.2.2.2.2.2.2.2.2.2.2.2.2.2.1 d.2.2.2.2.2.2.2.2.2.2.2.2.2.2.2.1 d.2.2.2.2.2.2.2.2.2.2.2.2.2.2.2.2.1 d.2.2.2.2.2.2.2.2.2.2.2.2.2.2.2.2.2.1 d.2.2.2.2.2.2.2.2.2.2.2.2.2.2.2.2.2.2.1 d.2.2.2.2.2.2.2.2.2.2.2.2.2.2.2.2.2.2.2.1 d.2.2.2.2.2.2.2.2.2.2.2.2.2.2.2.2.2.2.2.2.1 d.2.2.2.2.2.2.2.2.2.2.2.2.2.2.2.2.2.2.2.2.2.1 d.2.2.2.2.2.2.2.2.2.2.2.2.2.2.2.2.2.2.2.2.2.2.1 d.2.2.2.2.2.2.2.2.2.2.2.2.2.2.2.2.2.2.2.2.2.2.2.1 d.2.2.2.2.2.2.2.2.2.2.2.2.2.2.2.2.2.2.2.2.2.2.2.2.1 d.2.2.2.2.2.2.2.2.2.2.2.2.2.2.2.2.2.2.2.2.2.2.2.2.2.1 d.2.2.2.2.2.2.2.2.2.2.2.2.2.2.2.2.2.2.2.2.2.2.2.2.2.2.1 d.2.2.2.2.2.2.2.2.2.2.2.2.2.2.2.2.2.2.2.2.2.2.2.2.2.2.2.1 d.2.2.2.2.2.2.2.2.2.2.2.2.2.2.2.2.2.2.2.2.2.2.2.2.2.2.2.2.1 d.2.2.2.2.2.2.2.2.2.2.2.2.2.2.2.2.2.2.2.2.2.2.2.2.2.2.2.2.2.1 d.2.2.2.2.2.2.2.2.2.2.2.2.2.2.2.2.2.2.2.2.2.2.2.2.2.2.2.2.2.2.1 d.2.2.2.2.2.2.2.2.2.2.2.2.2.2.2.2.2.2.2.2.2.2.2.2.2.2.2.2.2.2.2.1 d.2.2.2.2.2.2.2.2.2.2.2.2.2.2.2.2.2.2.2.2.2.2.2.2.2.2.2.2.2.2.2.2.1 d.2.2.2.2.2.2.2.2.2.2.2.2.2.2.2.2.2.2.2.2.2.2.2.2.2.2.2.2.2.2.2.2.2.1 d.2.2.2.2.2.2.2.2.2.2.2.2.2.2.2.2.2.2.2.2.2.2.2.2.2.2.2.2.2.2.2.2.2.2) ⟨(y0, y1, y2, y3, y4, y5, y6, y7, y8, y9, y10, y11, y12, y13, y14, y15, y16, y17, y18, y19, y20, y21, y22, y23, y24, y25, y26, y27, y28, y29, y30, y31, y32, y33, y34), hn⟩
  delta w p loose mean mg mb a b ta tb c oc e oe rest dp un gd cn cs a' ccd cl outer A₀ base h₀ L m s Q E g9 L9 h9 at hb
  delta skK at hb
  exact h1 hb
theorem skBody : skP w p loose mean mg mb a b ta tb c oc e oe rest dp un gd cn cs a' ccd cl outer A₀ base h₀ L m s Q E g9 L9 h9 := by
  unfold skP CtrG premOf3
  intro hd ha hb hab hb2 hr
  intro B F X N T hk hdp hu hret
  revert X; k_fill; intro X
  have S : Sp h₀ L s.heap (secs (some ((c, oc), (e, oe)))) rest := ⟨news_sub N (fun p hp => List.mem_append_left _ hp), news_sub N (fun p hp => List.mem_append_right _ hp), hr⟩
  have hAB := bl_mul hab
  have hn0 := bl_pos hb
  have hA2 : BL b * cntOf a b ≤ 2 ^ 20 := by have := cnt_mul (a := a) (b := b); lia
  have hA3 : Builtin.Int.intBits (a : Int) ≤ 2 ^ 20 := by dsimp only [BL] at *; lia
  have hcl := cnt_le hb hAB
  have hc0 := cnt_pos ha hb
  k_with "now" => have kNow8 : True := trivial
  k_with "side" => ((fail_if_success (fail_if_success (k_extra "now"; clear kNow8))); first | exact dm_side1 (by with_reducible assumption) (by with_reducible assumption) (by with_reducible assumption) | exact dm_side2 (by with_reducible assumption) (by with_reducible assumption) (by with_reducible assumption) | exact dm_len (by with_reducible assumption) (by with_reducible assumption) hcl | exact dm_side3 (by with_reducible assumption) (by with_reducible assumption) (by with_reducible assumption))
  k_with "state" => ((fail_if_success (fail_if_success (k_extra "now"; clear kNow8))); exact dm_turn (by with_reducible assumption) (by with_reducible assumption))
  k_with "ov LShift" => ((fail_if_success (fail_if_success (k_extra "now"; clear kNow8))); (refine PyProof.Rows.lshift_int (by lia) (by walk_at "side") ?_))
  have hd0 := hd
  obtain ⟨hk1, hk2, hk3, hk4, hk5, hk6, hk7⟩ := hd0
  dsimp only at hk3 hk4 hk5 hk6 hk7
  dsimp only [secs, sec52, sec59, List.cons_append, List.nil_append] at S
  intro FG' F' N' B' X' T' l1 l2 l3
  (try k_lt l1); (try dsimp only); (try k_fold)
  k_steps
  k_dflt (refine' Ctr.use ?B3 ?F3 ?X3 ?N3 ?T3 ?k3 ?d3 ?u3 (c_i2d a (BL b) (cntOf a b) _ _ (some (c, oc)) [(59, tabObj #[rawInt (101 : Nat), rawInt (4 : Nat), .ref e]), (e, oe)] hk1 ha hn0 hA2 hA3 (cnt_fdiv hb) hc0 hcl (cnt_top hb) (by intro q hq p hp; simp only [sec52, sec59, List.mem_cons, List.not_mem_nil, or_false, List.cons_append, List.nil_append] at hq hp; rcases hq with rfl | rfl <;> rcases hp with rfl | rfl <;> exact neN (by dsimp only; lia))) ?_)
  case B3 => k_asm
  case F3 => k_asm
  case X3 => k_asm
  case N3 => k_asm
  case T3 => k_asm
  case k3 => first | exact rfl | assumption
  case d3 => ktr_room
  case u3 => ktr_units
  intro B1 v1 h1 tk1 n1 hB1 hL1 R1 F1 N1
  obtain ⟨D1, vs1, c1, oc1, e1, hi1, hs1, e2, ap1, ap2, ap3⟩ := R1
  subst e1; subst e2
  dsimp only [sec52, List.cons_append, List.nil_append] at N1
  dsimp only [sec52, List.cons_append, List.nil_append] at hB1
  k_lt hB1
  have hc1 : @Ne Nat c1 59 ∧ @Ne Nat c1 52 ∧ @Ne Nat c1 e := by rcases ap1 with h | h; exact ⟨by lia, by lia, by lia⟩; cases h; exact ⟨hk4, hk5, hk3⟩
  k_sweep
  try k_fold
  k_steps
  (rename Fr _ _ _ _ => lF9)
  (rename News _ _ _ ((_, revObj _ _) :: _) => lN9)
  refine dm_loop [PySem.Str.ofString "q_digit"] (DM a b (BL b) (cntOf a b)) rfl hi1 lF9 lN9 (neN (by lia)) (neN (by lia)) (neN (by lia)) (by k_all) (by k_all) rfl (dm_start hb (cnt_top hb)) ?_ ?_
  · intro r tr qs qvs ep pre post d t u h9 tk9 own hEq hOff hQ hDM F9 N9
    have kMark := kstMark
    simp only [List.cons_append, List.nil_append] at N9
    simp only [List.map_cons, List.map_nil] at hOff
    clear lF9 lN9
    try k_fold
    k_steps
  · intro r tr qs qvs ep u h9 tk9 hQ hDM F9 N9
    clear lF9 lN9
    obtain ⟨R, Qs, eR, eQ, hR, hV, hlen, hq⟩ := dm_done hDM
    subst hR; subst eR; subst eQ
    have hQl : (Qs.map fun q : Nat => (q : Int)).length ≤ 1000 := by rw [List.length_map]; lia
    have hQr : IntsAre qvs.reverse (Qs.reverse.map fun q : Nat => (q : Int)) := by rw [List.map_reverse]; exact hQ.reverse
    try k_fold
    k_steps
    k_dflt (refine' Ctr.use ?B4 ?F4 ?X4 ?N4 ?T4 ?k4 ?d4 ?u4 (c_d2i Qs.reverse (BL b) _ qvs.reverse ep _ (some (e, oe)) [(52, tabObj #[rawInt (86 : Nat), rawInt (4 : Nat), .ref c1]), (c1, oc1)] hk2 hQr hn0 (by rw [List.length_reverse, hlen]; exact hA2) (by rw [List.length_reverse, hlen]; exact hc0) (by rw [List.length_reverse, hlen]; exact hcl) (fun q hq' => hq q (List.mem_reverse.mp hq')) (by intro q hq p hp; simp only [sec52, sec59, List.mem_cons, List.not_mem_nil, or_false, List.cons_append, List.nil_append] at hq hp; rcases hq with rfl | rfl <;> rcases hp with rfl | rfl | rfl <;> exact neN (by dsimp only; lia)) (ltN (by omega)) (fun x h => by cases h; exact neN (by lia))) ?_)
    case B4 => k_asm
    case F4 => k_asm
    case X4 => k_asm
    case N4 => (refine news_sub (by k_asm) ?_; (try dsimp only [sec52, sec59, secs, List.cons_append, List.nil_append]); walk_at "allIn")
    case T4 => k_asm
    case k4 => first | exact rfl | assumption
    case d4 => ktr_room
    case u4 => ktr_units
    intro B2 v2 h2 tk2 n2 hB2 hL2 R2 F2 N2
    obtain ⟨c2, oc2, ⟨t2, e3⟩, hs2, e4, ap4⟩ := R2
    subst e3; subst e4
    rw [valN_rev (BL b) (valN (BL b)) rfl (fun _ _ => rfl), hV]
    dsimp only [sec59, List.cons_append, List.nil_append] at N2 hB2
    k_lt hB2
    have hc2 : @Ne Nat c1 c2 ∧ @Ne Nat c2 52 ∧ @Ne Nat c2 59 := by rcases ap4 with h | h; exact ⟨by lia, by lia, by lia⟩; cases h; exact ⟨by lia, by lia, by lia⟩
    k_sweep
    try k_fold
    k_steps
    (rename News _ _ _ (_ :: _) => hN9)
    refine hret _ _ _ _ ⟨_, (c1, oc1), (c2, oc2), _, _, rfl, rfl, ⟨hs1, hs2, ?_⟩, leN (by lia), neN (by dsimp only; lia), neN (by dsimp only; lia), ?_, ?_⟩ (by assumption) (news_app (news_sub hN9 (by dsimp only [sec52, sec59, secs, List.cons_append, List.nil_append]; walk_at "allIn")) (by assumption))
    · refine ⟨neN (by dsimp only; lia), neN (by dsimp only; lia), neN (by dsimp only; lia), neN (by dsimp only; lia), neN (by dsimp only; lia)⟩
    · rcases ap1 with h | h
      · exact Or.inl (leN (by dsimp only; lia))
      · cases h; exact Or.inr ⟨_, rfl⟩
    · rcases ap4 with h | h
      · exact Or.inl (leN (by dsimp only; lia))
      · cases h; exact Or.inr ⟨_, rfl⟩
end sk_c_dmpos_s
section
variable {w : World} {p : Program} {loose : List Str} {mean : ExcName → Option Value} {mg mb : Str → Option Value}
theorem c_dmpos_s (a b : Nat) (ta tb : Tok) (c : Addr) (oc : Obj) (e : Addr) (oe : Obj) (rest : List (Addr × Obj)) (hd : secsOk (some ((c, oc), (e, oe)))) (ha : 0 < a) (hb : 0 < b) (hab : a < b * 2 ^ 60) (hb2 : BL b ≤ 50000)
   (hr : ∀ q ∈ rest, ∀ p ∈ secs (some ((c, oc), (e, oe))), q.1 ≠ p.1) :
    Ctr w p loose mean mg mb 220 3000 71 [.int a ta, .int b tb] (secs (some ((c, oc), (e, oe))) ++ rest) (fun B v n' => ∃ D x y t u, v = .ref D ∧ n' = (D, { cls := .type "tuple", data := .seq #[.int ((a / b : Nat) : Int) t, .int ((a % b : Nat) : Int) u] }) :: secs (some (x, y)) ++ rest ∧
      secsOk (some (x, y)) ∧ @LE.le Nat _ B D ∧ @Ne Nat x.1 D ∧ @Ne Nat y.1 D ∧ (@LE.le Nat _ B x.1 ∨ ∃ y' : Addr × Obj, (some ((c, oc), (e, oe))) = some (x, y')) ∧ (@LE.le Nat _ B y.1 ∨ ∃ x' : Addr × Obj, (some ((c, oc), (e, oe))) = some (x', y))) := by
  intro dp un gd cn cs a' ccd cl outer A₀ base h₀ L m s Q E
  intro B F X N T hk hdp hu hret
  have X0 := X
  revert X; k_fill; intro X
  have S : Sp h₀ L s.heap (secs (some ((c, oc), (e, oe)))) rest := ⟨news_sub N (fun p hp => List.mem_append_left _ hp), news_sub N (fun p hp => List.mem_append_right _ hp), hr⟩
  have hAB := bl_mul hab
  have hn0 := bl_pos hb
  have hA2 : BL b * cntOf a b ≤ 2 ^ 20 := by have := cnt_mul (a := a) (b := b); lia
  have hA3 : Builtin.Int.intBits (a : Int) ≤ 2 ^ 20 := by dsimp only [BL] at *; lia
  have hcl := cnt_le hb hAB
  have hc0 := cnt_pos ha hb
  have hd0 := hd
  obtain ⟨hk1, hk2, hk3, hk4, hk5, hk6, hk7⟩ := hd0
  dsimp only at hk3 hk4 hk5 hk6 hk7
  dsimp only [secs, sec52, sec59, List.cons_append, List.nil_append] at S
  walk_at "enterS"
  intro g9 L9 h9
  exact sk_c_dmpos_s.skAll sk_c_dmpos_s.skBody w p loose mean mg mb a b ta tb c oc e oe rest dp un gd cn cs a' ccd cl outer A₀ base h₀ L m s Q E g9 L9 h9 hd ha hb hab hb2 hr B F X0 N T hk hdp hu hret

theorem c_dmpos (a b : Nat) (ta tb : Tok) (d : Option ((Addr × Obj) × (Addr × Obj))) (rest : List (Addr × Obj)) (hd : secsOk d) (ha : 0 < a) (hb : 0 < b) (hab : a < b * 2 ^ 60) (hb2 : BL b ≤ 50000)
   (hr : ∀ q ∈ rest, ∀ p ∈ secs d, q.1 ≠ p.1) :
    Ctr w p loose mean mg mb 220 3000 71 [.int a ta, .int b tb] (secs d ++ rest) (fun B v n' => ∃ D x y t u, v = .ref D ∧ n' = (D, { cls := .type "tuple", data := .seq #[.int ((a / b : Nat) : Int) t, .int ((a % b : Nat) : Int) u] }) :: secs (some (x, y)) ++ rest ∧
      secsOk (some (x, y)) ∧ @LE.le Nat _ B D ∧ @Ne Nat x.1 D ∧ @Ne Nat y.1 D ∧ (@LE.le Nat _ B x.1 ∨ ∃ y' : Addr × Obj, d = some (x, y')) ∧ (@LE.le Nat _ B y.1 ∨ ∃ x' : Addr × Obj, d = some (x', y))) := by
  cases d with
  | none => exact c_dmpos_n a b ta tb rest hd ha hb hab hb2 hr
  | some x =>
    obtain ⟨⟨c, oc⟩, ⟨e, oe⟩⟩ := x
    exact c_dmpos_s a b ta tb c oc e oe rest hd ha hb hab hb2 hr

end
end
example {prog : Program} {w : World} {A : Around} {env : Env} {Q : Flow → Shared → Prop} {E : Value → Shared → Prop} {s : Shared} (h : wpAny (model prog w) A (execs [] env) Q E s) : wpAny (model prog w) A (execs [] env) Q E s := by ((k_with "now" => have kReset : True := trivial); (k_with "piece" => have kP_C8 : True := trivial); w_top off; first | (walk1; fail) | exact h)
section
section
variable {w : World} {p : Program} {loose : List Str} {mean : ExcName → Option Value} {mg mb : Str → Option Value}
def RTup (x y : Int) (d : Option ((Addr × Obj) × (Addr × Obj))) (rest : List (Addr × Obj)) (B : Nat) (v : Value) (n' : List (Addr × Obj)) : Prop :=
  ∃ D c1 oc1 c2 oc2 t u, v = .ref D ∧ n' = (D, { cls := .type "tuple", data := .seq #[.int x t, .int y u] }) :: secs (some ((c1, oc1), (c2, oc2))) ++ rest ∧
      secsOk (some ((c1, oc1), (c2, oc2))) ∧ @LE.le Nat _ B D ∧ @Ne Nat c1 D ∧ @Ne Nat c2 D ∧ (@LE.le Nat _ B c1 ∨ ∃ y', d = some ((c1, oc1), y')) ∧ (@LE.le Nat _ B c2 ∨ ∃ x', d = some (x', (c2, oc2)))
end
namespace sk_c_idm1
abbrev skD : Type := (World) × (Program) × (List PySem.Str) × (ExcName → Option Value) × (PySem.Str → Option Value) × (PySem.Str → Option Value) × (Nat) × (Nat) × (Tok) × (Tok) × (List (Addr × Obj)) × (Nat) × (Nat) × (Option (List Code)) × (PySem.Str) × (Scope) × (Addr) × (Value) × (List (PySem.Str × Addr)) × (List Env) × (Around) × (Heap) × (Heap) × (Addr) × (PySem.Str → Option Value) × (Shared) × (Value → Shared → Prop) × (Value → Shared → Prop) × (Heap) × (Addr) × (Heap)
def skP (w : World) (p : Program) (loose : List PySem.Str) (mean : ExcName → Option Value) (mg : PySem.Str → Option Value) (mb : PySem.Str → Option Value) (a : Nat) (b : Nat) (ta : Tok) (tb : Tok) (rest : List (Addr × Obj)) (dp : Nat) (un : Nat) (gd : Option (List Code)) (cn : PySem.Str) (cs : Scope) (a' : Addr) (ccd : Value) (cl : List (PySem.Str × Addr)) (outer : List Env) (A₀ : Around) (base : Heap) (h₀ : Heap) (L : Addr) (m : PySem.Str → Option Value) (s : Shared) (Q : Value → Shared → Prop) (E : Value → Shared → Prop) (g9 : Heap) (L9 : Addr) (h9 : Heap) : Prop := ∀ (d : Option ((Addr × Obj) × (Addr × Obj))) (hd : secsOk d) (ha : 0 < a) (hb : 0 < b) (hab : a < b * 2 ^ 60) (hb2 : BL b ≤ 50000) (hr : ∀ q ∈ rest, ∀ p ∈ secs d, q.1 ≠ p.1),
    CtrG w p loose mean mg mb 230 3100 78 [.int a ta, .int b tb] (secs d ++ rest) (RTup ((a / b : Nat) : Int) ((a % b : Nat) : Int) d rest) dp un gd cn cs a' ccd cl outer A₀ base h₀ L m s Q E (premOf3 (B := CtrAt w p loose mean mg mb 230 3100 78 [.int a ta, .int b tb] (secs d ++ rest) (RTup ((a / b : Nat) : Int) ((a % b : Nat) : Int) d rest) dp un gd cn cs a' ccd cl outer A₀ base h₀ L m s Q E) (by
      intro hh
      unfold CtrAt
      intro B F X N T hk hdp hu hret
      revert X; k_fill; intro X
      have S : Sp h₀ L s.heap (secs d) rest := ⟨news_sub N (fun p hp => List.mem_append_left _ hp), news_sub N (fun p hp => List.mem_append_right _ hp), hr⟩
      walk_at "enterS"
      exact hh) g9 L9 h9)
theorem skN : Nonempty skD := ⟨(Classical.choice neWorld, default, default, default, default, default, default, default, default, default, default, default, default, default, default, default, default, default, default, default, ({} : Around), default, default, default, default, ({} : Shared), default, default, default, default, default)⟩
@[irreducible] noncomputable def skK : skD := @Classical.epsilon skD skN fun d => ¬ skP d.1 d.2.1 d.2.2.1 d.2.2.2.1 d.2.2.2.2.1 d.2.2.2.2.2.1 d.2.2.2.2.2.2.1 d.2.2.2.2.2.2.2.1 d.2.2.2.2.2.2.2.2.1 d.2.2.2.2.2.2.2.2.2.1 d.2.2.2.2.2.2.2.2.2.2.1 d.2.2.2.2.2.2.2.2.2.2.2.1 d.2.2.2.2.2.2.2.2.2.2.2.2.1 d.2.2.2.2.2.2.2.2.2.2.2.2.2.1 d.2.2.2.2.2.2.2.2.2.2.2.2.2.2.1 d.2.2.2.2.2.2.2.2.2.2.2.2.2.2.2.1 d.2.2.2.2.2.2.2.2.2.2.2.2.2.2.2.2.1 d.2.2.2.2.2.2.2.2.2.2.2.2.2.2.2.2.2.1 d.2.2.2.2.2.2.2.2.2.2.2.2.2.2.2.2.2.2.1 d.2.2.2.2.2.2.2.2.2.2.2.2.2.2.2.2.2.2.2.1 d.2.2.2.2.2.2.2.2.2.2.2.2.2.2.2.2.2.2.2.2.1 d.2.2.2.2.2.2.2.2.2.2.2.2.2.2.2.2.2.2.2.2.2.1 d.2.2.2.2.2.2.2.2.2.2.2.2.2.2.2.2.2.2.2.2.2.2.1 d.2.2.2.2.2.2.2.2.2.2.2.2.2.2.2.2.2.2.2.2.2.2.2.1 d.2.2.2.2.2.2.2.2.2.2.2.2.2.2.2.2.2.2.2.2.2.2.2.2.1 d.2.2.2.2.2.2.2.2.2.2.2.2.2.2.2.2.2.2.2.2.2.2.2.2.2.1 d.2.2.2.2.2.2.2.2.2.2.2.2.2.2.2.2.2.2.2.2.2.2.2.2.2.2.1 d.2.2.2.2.2.2.2.2.2.2.2.2.2.2.2.2.2.2.2.2.2.2.2.2.2.2.2.1 d.2.2.2.2.2.2.2.2.2.2.2.2.2.2.2.2.2.2.2.2.2.2.2.2.2.2.2.2.1 d.2.2.2.2.2.2.2.2.2.2.2.2.2.2.2.2.2.2.2.2.2.2.2.2.2.2.2.2.2.1 d.2.2.2.2.2.2.2.2.2.2.2.2.2.2.2.2.2.2.2.2.2.2.2.2.2.2.2.2.2.2
@[irreducible] noncomputable def w : World := skK.1
@[irreducible] noncomputable def p : Program := skK.2.1
@[irreducible] noncomputable def loose : List PySem.Str := skK.2.2.1
@[irreducible] noncomputable def mean : ExcName → Option Value := skK.2.2.2.1
@[irreducible] noncomputable def mg : PySem.Str → Option Value := skK.2.2.2.2.1
@[irreducible] noncomputable def mb : PySem.Str → Option Value := skK.2.2.2.2.2.1
@[irreducible] noncomputable def a : Nat := skK.2.2.2.2.2.2.1
@[irreducible] noncomputable def b : Nat := skK.2.2.2.2.2.2.2.1
@[irreducible] noncomputable def ta : Tok := skK.2.2.2.2.2.2.2.2.1
@[irreducible] noncomputable def tb : Tok := skK.2.2.2.2.2.2.2.2.2.1
@[irreducible] noncomputable def rest : List (Addr × Obj) := skK.2.2.2.2.2.2.2.2.2.2.1
@[irreducible] noncomputable def dp : Nat := skK.2.2.2.2.2.2.2.2.2.2.2.1
@[irreducible] noncomputable def un : Nat := skK.2.2.2.2.2.2.2.2.2.2.2.2.1
@[irreducible] noncomputable def gd : Option (List Code) := skK.2.2.2.2.2.2.2.2.2.2.2.2.2.1
@[irreducible] noncomputable def cn : PySem.Str := skK.2.2.2.2.2.2.2.2.2.2.2.2.2.2.1
@[irreducible] noncomputable def cs : Scope := skK.2.2.2.2.2.2.2.2.2.2.2.2.2.2.2.1
@[irreducible] noncomputable def a' : Addr := skK.2.2.2.2.2.2.2.2.2.2.2.2.2.2.2.2.1
@[irreducible] noncomputable def ccd : Value := skK.2.2.2.2.2.2.2.2.2.2.2.2.2.2.2.2.2.1
@[irreducible] noncomputable def cl : List (PySem.Str × Addr) := skK.2.2.2.2.2.2.2.2.2.2.2.2.2.2.2.2.2.2.1
@[irreducible] noncomputable def outer : List Env := skK.2.2.2.2.2.2.2.2.2.2.2.2.2.2.2.2.2.2.2.1
@[irreducible] noncomputable def A₀ : Around := skK.2.2.2.2.2.2.2.2.2.2.2.2.2.2.2.2.2.2.2.2.1
@[irreducible] noncomputable def base : Heap := skK.2.2.2.2.2.2.2.2.2.2.2.2.2.2.2.2.2.2.2.2.2.1
@[irreducible] noncomputable def h₀ : Heap := skK.2.2.2.2.2.2.2.2.2.2.2.2.2.2.2.2.2.2.2.2.2.2.1
@[irreducible] noncomputable def L : Addr := skK.2.2.2.2.2.2.2.2.2.2.2.2.2.2.2.2.2.2.2.2.2.2.2.1
@[irreducible] noncomputable def m : PySem.Str → Option Value := skK.2.2.2.2.2.2.2.2.2.2.2.2.2.2.2.2.2.2.2.2.2.2.2.2.1
@[irreducible] noncomputable def s : Shared := skK.2.2.2.2.2.2.2.2.2.2.2.2.2.2.2.2.2.2.2.2.2.2.2.2.2.1
@[irreducible] noncomputable def Q : Value → Shared → Prop := skK.2.2.2.2.2.2.2.2.2.2.2.2.2.2.2.2.2.2.2.2.2.2.2.2.2.2.1
@[irreducible] noncomputable def E : Value → Shared → Prop := skK.2.2.2.2.2.2.2.2.2.2.2.2.2.2.2.2.2.2.2.2.2.2.2.2.2.2.2.1
@[irreducible] noncomputable def g9 : Heap := skK.2.2.2.2.2.2.2.2.2.2.2.2.2.2.2.2.2.2.2.2.2.2.2.2.2.2.2.2.1
@[irreducible] noncomputable def L9 : Addr := skK.2.2.2.2.2.2.2.2.2.2.2.2.2.2.2.2.2.2.2.2.2.2.2.2.2.2.2.2.2.1
@[irreducible] noncomputable def h9 : Heap := skK.2.2.2.2.2.2.2.2.2.2.2.2.2.2.2.2.2.2.2.2.2.2.2.2.2.2.2.2.2.2
theorem skAll (hb : skP w p loose mean mg mb a b ta tb rest dp un gd cn cs a' ccd cl outer A₀ base h₀ L m s Q E g9 L9 h9) : ∀ (y0 : World) (y1 : Program) (y2 : List PySem.Str) (y3 : ExcName → Option Value) (y4 : PySem.Str → Option Value) (y5 : PySem.Str → Option Value) (y6 : Nat) (y7 : Nat) (y8 : Tok) (y9 : Tok) (y10 : List (Addr × Obj)) (y11 : Nat) (y12 : Nat) (y13 : Option (List Code)) (y14 : PySem.Str) (y15 : Scope) (y16 : Addr) (y17 : Value) (y18 : List (PySem.Str × Addr)) (y19 : List Env) (y20 : Around) (y21 : Heap) (y22 : Heap) (y23 : Addr) (y24 : PySem.Str → Option Value) (y25 : Shared) (y26 : Value → Shared → Prop) (y27 : Value → Shared → Prop) (y28 : Heap) (y29 : Addr) (y30 : Heap), skP y0 y1 y2 y3 y4 y5 y6 y7 y8 y9 y10 y11 y12 y13 y14 y15 y16 y17 y18 y19 y20 y21 y22 y23 y24 y25 y26 y27 y28 y29 y30 := by
  intro y0 y1 y2 y3 y4 y5 y6 y7 y8 y9 y10 y11 y12 y13 y14 y15 y16 y17 y18 y19 y20 y21 y22 y23 y24 y25 y26 y27 y28 y29 y30
  refine Classical.byContradiction fun hn => ?_
  have h1 := @Classical.epsilon_spec skD (fun d => ¬ skP d.1 d.2.1 d.2.2.1 d.2.2.2.1 d.2.2.2.2.1 d.2.2.2.2.2.1 d.2.2.2.2.2.2.1 d.2.2.2.2.2.2.2.1 d.2.2.2.2.2.2.2.2.1 d.2.2.2.2.2.2.2.2.2.1 d.2.2.2.2.2.2.2.2.2.2.1 d.2.2.2.2.2.2.2.2.2.2.2.1 d.2.2.2.2.2.2.2.2.2.2.2.2.1 d.2.2.2.2.2.2.2.2.2.2.2.2.2.1 d.2.2.2.2.2.2.2.2.2.2.2.2.2.2.1 d.2.2.2.2.2.2.2.2.2.2.2.2.2.2.2.1 d.2.2.2.2.2.2.2.2.2.2.2.2.2.2.2.2.1 d.2.2.2.2.2.2.2.2.2.2.2.2.2.2.2.2.2.1 d.2.2.2.2.2.2.2.2.2.2.2.2.2.2.2.2.2.2.1 d.2.2.2.2.2.2.2.2.2.2.2.2.2.2.2.2.2.2.2.1 d.2.2.2.2.2.2.2.2.2.2.2.2.2.2.2.2.2.2.2.2.1 d.2.2.2.2.2.2.2.2.2.2.2.2.2.2.2.2.2.2.2.2.2.1 d.2.2.2.2.2.2.2.2.2.2.2.2.2.2.2.2.2.2.2.2.2.2.1 d.2.2.2.2.2.2.2.2.2.2.2.2.2.2.2.2.2.2.2.2.2.2.2.1 d.2.2.2.2.2.2.2.2.2.2.2.2.2.2.2.2.2.2.2.2.2.2.2.2.1 d.2.2.2.2.2.2.2.2.2.2.2.2.2.2.2.2.2.2.2.2.2.2.2.2.2.1 d.2.2.2.2.2.2.2.2.2.2.2.2.2.2.2.2.2.2.2.2.2.2.2.2.2.2.1 d.2.2.2.2.2.2.2.2.2.2.2.2.2.2.2.2.2.2.2.2.2.2.2.2.2.2.2.1 d.2.2.2.2.2.2.2.2.2.2.2.2.2.2.2.2.2.2.2.2.2.2.2.2.2.2.2.2.1 d.2.2.2.2.2.2.2.2.2.2.2.2.2.2.2.2.2.2.2.2.2.2.2.2.2.2.2.2.2.1 d.2.2.2.2.2.2.2.2.2.2.2.2.2.2.2.2.2.2.2.2.2.2.2.2.2.2.2.2.2.2) ⟨(y0, y1, y2, y3, y4, y5, y6, y7, y8, y9, y10, y11, y12, y13, y14, y15, y16, y17, y18, y19, y20, y21, y22, y23, y24, y25, y26, y27, y28, y29, y30), hn⟩
  delta w p loose mean mg mb a b ta tb rest dp un gd cn cs a' ccd cl outer A₀ base h₀ L m s Q E g9 L9 h9 at hb
  delta skK at hb
  exact h1 hb
theorem skBody : skP w p loose mean mg mb a b ta tb rest dp un gd cn cs a' ccd cl outer A₀ base h₀ L m s Q E g9 L9 h9 := by
  unfold skP CtrG premOf3
  intro d hd ha hb hab hb2 hr
  intro B F X N T hk hdp hu hret
  revert X; k_fill; intro X
  have S : Sp h₀ L s.heap (secs d) rest := ⟨news_sub N (fun p hp => List.mem_append_left _ hp), news_sub N (fun p hp => List.mem_append_right _ hp), hr⟩
  k_with "now" => have kNow9 : True := trivial
  intro FG' F' N' B' X' T' l1 l2 l3
  (try k_lt l1); (try dsimp only); (try k_fold)
  k_steps
  all_goals try (exfalso; lia)
  k_dflt (refine' Ctr.use ?B1 ?F1 ?X1 ?N1 ?T1 ?k1 ?d1 ?u1 (c_dmpos a b _ _ d [] hd ha hb hab hb2 (fun _ h => nomatch h)) ?_)
  case B1 => k_asm
  case F1 => k_asm
  case X1 => k_asm
  case N1 => (refine news_sub (by k_asm) ?_; intro p hp; first | exact List.mem_append_left _ (by simpa using hp) | simpa using hp)
  case T1 => k_asm
  case k1 => first | exact rfl | assumption
  case d1 => ktr_room
  case u1 => ktr_units
  intro B1 v1 h1 tk1 n1 hB1 hL1 R1 F1 N1
  obtain ⟨D, ⟨c1, oc1⟩, ⟨c2, oc2⟩, t, u, e1, e2, hs, g1, g2, g3, g4, g5⟩ := R1
  subst e1; subst e2
  clear hB1
  k_sweep
  try k_fold
  k_steps
  (rename News _ _ _ (_ :: _ ++ _) => hN9)
  exact hret _ _ _ _ ⟨_, c1, oc1, c2, oc2, _, _, rfl, rfl, hs, leN (by lia), g2, g3, g4.imp_left (fun h => Nat.le_trans (leN (by lia)) h), g5.imp_left (fun h => Nat.le_trans (leN (by lia)) h)⟩ (by assumption) (news_app (news_sub hN9 (by intro p hp; simpa using hp)) (by assumption))
end sk_c_idm1
section
variable {w : World} {p : Program} {loose : List Str} {mean : ExcName → Option Value} {mg mb : Str → Option Value}
theorem c_idm1 (a b : Nat) (ta tb : Tok) (d : Option ((Addr × Obj) × (Addr × Obj))) (rest : List (Addr × Obj)) (hd : secsOk d) (ha : 0 < a) (hb : 0 < b) (hab : a < b * 2 ^ 60) (hb2 : BL b ≤ 50000)
   (hr : ∀ q ∈ rest, ∀ p ∈ secs d, q.1 ≠ p.1) :
    Ctr w p loose mean mg mb 230 3100 78 [.int a ta, .int b tb] (secs d ++ rest) (RTup ((a / b : Nat) : Int) ((a % b : Nat) : Int) d rest) := by
  intro dp un gd cn cs a' ccd cl outer A₀ base h₀ L m s Q E
  intro B F X N T hk hdp hu hret
  have X0 := X
  revert X; k_fill; intro X
  have S : Sp h₀ L s.heap (secs d) rest := ⟨news_sub N (fun p hp => List.mem_append_left _ hp), news_sub N (fun p hp => List.mem_append_right _ hp), hr⟩
  walk_at "enterS"
  intro g9 L9 h9
  exact sk_c_idm1.skAll sk_c_idm1.skBody w p loose mean mg mb a b ta tb rest dp un gd cn cs a' ccd cl outer A₀ base h₀ L m s Q E g9 L9 h9 d hd ha hb hab hb2 hr B F X0 N T hk hdp hu hret

end
namespace sk_c_idm2
abbrev skD : Type := (World) × (Program) × (List PySem.Str) × (ExcName → Option Value) × (PySem.Str → Option Value) × (PySem.Str → Option Value) × (Nat) × (Nat) × (Tok) × (Tok) × (List (Addr × Obj)) × (Nat) × (Nat) × (Option (List Code)) × (PySem.Str) × (Scope) × (Addr) × (Value) × (List (PySem.Str × Addr)) × (List Env) × (Around) × (Heap) × (Heap) × (Addr) × (PySem.Str → Option Value) × (Shared) × (Value → Shared → Prop) × (Value → Shared → Prop) × (Heap) × (Addr) × (Heap)
def skP (w : World) (p : Program) (loose : List PySem.Str) (mean : ExcName → Option Value) (mg : PySem.Str → Option Value) (mb : PySem.Str → Option Value) (k : Nat) (b : Nat) (ta : Tok) (tb : Tok) (rest : List (Addr × Obj)) (dp : Nat) (un : Nat) (gd : Option (List Code)) (cn : PySem.Str) (cs : Scope) (a' : Addr) (ccd : Value) (cl : List (PySem.Str × Addr)) (outer : List Env) (A₀ : Around) (base : Heap) (h₀ : Heap) (L : Addr) (m : PySem.Str → Option Value) (s : Shared) (Q : Value → Shared → Prop) (E : Value → Shared → Prop) (g9 : Heap) (L9 : Addr) (h9 : Heap) : Prop := ∀ (d : Option ((Addr × Obj) × (Addr × Obj))) (hd : secsOk d) (ha : 1 < k) (hb : 0 < b) (hab : k ≤ b * 2 ^ 60) (hb2 : BL b ≤ 50000) (hr : ∀ q ∈ rest, ∀ p ∈ secs d, q.1 ≠ p.1),
    CtrG w p loose mean mg mb 240 3200 78 [.int (-(k : Int)) ta, .int b tb] (secs d ++ rest) (RTup (-(((k - 1) / b : Nat) : Int) - 1) ((b : Int) + (-(((k - 1) % b : Nat) : Int) - 1)) d rest) dp un gd cn cs a' ccd cl outer A₀ base h₀ L m s Q E (premOf3 (B := CtrAt w p loose mean mg mb 240 3200 78 [.int (-(k : Int)) ta, .int b tb] (secs d ++ rest) (RTup (-(((k - 1) / b : Nat) : Int) - 1) ((b : Int) + (-(((k - 1) % b : Nat) : Int) - 1)) d rest) dp un gd cn cs a' ccd cl outer A₀ base h₀ L m s Q E) (by
      intro hh
      unfold CtrAt
      intro B F X N T hk hdp hu hret
      have S : Sp h₀ L s.heap (secs d) rest := ⟨news_sub N (fun p hp => List.mem_append_left _ hp), news_sub N (fun p hp => List.mem_append_right _ hp), hr⟩
      walk_at "enterS"
      exact hh) g9 L9 h9)
theorem skN : Nonempty skD := ⟨(Classical.choice neWorld, default, default, default, default, default, default, default, default, default, default, default, default, default, default, default, default, default, default, default, ({} : Around), default, default, default, default, ({} : Shared), default, default, default, default, default)⟩
@[irreducible] noncomputable def skK : skD := @Classical.epsilon skD skN fun d => ¬ skP d.1 d.2.1 d.2.2.1 d.2.2.2.1 d.2.2.2.2.1 d.2.2.2.2.2.1 d.2.2.2.2.2.2.1 d.2.2.2.2.2.2.2.1 d.2.2.2.2.2.2.2.2.1 d.2.2.2.2.2.2.2.2.2.1 d.2.2.2.2.2.2.2.2.2.2.1 d.2.2.2.2.2.2.2.2.2.2.2.1 d.2.2.2.2.2.2.2.2.2.2.2.2.1 d.2.2.2.2.2.2.2.2.2.2.2.2.2.1 d.2.2.2.2.2.2.2.2.2.2.2.2.2.2.1 d.2.2.2.2.2.2.2.2.2.2.2.2.2.2.2.1 d.2.2.2.2.2.2.2.2.2.2.2.2.2.2.2.2.1 d.2.2.2.2.2.2.2.2.2.2.2.2.2.2.2.2.2.1 d.2.2.2.2.2.2.2.2.2.2.2.2.2.2.2.2.2.2.1 d.2.2.2.2.2.2.2.2.2.2.2.2.2.2.2.2.2.2.2.1 d.2.2.2.2.2.2.2.2.2.2.2.2.2.2.2.2.2.2.2.2.1 d.2.2.2.2.2.2.2.2.2.2.2.2.2.2.2.2.2.2.2.2.2.1 d.2.2.2.2.2.2.2.2.2.2.2.2.2.2.2.2.2.2.2.2.2.2.1 d.2.2.2.2.2.2.2.2.2.2.2.2.2.2.2.2.2.2.2.2.2.2.2.1 d.2.2.2.2.2.2.2.2.2.2.2.2.2.2.2.2.2.2.2.2.2.2.2.2.1 d.2.2.2.2.2.2.2.2.2.2.2.2.2.2.2.2.2.2.2.2.2.2.2.2.2.1 d.2.2.2.2.2.2.2.2.2.2.2.2.2.2.2.2.2.2.2.2.2.2.2.2.2.2.1 d.2.2.2.2.2.2.2.2.2.2.2.2.2.2.2.2.2.2.2.2.2.2.2.2.2.2.2.1 d.2.2.2.2.2.2.2.2.2.2.2.2.2.2.2.2.2.2.2.2.2.2.2.2.2.2.2.2.1 d.2.2.2.2.2.2.2.2.2.2.2.2.2.2.2.2.2.2.2.2.2.2.2.2.2.2.2.2.2.1 d.2.2.2.2.2.2.2.2.2.2.2.2.2.2.2.2.2.2.2.2.2.2.2.2.2.2.2.2.2.2
@[irreducible] noncomputable def w : World := skK.1
@[irreducible] noncomputable def p : Program := skK.2.1
@[irreducible] noncomputable def loose : List PySem.Str := skK.2.2.1
@[irreducible] noncomputable def mean : ExcName → Option Value := skK.2.2.2.1
@[irreducible] noncomputable def mg : PySem.Str → Option Value := skK.2.2.2.2.1
@[irreducible] noncomputable def mb : PySem.Str → Option Value := skK.2.2.2.2.2.1
@[irreducible] noncomputable def k : Nat := skK.2.2.2.2.2.2.1
@[irreducible] noncomputable def b : Nat := skK.2.2.2.2.2.2.2.1
@[irreducible] noncomputable def ta : Tok := skK.2.2.2.2.2.2.2.2.1
@[irreducible] noncomputable def tb : Tok := skK.2.2.2.2.2.2.2.2.2.1
@[irreducible] noncomputable def rest : List (Addr × Obj) := skK.2.2.2.2.2.2.2.2.2.2.1
@[irreducible] noncomputable def dp : Nat := skK.2.2.2.2.2.2.2.2.2.2.2.1
@[irreducible] noncomputable def un : Nat := skK.2.2.2.2.2.2.2.2.2.2.2.2.1
@[irreducible] noncomputable def gd : Option (List Code) := skK.2.2.2.2.2.2.2.2.2.2.2.2.2.1
@[irreducible] noncomputable def cn : PySem.Str := skK.2.2.2.2.2.2.2.2.2.2.2.2.2.2.1
@[irreducible] noncomputable def cs : Scope := skK.2.2.2.2.2.2.2.2.2.2.2.2.2.2.2.1
@[irreducible] noncomputable def a' : Addr := skK.2.2.2.2.2.2.2.2.2.2.2.2.2.2.2.2.1
@[irreducible] noncomputable def ccd : Value := skK.2.2.2.2.2.2.2.2.2.2.2.2.2.2.2.2.2.1
@[irreducible] noncomputable def cl : List (PySem.Str × Addr) := skK.2.2.2.2.2.2.2.2.2.2.2.2.2.2.2.2.2.2.1
@[irreducible] noncomputable def outer : List Env := skK.2.2.2.2.2.2.2.2.2.2.2.2.2.2.2.2.2.2.2.1
@[irreducible] noncomputable def A₀ : Around := skK.2.2.2.2.2.2.2.2.2.2.2.2.2.2.2.2.2.2.2.2.1
@[irreducible] noncomputable def base : Heap := skK.2.2.2.2.2.2.2.2.2.2.2.2.2.2.2.2.2.2.2.2.2.1
@[irreducible] noncomputable def h₀ : Heap := skK.2.2.2.2.2.2.2.2.2.2.2.2.2.2.2.2.2.2.2.2.2.2.1
@[irreducible] noncomputable def L : Addr := skK.2.2.2.2.2.2.2.2.2.2.2.2.2.2.2.2.2.2.2.2.2.2.2.1
@[irreducible] noncomputable def m : PySem.Str → Option Value := skK.2.2.2.2.2.2.2.2.2.2.2.2.2.2.2.2.2.2.2.2.2.2.2.2.1
@[irreducible] noncomputable def s : Shared := skK.2.2.2.2.2.2.2.2.2.2.2.2.2.2.2.2.2.2.2.2.2.2.2.2.2.1
@[irreducible] noncomputable def Q : Value → Shared → Prop := skK.2.2.2.2.2.2.2.2.2.2.2.2.2.2.2.2.2.2.2.2.2.2.2.2.2.2.1
@[irreducible] noncomputable def E : Value → Shared → Prop := skK.2.2.2.2.2.2.2.2.2.2.2.2.2.2.2.2.2.2.2.2.2.2.2.2.2.2.2.1
@[irreducible] noncomputable def g9 : Heap := skK.2.2.2.2.2.2.2.2.2.2.2.2.2.2.2.2.2.2.2.2.2.2.2.2.2.2.2.2.1
@[irreducible] noncomputable def L9 : Addr := skK.2.2.2.2.2.2.2.2.2.2.2.2.2.2.2.2.2.2.2.2.2.2.2.2.2.2.2.2.2.1
@[irreducible] noncomputable def h9 : Heap := skK.2.2.2.2.2.2.2.2.2.2.2.2.2.2.2.2.2.2.2.2.2.2.2.2.2.2.2.2.2.2
theorem skAll (hb : skP w p loose mean mg mb k b ta tb rest dp un gd cn cs a' ccd cl outer A₀ base h₀ L m s Q E g9 L9 h9) : ∀ (y0 : World) (y1 : Program) (y2 : List PySem.Str) (y3 : ExcName → Option Value) (y4 : PySem.Str → Option Value) (y5 : PySem.Str → Option Value) (y6 : Nat) (y7 : Nat) (y8 : Tok) (y9 : Tok) (y10 : List (Addr × Obj)) (y11 : Nat) (y12 : Nat) (y13 : Option (List Code)) (y14 : PySem.Str) (y15 : Scope) (y16 : Addr) (y17 : Value) (y18 : List (PySem.Str × Addr)) (y19 : List Env) (y20 : Around) (y21 : Heap) (y22 : Heap) (y23 : Addr) (y24 : PySem.Str → Option Value) (y25 : Shared) (y26 : Value → Shared → Prop) (y27 : Value → Shared → Prop) (y28 : Heap) (y29 : Addr) (y30 : Heap), skP y0 y1 y2 y3 y4 y5 y6 y7 y8 y9 y10 y11 y12 y13 y14 y15 y16 y17 y18 y19 y20 y21 y22 y23 y24 y25 y26 y27 y28 y29 y30 := by
  intro y0 y1 y2 y3 y4 y5 y6 y7 y8 y9 y10 y11 y12 y13 y14 y15 y16 y17 y18 y19 y20 y21 y22 y23 y24 y25 y26 y27 y28 y29 y30
  refine Classical.byContradiction fun hn => ?_
  have h1 := @Classical.epsilon_spec skD (fun d => ¬ skP d.1 d.2.1 d.2.2.1 d.2.2.2.1 d.2.2.2.2.1 d.2.2.2.2.2.1 d.2.2.2.2.2.2.1 d.2.2.2.2.2.2.2.1 d.2.2.2.2.2.2.2.2.1 d.2.2.2.2.2.2.2.2.2.1 d.2.2.2.2.2.2.2.2.2.2.1 d.2.2.2.2.2.2.2.2.2.2.2.1 d.2.2.2.2.2.2.2.2.2.2.2.2.1 d.2.2.2.2.2.2.2.2.2.2.2.2.2.1 d.2.2.2.2.2.2.2.2.2.2.2.2.2.2.1 d.2.2.2.2.2.2.2.2.2.2.2.2.2.2.2.1 d.2.2.2.2.2.2.2.2.2.2.2.2.2.2.2.2.1 d.2.2.2.2.2.2.2.2.2.2.2.2.2.2.2.2.2.1 d.2.2.2.2.2.2.2.2.2.2.2.2.2.2.2.2.2.2.1 d.2.2.2.2.2.2.2.2.2.2.2.2.2.2.2.2.2.2.2.1 d.2.2.2.2.2.2.2.2.2.2.2.2.2.2.2.2.2.2.2.2.1 d.2.2.2.2.2.2.2.2.2.2.2.2.2.2.2.2.2.2.2.2.2.1 d.2.2.2.2.2.2.2.2.2.2.2.2.2.2.2.2.2.2.2.2.2.2.1 d.2.2.2.2.2.2.2.2.2.2.2.2.2.2.2.2.2.2.2.2.2.2.2.1 d.2.2.2.2.2.2.2.2.2.2.2.2.2.2.2.2.2.2.2.2.2.2.2.2.1 d.2.2.2.2.2.2.2.2.2.2.2.2.2.2.2.2.2.2.2.2.2.2.2.2.2.1 d.2.2.2.2.2.2.2.2.2.2.2.2.2.2.2.2.2.2.2.2.2.2.2.2.2.2.1 d.2.2.2.2.2.2.2.2.2.2.2.2.2.2.2.2.2.2.2.2.2.2.2.2.2.2.2.1 d.2.2.2.2.2.2.2.2.2.2.2.2.2.2.2.2.2.2.2.2.2.2.2.2.2.2.2.2.1 d.2.2.2.2.2.2.2.2.2.2.2.2.2.2.2.2.2.2.2.2.2.2.2.2.2.2.2.2.2.1 d.2.2.2.2.2.2.2.2.2.2.2.2.2.2.2.2.2.2.2.2.2.2.2.2.2.2.2.2.2.2) ⟨(y0, y1, y2, y3, y4, y5, y6, y7, y8, y9, y10, y11, y12, y13, y14, y15, y16, y17, y18, y19, y20, y21, y22, y23, y24, y25, y26, y27, y28, y29, y30), hn⟩
  delta w p loose mean mg mb k b ta tb rest dp un gd cn cs a' ccd cl outer A₀ base h₀ L m s Q E g9 L9 h9 at hb
  delta skK at hb
  exact h1 hb
theorem skBody : skP w p loose mean mg mb k b ta tb rest dp un gd cn cs a' ccd cl outer A₀ base h₀ L m s Q E g9 L9 h9 := by
  unfold skP CtrG premOf3
  intro d hd ha hb hab hb2 hr
  intro B F X N T hk hdp hu hret
  have S : Sp h₀ L s.heap (secs d) rest := ⟨news_sub N (fun p hp => List.mem_append_left _ hp), news_sub N (fun p hp => List.mem_append_right _ hp), hr⟩
  k_with "now" => have kNow10 : True := trivial
  k_with "ov Invert" => ((fail_if_success (fail_if_success (k_extra "now"; clear kNow10))); first | (refine invert_to ((k - 1 : Nat) : Int) (by lia) ?_; intro _ _) | (refine invert_to _ rfl ?_; intro _ _))
  intro FG' F' N' B' X' T' l1 l2 l3
  (try k_lt l1); (try dsimp only); (try k_fold)
  k_steps
  all_goals try (exfalso; lia)
  k_dflt (refine' Ctr.use ?B2 ?F2 ?X2 ?N2 ?T2 ?k2 ?d2 ?u2 (c_idm1 (k - 1) b _ _ d [] hd (by lia) hb (by lia) hb2 (fun _ h => nomatch h)) ?_)
  case B2 => k_asm
  case F2 => k_asm
  case X2 => k_asm
  case N2 => (refine news_sub (by k_asm) ?_; intro p hp; first | exact List.mem_append_left _ (by simpa using hp) | simpa using hp)
  case T2 => k_asm
  case k2 => first | exact rfl | assumption
  case d2 => ktr_room
  case u2 => ktr_units
  intro B1 v1 h1 tk1 n1 hB1 hL1 R1 F1 N1
  obtain ⟨D, c1, oc1, c2, oc2, t, u, e1, e2, hs, g1, g2, g3, g4, g5⟩ := R1
  subst e1; subst e2
  clear hB1
  dsimp only [secs, sec52, sec59, List.cons_append, List.nil_append] at N1
  k_sweep
  try k_fold
  k_steps
  (rename News _ _ _ (_ :: _) => hN9)
  exact hret _ _ _ _ ⟨_, c1, oc1, c2, oc2, _, _, rfl, rfl, hs, leN (by lia), neN (by lia), neN (by lia), g4.imp_left (fun h => Nat.le_trans (leN (by lia)) h), g5.imp_left (fun h => Nat.le_trans (leN (by lia)) h)⟩ (by assumption) (news_app (news_sub hN9 (by dsimp only [sec52, sec59, secs, List.cons_append, List.nil_append]; walk_at "allIn")) (by assumption))
end sk_c_idm2
section
variable {w : World} {p : Program} {loose : List Str} {mean : ExcName → Option Value} {mg mb : Str → Option Value}
theorem c_idm2 (k b : Nat) (ta tb : Tok) (d : Option ((Addr × Obj) × (Addr × Obj))) (rest : List (Addr × Obj)) (hd : secsOk d) (ha : 1 < k) (hb : 0 < b) (hab : k ≤ b * 2 ^ 60) (hb2 : BL b ≤ 50000)
   (hr : ∀ q ∈ rest, ∀ p ∈ secs d, q.1 ≠ p.1) :
    Ctr w p loose mean mg mb 240 3200 78 [.int (-(k : Int)) ta, .int b tb] (secs d ++ rest) (RTup (-(((k - 1) / b : Nat) : Int) - 1) ((b : Int) + (-(((k - 1) % b : Nat) : Int) - 1)) d rest) := by
  intro dp un gd cn cs a' ccd cl outer A₀ base h₀ L m s Q E
  intro B F X N T hk hdp hu hret
  have X0 := X
  have S : Sp h₀ L s.heap (secs d) rest := ⟨news_sub N (fun p hp => List.mem_append_left _ hp), news_sub N (fun p hp => List.mem_append_right _ hp), hr⟩
  walk_at "enterS"
  intro g9 L9 h9
  exact sk_c_idm2.skAll sk_c_idm2.skBody w p loose mean mg mb k b ta tb rest dp un gd cn cs a' ccd cl outer A₀ base h₀ L m s Q E g9 L9 h9 d hd ha hb hab hb2 hr B F X0 N T hk hdp hu hret

end
namespace sk_c_idm3
abbrev skD : Type := (World) × (Program) × (List PySem.Str) × (ExcName → Option Value) × (PySem.Str → Option Value) × (PySem.Str → Option Value) × (Nat) × (Nat) × (Tok) × (Tok) × (List (Addr × Obj)) × (Nat) × (Nat) × (Option (List Code)) × (PySem.Str) × (Scope) × (Addr) × (Value) × (List (PySem.Str × Addr)) × (List Env) × (Around) × (Heap) × (Heap) × (Addr) × (PySem.Str → Option Value) × (Shared) × (Value → Shared → Prop) × (Value → Shared → Prop) × (Heap) × (Addr) × (Heap)
def skP (w : World) (p : Program) (loose : List PySem.Str) (mean : ExcName → Option Value) (mg : PySem.Str → Option Value) (mb : PySem.Str → Option Value) (k : Nat) (b : Nat) (ta : Tok) (tb : Tok) (rest : List (Addr × Obj)) (dp : Nat) (un : Nat) (gd : Option (List Code)) (cn : PySem.Str) (cs : Scope) (a' : Addr) (ccd : Value) (cl : List (PySem.Str × Addr)) (outer : List Env) (A₀ : Around) (base : Heap) (h₀ : Heap) (L : Addr) (m : PySem.Str → Option Value) (s : Shared) (Q : Value → Shared → Prop) (E : Value → Shared → Prop) (g9 : Heap) (L9 : Addr) (h9 : Heap) : Prop := ∀ (d : Option ((Addr × Obj) × (Addr × Obj))) (hd : secsOk d) (ha : 1 < k) (hb : 0 < b) (hab : k ≤ b * 2 ^ 60) (hb2 : BL b ≤ 50000) (hr : ∀ q ∈ rest, ∀ p ∈ secs d, q.1 ≠ p.1),
    CtrG w p loose mean mg mb 250 3300 78 [.int k ta, .int (-(b : Int)) tb] (secs d ++ rest) (RTup (-(((k - 1) / b : Nat) : Int) - 1) (-((b : Int) + (-(((k - 1) % b : Nat) : Int) - 1))) d rest) dp un gd cn cs a' ccd cl outer A₀ base h₀ L m s Q E (premOf3 (B := CtrAt w p loose mean mg mb 250 3300 78 [.int k ta, .int (-(b : Int)) tb] (secs d ++ rest) (RTup (-(((k - 1) / b : Nat) : Int) - 1) (-((b : Int) + (-(((k - 1) % b : Nat) : Int) - 1))) d rest) dp un gd cn cs a' ccd cl outer A₀ base h₀ L m s Q E) (by
      intro hh
      unfold CtrAt
      intro B F X N T hk hdp hu hret
      have S : Sp h₀ L s.heap (secs d) rest := ⟨news_sub N (fun p hp => List.mem_append_left _ hp), news_sub N (fun p hp => List.mem_append_right _ hp), hr⟩
      walk_at "enterS"
      exact hh) g9 L9 h9)
theorem skN : Nonempty skD := ⟨(Classical.choice neWorld, default, default, default, default, default, default, default, default, default, default, default, default, default, default, default, default, default, default, default, ({} : Around), default, default, default, default, ({} : Shared), default, default, default, default, default)⟩
@[irreducible] noncomputable def skK : skD := @Classical.epsilon skD skN fun d => ¬ skP d.1 d.2.1 d.2.2.1 d.2.2.2.1 d.2.2.2.2.1 d.2.2.2.2.2.1 d.2.2.2.2.2.2.1 d.2.2.2.2.2.2.2.1 d.2.2.2.2.2.2.2.2.1 d.2.2.2.2.2.2.2.2.2.1 d.2.2.2.2.2.2.2.2.2.2.1 d.2.2.2.2.2.2.2.2.2.2.2.1 d.2.2.2.2.2.2.2.2.2.2.2.2.1 d.2.2.2.2.2.2.2.2.2.2.2.2.2.1 d.2.2.2.2.2.2.2.2.2.2.2.2.2.2.1 d.2.2.2.2.2.2.2.2.2.2.2.2.2.2.2.1 d.2.2.2.2.2.2.2.2.2.2.2.2.2.2.2.2.1 d.2.2.2.2.2.2.2.2.2.2.2.2.2.2.2.2.2.1 d.2.2.2.2.2.2.2.2.2.2.2.2.2.2.2.2.2.2.1 d.2.2.2.2.2.2.2.2.2.2.2.2.2.2.2.2.2.2.2.1 d.2.2.2.2.2.2.2.2.2.2.2.2.2.2.2.2.2.2.2.2.1 d.2.2.2.2.2.2.2.2.2.2.2.2.2.2.2.2.2.2.2.2.2.1 d.2.2.2.2.2.2.2.2.2.2.2.2.2.2.2.2.2.2.2.2.2.2.1 d.2.2.2.2.2.2.2.2.2.2.2.2.2.2.2.2.2.2.2.2.2.2.2.1 d.2.2.2.2.2.2.2.2.2.2.2.2.2.2.2.2.2.2.2.2.2.2.2.2.1 d.2.2.2.2.2.2.2.2.2.2.2.2.2.2.2.2.2.2.2.2.2.2.2.2.2.1 d.2.2.2.2.2.2.2.2.2.2.2.2.2.2.2.2.2.2.2.2.2.2.2.2.2.2.1 d.2.2.2.2.2.2.2.2.2.2.2.2.2.2.2.2.2.2.2.2.2.2.2.2.2.2.2.1 d.2.2.2.2.2.2.2.2.2.2.2.2.2.2.2.2.2.2.2.2.2.2.2.2.2.2.2.2.1 d.2.2.2.2.2.2.2.2.2.2.2.2.2.2.2.2.2.2.2.2.2.2.2.2.2.2.2.2.2.1 d.2.2.2.2.2.2.2.2.2.2.2.2.2.2.2.2.2.2.2.2.2.2.2.2.2.2.2.2.2.2
@[irreducible] noncomputable def w : World := skK.1
@[irreducible] noncomputable def p : Program := skK.2.1
@[irreducible] noncomputable def loose : List PySem.Str := skK.2.2.1
@[irreducible] noncomputable def mean : ExcName → Option Value := skK.2.2.2.1
@[irreducible] noncomputable def mg : PySem.Str → Option Value := skK.2.2.2.2.1
@[irreducible] noncomputable def mb : PySem.Str → Option Value := skK.2.2.2.2.2.1
@[irreducible] noncomputable def k : Nat := skK.2.2.2.2.2.2.1
@[irreducible] noncomputable def b : Nat := skK.2.2.2.2.2.2.2.1
@[irreducible] noncomputable def ta : Tok := skK.2.2.2.2.2.2.2.2.1
@[irreducible] noncomputable def tb : Tok := skK.2.2.2.2.2.2.2.2.2.1
@[irreducible] noncomputable def rest : List (Addr × Obj) := skK.2.2.2.2.2.2.2.2.2.2.1
@[irreducible] noncomputable def dp : Nat := skK.2.2.2.2.2.2.2.2.2.2.2.1
@[irreducible] noncomputable def un : Nat := skK.2.2.2.2.2.2.2.2.2.2.2.2.1
@[irreducible] noncomputable def gd : Option (List Code) := skK.2.2.2.2.2.2.2.2.2.2.2.2.2.1
@[irreducible] noncomputable def cn : PySem.Str := skK.2.2.2.2.2.2.2.2.2.2.2.2.2.2.1
@[irreducible] noncomputable def cs : Scope := skK.2.2.2.2.2.2.2.2.2.2.2.2.2.2.2.1
@[irreducible] noncomputable def a' : Addr := skK.2.2.2.2.2.2.2.2.2.2.2.2.2.2.2.2.1
@[irreducible] noncomputable def ccd : Value := skK.2.2.2.2.2.2.2.2.2.2.2.2.2.2.2.2.2.1
@[irreducible] noncomputable def cl : List (PySem.Str × Addr) := skK.2.2.2.2.2.2.2.2.2.2.2.2.2.2.2.2.2.2.1
@[irreducible] noncomputable def outer : List Env := skK.2.2.2.2.2.2.2.2.2.2.2.2.2.2.2.2.2.2.2.1
@[irreducible] noncomputable def A₀ : Around := skK.2.2.2.2.2.2.2.2.2.2.2.2.2.2.2.2.2.2.2.2.1
@[irreducible] noncomputable def base : Heap := skK.2.2.2.2.2.2.2.2.2.2.2.2.2.2.2.2.2.2.2.2.2.1
@[irreducible] noncomputable def h₀ : Heap := skK.2.2.2.2.2.2.2.2.2.2.2.2.2.2.2.2.2.2.2.2.2.2.1
@[irreducible] noncomputable def L : Addr := skK.2.2.2.2.2.2.2.2.2.2.2.2.2.2.2.2.2.2.2.2.2.2.2.1
@[irreducible] noncomputable def m : PySem.Str → Option Value := skK.2.2.2.2.2.2.2.2.2.2.2.2.2.2.2.2.2.2.2.2.2.2.2.2.1
@[irreducible] noncomputable def s : Shared := skK.2.2.2.2.2.2.2.2.2.2.2.2.2.2.2.2.2.2.2.2.2.2.2.2.2.1
@[irreducible] noncomputable def Q : Value → Shared → Prop := skK.2.2.2.2.2.2.2.2.2.2.2.2.2.2.2.2.2.2.2.2.2.2.2.2.2.2.1
@[irreducible] noncomputable def E : Value → Shared → Prop := skK.2.2.2.2.2.2.2.2.2.2.2.2.2.2.2.2.2.2.2.2.2.2.2.2.2.2.2.1
@[irreducible] noncomputable def g9 : Heap := skK.2.2.2.2.2.2.2.2.2.2.2.2.2.2.2.2.2.2.2.2.2.2.2.2.2.2.2.2.1
@[irreducible] noncomputable def L9 : Addr := skK.2.2.2.2.2.2.2.2.2.2.2.2.2.2.2.2.2.2.2.2.2.2.2.2.2.2.2.2.2.1
@[irreducible] noncomputable def h9 : Heap := skK.2.2.2.2.2.2.2.2.2.2.2.2.2.2.2.2.2.2.2.2.2.2.2.2.2.2.2.2.2.2
theorem skAll (hb : skP w p loose mean mg mb k b ta tb rest dp un gd cn cs a' ccd cl outer A₀ base h₀ L m s Q E g9 L9 h9) : ∀ (y0 : World) (y1 : Program) (y2 : List PySem.Str) (y3 : ExcName → Option Value) (y4 : PySem.Str → Option Value) (y5 : PySem.Str → Option Value) (y6 : Nat) (y7 : Nat) (y8 : Tok) (y9 : Tok) (y10 : List (Addr × Obj)) (y11 : Nat) (y12 : Nat) (y13 : Option (List Code)) (y14 : PySem.Str) (y15 : Scope) (y16 : Addr) (y17 : Value) (y18 : List (PySem.Str × Addr)) (y19 : List Env) (y20 : Around) (y21 : Heap) (y22 : Heap) (y23 : Addr) (y24 : PySem.Str → Option Value) (y25 : Shared) (y26 : Value → Shared → Prop) (y27 : Value → Shared → Prop) (y28 : Heap) (y29 : Addr) (y30 : Heap), skP y0 y1 y2 y3 y4 y5 y6 y7 y8 y9 y10 y11 y12 y13 y14 y15 y16 y17 y18 y19 y20 y21 y22 y23 y24 y25 y26 y27 y28 y29 y30 := by
  intro y0 y1 y2 y3 y4 y5 y6 y7 y8 y9 y10 y11 y12 y13 y14 y15 y16 y17 y18 y19 y20 y21 y22 y23 y24 y25 y26 y27 y28 y29 y30
  refine Classical.byContradiction fun hn => ?_
  have h1 := @Classical.epsilon_spec skD (fun d => ¬ skP d.1 d.2.1 d.2.2.1 d.2.2.2.1 d.2.2.2.2.1 d.2.2.2.2.2.1 d.2.2.2.2.2.2.1 d.2.2.2.2.2.2.2.1 d.2.2.2.2.2.2.2.2.1 d.2.2.2.2.2.2.2.2.2.1 d.2.2.2.2.2.2.2.2.2.2.1 d.2.2.2.2.2.2.2.2.2.2.2.1 d.2.2.2.2.2.2.2.2.2.2.2.2.1 d.2.2.2.2.2.2.2.2.2.2.2.2.2.1 d.2.2.2.2.2.2.2.2.2.2.2.2.2.2.1 d.2.2.2.2.2.2.2.2.2.2.2.2.2.2.2.1 d.2.2.2.2.2.2.2.2.2.2.2.2.2.2.2.2.1 d.2.2.2.2.2.2.2.2.2.2.2.2.2.2.2.2.2.1 d.2.2.2.2.2.2.2.2.2.2.2.2.2.2.2.2.2.2.1 d.2.2.2.2.2.2.2.2.2.2.2.2.2.2.2.2.2.2.2.1 d.2.2.2.2.2.2.2.2.2.2.2.2.2.2.2.2.2.2.2.2.1 d.2.2.2.2.2.2.2.2.2.2.2.2.2.2.2.2.2.2.2.2.2.1 d.2.2.2.2.2.2.2.2.2.2.2.2.2.2.2.2.2.2.2.2.2.2.1 d.2.2.2.2.2.2.2.2.2.2.2.2.2.2.2.2.2.2.2.2.2.2.2.1 d.2.2.2.2.2.2.2.2.2.2.2.2.2.2.2.2.2.2.2.2.2.2.2.2.1 d.2.2.2.2.2.2.2.2.2.2.2.2.2.2.2.2.2.2.2.2.2.2.2.2.2.1 d.2.2.2.2.2.2.2.2.2.2.2.2.2.2.2.2.2.2.2.2.2.2.2.2.2.2.1 d.2.2.2.2.2.2.2.2.2.2.2.2.2.2.2.2.2.2.2.2.2.2.2.2.2.2.2.1 d.2.2.2.2.2.2.2.2.2.2.2.2.2.2.2.2.2.2.2.2.2.2.2.2.2.2.2.2.1 d.2.2.2.2.2.2.2.2.2.2.2.2.2.2.2.2.2.2.2.2.2.2.2.2.2.2.2.2.2.1 d.2.2.2.2.2.2.2.2.2.2.2.2.2.2.2.2.2.2.2.2.2.2.2.2.2.2.2.2.2.2) ⟨(y0, y1, y2, y3, y4, y5, y6, y7, y8, y9, y10, y11, y12, y13, y14, y15, y16, y17, y18, y19, y20, y21, y22, y23, y24, y25, y26, y27, y28, y29, y30), hn⟩
  delta w p loose mean mg mb k b ta tb rest dp un gd cn cs a' ccd cl outer A₀ base h₀ L m s Q E g9 L9 h9 at hb
  delta skK at hb
  exact h1 hb
theorem skBody : skP w p loose mean mg mb k b ta tb rest dp un gd cn cs a' ccd cl outer A₀ base h₀ L m s Q E g9 L9 h9 := by
  unfold skP CtrG premOf3
  intro d hd ha hb hab hb2 hr
  intro B F X N T hk hdp hu hret
  have S : Sp h₀ L s.heap (secs d) rest := ⟨news_sub N (fun p hp => List.mem_append_left _ hp), news_sub N (fun p hp => List.mem_append_right _ hp), hr⟩
  k_with "now" => have kNow11 : True := trivial
  k_with "ov USub" => ((fail_if_success (fail_if_success (k_extra "now"; clear kNow11))); first | (refine neg_to (b : Int) (by lia) ?_; intro _ _) | (refine neg_to _ rfl ?_; intro _ _))
  intro FG' F' N' B' X' T' l1 l2 l3
  (try k_lt l1); (try dsimp only); (try k_fold)
  k_steps
  all_goals try (exfalso; lia)
  k_dflt (refine' Ctr.use ?B3 ?F3 ?X3 ?N3 ?T3 ?k3 ?d3 ?u3 (c_idm2 k b _ _ d [] hd ha hb hab hb2 (fun _ h => nomatch h)) ?_)
  case B3 => k_asm
  case F3 => k_asm
  case X3 => k_asm
  case N3 => (refine news_sub (by k_asm) ?_; intro p hp; first | exact List.mem_append_left _ (by simpa using hp) | simpa using hp)
  case T3 => k_asm
  case k3 => first | exact rfl | assumption
  case d3 => ktr_room
  case u3 => ktr_units
  intro B1 v1 h1 tk1 n1 hB1 hL1 R1 F1 N1
  obtain ⟨D, c1, oc1, c2, oc2, t, u, e1, e2, hs, g1, g2, g3, g4, g5⟩ := R1
  subst e1; subst e2
  clear hB1
  dsimp only [secs, sec52, sec59, List.cons_append, List.nil_append] at N1
  k_sweep
  try k_fold
  k_steps
  (rename News _ _ _ (_ :: _) => hN9)
  exact hret _ _ _ _ ⟨_, c1, oc1, c2, oc2, _, _, rfl, rfl, hs, leN (by lia), neN (by lia), neN (by lia), g4.imp_left (fun h => Nat.le_trans (leN (by lia)) h), g5.imp_left (fun h => Nat.le_trans (leN (by lia)) h)⟩ (by assumption) (news_app (news_sub hN9 (by dsimp only [sec52, sec59, secs, List.cons_append, List.nil_append]; walk_at "allIn")) (by assumption))
end sk_c_idm3
section
variable {w : World} {p : Program} {loose : List Str} {mean : ExcName → Option Value} {mg mb : Str → Option Value}
theorem c_idm3 (k b : Nat) (ta tb : Tok) (d : Option ((Addr × Obj) × (Addr × Obj))) (rest : List (Addr × Obj)) (hd : secsOk d) (ha : 1 < k) (hb : 0 < b) (hab : k ≤ b * 2 ^ 60) (hb2 : BL b ≤ 50000)
   (hr : ∀ q ∈ rest, ∀ p ∈ secs d, q.1 ≠ p.1) :
    Ctr w p loose mean mg mb 250 3300 78 [.int k ta, .int (-(b : Int)) tb] (secs d ++ rest) (RTup (-(((k - 1) / b : Nat) : Int) - 1) (-((b : Int) + (-(((k - 1) % b : Nat) : Int) - 1))) d rest) := by
  intro dp un gd cn cs a' ccd cl outer A₀ base h₀ L m s Q E
  intro B F X N T hk hdp hu hret
  have X0 := X
  have S : Sp h₀ L s.heap (secs d) rest := ⟨news_sub N (fun p hp => List.mem_append_left _ hp), news_sub N (fun p hp => List.mem_append_right _ hp), hr⟩
  walk_at "enterS"
  intro g9 L9 h9
  exact sk_c_idm3.skAll sk_c_idm3.skBody w p loose mean mg mb k b ta tb rest dp un gd cn cs a' ccd cl outer A₀ base h₀ L m s Q E g9 L9 h9 d hd ha hb hab hb2 hr B F X0 N T hk hdp hu hret

end
end
example {prog : Program} {w : World} {A : Around} {env : Env} {Q : Flow → Shared → Prop} {E : Value → Shared → Prop} {s : Shared} (h : wpAny (model prog w) A (execs [] env) Q E s) : wpAny (model prog w) A (execs [] env) Q E s := by ((k_with "now" => have kReset : True := trivial); (k_with "piece" => have kP_M4 : True := trivial); w_top off; first | (walk1; fail) | exact h)
section
theorem apW_len_eq : ∀ (c n : Nat), 16 ^ c ≤ n → n < 16 ^ (c + 1) → (apW n).length = c + 1
  | 0, n, h0, h1 => by
    have : ∀ j : Fin 16, 1 ≤ j.1 → (apW j.1).length = 1 := by decide +kernel
    exact this ⟨n, by simpa using h1⟩ (by simpa using h0)
  | c + 1, n, h0, h1 => by
    have hp : 0 < 16 ^ (c + 1) := Nat.pow_pos (by lia)
    cases n with
    | zero => lia
    | succ n =>
      rw [apW_succ, List.length_append, List.length_singleton, apW_len_eq c ((n + 1) / 16) ((Nat.le_div_iff_mul_le (by lia)).mpr (by rw [Nat.pow_succ] at h0; lia)) (Nat.div_lt_of_lt_mul (by rw [Nat.pow_succ] at h1; lia))]
theorem apW_ints (n : Nat) : (∀ k ∈ (apW n).map (fun b => (b.toNat : Int)), 65 ≤ k ∧ k ≤ 80) ∧ apVal ((apW n).map (fun b => (b.toNat : Int))) = n := by
  induction n using Nat.strongRecOn with
  | _ n ih =>
    cases n with
    | zero => simp [apW_zero, apVal]
    | succ n =>
      obtain ⟨h1, h2⟩ := ih ((n + 1) / 16) (by lia)
      have e : (UInt8.ofNat (65 + (n + 1) % 16)).toNat = 65 + (n + 1) % 16 := by
        rw [UInt8.toNat_ofNat']; lia
      rw [apW_succ, List.map_append, List.map_singleton, e]
      refine ⟨?_, ?_⟩
      · intro k hk
        rcases List.mem_append.mp hk with hk | hk
        · exact h1 k hk
        · rw [List.mem_singleton.mp hk]; lia
      · rw [apVal_snoc, h2]; lia
end
example {prog : Program} {w : World} {A : Around} {env : Env} {Q : Flow → Shared → Prop} {E : Value → Shared → Prop} {s : Shared} (h : wpAny (model prog w) A (execs [] env) Q E s) : wpAny (model prog w) A (execs [] env) Q E s := by ((k_with "now" => have kReset : True := trivial); (k_with "piece" => have kP_S1 : True := trivial); w_top off; first | (walk1; fail) | exact h)
section
section
open SetTable
/-- what a set's table of few numbers is, in the world that is led by the places -/
structure Ris (t : SetTable) : Prop where
  up : t.place.toList.Pairwise (· < ·)
  nod : t.dummies = #[]
  msk : t.mask = 7
  pln : t.plain = true
theorem led_put (t : SetTable) (j : Nat) : (t.put j).1.led = t.led ∧ (t.put j).1.plain = t.plain ∧ (t.put j).1.mask = t.mask := ⟨rfl, rfl, rfl⟩
theorem led_standIn (t : SetTable) (n : Nat) : (t.orStandIn n).led = t.led := by unfold SetTable.orStandIn; split <;> rfl
theorem led_layNew (t : SetTable) (es : Array (Int × Value)) (h : Int) (x : Value) : (layNew t es h x).2.1.led = t.led := by
  unfold layNew
  split
  · exact led_standIn _ _
  · rfl
theorem led_relaid {t t' : SetTable} {hs : Array Int} {n : Nat} {o : Array Nat} (h : t.relaid hs n = some (t', o)) : t'.led = t.led := by
  unfold SetTable.relaid SetTable.laid at h
  cases hl : layClean (sizeAbove n - 1) hs with
  | none => rw [hl] at h; cases h
  | some ow => rw [hl] at h; cases h; rfl
theorem led_relayAll (t : SetTable) (es : Array (Int × Value)) (n : Nat) : (relayAll t es n).2.1.led = t.led := by
  unfold relayAll
  split
  · rename_i h
    dsimp only
    split
    · exact led_relaid h
    · rfl
  · rfl
variable {prog : Program} {w : World} {A : Around} {E : Value → Shared → Prop} {s : Shared}
theorem addTail2 {g : Bool → Sem Unit} (hg : ∀ (b : Bool) (s₁ : Shared) (Q' : Unit → Shared → Prop), Q' () s₁ → wpAny (model prog w) A (g b) Q' E s₁)
    {a : Addr} {o : Obj} {es : Array (Int × Value)} {ep : Nat} {t : SetTable} (ho : s.heap.get? a = some o) (hd : o.data = .set es ep t)
    {es1 : Array (Int × Value)} {t2 : SetTable} (hb1 : es1.size < scanBound) (hf2 : t2.fits es1.size = true) {wasDummy : Bool} {R : Option Bool → Shared → Prop}
    (h : ∀ h' es' ep' t', Heap.SameBut a s.heap h' → h'.get? a = some { o with data := .set es' ep' t' } → List.Perm es'.toList es1.toList → t'.fits es'.size = true → t'.led = t2.led → (t2.tooFull = false → t' = t2 ∧ es' = es1) → R (some true) { s with heap := h' }) :
    wpAny (model prog w) A (do
        storeSet a es1 t2
        if (!wasDummy && t2.tooFull) = true then do
            g (relayAll t2 es1 (SetTable.grown es1.size)).2.2
            storeSet a (relayAll t2 es1 (SetTable.grown es1.size)).1 (relayAll t2 es1 (SetTable.grown es1.size)).2.1
            pure (some true)
          else pure (some true)) R E s := by
  refine wpAny_bind (wpAny_storeSet_of ho hd ?_ (fits_of_scanBound hb1))
  have ho1 : (s.heap.update a (Obj.putSet es1 t2)).get? a = some { o with data := .set es1 (ep + 1) t2 } := by
    have := Heap.get?_update_self (Obj.putSet es1 t2) ho (by rw [putSet_of es1 t2 hd]; rfl)
    rw [putSet_of es1 t2 hd] at this; exact this
  have hsb1 := Heap.SameBut.update s.heap a (Obj.putSet es1 t2)
  split
  · rename_i hc
    have hp := relayAll_perm t2 es1 (SetTable.grown es1.size)
    have hfr := relayAll_fits t2 es1 (SetTable.grown es1.size)
    have hl := led_relayAll t2 es1 (SetTable.grown es1.size)
    generalize hRl : relayAll t2 es1 (SetTable.grown es1.size) = Rl at hp hfr hl ⊢
    obtain ⟨es2, t3, gave2⟩ := Rl
    dsimp only at hp hfr hl ⊢
    have hsz : es2.size = es1.size := by rw [← Array.length_toList, hp.length_eq, Array.length_toList]
    have hb2 : es2.size < scanBound := by rw [hsz]; exact hb1
    refine wpAny_bind (hg _ _ _ ?_)
    refine wpAny_bind (wpAny_storeSet_of ho1 rfl ?_ (fits_of_scanBound hb2))
    have ho2 := Heap.get?_update_self (Obj.putSet es2 t3) ho1 (by rw [putSet_of (o := { o with data := .set es1 (ep + 1) t2 }) es2 t3 rfl]; rfl)
    rw [putSet_of (o := { o with data := .set es1 (ep + 1) t2 }) es2 t3 rfl] at ho2
    exact wpAny_pure (h _ _ _ _ (hsb1.trans (Heap.SameBut.update _ a _)) ho2 hp hfr hl (fun hn => by rw [hn] at hc; simp at hc))
  · exact wpAny_pure (h _ _ _ _ hsb1 ho1 (.refl _) hf2 rfl (fun _ => ⟨rfl, rfl⟩))
theorem addHashed2 {a : Addr} {o : Obj} {es : Array (Int × Value)} {ep : Nat} {t : SetTable} {k : Int} {tk : Tok} {Q : Bool → Shared → Prop}
    (ho : s.heap.get? a = some o) (hd : o.data = .set es ep t) (hel : ElemsOf (intKind prog w) es.toList) (hf : t.fits es.size = true) (hroom : es.size + 1 < scanBound)
    (hold : (∃ e ∈ es.toList, (intKind prog w).is k e.2 = true) → Q false s)
    (hnew : (∀ e ∈ es.toList, (intKind prog w).is k e.2 = false) → ∀ h' es' ep' t', Heap.SameBut a s.heap h' → h'.get? a = some { o with data := .set es' ep' t' } → List.Perm es'.toList (es.toList ++ [((intKind prog w).hash k, Value.int k tk)]) → t'.fits es'.size = true → t'.led = t.led →
      ((layNew t es ((intKind prog w).hash k) (.int k tk)).2.1.tooFull = false → t' = (layNew t es ((intKind prog w).hash k) (.int k tk)).2.1) → Q true { s with heap := h' }) :
    wpAny (model prog w) A (setAddHashed a (.int k tk) ((intKind prog w).hash k)) Q E s := by
  have hkey : (intKind prog w).is k (.int k tk) = true := intKind_is _ _ _ _
  have hsc : (Value.int k tk).scannable = true := rfl
  unfold setAddHashed setAddHashedIn
  refine wpAny_holding (wpAny_bind (wpAny_setState_of ho hd hf ?_))
  dsimp only
  rw [byScan_of hsc (by lia) hel]
  simp only [↓reduceIte]
  unfold setAddByScan
  refine wpAny_bind ?_
  refine wpAny_bind (wpAny_rule ?_)
  refine wpAny_bind (wpAny_setScan_of hkey ho hd hf hel ?_)
  cases hr : List.findIdx? (fun e => (intKind prog w).is k e.2) es.toList with
  | some j =>
    dsimp only
    obtain ⟨hj, hpj, _⟩ := List.findIdx?_eq_some_iff_getElem.mp hr
    exact wpAny_pure (wpAny_pure (hold ⟨es.toList[j], List.getElem_mem hj, hpj⟩))
  | none =>
    dsimp only
    have hno := List.findIdx?_eq_none_iff.mp hr
    have hgw : ∀ (b : Bool) {s₁ : Shared} {Q' : Unit → Shared → Prop}, Q' () s₁ → wpAny (model prog w) A (match b with | true => rule "set.scan.the-table-gave-way" | false => pure ()) Q' E s₁ :=
      fun b s₁ Q' hq => by cases b <;> first | exact wpAny_pure hq | exact wpAny_rule hq
    have hperm := layNew_perm t es ((intKind prog w).hash k) (.int k tk)
    have hfits := layNew_fits t es ((intKind prog w).hash k) (.int k tk)
    have hled := led_layNew t es ((intKind prog w).hash k) (.int k tk)
    generalize hL : layNew t es ((intKind prog w).hash k) (.int k tk) = L at hperm hfits hled hnew ⊢
    obtain ⟨es1, t1, wasDummy, gave⟩ := L
    dsimp only at hperm hfits hled hnew ⊢
    rw [Array.toList_push] at hperm
    have hb1' : es1.size < scanBound := by rw [← Array.length_toList, hperm.length_eq, List.length_append, Array.length_toList]; simpa using hroom
    refine wpAny_bind (hgw _ ?_)
    have hend : ∀ t2 : SetTable, t2 = t1 → t2.fits es1.size = true → wpAny (model prog w) A (do
        storeSet a es1 t2
        if (!wasDummy && t2.tooFull) = true then do
            (match (relayAll t2 es1 (SetTable.grown es1.size)).2.2 with | true => rule "set.scan.the-table-gave-way" | false => pure ())
            storeSet a (relayAll t2 es1 (SetTable.grown es1.size)).1 (relayAll t2 es1 (SetTable.grown es1.size)).2.1
            pure (some true)
          else pure (some true)) (fun r s' => r = some true ∧ Q true s') E s := by
      intro t2 e2 hf2
      refine addTail2 (g := fun b => match b with | true => rule "set.scan.the-table-gave-way" | false => pure ()) (fun b s₁ Q' hq => by cases b <;> first | exact wpAny_pure hq | exact wpAny_rule hq) ho hd hb1' hf2 ?_
      intro h' es' ep' t' hsb hg hp hfit hl htf
      exact ⟨rfl, hnew hno h' es' ep' t' hsb hg (hp.trans hperm) hfit (by rw [hl, e2, hled]) (fun hn => by rw [← e2] at hn ⊢; exact (htf hn).1)⟩
    split
    · refine wpAny_bind ?_
      rw [hashByValue_scannable 8 hsc]
      refine wpAny_pure ?_
      refine wpAny_mono (hend t1 rfl hfits) (fun r s' hq => ?_) fun _ _ x => x
      obtain ⟨rfl, hq⟩ := hq
      exact wpAny_pure hq
    · refine wpAny_bind (wpAny_pure ?_)
      simp only [↓reduceIte]
      refine wpAny_mono (hend t1 rfl hfits) (fun r s' hq => ?_) fun _ _ x => x
      obtain ⟨rfl, hq⟩ := hq
      exact wpAny_pure hq
end
end
example {prog : Program} {w : World} {A : Around} {env : Env} {Q : Flow → Shared → Prop} {E : Value → Shared → Prop} {s : Shared} (h : wpAny (model prog w) A (execs [] env) Q E s) : wpAny (model prog w) A (execs [] env) Q E s := by ((k_with "now" => have kReset : True := trivial); (k_with "piece" => have kP_S2 : True := trivial); w_top off; first | (walk1; fail) | exact h)
section
section
open SetTable
def Up (xs : Array Nat) : Prop := xs.toList.Pairwise (· < ·)
theorem Up.lt {xs : Array Nat} (h : Up xs) {a b d : Nat} (hab : a < b) (hb : b < xs.size) : xs.getD a d < xs.getD b d := by
  have ha : a < xs.size := by lia
  have := List.pairwise_iff_getElem.mp h a b (by simpa using ha) (by simpa using hb) hab
  simpa [Array.getD, ha, hb] using this
theorem below_go {xs : Array Nat} (h : Up xs) (j : Nat) : ∀ fuel lo hi, hi - lo ≤ fuel → lo ≤ hi → hi ≤ xs.size → (∀ m, m < lo → xs.getD m j < j) → (∀ m, hi ≤ m → m < xs.size → j ≤ xs.getD m j) →
    below.go xs j fuel lo hi ≤ xs.size ∧ (∀ m, m < below.go xs j fuel lo hi → xs.getD m j < j) ∧ (∀ m, below.go xs j fuel lo hi ≤ m → m < xs.size → j ≤ xs.getD m j) := by
  intro fuel
  induction fuel with
  | zero =>
    intro lo hi h1 h2 h3 h4 h5
    have e : lo = hi := by lia
    subst e
    exact ⟨h3, h4, h5⟩
  | succ fuel ih =>
    intro lo hi h1 h2 h3 h4 h5
    unfold below.go
    split
    · dsimp only
      split
      · rename_i hlt hm
        refine ih _ _ (by lia) (by lia) h3 (fun m hm' => ?_) h5
        rcases Nat.lt_or_ge m ((lo + hi) / 2) with hx | hx
        · exact Nat.lt_trans (h.lt hx (by lia)) hm
        · rw [show m = (lo + hi) / 2 by lia]; exact hm
      · rename_i hlt hm
        refine ih _ _ (by lia) (by lia) (by lia) h4 (fun m hm' hms => ?_)
        rcases Nat.lt_or_ge ((lo + hi) / 2) m with hx | hx
        · exact Nat.le_of_lt (Nat.lt_of_le_of_lt (Nat.le_of_not_lt hm) (h.lt hx hms))
        · rw [show m = (lo + hi) / 2 by lia]; exact Nat.le_of_not_lt hm
    · rename_i hlt
      have e : lo = hi := by lia
      subst e
      exact ⟨h3, h4, h5⟩
theorem below_spec {xs : Array Nat} (h : Up xs) (j : Nat) : below xs j ≤ xs.size ∧ (∀ m, m < below xs j → xs.getD m j < j) ∧ (∀ m, below xs j ≤ m → m < xs.size → j ≤ xs.getD m j) :=
  below_go h j xs.size 0 xs.size (by lia) (by lia) (Nat.le_refl _) (fun m hm => by lia) (fun m h1 h2 => by lia)
theorem getD_some {xs : Array Nat} {m d v : Nat} (h : xs[m]? = some v) : xs.getD m d = v ∧ m < xs.size := by
  obtain ⟨hm, e⟩ := Array.getElem?_eq_some_iff.mp h
  exact ⟨by simp [Array.getD, hm, e], hm⟩
theorem below_at {xs : Array Nat} (h : Up xs) {m j : Nat} (hm : xs[m]? = some j) : below xs j = m := by
  obtain ⟨e, hlt⟩ := getD_some (d := j) hm
  obtain ⟨h1, h2, h3⟩ := below_spec h j
  rcases Nat.lt_trichotomy (below xs j) m with hx | hx | hx
  · have := h3 _ (Nat.le_refl _) (by lia)
    have := h.lt (d := j) hx hlt
    lia
  · exact hx
  · have := h2 m hx; lia
theorem below_next {xs : Array Nat} (h : Up xs) {m j : Nat} (hm : xs[m]? = some j) : below xs (j + 1) = m + 1 := by
  obtain ⟨e, hlt⟩ := getD_some (d := j + 1) hm
  obtain ⟨h1, h2, h3⟩ := below_spec h (j + 1)
  rcases Nat.lt_trichotomy (below xs (j + 1)) (m + 1) with hx | hx | hx
  · have := h3 m (by lia) hlt; lia
  · exact hx
  · have h4 := h2 (m + 1) hx
    have h5 := h.lt (a := m) (b := m + 1) (d := j + 1) (by lia) (by lia)
    lia
theorem insert_up {xs : Array Nat} (h : Up xs) {j : Nat} (hj : xs[below xs j]? ≠ some j) : Up (insertAt xs (below xs j) j) := by
  obtain ⟨h1, h2, h3⟩ := below_spec h j
  unfold Up
  rw [SetTable.toList_insertAt]
  have hp : xs.toList.Pairwise (· < ·) := h
  refine List.pairwise_append.mpr ⟨hp.sublist (List.take_sublist _ _), List.pairwise_cons.mpr ⟨fun b hb => ?_, hp.sublist (List.drop_sublist _ _)⟩, fun a ha b hb => ?_⟩
  · obtain ⟨i, hi, e⟩ := List.mem_iff_getElem.mp hb
    rw [List.length_drop, Array.length_toList] at hi
    rw [List.getElem_drop] at e
    have hlt : below xs j + i < xs.size := by lia
    have e2 : xs[below xs j + i]? = some b := by rw [Array.getElem?_eq_getElem hlt]; simpa using e
    have h4 := h3 _ (Nat.le_add_right _ i) hlt
    rw [(getD_some e2).1] at h4
    rcases Nat.lt_or_ge j b with hx | hx
    · exact hx
    · have hbj : b = j := by lia
      subst hbj
      have := below_at h e2
      have hi0 : i = 0 := by lia
      subst hi0
      exact absurd e2 hj
  · have haj : a < j := by
      obtain ⟨i, hi, e⟩ := List.mem_iff_getElem.mp ha
      rw [List.length_take, Array.length_toList] at hi
      rw [List.getElem_take] at e
      have hlt : i < xs.size := by lia
      have e2 : xs[i]? = some a := by rw [Array.getElem?_eq_getElem hlt]; simpa using e
      have h4 := h2 i (by lia)
      rw [(getD_some e2).1] at h4
      exact h4
    rcases List.mem_cons.mp hb with e | hb
    · rw [e]; exact haj
    · obtain ⟨i, hi, e⟩ := List.mem_iff_getElem.mp hb
      rw [List.length_drop, Array.length_toList] at hi
      rw [List.getElem_drop] at e
      have hlt : below xs j + i < xs.size := by lia
      have e2 : xs[below xs j + i]? = some b := by rw [Array.getElem?_eq_getElem hlt]; simpa using e
      have h4 := h3 _ (Nat.le_add_right _ i) hlt
      rw [(getD_some e2).1] at h4
      lia
/-- the places that a search comes to at mask 7 -/
def adv : Nat → Nat × Nat → Nat × Nat
  | 0, p => p
  | k + 1, p => adv k ((p.1 * 5 + 1 + p.2 / 32) % 8, p.2 / 32)
theorem adv_q : ∀ k p, (adv k p).2 = p.2 / 32 ^ k
  | 0, p => by simp [adv]
  | k + 1, p => by rw [adv, adv_q k, Nat.div_div_eq_div_mul, Nat.pow_succ, Nat.mul_comm]
theorem adv_app : ∀ a b p, adv (a + b) p = adv b (adv a p)
  | 0, b, p => by simp [adv]
  | a + 1, b, p => by rw [show a + 1 + b = (a + b) + 1 by lia, adv, adv_app a b, adv]
theorem adv_lt (p : Nat × Nat) (k : Nat) (h : p.1 < 8) : (adv k p).1 < 8 := by
  induction k generalizing p with
  | zero => exact h
  | succ k ih => exact ih _ (Nat.mod_lt _ (by lia))
theorem adv_all : ∀ i : Fin 8, ∀ r : Fin 8, ∃ k : Fin 8, (adv k.1 (i.1, 0)).1 = r.1 := by decide +kernel
theorem probe_or {t : SetTable} (hm : t.mask = 7) (hd : t.dummies = #[]) (h : Int) : ∀ fuel i q, i < 8 →
    (∃ j, probe.go t (fun _ => h + 1) h fuel { j := i, more := 0, i := i, perturb := q, dummy := none } = some (.empty j none) ∧ t.place[below t.place j]? ≠ some j) ∨
    (∀ k, k < fuel → t.place[below t.place (adv k (i, q)).1]? = some (adv k (i, q)).1) := by
  intro fuel
  induction fuel with
  | zero => intro i q _; exact .inr fun k hk => absurd hk (Nat.not_lt_zero _)
  | succ fuel ih =>
    intro i q hi
    by_cases hl : t.place[below t.place i]? = some i
    · have hs : t.slot i = .live (below t.place i) := by unfold SetTable.slot; simp [hl]
      have hne : ((h + 1 == h) = true) = False := by simp; lia
      have ha : t.advance { j := i, more := 0, i := i, perturb := q, dummy := none } = { j := (i * 5 + 1 + q / 32) % 8, more := 0, i := (i * 5 + 1 + q / 32) % 8, perturb := q / 32, dummy := none } := by
        have hlt : (i * 5 + 1 + q / 32) % 8 < 8 := Nat.mod_lt _ (by lia)
        unfold SetTable.advance SetTable.leap SetTable.runEnd
        rw [hm]
        simp only [Nat.lt_irrefl, if_false, Nat.reduceAdd, gt_iff_lt]
        rw [if_neg (by lia), Nat.sub_self]
      have e : probe.go t (fun _ => h + 1) h (fuel + 1) { j := i, more := 0, i := i, perturb := q, dummy := none } = probe.go t (fun _ => h + 1) h fuel { j := (i * 5 + 1 + q / 32) % 8, more := 0, i := (i * 5 + 1 + q / 32) % 8, perturb := q / 32, dummy := none } := by
        rw [probe.go]
        dsimp only
        rw [hs]
        dsimp only
        rw [if_neg (by rw [hne]; exact id), ha]
      rcases ih ((i * 5 + 1 + q / 32) % 8) (q / 32) (Nat.mod_lt _ (by lia)) with ⟨j, h1, h2⟩ | h1
      · exact .inl ⟨j, by rw [e]; exact h1, h2⟩
      · refine .inr fun k hk => ?_
        cases k with
        | zero => exact hl
        | succ k => exact h1 k (by lia)
    · refine .inl ⟨i, ?_, hl⟩
      have hs : t.slot i = .empty := by
        unfold SetTable.slot SetTable.has
        rw [hd]; simp [hl]
      rw [probe.go]
      dsimp only
      rw [hs]
theorem bits_lt64 (h : Int) : bits h < 2 ^ 64 := by
  unfold SetTable.bits
  have := Int.emod_lt_of_pos h (show (0 : Int) < 2 ^ 64 by decide)
  have := Int.emod_nonneg h (show (2 ^ 64 : Int) ≠ 0 by decide)
  lia
theorem four_in {l : List Nat} (h : l.length ≤ 3) (h0 : 0 ∈ l) (h1 : 1 ∈ l) (h2 : 2 ∈ l) (h3 : 3 ∈ l) : False := by
  match l, h with
  | [], _ => simp at h0
  | [a], _ => simp at h0 h1; lia
  | [a, b], _ => simp at h0 h1 h2; lia
  | [a, b, c], _ => simp at h0 h1 h2 h3; lia
  | a :: b :: c :: d :: r, h => simp at h
theorem free_some {t : SetTable} (R : Ris t) (hn : t.place.size ≤ 3) (h : Int) : ∃ j, t.freeSlot h = some (j, false) ∧ t.place[below t.place j]? ≠ some j := by
  have hi : bits h % 8 < 8 := Nat.mod_lt _ (by lia)
  have e : t.probe (fun _ => h + 1) h (t.probeStart h) = probe.go t (fun _ => h + 1) h 220 { j := bits h % 8, more := 0, i := bits h % 8, perturb := bits h, dummy := none } := by
    unfold SetTable.probe SetTable.probeStart SetTable.runEnd SetTable.turns
    rw [R.msk]
    simp only [Nat.reduceAdd, Nat.reduceMul]
    rw [if_neg (by lia), Nat.sub_self]
  rcases probe_or R.msk R.nod h 220 (bits h % 8) (bits h) hi with ⟨j, h1, h2⟩ | h1
  · refine ⟨j, ?_, h2⟩
    unfold SetTable.freeSlot
    rw [e, h1]; rfl
  · exfalso
    have hq : (adv 14 (bits h % 8, bits h)).2 = 0 := by
      rw [adv_q]
      refine Nat.div_eq_of_lt (Nat.lt_of_lt_of_le (bits_lt64 h) ?_)
      decide
    have hall : ∀ r, r < 8 → r ∈ t.place.toList := by
      intro r hr
      obtain ⟨k, hk⟩ := adv_all ⟨(adv 14 (bits h % 8, bits h)).1, adv_lt _ _ hi⟩ ⟨r, hr⟩
      have h3 := h1 (14 + k.1) (by lia)
      rw [adv_app] at h3
      have e2 : adv 14 (bits h % 8, bits h) = ((adv 14 (bits h % 8, bits h)).1, 0) := by rw [← hq]
      rw [e2] at h3
      dsimp only at hk
      rw [hk] at h3
      rw [← Array.getElem?_toList] at h3
      exact List.mem_of_getElem? h3
    exact four_in (by simpa using hn) (hall 0 (by lia)) (hall 1 (by lia)) (hall 2 (by lia)) (hall 3 (by lia))
theorem ris_new {t : SetTable} (R : Ris t) {es : Array (Int × Value)} (hf : t.fits es.size = true) (hn : es.size ≤ 3) (h : Int) (x : Value) :
    Ris (layNew t es h x).2.1 ∧ (layNew t es h x).2.1.tooFull = false := by
  have hsz : t.place.size = es.size := by simp [SetTable.fits] at hf; exact hf.1
  obtain ⟨j, h1, h2⟩ := free_some R (by lia) h
  have e : layNew t es h x = (insertAt es (below t.place j) (h, x), ((t.put j).1).orStandIn (insertAt es (below t.place j) (h, x)).size, false, !((t.put j).1).fits (insertAt es (below t.place j) (h, x)).size) := by
    unfold layNew
    rw [h1]
    rfl
  have hs1 : (insertAt es (below t.place j) (h, x)).size = es.size + 1 := by
    rw [← Array.length_toList, (SetTable.insertAt_perm _ _ _).length_eq]; simp
  have hs2 : (insertAt t.place (below t.place j) j).size = t.place.size + 1 := by
    rw [← Array.length_toList, (SetTable.insertAt_perm _ _ _).length_eq]; simp
  have hd : (t.put j).1.dummies = #[] := by
    unfold SetTable.put SetTable.has
    simp [R.nod]
  have hp : (t.put j).1.place = insertAt t.place (below t.place j) j := rfl
  have hm : (t.put j).1.mask = 7 := R.msk
  have hfit : (t.put j).1.fits (insertAt es (below t.place j) (h, x)).size = true := by
    unfold SetTable.fits SetTable.fill
    rw [hd, hp, hm, hs1, hs2, hsz]
    simp; lia
  have e2 : ((t.put j).1).orStandIn (insertAt es (below t.place j) (h, x)).size = (t.put j).1 := by unfold SetTable.orStandIn; rw [if_pos hfit]
  rw [e]
  dsimp only
  rw [e2]
  refine ⟨⟨by rw [hp]; exact insert_up R.up h2, hd, hm, R.pln⟩, ?_⟩
  unfold SetTable.tooFull SetTable.fill
  rw [hd, hp, hm, hs2, hsz]
  simp; lia
end
end
example {prog : Program} {w : World} {A : Around} {env : Env} {Q : Flow → Shared → Prop} {E : Value → Shared → Prop} {s : Shared} (h : wpAny (model prog w) A (execs [] env) Q E s) : wpAny (model prog w) A (execs [] env) Q E s := by ((k_with "now" => have kReset : True := trivial); (k_with "piece" => have kP_S3 : True := trivial); w_top off; first | (walk1; fail) | exact h)
section
section
theorem slot_si_next : Slot "set_iterator" "__next__" "set_iterator.__next__" :=
  .of (owner := "set_iterator") (n := "__next__") (by rw [typeLookup_type, builtinLookup_eq_fast]; kernel_rfl) (by decide +kernel) (by decide +kernel) (by decide +kernel)
    (by first | exact .inl (by decide +kernel) | exact .inr (by decide +kernel)) (by rw [isSubtype_type]; kernel_rfl)
theorem entry_si_next : entryFor table "set_iterator.__next__" = some Builtin.«set_iterator.__next__» := entryFor_of_tree (by kernel_rfl)
theorem owner_si : Manifest.owners.lookup (String.ofList "set_iterator".toList.reverse.reverse) = some Manifest.sig_set_iterator := by kernel_rfl
theorem args_si_next (a : Value) : argsOk "set_iterator.__next__" ⟨[a], []⟩ := by
  unfold argsOk; rw [signature?_of (id := "set_iterator.__next__") (n := "__next__".toList.reverse) (o := "set_iterator".toList.reverse) (by kernel_rfl) owner_si]; kernel_rfl
theorem slot_si_iter : Slot "set_iterator" "__iter__" "set_iterator.__iter__" :=
  .of (owner := "set_iterator") (n := "__iter__") (by rw [typeLookup_type, builtinLookup_eq_fast]; kernel_rfl) (by decide +kernel) (by decide +kernel) (by decide +kernel)
    (by first | exact .inl (by decide +kernel) | exact .inr (by decide +kernel)) (by rw [isSubtype_type]; kernel_rfl)
theorem entry_si_iter : entryFor table "set_iterator.__iter__" = some Builtin.«dict_keyiterator.__iter__» :=
  entryFor_alias (id' := "dict_keyiterator.__iter__") (by kernel_rfl) rfl (by decide +kernel) (by kernel_rfl)
theorem args_si_iter (a : Value) : argsOk "set_iterator.__iter__" ⟨[a], []⟩ := by
  unfold argsOk; rw [signature?_of (id := "set_iterator.__iter__") (n := "__iter__".toList.reverse) (o := "set_iterator".toList.reverse) (by kernel_rfl) owner_si]; kernel_rfl
theorem entry_set_iter : entryFor table "set.__iter__" = some Builtin.«frozenset.__iter__» :=
  entryFor_alias (id' := "frozenset.__iter__") (by kernel_rfl) rfl (by decide +kernel) (by kernel_rfl)
theorem noBool_set : typeLookup (.type "set") "__bool__" = pure none := by rw [typeLookup_type, builtinLookup_eq_fast]; kernel_rfl
end
end
example {prog : Program} {w : World} {A : Around} {env : Env} {Q : Flow → Shared → Prop} {E : Value → Shared → Prop} {s : Shared} (h : wpAny (model prog w) A (execs [] env) Q E s) : wpAny (model prog w) A (execs [] env) Q E s := by ((k_with "now" => have kReset : True := trivial); (k_with "piece" => have kP_S4 : True := trivial); w_top off; first | (walk1; fail) | exact h)
section
section
open SetTable
def kvn (e : Int × Value) : Nat := match e.2 with | .int k _ => k.toNat | _ => 0
def SetB (w : World) (es : Array (Int × Value)) (t : SetTable) (xs : List Nat) (b : Bool) : Prop :=
  (∀ e ∈ es.toList, ∃ (n : Nat) (tk : Tok), e = (hashInt n, .int n tk)) ∧ List.Perm (es.toList.map kvn) xs ∧ t.fits es.size = true ∧ (t.led = true ∨ w.params.followText "set-order" = true) ∧ (b = true → Ris t) ∧ xs.Nodup
structure IsSet (w : World) (o : Obj) (xs : List Nat) (b : Bool) : Prop where
  ex : o.ExactSet
  bd : ∃ es ep t, o.data = .set es ep t ∧ SetB w es t xs b
def ins (k : Nat) (xs : List Nat) : List Nat := if k ∈ xs then xs else k :: xs
variable {prog : Program} {w : World} {A : Around} {E : Value → Shared → Prop} {s : Shared} {h₀ : Heap} {L sa : Addr} {m : Str → Option Value} {news : List (Addr × Obj)} {g : Obj → List (Addr × Obj)} {so : Obj} {xs : List Nat} {b : Bool}
theorem SetB.elems {es : Array (Int × Value)} {t : SetTable} (h : SetB w es t xs b) : ElemsOf (intKind prog w) es.toList := by
  intro e he
  obtain ⟨n, tk, rfl⟩ := h.1 e he
  exact ⟨⟨n, intKind_is _ _ _ _, rfl⟩, rfl⟩
theorem SetB.size {es : Array (Int × Value)} {t : SetTable} (h : SetB w es t xs b) : es.size = xs.length := by
  rw [← h.2.1.length_eq, List.length_map, Array.length_toList]
theorem is_int {a c : Int} {tk : Tok} : (intKind prog w).is a (.int c tk) = true ↔ c = a := by
  constructor
  · intro h
    have h' : Value.isInt a (.int c tk) = true := h
    obtain ⟨t, e⟩ := Value.isInt_shape h'
    injection e
  · intro h; rw [h]; exact intKind_is _ _ _ _
theorem SetB.mem {es : Array (Int × Value)} {t : SetTable} (h : SetB w es t xs b) (n : Nat) : n ∈ xs ↔ ∃ e ∈ es.toList, (intKind prog w).is n e.2 = true := by
  rw [← h.2.1.mem_iff, List.mem_map]
  constructor
  · rintro ⟨e, he, hk⟩
    obtain ⟨n', tk, rfl⟩ := h.1 e he
    have : n' = n := by simpa [kvn] using hk
    exact ⟨_, he, is_int.mpr (by rw [this])⟩
  · rintro ⟨e, he, hk⟩
    obtain ⟨n', tk, rfl⟩ := h.1 e he
    have := is_int.mp hk
    exact ⟨_, he, by simp [kvn]; lia⟩
theorem is_fresh (led : Bool) (h : led = true ∨ w.params.followText "set-order" = true) : IsSet w { cls := .type "set", dict := none, data := .set #[] 0 (.fresh 0 0 led) } [] true :=
  ⟨⟨rfl, rfl, rfl⟩, #[], 0, _, rfl, fun e he => by simp at he, .refl _, by rfl, h, fun _ => ⟨.nil, rfl, rfl, rfl⟩, .nil⟩
theorem IsSet.objOf (h : IsSet w so xs b) : so.SetObjOf (intKind prog w) (fun k => decide (0 ≤ k ∧ k.toNat ∈ xs)) xs.length := by
  obtain ⟨hex, es, ep, t, hd, hb⟩ := h
  refine ⟨hex, es, ep, t, hd, hb.elems, fun k => ?_, hb.size, hb.2.2.1⟩
  rw [decide_eq_true_eq]
  constructor
  · rintro ⟨h0, hk⟩
    obtain ⟨e, he, hi⟩ := (hb.mem (prog := prog) k.toNat).mp hk
    exact ⟨e, he, by rw [Int.toNat_of_nonneg h0] at hi; exact hi⟩
  · rintro ⟨e, he, hi⟩
    obtain ⟨n', tk, rfl⟩ := hb.1 e he
    have := is_int.mp hi
    refine ⟨by lia, (hb.mem (prog := prog) k.toNat).mpr ⟨_, he, is_int.mpr (by lia)⟩⟩
theorem hashed2 {k : Nat} {tk : Tok} {Q : Bool → Shared → Prop} (F : Fr h₀ L s.heap m) (N : News h₀ L s.heap news) (U : UpdF sa so news g) (hs : IsSet w so xs b) (hr : xs.length ≤ 1000) (h3 : b = true → xs.length ≤ 3)
    (h : ∀ h' so' r, Fr h₀ L h' m → News h₀ L h' (g so') → IsSet w so' (ins k xs) b → Q r { s with heap := h' }) :
    wpAny (model prog w) A (setAddHashed sa (.int k tk) ((intKind prog w).hash k)) Q E s := by
  obtain ⟨pre, post, rfl, hg, ha, hbb⟩ := U.split
  have hm := N (sa, so) (List.mem_append_right _ (.head _))
  obtain ⟨hex, es, ep, t, hd, hb⟩ := hs
  have hsz := hb.size
  refine addHashed2 hm.1 hd hb.elems hb.2.2.1 (by rw [hsz]; unfold scanBound; lia) (fun hin => ?_) (fun hno h' es' ep' t' hsb hget hp hf hl ht => ?_)
  · have hk : k ∈ xs := (hb.mem (prog := prog) k).mpr hin
    have e : s = { s with heap := s.heap } := by cases s; rfl
    rw [e]
    exact h s.heap so false F (hg so ▸ N) (by rw [ins, if_pos hk]; exact ⟨hex, es, ep, t, hd, hb⟩)
  · have hk : ¬ k ∈ xs := fun hk => by
      obtain ⟨e, he, hi⟩ := (hb.mem (prog := prog) k).mp hk
      rw [hno e he] at hi; cases hi
    refine h h' _ true (F.change hsb hm.2.1 hm.2.2) (hg _ ▸ N.setIn ha hbb hsb hget) ?_
    rw [ins, if_neg hk]
    refine ⟨hex, es', ep', t', rfl, fun e he => ?_, ?_, hf, by rw [hl]; exact hb.2.2.2.1, fun hb1 => ?_, List.nodup_cons.mpr ⟨hk, hb.2.2.2.2.2⟩⟩
    · rcases List.mem_append.mp (hp.mem_iff.mp he) with he | he
      · exact hb.1 e he
      · exact ⟨k, tk, List.mem_singleton.mp he⟩
    · refine (hp.map kvn).trans ?_
      rw [List.map_append]
      refine (List.perm_append_comm).trans ?_
      exact List.Perm.cons _ hb.2.1
    · have hR := ris_new (hb.2.2.2.2.1 hb1) hb.2.2.1 (by rw [hsz]; exact h3 hb1) ((intKind prog w).hash k) (.int k tk)
      rw [ht hR.2]; exact hR.1
theorem is_setAdd {k : Nat} {tk : Tok} {Q : Bool → Shared → Prop} (F : Fr h₀ L s.heap m) (N : News h₀ L s.heap news) (U : UpdF sa so news g) (hs : IsSet w so xs b) (hr : xs.length ≤ 1000) (h3 : b = true → xs.length ≤ 3)
    (h : ∀ h' so' r t', Fr h₀ L h' m → News h₀ L h' (g so') → IsSet w so' (ins k xs) b → Q r { s with heap := h', toks := t' }) :
    wpAny (model prog w) A (setAdd sa (.int k tk)) Q E s := by
  unfold setAdd
  refine wpAny_holding (wpAny_bind ((intKind prog w).pyHash (intKind_is _ _ _ _) ?_))
  exact hashed2 (s := { s with toks := s.toks + 1 }) F N U hs hr h3 fun h' so' r F' N' hs' => h h' so' r _ F' N' hs'
theorem is_add {k : Nat} {tk : Tok} {Q : Value → Shared → Prop} (F : Fr h₀ L s.heap m) (N : News h₀ L s.heap news) (U : UpdF sa so news g) (hs : IsSet w so xs b) (hr : xs.length ≤ 1000) (h3 : b = true → xs.length ≤ 3)
    (h : ∀ h' so' t', Fr h₀ L h' m → News h₀ L h' (g so') → IsSet w so' (ins k xs) b → Q .none { s with heap := h', toks := t' }) :
    wpAny (model prog w) A (call (.builtin "set.add") [.ref sa, .int k tk]) Q E s := by
  obtain ⟨pre, post, e0, hg, ha, hbb⟩ := id U.split
  have hm := N (sa, so) (by rw [e0]; exact List.mem_append_right _ (.head _))
  have hT : s.TypeIs (.ref sa) "set" := ⟨so, hm.1, hs.ex.1⟩
  refine wpAny_call_entry PySem.F.slot_set_add hT PySem.F.entry_set_add ?_ (PySem.F.args_set_add_2 _ _)
  unfold Builtin.«set.add» Builtin.Frozenset.oneOther
  simp only [List.isEmpty_nil, bind_assoc]
  unfold Builtin.Frozenset.addrOf setAdd
  refine wpAny_bind (wpAny_pure ?_)
  try dsimp only
  refine wpAny_bind (wpAny_pure ?_)
  try dsimp only
  refine wpAny_bind ?_
  refine wpAny_holding ?_
  refine wpAny_bind ((intKind prog w).pyHash (intKind_is _ _ _ _) ?_)
  refine hashed2 (s := { s with toks := s.toks + 1 }) F N U hs hr h3 fun h' so' r F' N' hs' => ?_
  show wpAny _ _ (ret Value.none) _ _ _
  exact wpAny_pure ⟨_, rfl, h h' so' _ F' N' hs'⟩
end
end
example : True := by
  k_with "m setAdd int" => ((with_reducible show wpAny _ _ (setAdd _ (Value.int _ _)) _ _ _); k_dflt (refine' is_setAdd (by k_asm) (by k_asm) (by k_updF) (by assumption) (by walk_at "setroom") (by walk_at "setroom") ?_); intro h'ξ o'ξ r'ξ t'ξ F'ξ N'ξ hs'ξ; (try dsimp only at N'ξ))
  k_with "m call builtin:set.add" => ((with_reducible show wpAny _ _ (call (Value.builtin "set.add") [Value.ref _, Value.int _ _]) _ _ _); k_dflt (refine' is_add (by k_asm) (by k_asm) (by k_updF) (by assumption) (by walk_at "setroom") (by walk_at "setroom") ?_); intro h'ξ o'ξ t'ξ F'ξ N'ξ hs'ξ; (try dsimp only at N'ξ))
  trivial
example {prog : Program} {w : World} {A : Around} {env : Env} {Q : Flow → Shared → Prop} {E : Value → Shared → Prop} {s : Shared} (h : wpAny (model prog w) A (execs [] env) Q E s) : wpAny (model prog w) A (execs [] env) Q E s := by ((k_with "now" => have kReset : True := trivial); (k_with "piece" => have kP_S5 : True := trivial); w_top off; first | (walk1; fail) | exact h)
section
section
open SetTable
variable {prog : Program} {w : World} {A : Around} {E : Value → Shared → Prop} {s : Shared} {h₀ : Heap} {L sa : Addr} {m : Str → Option Value} {news : List (Addr × Obj)} {g : Obj → List (Addr × Obj)} {so : Obj} {xs : List Nat} {b : Bool}
theorem wpAny_choose {src : Source} {n : Nat} {Q : Nat → Shared → Prop} (hn : n ≠ 0) (h : ∀ i dr, i < n → Q i { s with drawn := dr }) : wpAny (model prog w) A (choose src n) Q E s := by
  intro Γ p hΓ
  show Sem.wp _ _ (.choose src n .pure) _ _ _ _
  rw [Sem.wp_choose]
  refine ⟨hn, ?_⟩
  exact h _ _ (Nat.mod_lt _ (Nat.pos_of_ne_zero hn))
theorem toList_eraseAt {α : Type} (xs : Array α) (p : Nat) : (eraseAt xs p).toList = xs.toList.take p ++ xs.toList.drop (p + 1) := by
  simp [SetTable.eraseAt, List.extract_eq_take_drop, List.take_of_length_le]
theorem eraseAt_idx {α : Type} (xs : Array α) (p : Nat) : (eraseAt xs p).toList = xs.toList.eraseIdx p := by
  rw [toList_eraseAt, List.eraseIdx_eq_take_drop_succ]
theorem popped_led (t : SetTable) (i : Nat) : (t.popped i).led = t.led := by
  unfold SetTable.popped SetTable.drop; split <;> rfl
theorem popped_fits {t : SetTable} {n i : Nat} (h : t.fits n = true) (hi : i < n) : (t.popped i).fits (n - 1) = true := by
  have hsz : t.place.size = n ∧ t.place.size + t.dummies.size ≤ t.mask := by
    unfold SetTable.fits at h
    rw [Bool.and_eq_true] at h
    exact ⟨by simpa using h.1, of_decide_eq_true h.2⟩
  have hlt : i < t.place.size := by lia
  have e : t.place[i]? = some t.place[i] := Array.getElem?_eq_getElem hlt
  have hs1 : (eraseAt t.place i).size = t.place.size - 1 := by
    rw [← Array.length_toList, eraseAt_idx, List.length_eraseIdx_of_lt (by simpa using hlt)]; simp
  have hs2 : (insertAt t.dummies (below t.dummies t.place[i]) t.place[i]).size = t.dummies.size + 1 := by
    rw [← Array.length_toList, (SetTable.insertAt_perm _ _ _).length_eq]; simp
  have e2 : t.popped i = { t with place := eraseAt t.place i, dummies := insertAt t.dummies (below t.dummies t.place[i]) t.place[i], finger := t.place.getD i 0 + 1 } := by
    unfold SetTable.popped SetTable.drop
    rw [e]
  rw [e2]
  unfold SetTable.fits SetTable.fill
  dsimp only
  rw [hs1, hs2]
  simp; lia
theorem popPlace_some {t : SetTable} {n : Nat} (h : t.fits n = true) (hn : 0 < n) : ∃ i, t.popPlace = some i ∧ i < n := by
  have hsz : t.place.size = n := by simp [SetTable.fits] at h; exact h.1
  unfold SetTable.popPlace
  have : t.place.isEmpty = false := by rw [Array.isEmpty_eq_false_iff]; intro hx; rw [hx] at hsz; simp at hsz; lia
  rw [this]
  simp only [Bool.false_eq_true, if_false]
  exact ⟨_, rfl, by split <;> lia⟩
theorem map_eraseIdx' {α β : Type} (f : α → β) : ∀ (l : List α) (i : Nat), (l.eraseIdx i).map f = (l.map f).eraseIdx i
  | [], _ => rfl
  | _ :: _, 0 => rfl
  | a :: l, i + 1 => by simp [map_eraseIdx' f l i]
theorem perm_eraseIdx {l : List Nat} {xs : List Nat} (hp : l.Perm xs) {i : Nat} (hi : i < l.length) : (l.eraseIdx i).Perm (xs.erase l[i]) := by
  have h1 : l.Perm (l[i] :: l.eraseIdx i) := by
    rw [List.eraseIdx_eq_take_drop_succ]
    have e : l = l.take i ++ l[i] :: l.drop (i + 1) := by rw [List.getElem_cons_drop, List.take_append_drop]
    refine (List.Perm.of_eq e).trans List.perm_middle
  have h2 : xs.Perm (l[i] :: xs.erase l[i]) := List.perm_cons_erase (hp.mem_iff.mp (List.getElem_mem hi))
  exact (List.perm_cons _).mp (h1.symm.trans (hp.trans h2))
theorem is_pop {Q : Value → Shared → Prop} (F : Fr h₀ L s.heap m) (N : News h₀ L s.heap news) (U : UpdF sa so news g) (hs : IsSet w so xs b) (hne : xs ≠ [])  (hr : xs.length ≤ 1000)
    (h : ∀ h' so' x tk dr, x ∈ xs → Fr h₀ L h' m → News h₀ L h' (g so') → IsSet w so' (xs.erase x) false → Q (.int (x : Int) tk) { s with heap := h', drawn := dr }) :
    wpAny (model prog w) A (call (.builtin "set.pop") [.ref sa]) Q E s := by
  obtain ⟨pre, post, e0, hg, ha, hbb⟩ := id U.split
  subst e0
  have hm := N (sa, so) (List.mem_append_right _ (.head _))
  have hT : s.TypeIs (.ref sa) "set" := ⟨so, hm.1, hs.ex.1⟩
  obtain ⟨hex, es, ep, t, hd, hb⟩ := hs
  have hsz := hb.size
  have hlen : 0 < xs.length := List.length_pos_iff.mpr hne
  have hes : 0 < es.size := by lia
  obtain ⟨i0, hi0, hi0lt⟩ := popPlace_some hb.2.2.1 hes
  have key : ∀ (i : Nat) (dr : Drawn), i < es.size → wpAny (model prog w) A.in1 (do
        let some (_, x) := es[i]? | unsupported "internal:set.pop"
        storeSet sa (SetTable.eraseAt es i) (t.popped i)
        return some x) (fun r s' => ∃ x tk, r = some (.int (x : Int) tk) ∧ Q (.int (x : Int) tk) s') E { s with drawn := dr } := by
    intro i dr hi
    have he : es[i]? = some es[i] := Array.getElem?_eq_getElem hi
    obtain ⟨n, tk, en⟩ := hb.1 es[i] (by rw [← Array.getElem_toList]; exact List.getElem_mem _)
    have hil : i < (es.toList.map kvn).length := by simpa using hi
    have hkv : (es.toList.map kvn)[i] = n := by rw [List.getElem_map, Array.getElem_toList, en]; simp [kvn]
    have hper := perm_eraseIdx hb.2.1 hil
    rw [hkv] at hper
    have hxn : n ∈ xs := by rw [← hkv]; exact hb.2.1.mem_iff.mp (List.getElem_mem hil)
    rw [he, en]
    dsimp only
    have hsz2 : (SetTable.eraseAt es i).size = es.size - 1 := by
      rw [← Array.length_toList, eraseAt_idx, List.length_eraseIdx_of_lt (by simpa using hi)]; simp
    refine wpAny_bind (wpAny_storeSet_of (s := { s with drawn := dr }) hm.1 hd ?_ (fits_of_scanBound (by rw [hsz2, hsz]; unfold scanBound; lia)))
    have hget := Heap.get?_update_self (Obj.putSet (SetTable.eraseAt es i) (t.popped i)) hm.1 (by rw [putSet_of _ _ hd]; rfl)
    rw [putSet_of _ _ hd] at hget
    have hsb := Heap.SameBut.update s.heap sa (Obj.putSet (SetTable.eraseAt es i) (t.popped i))
    refine wpAny_pure ⟨n, tk, rfl, h _ { so with data := .set (SetTable.eraseAt es i) (ep + 1) (t.popped i) } n tk dr hxn (F.change hsb hm.2.1 hm.2.2) (hg _ ▸ N.setIn ha hbb hsb hget) ⟨hex, _, _, _, rfl, ?_⟩⟩
    refine ⟨fun e he' => hb.1 e ?_, ?_, by rw [hsz2]; exact popped_fits hb.2.2.1 hi, by rw [popped_led]; exact hb.2.2.2.1, (fun hf => nomatch hf), hb.2.2.2.2.2.erase _⟩
    · rw [eraseAt_idx] at he'; exact List.mem_of_mem_eraseIdx he'
    · rw [eraseAt_idx, map_eraseIdx']; exact hper
  refine wpAny_call_entry PySem.F.slot_set_pop hT PySem.F.entry_set_pop ?_ (PySem.F.args_set_pop_1 _)
  unfold Builtin.«set.pop» Builtin.Frozenset.noArgs
  simp only [List.isEmpty_nil, bind_assoc]
  unfold Builtin.Frozenset.addrOf setPop
  refine wpAny_bind (wpAny_pure ?_)
  try dsimp only
  refine wpAny_bind ?_
  refine wpAny_bind (wpAny_setState_of hm.1 hd hb.2.2.1 ?_)
  dsimp only
  rw [hi0]
  dsimp only
  unfold setsByText
  refine wpAny_bind (wpAny_bind (wpAny_askSetting (wpAny_pure ?_)))
  split
  · refine wpAny_bind (wpAny_choose (by lia) fun i dr hi => ?_)
    refine wpAny_mono (key i dr hi) (fun r s' hq => ?_) fun _ _ x => x
    obtain ⟨x, tk, rfl, hq⟩ := hq
    exact wpAny_pure ⟨_, rfl, hq⟩
  · rename_i hc
    have hby : w.params.followText "set-order" = false := by
      cases hw : w.params.followText "set-order" with
      | false => rfl
      | true => exact absurd (by rw [Bool.or_eq_true]; exact .inl hw) hc
    have hled : t.led = true := hb.2.2.2.1.resolve_right (by rw [hby]; exact Bool.false_ne_true)
    refine wpAny_bind (wpAny_of_eq (a := ()) ?_ ?_)
    · show (if (!t.led && decide (es.size > 1)) = true then _ else _) = _
      rw [hled]; rfl
    · have e : s = { s with drawn := s.drawn } := by cases s; rfl
      refine wpAny_bind (wpAny_pure ?_)
      have k2 := key i0 s.drawn hi0lt
      rw [← e] at k2
      refine wpAny_mono k2 (fun r s' hq => ?_) fun _ _ x => x
      obtain ⟨x, tk, rfl, hq⟩ := hq
      exact wpAny_pure ⟨_, rfl, hq⟩
end
end
example : True := by
  k_with "m call builtin:set.pop" => ((with_reducible show wpAny _ _ (call (Value.builtin "set.pop") [Value.ref _]) _ _ _); k_dflt (refine' is_pop (by k_asm) (by k_asm) (by k_updF) (by assumption) (by walk_at "setroom") (by walk_at "setroom") ?_); intro h'ξ o'ξ x'ξ t'ξ dr'ξ hx'ξ F'ξ N'ξ hs'ξ; (try dsimp only at N'ξ))
  trivial
example {prog : Program} {w : World} {A : Around} {env : Env} {Q : Flow → Shared → Prop} {E : Value → Shared → Prop} {s : Shared} (h : wpAny (model prog w) A (execs [] env) Q E s) : wpAny (model prog w) A (execs [] env) Q E s := by ((k_with "now" => have kReset : True := trivial); (k_with "piece" => have kP_S6 : True := trivial); w_top off; first | (walk1; fail) | exact h)
section
section
open SetTable
variable {prog : Program} {w : World} {A : Around} {E : Value → Shared → Prop} {s : Shared} {h₀ : Heap} {L sa : Addr} {m : Str → Option Value} {news : List (Addr × Obj)} {g : Obj → List (Addr × Obj)} {so : Obj} {xs : List Nat} {b : Bool}
theorem is_truthy {Q : Bool → Shared → Prop} (N : News h₀ L s.heap news) (hin : (sa, so) ∈ news) (hs : IsSet w so xs b) (hr : xs.length ≤ 1000)
    (h : Q (!xs.isEmpty) { s with toks := s.toks + 1 + 1 }) : wpAny (model prog w) A (truthy (.ref sa)) Q E s := by
  have hm := N _ hin
  obtain ⟨hex, es, ep, t, hd, hb⟩ := hs
  have hsz := hb.size
  have hT : s.TypeIs (.ref sa) "set" := ⟨so, hm.1, hex.1⟩
  have hne : ((es.size : Int) != 0) = !xs.isEmpty := by rw [hsz]; cases xs <;> simp <;> lia
  have key : wpAny (model prog w) A (runValue (.builtin "len" ⟨[.ref sa], []⟩)) (fun r s' => r = .int es.size (s.toks + 1) ∧ Q (!xs.isEmpty) s') E s := by
    refine wpAny_runValue (codeAny_builtin entry_len ?_)
    rw [Around.under_plainId plain_len _]
    exact wpAny_mono (wpAny_len_body_set (Q := fun r s' => r = .int es.size (s.toks + 1) ∧ Q (!xs.isEmpty) s') hm.1 hex hd hb.2.2.1 (by lia) ⟨rfl, h⟩)
      (fun fin s' h' => by obtain ⟨r, rfl, hq⟩ := h'; exact hq) fun _ _ e => e
  unfold truthy
  first
    | refine wpAny_bind (wpAny_callSpecial?_none (name := Str.ofString "__bool__") hT noBool_set ?_)
    | refine wpAny_bind (wpAny_pure (wpAny_bind (wpAny_callSpecial?_none (name := Str.ofString "__bool__") hT noBool_set ?_)))
  first
    | refine wpAny_bind (wpAny_specialOf (name := Str.ofString "__len__") hT PySem.F.slot_set_len.lookup ?_)
    | refine wpAny_bind (wpAny_pure (wpAny_bind (wpAny_specialOf (name := Str.ofString "__len__") hT PySem.F.slot_set_len.lookup ?_)))
  first
    | exact wpAny_bind (wpAny_mono key (fun r s' h' => by obtain ⟨rfl, hq⟩ := h'; exact wpAny_pure (hne ▸ hq)) fun _ _ e => e)
    | exact wpAny_bind (wpAny_pure (wpAny_bind (wpAny_mono key (fun r s' h' => by obtain ⟨rfl, hq⟩ := h'; exact wpAny_pure (hne ▸ hq)) fun _ _ e => e)))
theorem is_popM {pl : Sem Bool} {Q : Value × List Value → Shared → Prop} (N : News h₀ L s.heap news) (hin : (sa, so) ∈ news) (hs : IsSet w so xs b) (h : Q (.builtin "set.pop", [.ref sa]) s) :
    wpAny (model prog w) A (getMethod (.ref sa) "pop" pl) Q E s := by
  have hm := N _ hin
  exact getMethod_builtin ⟨so, hm.1, hs.ex.1⟩ PySem.F.plainAttrs_set PySem.F.slot_set_pop PySem.F.type_set_pop (fun b e => by injection e with e; subst e; exact ⟨so, hm.1, hs.ex.2.1⟩) h
theorem pick_go {α : Type} (next : Nat → Nat) : ∀ (fuel k : Nat) (left : List α) (out : Array α), left.length ≤ fuel → List.Perm (pickOrder.go next fuel k left out).toList (out.toList ++ left) := by
  intro fuel
  induction fuel with
  | zero =>
    intro k left out h
    have : left = [] := List.length_eq_zero_iff.mp (by lia)
    subst this
    simp [pickOrder.go]
  | succ fuel ih =>
    intro k left out h
    unfold pickOrder.go
    split
    · rename_i x hx
      obtain ⟨hlt, e⟩ := List.getElem?_eq_some_iff.mp hx
      refine (ih _ _ _ (by rw [List.length_eraseIdx_of_lt hlt]; lia)).trans ?_
      rw [Array.toList_push, List.append_assoc]
      refine List.Perm.append_left _ ?_
      rw [List.eraseIdx_eq_take_drop_succ, List.singleton_append]
      have e2 : left = left.take (next k % left.length) ++ x :: left.drop (next k % left.length + 1) := by rw [← e, List.getElem_cons_drop, List.take_append_drop]
      exact (List.perm_middle.symm).trans (List.Perm.of_eq e2.symm)
    · rename_i hx
      cases left with
      | nil => simp
      | cons a l =>
        have := List.getElem?_eq_none_iff.mp hx
        have := Nat.mod_lt (next k) (show 0 < (a :: l).length by simp)
        lia
theorem pick_perm {α : Type} (next : Nat → Nat) (es : Array α) : List.Perm (pickOrder next es).toList es.toList := by
  have := pick_go next es.size 0 es.toList #[] (by simp)
  simpa [pickOrder] using this
/-- the order in which a set's elements come -/
def wOrd (w : World) (d : Addr) (ep : Nat) (es : Array (Int × Value)) : Array (Int × Value) := if w.params.followText "set-order" = true then pickOrder (w.params.setOrder d ep) es else es
theorem wOrd_perm (w : World) (d : Addr) (ep : Nat) (es : Array (Int × Value)) : List.Perm (wOrd w d ep es).toList es.toList := by
  unfold wOrd; split
  · exact pick_perm _ _
  · exact .refl _
theorem wOrd_size (w : World) (d : Addr) (ep : Nat) (es : Array (Int × Value)) : (wOrd w d ep es).size = es.size := by
  rw [← Array.length_toList, (wOrd_perm w d ep es).length_eq, Array.length_toList]
structure SiAt (w : World) (h : Heap) (I d : Addr) (i n ep : Nat) (t : SetTable) : Prop where
  o : ∃ o, h.get? I = some o ∧ o.cls = .type "set_iterator" ∧ ∃ slot : Nat, o.data = .fields #[.int slot 0, .int i 0, .ref d, .int n 0, .int ep 0] ∧ (w.params.followText "set-order" = false → below t.place slot = i)
theorem SiAt.typeIs {I d : Addr} {i n ep : Nat} {t : SetTable} (h : SiAt w s.heap I d i n ep t) : s.TypeIs (.ref I) "set_iterator" := let ⟨⟨o, ho, hc, _⟩⟩ := h; ⟨o, ho, hc⟩
theorem si_setNext {d : Addr} {es : Array (Int × Value)} {ep slot i : Nat} {t : SetTable} {Q : Option (Value × Nat) → Shared → Prop} (ho : s.heap.get? d = some so) (hd : so.data = .set es ep t) (hb : SetB w es t xs true)
    (hsl : w.params.followText "set-order" = false → below t.place slot = i)
    (h : ∀ e, (wOrd w d ep es)[i]? = some e → ∀ sl' : Nat, (w.params.followText "set-order" = false → below t.place sl' = i + 1) → Q (some (e.2, sl')) s) (hn : (wOrd w d ep es)[i]? = none → Q none s) :
    wpAny (model prog w) A (setNext d slot i ep) Q E s := by
  have hR := hb.2.2.2.2.1 rfl
  unfold setNext setsByText
  refine wpAny_bind (wpAny_setState_of ho hd hb.2.2.1 ?_)
  dsimp only
  refine wpAny_bind (wpAny_bind (wpAny_askSetting (wpAny_pure ?_)))
  cases hw : w.params.followText "set-order" with
  | true =>
    rw [if_pos (by exact hw)]
    refine wpAny_ite_split (fun hab => absurd hab (by simp)) fun _ => ?_
    unfold setWalk setsByText
    refine wpAny_bind (wpAny_bind (wpAny_setState_of ho hd hb.2.2.1 ?_))
    dsimp only
    refine wpAny_bind (wpAny_bind (wpAny_askSetting (wpAny_pure ?_)))
    rw [if_pos (by exact hw)]
    refine wpAny_bind (wpAny_askSetting (wpAny_pure ?_))
    rw [show wOrd w d ep es = pickOrder (w.params.setOrder d ep) es from if_pos hw] at h hn
    refine wpAny_pure ?_
    show Q (((pickOrder (w.params.setOrder d ep) es)[i]?).map fun e => (e.2, slot)) s
    cases hx : (pickOrder (w.params.setOrder d ep) es)[i]? with
    | none => exact hn hx
    | some e => exact h e hx slot (fun hf => by rw [hw] at hf; cases hf)
  | false =>
    rw [if_neg (by rw [show (model prog w).w.params.followText "set-order" = false from hw]; exact Bool.false_ne_true)]
    have hled : t.led = true := hb.2.2.2.1.resolve_right (by rw [hw]; exact Bool.false_ne_true)
    refine wpAny_ite_split (fun hab => absurd hab ?_) fun _ => ?_
    · show ¬ (!t.plain && decide (es.size > 1)) = true
      rw [hR.pln]; simp
    refine wpAny_bind (wpAny_of_eq (a := ()) ?_ ?_)
    · show (if (!t.led && !es.isEmpty) = true then _ else _) = _
      rw [hled]; rfl
    have hsl' := hsl hw
    rw [hsl']
    have hsz : t.place.size = es.size := by
      have := hb.2.2.1
      unfold SetTable.fits at this
      rw [Bool.and_eq_true] at this
      simpa using this.1
    have hwo : wOrd w d ep es = es := if_neg (by rw [hw]; exact Bool.false_ne_true)
    rw [hwo] at h hn
    refine wpAny_pure ?_
    rcases Nat.lt_or_ge i es.size with hi | hi
    · have e1 : es[i]? = some es[i] := Array.getElem?_eq_getElem hi
      have e2 : t.place[i]? = some (t.place[i]'(by lia)) := Array.getElem?_eq_getElem (by lia)
      have := h _ e1 (t.place[i]'(by lia) + 1) (fun _ => below_next hR.up e2)
      rw [e1, e2]
      exact this
    · have e1 : es[i]? = none := Array.getElem?_eq_none hi
      rw [e1]
      exact hn e1
end
end
example : True := by
  k_with "m getMethod ref" => ((with_reducible show wpAny _ _ (getMethod (Value.ref _) (Str.ofString "pop") _) _ _ _); k_dflt (refine is_popM (by k_asm) (by k_mem) (by assumption) ?_))
  k_with "m truthy ref" => ((with_reducible show wpAny _ _ (truthy (Value.ref _)) _ _ _); k_dflt (refine' is_truthy (by k_asm) (by k_mem) (by assumption) (by walk_at "setroom") ?_))
  trivial
example {prog : Program} {w : World} {A : Around} {env : Env} {Q : Flow → Shared → Prop} {E : Value → Shared → Prop} {s : Shared} (h : wpAny (model prog w) A (execs [] env) Q E s) : wpAny (model prog w) A (execs [] env) Q E s := by ((k_with "now" => have kReset : True := trivial); (k_with "piece" => have kP_S7 : True := trivial); w_top off; first | (walk1; fail) | exact h)
section
section
open SetTable
variable {prog : Program} {w : World} {A : Around} {E : Value → Shared → Prop} {s : Shared} {h₀ : Heap} {L sa : Addr} {m : Str → Option Value} {news : List (Addr × Obj)} {g : Obj → List (Addr × Obj)} {so : Obj} {xs : List Nat} {b : Bool}
theorem si_item {I d : Addr} {i ep : Nat} {es : Array (Int × Value)} {t : SetTable} {e : Int × Value} {Q : Option Value → Shared → Prop} (hit : SiAt w s.heap I d i es.size ep t) (ho : s.heap.get? d = some so) (hd : so.data = .set es ep t) (hb : SetB w es t xs true) (hx : (wOrd w d ep es)[i]? = some e)
    (hQ : ∀ h', SiAt w h' I d (i + 1) es.size ep t → Heap.SameBut I s.heap h' → Q (some e.2) { s with heap := h' }) : wpAny (model prog w) A (pyNext (.ref I)) Q E s := by
  have hT := hit.typeIs
  obtain ⟨⟨oI, hoI, hc, slot, hdI, hsl⟩⟩ := id hit
  unfold pyNext
  refine wpAny_bind (wpAny_attempt (wpAny_callSpecial?_slot (name := Str.ofString "__next__") hT slot_si_next
    (wpAny_call_entry slot_si_next hT entry_si_next ?_ (args_si_next _))))
  unfold Builtin.«set_iterator.__next__»
  refine wpAny_bind (wpAny_pure ?_)
  refine wpAny_bind (wpAny_fieldsOf hoI hdI ?_)
  dsimp only
  refine wpAny_bind (wpAny_setEntries_of ho hd hb.2.2.1 ?_)
  rw [if_neg (by simp)]
  simp only [Int.toNat_natCast]
  refine wpAny_bind (si_setNext ho hd hb hsl (fun e' he sl' hsl' => ?_) (fun hn => ?_))
  · rw [hx] at he; injection he with he; subst he
    dsimp only
    refine wpAny_bind (wpAny_setField hoI hdI (by simp) ?_)
    have hg1 := Heap.get?_update_self (Obj.mapFields (·.setIfInBounds 0 (rawInt (sl' : Int)))) hoI (Obj.isFreed_of_fields (Obj.data_mapFields hdI _))
    have hd1 := Obj.data_mapFields hdI (·.setIfInBounds 0 (rawInt (sl' : Int)))
    refine wpAny_bind (wpAny_setField hg1 hd1 (by simp) ?_)
    have hg2 := Heap.get?_update_self (Obj.mapFields (·.setIfInBounds 1 (rawInt ((i : Int) + 1)))) hg1 (Obj.isFreed_of_fields (Obj.data_mapFields hd1 _))
    have hd2 := Obj.data_mapFields hd1 (·.setIfInBounds 1 (rawInt ((i : Int) + 1)))
    refine wpAny_pure ⟨_, rfl, wpAny_pure (hQ _ ⟨⟨_, hg2, ((Obj.cls_mapFields ..).trans (Obj.cls_mapFields ..)).trans hc, sl', ?_, hsl'⟩⟩ ((Heap.SameBut.update ..).trans (Heap.SameBut.update ..)))⟩
    rw [hd2]; simp [rawInt]
  · rw [hx] at hn; cases hn
theorem si_end {I d : Addr} {ep : Nat} {es : Array (Int × Value)} {t : SetTable} {Q : Option Value → Shared → Prop} (hh : A.handled = none) (hit : SiAt w s.heap I d es.size es.size ep t) (ho : s.heap.get? d = some so) (hd : so.data = .set es ep t) (hb : SetB w es t xs true)
    (hQ : ∀ h', Heap.ExtBut I s.heap h' → Q none { s with heap := h' }) : wpAny (model prog w) A (pyNext (.ref I)) Q E s := by
  have hT := hit.typeIs
  obtain ⟨⟨oI, hoI, hc, slot, hdI, hsl⟩⟩ := id hit
  unfold pyNext
  refine wpAny_bind (wpAny_attempt (wpAny_callSpecial?_slot (name := Str.ofString "__next__") hT slot_si_next
    (wpAny_call_entry slot_si_next hT entry_si_next ?_ (args_si_next _))))
  unfold Builtin.«set_iterator.__next__»
  refine wpAny_bind (wpAny_pure ?_)
  refine wpAny_bind (wpAny_fieldsOf hoI hdI ?_)
  dsimp only
  refine wpAny_bind (wpAny_setEntries_of ho hd hb.2.2.1 ?_)
  rw [if_neg (by simp)]
  simp only [Int.toNat_natCast]
  refine wpAny_bind (si_setNext ho hd hb hsl (fun e' he sl' hsl' => ?_) (fun hn => ?_))
  · exfalso
    have := (Array.getElem?_eq_some_iff.mp he).1
    rw [wOrd_size] at this; lia
  · dsimp only
    refine wpAny_bind (wpAny_setField hoI hdI (by simp) ?_)
    refine wpAny_bind ?_
    simp only [newExc, newTuple]
    refine wpAny_bind (wpAny_newObj_type ?_ (by size_fits))
    refine wpAny_bind (m := firstArgMember _ _) (wpAny_of_eq (a := Value.none) (by first | rfl | (simp only [firstArgMember]; rfl)) ?_)
    refine wpAny_newObj_type ?_ (by size_fits)
    simp only [raiseNew]
    refine wpAny_bind (wpAny_handled ?_)
    rw [show A.in1.handled = none from hh]
    refine wpAny_bind (wpAny_pure (wpAny_throw ?_))
    refine wpAny_bind (wpAny_isInstance (T := "StopIteration") (b := true) ⟨_, Heap.get?_push_size _ rfl, rfl⟩ isSubtype_stop ?_)
    exact wpAny_pure (hQ _ (((Heap.SameBut.update ..).extBut.push _).push _))
theorem SiAt.at {h h' : Heap} {I d : Addr} {i n ep : Nat} {t : SetTable} (x : SiAt w h I d i n ep t) (e : ∀ o, h.get? I = some o → h'.get? I = some o) : SiAt w h' I d i n ep t :=
  let ⟨⟨o, ho, r⟩⟩ := x; ⟨⟨o, e _ ho, r⟩⟩
theorem si_walks {d : Addr} {ep : Nat} {es : Array (Int × Value)} {t : SetTable} (hh : A.handled = none) (I : Addr) (hne : d ≠ I) (hd : so.data = .set es ep t) (hb : SetB w es t xs true) :
    Walks prog w A I [I, d] [I] es.size (fun i v => ∃ e, (wOrd w d ep es)[i]? = some e ∧ v = e.2) (fun i h => SiAt w h I d i es.size ep t ∧ h.get? d = some so) where
  sub := fun b hb => by simp at hb; simp [hb]
  frame := fun _ _ _ st hk => ⟨st.1.at fun o e => hk I (by simp) o e, hk d (by simp) _ st.2⟩
  item := fun i s Q E hi st hQ => by
    have hx : (wOrd w d ep es)[i]? = some ((wOrd w d ep es)[i]'(by rw [wOrd_size]; exact hi)) := Array.getElem?_eq_getElem _
    refine si_item st.1 st.2 hd hb hx fun h' hit' hs' => ?_
    exact hQ _ h' s.toks ⟨_, hx, rfl⟩ ⟨hit', hs'.extBut d _ hne st.2⟩ fun b o hb e => hs'.extBut b o (fun h => hb (by simp [h])) e
  done := fun s Q E st hQ => si_end hh st.1 st.2 hd hb fun h' he' => hQ h' s.toks fun b o hb e => he' b o (fun h => hb (by simp [h])) e
  self := fun _ _ _ _ st hQ => wpAny_pyIter_slot st.1.typeIs slot_si_iter (wpAny_call_entry slot_si_iter st.1.typeIs entry_si_iter (wpAny_pure ⟨_, rfl, "set_iterator", _, st.1.typeIs, slot_si_next.lookup, hQ⟩) (args_si_iter _))
theorem si_iter {d : Addr} {ep : Nat} {es : Array (Int × Value)} {t : SetTable} {Q : Value → Shared → Prop} (ho : s.heap.get? d = some so) (hex : so.ExactSet) (hd : so.data = .set es ep t) (hb : SetB w es t xs true)
    (hQ : Q (.ref s.heap.objs.size) { s with heap := s.heap.push { cls := .type "set_iterator", data := .fields #[.int ((0 : Nat) : Int) 0, .int ((0 : Nat) : Int) 0, .ref d, .int es.size 0, .int ep 0] } }) :
    wpAny (model prog w) A (pyIter (.ref d)) Q E s := by
  have hT : s.TypeIs (.ref d) "set" := ⟨so, ho, hex.1⟩
  have hR := hb.2.2.2.2.1 rfl
  refine wpAny_pyIter_slot hT PySem.F.slot_set_iter (wpAny_call_entry PySem.F.slot_set_iter hT entry_set_iter ?_ (PySem.F.args_set_iter_1 _))
  unfold Builtin.«frozenset.__iter__» Builtin.Frozenset.slot0 slotArgs
  refine wpAny_bind (wpAny_pure ?_)
  unfold Builtin.Frozenset.sizeOf
  refine wpAny_bind (wpAny_bind (wpAny_setEntries_of ho hd hb.2.2.1 (wpAny_pure ?_)))
  refine wpAny_bind ?_
  unfold setDrawn setsByText
  refine wpAny_bind (wpAny_setState_of ho hd hb.2.2.1 ?_)
  dsimp only
  refine wpAny_bind (wpAny_bind (wpAny_askSetting (wpAny_pure (wpAny_pure ?_))))
  refine wpAny_ite_split (fun hab => absurd hab ?_) fun _ => ?_
  · rw [Bool.and_eq_true]
    rintro ⟨_, h2⟩
    have h3 : (!t.plain && decide (es.size > 1)) = true := h2
    rw [hR.pln] at h3; simp at h3
  refine wpAny_bind (wpAny_pure ?_)
  unfold setEpoch
  refine wpAny_bind (wpAny_bind (wpAny_setState_of ho hd hb.2.2.1 (wpAny_pure ?_)))
  refine wpAny_bind (wpAny_newObj_type (wpAny_pure ⟨_, rfl, "set_iterator", _, ⟨_, Heap.get?_push_size _ rfl, rfl⟩, slot_si_next.lookup, ?_⟩))
  exact hQ
end
end
example {prog : Program} {w : World} {A : Around} {env : Env} {Q : Flow → Shared → Prop} {E : Value → Shared → Prop} {s : Shared} (h : wpAny (model prog w) A (execs [] env) Q E s) : wpAny (model prog w) A (execs [] env) Q E s := by ((k_with "now" => have kReset : True := trivial); (k_with "piece" => have kP_S8 : True := trivial); w_top off; first | (walk1; fail) | exact h)
section
section
open SetTable
variable {prog : Program} {w : World} {A : Around} {E : Value → Shared → Prop} {s : Shared} {h₀ : Heap} {L sa : Addr} {m : Str → Option Value} {news : List (Addr × Obj)} {g : Obj → List (Addr × Obj)} {so : Obj} {xs : List Nat} {b : Bool}
theorem hint_set {r : Addr} {Q : Bool → Shared → Prop} (hT : s.TypeIs (.ref r) "set") (h : Q false s) : wpAny (model prog w) A (Builtin.List.listLengthHint (.ref r)) Q E s := by
  unfold Builtin.List.listLengthHint
  refine wpAny_bind (wpAny_specialOf hT PySem.F.slot_set_len.lookup ?_)
  generalize hid : ("set.__len__" : String) = id0
  wp_delta
  rw [show splitId id0 = some ("set", "__len__") from by subst hid; decide +kernel]
  subst hid
  refine wpAny_bind (wpAny_isInstance (T := "set") (b := true) hT (by rw [isSubtype_type]; kernel_rfl) ?_)
  refine wpAny_ite_split (fun hab => absurd hab (by decide)) (fun _ => ?_)
  refine wpAny_ite_split (fun _ => ?_) (fun hab => absurd (by decide +kernel) hab)
  refine wpAny_bind (wpAny_typeOf hT ?_)
  exact wpAny_pure h
theorem src_set {d : Addr} {ep : Nat} {es : Array (Int × Value)} {t : SetTable} (hex : so.ExactSet) (hd : so.data = .set es ep t) (hb : SetB w es t xs true) :
    KdlSrc prog w "set" d d es.size (fun i v => ∃ e, (wOrd w d ep es)[i]? = some e ∧ v = e.2) (fun h => h.get? d = some so) where
  type := fun s hm => ⟨so, hm, hex.1⟩
  there := fun _ hm => ⟨Heap.lt_size hm, Heap.lt_size hm⟩
  keep := fun _ _ hm hk => hk d (.inl rfl) _ hm
  notList := by decide
  notTuple := by decide
  hint := fun _ _ _ _ hm hq => hint_set ⟨so, hm, hex.1⟩ hq
  iter := fun _ s hh hm => ⟨_, _, (fun _ _ hq => si_iter hm hex hd hb hq), si_walks hh _ (Nat.ne_of_lt (Heap.lt_size hm)) hd hb, ⟨⟨⟨_, Heap.get?_push_size _ rfl, rfl, 0, rfl, fun _ => by
    obtain ⟨h1, h2, h3⟩ := below_spec (hb.2.2.2.2.1 rfl).up 0
    rcases Nat.eq_zero_or_pos (below t.place 0) with h0 | h0
    · exact h0
    · have := h2 0 h0; lia⟩⟩, Heap.get?_push_of_some _ hm⟩⟩
theorem is_sorted {Q : Value → Shared → Prop} (hh : A.handled = none) (F : Fr h₀ L s.heap m) (N : News h₀ L s.heap news) (hin : (sa, so) ∈ news) (hs : IsSet w so xs true) (hr : xs.length ≤ 60)
    (h : ∀ (D : Addr) vs ns c h' tk, Fr h₀ L h' m → News h₀ L h' ((D, listOf (List.toArray vs) c) :: news) → (∀ q ∈ news, q.1 < D) → IntsAre vs ns → ns.Perm (xs.map fun n : Nat => (n : Int)) → ns.Pairwise (fun x y => x ≤ y) → Q (.ref D) { s with heap := h', toks := tk }) :
    wpAny (model prog w) A (call (.builtin "sorted") [.ref sa]) Q E s := by
  have hm := N _ hin
  obtain ⟨hex, es, ep, t, hd, hb⟩ := hs
  have hsz := hb.size
  refine kdu_sorted (src_set hex hd hb) hh F N hm.1 (kdl_size (by lia)) fun D h' tk vs F' N' l1 hl hv => ?_
  have hvs : vs = (wOrd w sa ep es).toList.map (·.2) := by
    refine List.ext_getElem? fun j => ?_
    rcases Nat.lt_or_ge j vs.length with hj | hj
    · obtain ⟨e, he, hv'⟩ := hv j vs[j] (List.getElem?_eq_getElem hj)
      rw [List.getElem?_eq_getElem hj, List.getElem?_map, Array.getElem?_toList, he, hv']; rfl
    · rw [List.getElem?_eq_none hj, List.getElem?_eq_none (by rw [List.length_map, Array.length_toList, wOrd_size, ← hl]; exact hj)]
  have hall : ∀ e ∈ (wOrd w sa ep es).toList, ∃ (n : Nat) (tk : Tok), e = (hashInt n, .int n tk) := fun e he => hb.1 e ((wOrd_perm w sa ep es).mem_iff.mp he)
  have hints : ∀ l : List (Int × Value), (∀ e ∈ l, ∃ (n : Nat) (tk : Tok), e = (hashInt n, .int n tk)) → IntsAre (l.map (·.2)) ((l.map kvn).map fun n : Nat => (n : Int)) := by
    intro l
    induction l with
    | nil => intro _; exact .nil
    | cons e l ih =>
      intro hl
      obtain ⟨n, tk, rfl⟩ := hl e (.head _)
      have := ih fun e he => hl e (.tail _ he)
      have e3 : kvn (hashInt (n : Int), .int (n : Int) tk) = n := by simp [kvn]
      simp only [List.map_cons, e3]
      exact .cons _ _ this
  have hI : IntsAre vs (((wOrd w sa ep es).toList.map kvn).map fun n : Nat => (n : Int)) := by rw [hvs]; exact hints _ hall
  have hlen : (((wOrd w sa ep es).toList.map kvn).map fun n : Nat => (n : Int)).length < 64 := by
    rw [List.length_map, List.length_map, Array.length_toList, wOrd_size]; lia
  refine ksk_lsort (n := 0) (news' := fun o => (D, o) :: news) F' N' (fun o => ?_) rfl hI hlen fun vs' ns' c h2 F2 N2 i2 e2 p2 o2 _ => ?_
  · exact .head fun p hp => Nat.ne_of_lt (l1 p hp)
  · exact h D vs' ns' c h2 _ F2 N2 l1 i2 (p2.trans (((wOrd_perm w sa ep es).map kvn).trans hb.2.1 |>.map _)) o2
end
end
example {prog : Program} {w : World} {A : Around} {env : Env} {Q : Flow → Shared → Prop} {E : Value → Shared → Prop} {s : Shared} (h : wpAny (model prog w) A (execs [] env) Q E s) : wpAny (model prog w) A (execs [] env) Q E s := by ((k_with "now" => have kReset : True := trivial); (k_with "piece" => have kP_S9 : True := trivial); w_top off; first | (walk1; fail) | exact h)
section
section
variable {prog : Program} {w : World} {A : Around} {E : Value → Shared → Prop} {s : Shared} {h₀ : Heap} {L l it : Addr} {m : Str → Option Value} {news : List (Addr × Obj)} {g : Obj → List (Addr × Obj)} {lo io : Obj} {vs : List Value} {n k : Nat}
def LiObj (io : Obj) (l : Addr) (k : Nat) : Prop := io.cls = .type "list_iterator" ∧ io.data = .fields #[.ref l, .int k 0]
theorem li_iter {Q : Value → Shared → Prop} (F : Fr h₀ L s.heap m) (N : News h₀ L s.heap news) (hin : (l, listOf vs.toArray n) ∈ news)
    (h : ∀ (I : Addr) h' oI, Fr h₀ L h' m → News h₀ L h' ((I, oI) :: news) → (∀ p ∈ news, p.1 < I) → LiObj oI l 0 → Q (.ref I) { s with heap := h' }) :
    wpAny (model prog w) A (call (.builtin "iter") [.ref l]) Q E s := by
  have hl : s.heap.IsList l vs.toArray := ⟨_, (N _ hin).1, rfl, n, rfl⟩
  refine PySem.Calls.call_function_entry (by decide +kernel) (by decide +kernel) kdk_entry_iter (kdk_args_iter _) ?_
  unfold Builtin.«iter»
  refine wpAny_bind (m := someArgs "iter" 1 2 _) (wpAny_of_eq (a := [Value.ref l]) (by first | rfl | kernel_rfl!) ?_)
  show wpAny _ _ (pyIter (.ref l) >>= _) _ _ _
  refine wpAny_bind (wpAny_pyIter_list hl ?_)
  exact wpAny_pure ⟨_, rfl, h _ _ _ (F.push _) (News.push F N _ rfl) (fun q hq => Heap.lt_size (N q hq).1) ⟨rfl, rfl⟩⟩
theorem li_next {x : Value} {Q : Value → Shared → Prop} (F : Fr h₀ L s.heap m) (N : News h₀ L s.heap news) (U : UpdF it io news g) (hi : LiObj io l k) (hin : (l, listOf vs.toArray n) ∈ news) (hx : vs[k]? = some x)
    (h : ∀ h' o', Fr h₀ L h' m → News h₀ L h' (g o') → LiObj o' l (k + 1) → Q x { s with heap := h' }) :
    wpAny (model prog w) A (call (.builtin "next") [.ref it]) Q E s := by
  obtain ⟨pre, post, hl, hg, a, b⟩ := U.split
  have hm := N (it, io) (by rw [hl]; exact List.mem_append_right _ (.head _))
  have hT : s.TypeIs (.ref it) "list_iterator" := ⟨io, hm.1, hi.1⟩
  have hol := (N _ hin).1
  have ho := hm.1
  have hd := hi.2
  refine PySem.Calls.call_function_entry (by decide +kernel) (by decide +kernel) kdk_entry_next (kdk_args_next _) ?_
  unfold Builtin.«next»
  refine wpAny_bind (m := someArgs "next" 1 2 _) (wpAny_of_eq (a := [Value.ref it]) (by first | rfl | kernel_rfl!) ?_)
  dsimp only
  refine wpAny_bind (wpAny_specialOf (name := Str.ofString "__next__") hT slot_listiter_next.lookup ?_)
  refine wpAny_ite_split (fun hab => absurd hab (by decide)) (fun _ => ?_)
  refine wpAny_bind (wpAny_callSpecial?_slot (name := Str.ofString "__next__") hT slot_listiter_next
    (wpAny_call_entry slot_listiter_next hT entry_listiter_next ?_ (args_listiter_next _)))
  show wpAny _ _ (field (.ref it) 0 >>= _) _ _ s
  refine wpAny_bind (wpAny_field ho hd (x := .ref l) rfl ?_)
  show wpAny _ _ (if (Value.ref l == Value.none) = true then _ else _) _ _ s
  rw [if_neg (show ¬ ((Value.ref l == Value.none) = true) from Bool.false_ne_true)]
  show wpAny _ _ (field (.ref it) 1 >>= _) _ _ s
  refine wpAny_bind (wpAny_field ho hd (x := .int k 0) rfl ?_)
  show wpAny _ _ (seqItems? (.ref l) >>= _) _ _ s
  refine wpAny_bind (wpAny_seqItems hol rfl ?_)
  have hx' : vs.toArray[k]? = some x := by simpa using hx
  simp only [Int.toNat_natCast, hx']
  have hs := Heap.SameBut.update s.heap it (Obj.mapFields (·.setIfInBounds 1 (rawInt ((k : Int) + 1))))
  refine wpAny_bind (wpAny_setField ho hd (by simp) (wpAny_pure ⟨x, rfl, wpAny_pure ⟨_, rfl, h _ (Obj.mapFields (·.setIfInBounds 1 (rawInt ((k : Int) + 1))) io) (F.change hs hm.2.1 hm.2.2) (hg _ ▸ (show News h₀ L s.heap (pre ++ (it, io) :: post) from hl ▸ N).setIn a b hs (Heap.get?_update_self _ ho (Obj.isFreed_of_fields (Obj.data_mapFields hd _)))) ⟨(Obj.cls_mapFields ..).trans hi.1, ?_⟩⟩⟩))
  rw [Obj.data_mapFields hd]; simp [rawInt]
theorem Walks.shift {I : Addr} {fp wr : List Addr} {n : Nat} {P : Nat → Value → Prop} {St : Nat → Heap → Prop} (W : Walks prog w A I fp wr n P St) (k : Nat) (hk : k ≤ n) :
    Walks prog w A I fp wr (n - k) (fun i => P (i + k)) (fun i h => St (i + k) h) where
  sub := W.sub
  frame := fun i h h' st hk => W.frame _ h h' st hk
  item := fun i s Q E hi st hQ => W.item _ s Q E (by lia) st fun v h' tk hp st' hk' => hQ v h' tk hp (by rw [show i + 1 + k = i + k + 1 by lia]; exact st') hk'
  done := fun s Q E st hQ => W.done s Q E (by rw [show n - k + k = n by lia] at st; exact st) hQ
  self := fun i s Q E st hQ => W.self _ s Q E st hQ
end
section
variable {prog : Program} {w : World} {A : Around} {E : Value → Shared → Prop} {s : Shared} {env : Env} {h₀ : Heap} {x : Str} {body : List Stmt} {Q : Flow → Shared → Prop}
theorem iter_li {I ax : Addr} {lo io : Obj} {vs : List Value} {n k : Nat} {m₀ : Str → Option Value} {news : List (Addr × Obj)}
    (hh : A.handled = none) (F : Fr h₀ env.locals s.heap m₀) (N : News h₀ env.locals s.heap ((I, io) :: news)) (hI : ∀ p ∈ news, p.1 ≠ I) (hio : LiObj io ax k) (hk : k ≤ vs.length) (hm : (ax, lo) ∈ news) (hc : lo.cls = .type "list") (hd : lo.data = .seq vs.toArray n)
    (rest : ListRest prog w A E h₀ env x body Q s I (ax, lo) (vs.drop k) m₀ news) :
    wpAny (model prog w) A (pyIter (.ref I)) (fun it s₂ => LoopAtV prog w A h₀ env x body Q E it s₂) E s := by
  have hax := N _ (.tail _ hm)
  have hIm := N _ (.head _)
  have Nn : News h₀ env.locals s.heap news := fun p hp => N p (.tail _ hp)
  have hl : s.heap.IsList ax vs.toArray := ⟨lo, hax.1, hc, n, hd⟩
  have hne : ax ≠ I := hI _ hm
  have hit : s.heap.IsListIter I ax k := ⟨io, hIm.1, hio.1, hio.2⟩
  have W0 := Walks.list (prog := prog) (w := w) hh I ax hne vs.toArray
  have hlen : vs.toArray.size = vs.length := by simp
  rw [hlen] at W0
  have W := Walks.shift W0 k hk
  refine W0.self k s _ _ ⟨hit, hl⟩ ?_
  let J : Nat → (Str → Option Value) → List (Addr × Obj) → Prop := fun i m₁ news₁ => (ax, lo) ∈ news₁ ∧ ListRest prog w A E h₀ env x body Q s I (ax, lo) (vs.drop (i + k)) m₁ news₁
  refine ⟨_, _, _, vs.length - k, _, _, m₀, news, J, rfl, W, ?_, ?_, ?_, ⟨by rw [Nat.zero_add]; exact hit, hl⟩, F, Nn, ⟨hm, by rw [Nat.zero_add]; exact rest⟩, ?_, ?_⟩
  · intro hmm
    rcases List.mem_cons.mp hmm with e | hmm
    · exact hIm.2.1 e.symm
    · exact hax.2.1 (List.mem_singleton.mp hmm).symm
  · intro b hb
    rw [List.mem_singleton.mp hb]
    exact hIm.2.2
  · intro p hp hI'
    exact hI p hp (List.mem_singleton.mp hI')
  · rintro i v m₁ news₁ s₁ own ⟨hh', tk', rfl⟩ hin hP ⟨hmem₁, hJ⟩ hoff hown hget hall hst F₁ N₁
    obtain ⟨it, hit, hic, hid⟩ := hst.1
    have hmemI := hall I (List.mem_cons_self ..) hIm.2.2 _ hit
    have hdrop : vs.drop (i + k) = v :: vs.drop (i + 1 + k) := by
      have hlt' : i + k < vs.length := by lia
      have hv : vs[i + k]? = some v := by simpa using hP
      rw [List.drop_eq_getElem_cons hlt', show i + k + 1 = i + 1 + k by lia]
      congr 1
      exact Option.some.inj ((List.getElem?_eq_getElem hlt').symm.trans hv)
    rw [hdrop] at hJ
    have N₂ : News h₀ env.locals hh' ((I, it) :: news₁) := fun p hp => by
      rcases List.mem_cons.mp hp with rfl | hp
      · exact N₁ _ (List.mem_append_left _ hmemI)
      · exact N₁ _ (List.mem_append_right _ hp)
    refine wpAny_mono (hJ it hh' tk' hic F₁ N₂) (fun f s₂ p => ?_) fun _ _ e => e
    have fin : UnrEnd h₀ env.locals { s with heap := hh', toks := tk' } I it (fun m' n' => (ax, lo) ∈ n' ∧ ListRest prog w A E h₀ env x body Q s I (ax, lo) (vs.drop (i + 1 + k)) m' n') s₂ →
        LoopStepU h₀ env.locals [I] own (J (i + 1)) { s with heap := hh', toks := tk' } .next s₂ := by
      rintro ⟨h', tk, m', news', e, F', N', ho, hmm, r⟩
      refine ⟨rfl, h', tk, m', news', e, F', fun p hp => ?_, fun p hp hI => ho p hp (List.mem_singleton.mp hI), hmm, r⟩
      rcases List.mem_append.mp hp with hp | hp
      · have h2 : hh'.get? p.1 = some p.2 := hget p hp
        rcases List.mem_cons.mp (hown p hp) with h1 | h1
        · have h3 : p = (I, it) := by
            rw [h1, hit] at h2
            exact Prod.ext h1 (Option.some.inj h2).symm
          rw [h3]; exact N' _ (List.mem_cons_self ..)
        · have h1' : p.1 = ax := List.mem_singleton.mp h1
          have h3 : p = (ax, lo) := by
            rw [h1', (N₁ _ (List.mem_append_right _ hmem₁)).1] at h2
            exact Prod.ext h1' (Option.some.inj h2).symm
          rw [h3]; exact N' _ (List.mem_cons_of_mem _ hmm)
      · exact N' _ (List.mem_cons_of_mem _ hp)
    cases f with
    | ret v => exact .ret p
    | brk => exact .brk p
    | next => exact .next (fin p)
    | cont => exact .cont (fin p)
  · rintro h' tk m' news' F' N' _ ⟨_, hJ⟩
    have z : vs.drop (vs.length - k + k) = [] := by rw [show vs.length - k + k = vs.length by lia]; exact List.drop_length
    rw [z] at hJ
    exact hJ h' tk F' N'
end
end
example : True := by
  k_with "m call builtin:iter" => ((with_reducible show wpAny _ _ (call (Value.builtin "iter") [Value.ref _]) _ _ _); k_dflt (refine li_iter (by k_asm) (by k_asm) (by k_mem) ?_); intro D'ξ h'ξ o'ξ F'ξ N'ξ l1ξ hi'ξ; (try k_lt l1ξ))
  k_with "m call builtin:next" => ((with_reducible show wpAny _ _ (call (Value.builtin "next") [Value.ref _]) _ _ _); k_dflt (refine' li_next (by k_asm) (by k_asm) (by k_updF) (by assumption) (by k_mem) (by rfl) ?_); intro h'ξ o'ξ F'ξ N'ξ hi'ξ; (try dsimp only at N'ξ))
  trivial
example {prog : Program} {w : World} {A : Around} {env : Env} {Q : Flow → Shared → Prop} {E : Value → Shared → Prop} {s : Shared} (h : wpAny (model prog w) A (execs [] env) Q E s) : wpAny (model prog w) A (execs [] env) Q E s := by ((k_with "now" => have kReset : True := trivial); (k_with "piece" => have kP_S10 : True := trivial); w_top off; first | (walk1; fail) | exact h)
section
section
variable {prog : Program} {w : World} {A : Around} {E : Value → Shared → Prop} {s : Shared} {h₀ : Heap} {L sa : Addr} {m : Str → Option Value} {news : List (Addr × Obj)} {g : Obj → List (Addr × Obj)} {so : Obj} {xs : List Nat} {b : Bool}
def setO (w : World) : Obj := { cls := .type "set", dict := none, data := .set #[] 0 (.fresh 0 0 (!w.params.followText "set-order")) }
theorem setO_is (w : World) : IsSet w (setO w) [] true := is_fresh _ (by cases w.params.followText "set-order" <;> simp)
theorem newSet2 {Q : Value → Shared → Prop} (h : Q (.ref s.heap.objs.size) { s with heap := s.heap.push (setO w) }) : wpAny (model prog w) A (newSet (.type "set")) Q E s := by
  unfold newSet setsByText
  refine wpAny_bind (wpAny_bind (wpAny_askSetting (wpAny_pure ?_)))
  dsimp only
  simp only [newObj]
  exact wpAny_bind (wpAny_alloc (wpAny_pure h))
theorem is_newSet {Q : Value → Shared → Prop} (F : Fr h₀ L s.heap m) (N : News h₀ L s.heap news)
    (h : ∀ D h', Fr h₀ L h' m → News h₀ L h' ((D, setO w) :: news) → (∀ p ∈ news, p.1 < D) → Q (.ref D) { s with heap := h' }) :
    wpAny (model prog w) A (newSet (.type "set")) Q E s :=
  newSet2 (h _ _ (F.push _) (News.push F N _ rfl) (fun p hp => Heap.lt_size (N p hp).1))
theorem is_core {road : DisplayRoad} {bb : Bool} {elts : List (Bool × Sem Value)} {ts : List (Sem Value)} {Q : Value → Shared → Prop} (hroad : (road == .constants) = false) (hun : (road == .unsure) = false) (hs : elts.findIdx? (·.1) = none) (hlen : elts.length ≤ 30) (hm : elts.map (·.2) = ts)
    (h : wpAny (model prog w) A (evalAll ts) (fun vs s' => KdsFill (model prog w) A E false s.heap.objs.size Q vs s') E { s with heap := s.heap.push (setO w) }) :
    wpAny (model prog w) A (setDisplay road bb elts) Q E s := by
  have hn : (if elts.length > 30 then 0 else (elts.findIdx? (·.1)).getD elts.length) = elts.length := by rw [if_neg (by lia), hs]; rfl
  unfold setDisplay
  try dsimp only
  rw [if_neg (by rw [hroad]; exact Bool.false_ne_true)]
  refine wpAny_bind (newSet2 ?_)
  dsimp only
  rw [hn, List.take_length, List.drop_length, hm]
  refine wpAny_bind (wpAny_holding ?_)
  refine wpAny_bind (wpAny_mono h (fun vs s' h' => ?_) fun _ _ x => x)
  refine wpAny_bind (wpAny_holding ?_)
  refine wpAny_bind (wpAny_mono (kds_for (fun x P s hx => ?_) vs s' h') (fun _ s1 h1 => ?_) fun _ _ x => x)
  · refine wpAny_bind (wpAny_mono hx (fun _ s2 h2 => ?_) fun _ _ x => x)
    first | exact wpAny_pure ⟨rfl, h2⟩ | exact wpAny_bind (wpAny_pure (wpAny_pure ⟨rfl, h2⟩))
  · have h2 : Q (.ref s.heap.objs.size) s1 := by simpa [KdsFill] using h1
    rw [hun, if_neg Bool.false_ne_true]
    refine wpAny_pure ?_
    rw [List.forIn_nil]
    exact wpAny_pure (wpAny_pure h2)
theorem is_disp {K : Frag} {elts : List PySem.Expr} {k : Nat} {pos : Pos} {env : Env} {Q : Value → Shared → Prop} (F : Fr h₀ L s.heap m) (N : News h₀ L s.heap news) (X : K.In h₀) (hc : kdsCode K env.code = true)
    (hroad : (displayRoad k elts == .constants) = false) (hun : (displayRoad k elts == .unsure) = false) (hp : elts.all kdsPlain = true) (hlen : elts.length ≤ 30)
    (h : ∀ D h', Fr h₀ L h' m → News h₀ L h' ((D, setO w) :: news) → (∀ p ∈ news, p.1 < D) → IsSet w (setO w) [] true →
      KdsAll (model prog w) A E env elts (fun vs s' => KdsFill (model prog w) A E false D Q vs s') { s with heap := h' }) :
    wpAny (model prog w) A (eval (.Set elts k pos) env) Q E s := by
  rw [arm_eval_Set]
  refine wpAny_bind (wpAny_standAt ?_)
  refine wpAny_bind (kds_main (X.keeps F.keep) hc fun b => ?_)
  rw [kds_star elts hp, List.map_map]
  refine is_core (ts := (evalEach elts env).map fun t => do let v ← t; standAt pos; pure v) hroad hun ?_ ?_ ?_ ?_
  · refine List.findIdx?_eq_none_iff.mpr fun x hx => ?_
    obtain ⟨t, _, rfl⟩ := List.mem_map.mp hx
    rfl
  · rw [List.length_map, kds_len]; exact hlen
  · rw [List.map_map]; try rfl
  · exact kds_all pos elts _ _ (h _ _ (F.push _) (News.push F N _ rfl) (fun p hp => Heap.lt_size (N p hp).1) (setO_is w))
theorem is_addM {pl : Sem Bool} {Q : Value × List Value → Shared → Prop} (N : News h₀ L s.heap news) (hin : (sa, so) ∈ news) (hs : IsSet w so xs b) (h : Q (.builtin "set.add", [.ref sa]) s) :
    wpAny (model prog w) A (getMethod (.ref sa) "add" pl) Q E s := by
  have hm := N _ hin
  exact getMethod_builtin ⟨so, hm.1, hs.ex.1⟩ PySem.F.plainAttrs_set PySem.F.slot_set_add PySem.F.type_set_add (fun b e => by injection e with e; subst e; exact ⟨so, hm.1, hs.ex.2.1⟩) h
theorem is_in {k : Nat} {tk : Tok} {Q : Value → Shared → Prop} (N : News h₀ L s.heap news) (U : UpdF sa so news g) (hs : IsSet w so xs b) (hr : xs.length ≤ 1000) (h : Q (.bool (decide (k ∈ xs))) { s with toks := s.toks + 1 }) :
    wpAny (model prog w) A (compareOp .In (.int (k : Int) tk) (.ref sa)) Q E s := by
  refine kse_in (knd := intKind prog w) N U hs.objOf (by unfold scanBound; lia) (intKind_is _ _ _ _) rfl ?_
  have e : decide (0 ≤ (k : Int) ∧ (k : Int).toNat ∈ xs) = decide (k ∈ xs) := by simp
  rw [e]; exact h
end
end
example : True := by
  k_with "m eval Set" => (k_dflt (refine' is_disp (by k_asm) (by first | k_asm | exact News.nil) (by k_asm) (by first | k_is | kernel_rfl!) (by kds_road) (by kds_road) (by kds_road) (by exact Nat.le_of_ble_eq_true rfl) ?_); intro d'ξ h'ξ F'ξ N'ξ l1ξ hs'ξ; (try k_lt l1ξ); (try dsimp only [KdsAll]))
  k_with "m getMethod ref" => ((with_reducible show wpAny _ _ (getMethod (Value.ref _) (Str.ofString "add") _) _ _ _); k_dflt (refine is_addM (by k_asm) (by k_mem) (by assumption) ?_))
  k_with "m compareOp In int ref" => ((with_reducible show wpAny _ _ (compareOp CmpOp.In (Value.int (@Nat.cast Int _ _) _) (Value.ref _)) _ _ _); k_dflt (refine' is_in (by k_asm) (by k_updF) (by assumption) (by walk_at "setroom") ?_); (try dsimp only))
  trivial
example {prog : Program} {w : World} {A : Around} {env : Env} {Q : Flow → Shared → Prop} {E : Value → Shared → Prop} {s : Shared} (h : wpAny (model prog w) A (execs [] env) Q E s) : wpAny (model prog w) A (execs [] env) Q E s := by ((k_with "now" => have kReset : True := trivial); (k_with "piece" => have kP_S11 : True := trivial); w_top off; first | (walk1; fail) | exact h)
section
section
variable {prog : Program} {w : World} {A : Around} {E : Value → Shared → Prop} {s : Shared} {h₀ : Heap} {L sa : Addr} {m : Str → Option Value} {news : List (Addr × Obj)}
theorem code_set_newL {Q₁ : Value → Shared → Prop} (h : Q₁ (.ref s.heap.objs.size) { s with heap := s.heap.push (setO w) }) :
    codeAny (model prog w) A (.call (.builtin "set.__new__") ⟨[.type "set"], []⟩) (wants Q₁ E) s := by
  refine codeAny_of_tree ?_
  show wpAny _ A.in1 (do checkBuiltinCall "set.__new__" ⟨[.type "set"], []⟩; again (.builtin "set.__new__" ⟨[.type "set"], []⟩)) _ _ s
  refine wpAny_bind (wpAny_of_eq PySem.F.newCall_set_0 (wpAny_pure ⟨plainId_quiet PySem.F.plain_set_new _, codeAny_builtin PySem.F.entry_set_new ?_⟩))
  rw [Around.under_plainId PySem.F.plain_set_new _]
  unfold Builtin.«set.__new__» Builtin.Frozenset.newClass
  have hsub := sub_set_self
  obtain ⟨hp, g, d, tk, os⟩ := s
  dsimp only
  wp_walk
  refine wpAny_askSetting (wpAny_pure ?_)
  dsimp only
  simp only [newObj]
  refine wpAny_bind (wpAny_alloc (wpAny_pure ?_))
  exact wpAny_pure h
set_option maxHeartbeats 1000000 in
set_option maxRecDepth 100000 in
theorem call_set_L {Q : Value → Shared → Prop}
    (h : Q (.ref s.heap.objs.size) { s with heap := s.heap.push (setO w) }) :
    wpAny (model prog w) A (call (.type "set") []) Q E s := by
  obtain ⟨c, tl, hmro⟩ := PySem.F.called_set.mro
  have hmade := PySem.F.called_set.made
  have hsub := PySem.F.called_set.sub
  refine wpAny_call (codeAny_of_tree ?_)
  show wpAny _ _ (callAny (.type "set") _) _ _ _
  refine wpAny_pure ⟨Code.quiet_builtin _ (by decide +kernel), codeAny_builtin PySem.F.entry_type_call ?_⟩
  rw [Around.under_plain (weight_type_call_type "set" [] []) rfl]
  have h1 := PySem.F.called_set.notType
  have h2 := PySem.F.called_set.canCreate
  have hct := PySem.F.typeCall_set_0
  repeat (any_goals (first | assumption | wp_step))

  refine codeAny_mono (code_set_newL (E := E) (Q₁ := fun obj s₁ => obj = .ref s.heap.objs.size ∧ s₁ = { s with heap := s.heap.push (setO w) }) ⟨rfl, rfl⟩) fun r s₁ hr => ?_
  cases r with
  | error e => exact hr
  | ok fl =>
    cases fl with
    | ret obj =>
      obtain ⟨rfl, rfl⟩ := hr
      have hS : (s.heap.push (setO w)).get? s.heap.objs.size = some (setO w) := Heap.get?_push_size _ rfl
      have hT : Shared.TypeIs { s with heap := s.heap.push (setO w) } (.ref s.heap.objs.size) "set" := ⟨_, hS, rfl⟩
      have hli := PySem.F.called_set.init.lookup
      have hbi := PySem.F.called_set.init.bind (.ref s.heap.objs.size)
      repeat (any_goals (first | assumption | wp_step))

      refine codeAny_mono (codeAny_call_builtin (R := wants (fun r s₂ => r = .none ∧ Q (.ref s.heap.objs.size) s₂) E) PySem.F.called_set.init.plain PySem.F.entry_set_init (check_set_init hT ?_)) fun r₂ s₂ hr₂ => ?_
      · unfold Builtin.«set.__init__» noKeywords
        wp_walk
        exact ⟨rfl, h⟩
      · cases r₂ with
        | error e => exact hr₂
        | ok fl₂ =>
          cases fl₂ with
          | ret r =>
            obtain ⟨rfl, hq⟩ := hr₂
            repeat (any_goals (first | assumption | wp_step))
          | _ => exact hr₂.elim
    | _ => exact hr.elim
theorem is_new {Q : Value → Shared → Prop} (F : Fr h₀ L s.heap m) (N : News h₀ L s.heap news)
    (h : ∀ D h', Fr h₀ L h' m → News h₀ L h' ((D, setO w) :: news) → (∀ p ∈ news, p.1 < D) → @LT.lt Nat _ L D → IsSet w (setO w) [] true → Q (.ref D) { s with heap := h' }) :
    wpAny (model prog w) A (call (.type "set") []) Q E s :=
  call_set_L (h _ _ (F.push _) (News.push F N _ rfl) (fun p hp => Heap.lt_size (N p hp).1) F.ns.lt (setO_is w))
end
end
example : True := by
  k_with "m call type:set nil nil" => (k_dflt (refine is_new (by k_asm) (by k_asm) ?_); intro d'ξ h'ξ F'ξ N'ξ l1ξ l2ξ hs'ξ; (try k_lt l1ξ))
  trivial
example {prog : Program} {w : World} {A : Around} {env : Env} {Q : Flow → Shared → Prop} {E : Value → Shared → Prop} {s : Shared} (h : wpAny (model prog w) A (execs [] env) Q E s) : wpAny (model prog w) A (execs [] env) Q E s := by ((k_with "now" => have kReset : True := trivial); (k_with "piece" => have kP_S12 : True := trivial); w_top off; first | (walk1; fail) | exact h)
section
section
variable {prog : Program} {w : World} {A : Around} {E : Value → Shared → Prop} {Q : Flow → Shared → Prop} {s : Shared} {env : Env} {h₀ : Heap} {L : Addr}
def SlEnd {σ : Type} (h₀ : Heap) (L : Addr) (s : Shared) (Led : σ → List (Addr × Obj)) (stored : List Str) (m₀ : Str → Option Value) (P : σ → Prop) (μ : σ → Nat) (c : σ) (s₂ : Shared) : Prop :=
  ∃ (c' : σ) (h' : Heap) (tk : Nat) (dr : Drawn) (m' : Str → Option Value), s₂ = { s with heap := h', toks := tk, drawn := dr } ∧ Fr h₀ L h' m' ∧ News h₀ L h' (Led c') ∧ (∀ z, stored.contains z = false → m' z = m₀ z) ∧ P c' ∧ μ c' < μ c
def SlPost {σ : Type} (h₀ : Heap) (L : Addr) (s : Shared) (Led : σ → List (Addr × Obj)) (stored : List Str) (m₀ : Str → Option Value) (P : σ → Prop) (μ : σ → Nat) (Q : Flow → Shared → Prop) (c : σ) (f : Flow) (s₂ : Shared) : Prop :=
  match f with
  | .ret v => Q (.ret v) s₂
  | .brk => Q .next s₂
  | _ => SlEnd h₀ L s Led stored m₀ P μ c s₂
theorem sl_fr {h : Heap} {stored : List Str} {m₀ m₁ : Str → Option Value} (h2 : ∀ z, stored.contains z = false → m₁ z = m₀ z) (F : Fr h₀ L h m₁) : Fr h₀ L h (fun z => if stored.contains z then m₁ z else m₀ z) := by
  have e : (fun z => if stored.contains z then m₁ z else m₀ z) = m₁ := by
    funext y
    cases h3 : stored.contains y with
    | true => simp
    | false => simp only [Bool.false_eq_true, if_false]; exact (h2 y h3).symm
  rw [e]; exact F
theorem sl_end {σ : Type} {Led : σ → List (Addr × Obj)} {stored : List Str} {m₀ m' : Str → Option Value} {P : σ → Prop} {μ : σ → Nat} {c : σ} {h' : Heap} {tk : Nat} {dr : Drawn} {news' : List (Addr × Obj)} (c' : σ)
    (F : Fr h₀ L h' m') (N : News h₀ L h' news') (hn : ∀ p ∈ Led c', p ∈ news') (hr : ∀ z, stored.contains z = false → m' z = m₀ z) (hp : P c') (hm : μ c' < μ c) :
    SlEnd h₀ L s Led stored m₀ P μ c { s with heap := h', toks := tk, drawn := dr } := ⟨c', h', tk, dr, m', rfl, F, fun p hp => N p (hn p hp), hr, hp, hm⟩
theorem sl_while {σ : Type} {test : Expr} {body : List Stmt} {pos : Pos} {m₀ : Str → Option Value} (Led : σ → List (Addr × Obj)) (stored : List Str) (P : σ → Prop) (μ : σ → Nat) (c₀ : σ)
    (F : Fr h₀ L s.heap m₀) (N : News h₀ L s.heap (Led c₀)) (hp : P c₀)
    (turn : ∀ (c : σ) (u : Str → Option Value) h tk dr, P c → Fr h₀ L h (fun z => if stored.contains z then u z else m₀ z) → News h₀ L h (Led c) →
      wpAny (model prog w) A (isTrue test env (eval test env)) (fun b s₂ =>
        if b = true then wpAny (model prog w) A (execs body env) (SlPost h₀ L s Led stored m₀ P μ Q c) E s₂ else Q .next s₂) E { s with heap := h, toks := tk, drawn := dr })
    (hE : PassesOwn (model prog w) A env E := by passes_own) :
    wpAny (model prog w) A (exec (.While test body [] pos) env) Q E s := by
  have key : ∀ (n : Nat) (c : σ) (u : Str → Option Value) h tk dr, μ c < n → P c → Fr h₀ L h u → (∀ z, stored.contains z = false → u z = m₀ z) → News h₀ L h (Led c) →
      WhlRest prog w A E env test body [] Q 0 { s with heap := h, toks := tk, drawn := dr } := by
    intro n
    induction n with
    | zero => intro c u h tk dr hlt; exact absurd hlt (Nat.not_lt_zero _)
    | succ n ih =>
      intro c u h tk dr hlt hP hF hu hN
      refine whl_turn (k := 0) hE (wpAny_mono (turn c u h tk dr hP (sl_fr hu hF) hN) (fun b s₂ p => ?_) fun _ _ x => x)
      cases b with
      | false =>
        refine WhlIf.no rfl ?_
        exact wpAny_execs_nil (by simpa using p)
      | true =>
        refine WhlIf.yes rfl ?_
        simp only [if_true] at p
        refine wpAny_mono p (fun f s₃ q => ?_) fun _ _ x => x
        cases f with
        | ret v => exact q
        | brk => exact q
        | next =>
          obtain ⟨c', h', tk', dr', m', rfl, F', N', hr, hp', hm'⟩ := q
          exact ih c' m' h' tk' dr' (by lia) hp' F' hr N'
        | cont =>
          obtain ⟨c', h', tk', dr', m', rfl, F', N', hr, hp', hm'⟩ := q
          exact ih c' m' h' tk' dr' (by lia) hp' F' hr N'
  refine whl_start 0 ?_
  have := key (μ c₀ + 1) c₀ m₀ s.heap s.toks s.drawn (by lia) hp F (fun _ _ => rfl) N
  exact this
end
end
example : True := by
  k_with "SlPost" => ((dsimp only [SlPost]))
  trivial
example {prog : Program} {w : World} {A : Around} {env : Env} {Q : Flow → Shared → Prop} {E : Value → Shared → Prop} {s : Shared} (h : wpAny (model prog w) A (execs [] env) Q E s) : wpAny (model prog w) A (execs [] env) Q E s := by ((k_with "now" => have kReset : True := trivial); (k_with "piece" => have kP_M6 : True := trivial); w_top off; first | (walk1; fail) | exact h)
section
def Big (W x : Nat) : Prop := x = W ∨ x = W / 2 ∨ (W % 2 = 1 ∧ x = W / 2 + 1)
structure CpI (W : Nat) (xs ss ns : List Nat) : Prop where
  nx : xs.Nodup
  ns' : ss.Nodup
  nn : ns.Nodup
  i1 : ∀ x ∈ xs, x ≤ 2048 ∨ Big W x
  i2 : ∀ x ∈ ss, 2048 < x ∧ Big W x
  i3 : ∀ y, y ∈ ns ↔ ∃ x ∈ ss, y = x / 2
  i4 : W ∈ xs ∨ W ∈ ss ∨ W ≤ 2048
  i5 : ∀ x ∈ ss, (x / 2 ∈ xs ∨ x / 2 ∈ ss ∨ x / 2 ≤ 2048) ∧ (x % 2 = 1 → x / 2 + 1 ∈ xs ∨ x / 2 + 1 ∈ ss ∨ x / 2 + 1 ≤ 2048)
  i6 : 3 * (3 - ss.length) + xs.length ≤ 10
def cpM (xs ss : List Nat) : Nat := 3 * (3 - ss.length) + xs.length
theorem len_sub : ∀ {l m : List Nat}, l.Nodup → (∀ x ∈ l, x ∈ m) → l.length ≤ m.length
  | [], _, _, _ => Nat.zero_le _
  | x :: l, m, hn, h => by
    have hn' := List.nodup_cons.mp hn
    have hx := h x (.head _)
    have ih := len_sub (m := m.erase x) hn'.2 fun y hy => (List.mem_erase_of_ne (fun (e : y = x) => hn'.1 (e ▸ hy))).mpr (h y (.tail _ hy))
    rw [List.length_erase_of_mem hx] at ih
    have hp := List.length_pos_of_mem hx
    exact Nat.succ_le_of_lt (Nat.lt_of_le_of_lt ih (Nat.sub_lt hp Nat.zero_lt_one))
theorem three_len {l : List Nat} {a b c : Nat} (hn : l.Nodup) (h : ∀ x ∈ l, x = a ∨ x = b ∨ x = c) : l.length ≤ 3 :=
  len_sub (m := [a, b, c]) hn fun x hx => by simpa using h x hx
theorem CpI.slen {W : Nat} {xs ss ns : List Nat} (h : CpI W xs ss ns) : ss.length ≤ 3 :=
  three_len (a := W) (b := W / 2) (c := W / 2 + 1) h.ns' fun x hx => Or.imp_right (Or.imp_right And.right) (h.i2 x hx).2
theorem CpI.nlen {W : Nat} {xs ss ns : List Nat} (h : CpI W xs ss ns) : ns.length ≤ 3 :=
  three_len (a := W / 2) (b := W / 2 / 2) (c := (W / 2 + 1) / 2) h.nn fun y hy => by
    obtain ⟨x, hx, e⟩ := (h.i3 y).mp hy
    rcases (h.i2 x hx).2 with e2 | e2 | ⟨_, e2⟩
    · exact .inl (e2 ▸ e)
    · exact .inr (.inl (e2 ▸ e))
    · subst e2; rcases Nat.mod_two_eq_zero_or_one W with ho | ho
      · exact .inr (.inl (by lia))
      · exact .inr (.inr (by lia))
theorem mem_ins {k x : Nat} {xs : List Nat} : x ∈ ins k xs ↔ x = k ∨ x ∈ xs := by
  unfold ins; split
  · constructor
    · exact .inr
    · rintro (h | h)
      · rw [h]; assumption
      · exact h
  · simp
theorem ins_nodup {k : Nat} {xs : List Nat} (h : xs.Nodup) : (ins k xs).Nodup := by
  unfold ins; split
  · exact h
  · exact List.nodup_cons.mpr ⟨by assumption, h⟩
theorem ins_len (k : Nat) (xs : List Nat) : (ins k xs).length ≤ xs.length + 1 := by unfold ins; split <;> simp
theorem ins_len_new {k : Nat} {xs : List Nat} (h : k ∉ xs) : (ins k xs).length = xs.length + 1 := by unfold ins; rw [if_neg h]; simp
theorem cp_start (W : Nat) : CpI W (ins W []) [] [] where
  nx := ins_nodup .nil
  ns' := .nil
  nn := .nil
  i1 := fun x hx => .inr (.inl (by simpa [ins] using hx))
  i2 := fun _ h => nomatch h
  i3 := fun y => by simp
  i4 := .inl (by simp [ins])
  i5 := fun _ h => nomatch h
  i6 := by simp [ins]
theorem cp_skip {W x : Nat} {xs ss ns : List Nat} (h : CpI W xs ss ns) (hx : x ∈ xs) (hk : x ∈ ss ∨ x ≤ 2048) : CpI W (xs.erase x) ss ns ∧ cpM (xs.erase x) ss < cpM xs ss := by
  have hlen : (xs.erase x).length = xs.length - 1 := List.length_erase_of_mem hx
  have hpos : 0 < xs.length := List.length_pos_of_mem hx
  have hmem : ∀ y, y ∈ xs → y ∈ xs.erase x ∨ y ∈ ss ∨ y ≤ 2048 := fun y hy => by
    by_cases e : y = x
    · rw [e]; exact .inr hk
    · exact .inl ((List.mem_erase_of_ne e).mpr hy)
  refine ⟨⟨h.nx.erase _, h.ns', h.nn, fun y hy => h.i1 y (List.mem_of_mem_erase hy), h.i2, h.i3, ?_, fun y hy => ?_, by have := h.i6; lia⟩, by unfold cpM; lia⟩
  · rcases h.i4 with h4 | h4
    · exact hmem _ h4
    · exact .inr h4
  · obtain ⟨h5, h6⟩ := h.i5 y hy
    refine ⟨?_, fun ho => ?_⟩
    · rcases h5 with h5 | h5
      · exact hmem _ h5
      · exact .inr h5
    · rcases h6 ho with h5 | h5
      · exact hmem _ h5
      · exact .inr h5
theorem cp_new {W x : Nat} {xs ss ns : List Nat} (hW : W ≤ 8000) (h : CpI W xs ss ns) (hx : x ∈ xs) (hs : x ∉ ss) (hb : 2048 < x) (ys : List Nat)
    (hy : (x % 2 = 1 ∧ ys = ins (x / 2 + 1) (ins (x / 2) (xs.erase x))) ∨ (x % 2 = 0 ∧ ys = ins (x / 2) (xs.erase x))) :
    CpI W ys (ins x ss) (ins (x / 2) ns) ∧ cpM ys (ins x ss) < cpM xs ss := by
  have hlen : (xs.erase x).length = xs.length - 1 := List.length_erase_of_mem hx
  have hpos : 0 < xs.length := List.length_pos_of_mem hx
  have hX : Big W x := (h.i1 x hx).resolve_left (by lia)
  have hyl : ys.length ≤ xs.length + 1 := by
    have h1 := ins_len (x / 2) (xs.erase x)
    have h2 := ins_len (x / 2 + 1) (ins (x / 2) (xs.erase x))
    rcases hy with ⟨_, e⟩ | ⟨_, e⟩ <;> rw [e] <;> lia
  have hyn : ys.Nodup := by rcases hy with ⟨_, e⟩ | ⟨_, e⟩ <;> rw [e] <;> first | exact ins_nodup (ins_nodup (h.nx.erase _)) | exact ins_nodup (h.nx.erase _)
  have hym : ∀ y, y ∈ xs → y ≠ x → y ∈ ys := fun y h1 h2 => by
    have := (List.mem_erase_of_ne h2).mpr h1
    rcases hy with ⟨_, e⟩ | ⟨_, e⟩ <;> rw [e] <;> simp [mem_ins, this]
  have hyb : ∀ y, y ∈ ys → y ∈ xs ∨ y = x / 2 ∨ (x % 2 = 1 ∧ y = x / 2 + 1) := fun y h1 => by
    rcases hy with ⟨o, e⟩ | ⟨o, e⟩ <;> rw [e] at h1 <;> simp only [mem_ins] at h1
    · rcases h1 with h1 | h1 | h1
      · exact .inr (.inr ⟨o, h1⟩)
      · exact .inr (.inl h1)
      · exact .inl (List.mem_of_mem_erase h1)
    · rcases h1 with h1 | h1
      · exact .inr (.inl h1)
      · exact .inl (List.mem_of_mem_erase h1)
  have hy2 : x / 2 ∈ ys := by rcases hy with ⟨_, e⟩ | ⟨_, e⟩ <;> rw [e] <;> simp [mem_ins]
  have hy3 : x % 2 = 1 → x / 2 + 1 ∈ ys := fun o => by
    rcases hy with ⟨_, e⟩ | ⟨o', e⟩
    · rw [e]; simp [mem_ins]
    · lia
  have hsl := ins_len_new hs
  have hn3 : (ins x ss).length ≤ 3 := three_len (a := W) (b := W / 2) (c := W / 2 + 1) (ins_nodup h.ns') fun y hy => by
    have hyB : Big W y := by
      rcases mem_ins.mp hy with e | hy
      · rw [e]; exact hX
      · exact (h.i2 y hy).2
    exact Or.imp_right (Or.imp_right And.right) hyB
  have hstep : ∀ y, (y ∈ xs ∨ y ∈ ss ∨ y ≤ 2048) → (y ∈ ys ∨ y ∈ ins x ss ∨ y ≤ 2048) := fun y hyy => by
    rcases hyy with h1 | h1 | h1
    · by_cases e : y = x
      · exact .inr (.inl (mem_ins.mpr (.inl e)))
      · exact .inl (hym y h1 e)
    · exact .inr (.inl (mem_ins.mpr (.inr h1)))
    · exact .inr (.inr h1)
  refine ⟨⟨hyn, ins_nodup h.ns', ins_nodup h.nn, fun y h1 => ?_, fun y h1 => ?_, fun y => ?_, hstep _ h.i4, fun y h1 => ?_, ?_⟩, ?_⟩
  · rcases hyb y h1 with h2 | h2 | ⟨h3, h2⟩
    · exact h.i1 y h2
    · rcases hX with e | e | ⟨ho, e⟩
      · subst e; exact Or.inr (Or.inr (Or.inl h2))
      · exact .inl (by subst e; lia)
      · exact .inl (by subst e; lia)
    · rcases hX with e | e | ⟨ho, e⟩
      · subst e; exact Or.inr (Or.inr (Or.inr ⟨h3, h2⟩))
      · exact .inl (by subst e; lia)
      · exact .inl (by subst e; lia)
  · rcases mem_ins.mp h1 with e | h1
    · rw [e]; exact ⟨hb, hX⟩
    · exact h.i2 y h1
  · rw [mem_ins, h.i3]
    constructor
    · rintro (e | ⟨z, hz, e⟩)
      · exact ⟨x, mem_ins.mpr (.inl rfl), e⟩
      · exact ⟨z, mem_ins.mpr (.inr hz), e⟩
    · rintro ⟨z, hz, e⟩
      rcases mem_ins.mp hz with e2 | hz
      · exact .inl (by rw [e, e2])
      · exact .inr ⟨z, hz, e⟩
  · rcases mem_ins.mp h1 with e | h1
    · rw [e]; exact ⟨.inl hy2, fun o => .inl (hy3 o)⟩
    · obtain ⟨h5, h6⟩ := h.i5 y h1
      exact ⟨hstep _ h5, fun o => hstep _ (h6 o)⟩
  · have := h.i6; lia
  · unfold cpM; lia
theorem cp_none {W : Nat} {ss ns : List Nat} (h : CpI W [] ss ns) (hW : W ≤ 2048) : ns = [] := by
  refine List.eq_nil_iff_forall_not_mem.mpr fun y hy => ?_
  obtain ⟨x, hx, _⟩ := (h.i3 y).mp hy
  have := h.i2 x hx; unfold Big at this; lia
theorem cp_sorted {W : Nat} {ss ns : List Nat} {L : List Int} (h : CpI W [] ss ns) (hW : 2048 < W) (hW2 : W ≤ 8000) (hp : L.Perm (ns.map fun n : Nat => (n : Int))) (ho : L.Pairwise (fun x y => x ≤ y)) :
    L = [((W / 2 : Nat) : Int)] ∨ L = [((W / 2 / 2 : Nat) : Int), ((W / 2 : Nat) : Int)] ∨ (W / 2 % 2 = 1 ∧ L = [((W / 2 / 2 : Nat) : Int), ((W / 2 / 2 + 1 : Nat) : Int), ((W / 2 : Nat) : Int)]) := by
  have hn : L.Nodup := by
    rw [hp.nodup_iff]
    refine List.pairwise_map.mpr (h.nn.imp fun {a b} hab => ?_)
    exact fun e => hab (Int.ofNat.inj e)
  have hlen : L.length ≤ 3 := by rw [hp.length_eq, List.length_map]; exact h.nlen
  have hm : ∀ z, z ∈ L ↔ ∃ x ∈ ss, z = ((x / 2 : Nat) : Int) := fun z => by
    rw [hp.mem_iff, List.mem_map]
    constructor
    · rintro ⟨y, hy, rfl⟩
      obtain ⟨x, hx, rfl⟩ := (h.i3 y).mp hy
      exact ⟨x, hx, rfl⟩
    · rintro ⟨x, hx, rfl⟩
      exact ⟨x / 2, (h.i3 _).mpr ⟨x, hx, rfl⟩, rfl⟩
  have hWs : W ∈ ss := by
    rcases h.i4 with h4 | h4 | h4
    · cases h4
    · exact h4
    · lia
  have ha : ((W / 2 : Nat) : Int) ∈ L := (hm _).mpr ⟨W, hWs, rfl⟩
  have hsub : ∀ z ∈ L, z = ((W / 2 : Nat) : Int) ∨ z = ((W / 2 / 2 : Nat) : Int) ∨ (W / 2 % 2 = 1 ∧ 2048 < W / 2 + 1 ∧ z = ((W / 2 / 2 + 1 : Nat) : Int)) := fun z hz => by
    obtain ⟨x, hx, e⟩ := (hm z).mp hz
    obtain ⟨h1, h2⟩ := h.i2 x hx
    rcases h2 with e2 | e2 | ⟨ho, e2⟩
    · subst e2; exact .inl e
    · subst e2; exact .inr (.inl e)
    · subst e2
      rcases Nat.mod_two_eq_zero_or_one (W / 2) with hq | hq
      · exact .inr (.inl (by lia))
      · exact .inr (.inr ⟨hq, by lia, by lia⟩)
  have hh : W / 2 % 2 = 1 → 2048 < W / 2 + 1 → ((W / 2 / 2 : Nat) : Int) ∈ L := fun ho hb => by
    have h5 := (h.i5 W hWs).1
    rcases h5 with h5 | h5 | h5
    · cases h5
    · exact (hm _).mpr ⟨W / 2, h5, rfl⟩
    · lia
  generalize (W / 2 : Nat) = a at *
  match L, hn, ho, hlen, ha, hsub, hh with
  | [], _, _, _, ha, _, _ => cases ha
  | [p], _, _, _, ha, _, _ =>
    left; rw [List.mem_singleton.mp ha]
  | [p, q], hn, ho, _, ha, hsub, hh =>
    right; left
    have h1 := hsub p (by simp)
    have h2 := hsub q (by simp)
    simp only [List.nodup_cons, List.mem_cons, List.not_mem_nil, not_or, or_false, List.pairwise_cons, forall_eq_or_imp, List.mem_singleton, forall_eq, not_false_iff, false_implies, implies_true, List.Pairwise.nil, and_true, List.nodup_nil] at hn ho ha hh
    have h3 : a % 2 = 1 → 2048 < a + 1 → ((a / 2 : Nat) : Int) = p ∨ ((a / 2 : Nat) : Int) = q := hh
    have e1 : p = ((a / 2 : Nat) : Int) := by lia
    have e2 : q = ((a : Nat) : Int) := by lia
    rw [e1, e2]
  | [p, q, r], hn, ho, _, ha, hsub, hh =>
    right; right
    have h1 := hsub p (by simp)
    have h2 := hsub q (by simp)
    have h4 := hsub r (by simp)
    simp only [List.nodup_cons, List.mem_cons, List.not_mem_nil, not_or, or_false, List.pairwise_cons, forall_eq_or_imp, List.mem_singleton, forall_eq, not_false_iff, false_implies, implies_true, List.Pairwise.nil, and_true, List.nodup_nil] at hn ho ha
    have e1 : p = ((a / 2 : Nat) : Int) := by lia
    have e2 : q = ((a / 2 + 1 : Nat) : Int) := by lia
    have e3 : r = ((a : Nat) : Int) := by lia
    refine ⟨by lia, ?_⟩
    rw [e1, e2, e3]
  | p :: q :: r :: t :: l, _, _, hlen, _, _, _ => simp at hlen
def Need (W n : Nat) : Prop := n = W / 2 ∨ (2048 < W / 2 ∧ n = W / 2 / 2) ∨ (2048 < (W + 1) / 2 ∧ n = (W + 1) / 2 / 2)
theorem cp_need {W : Nat} {ss ns : List Nat} {L : List Int} (h : CpI W [] ss ns) (hW : 2048 < W) (hp : L.Perm (ns.map fun n : Nat => (n : Int))) (n : Nat) (hn : Need W n) : (n : Int) ∈ L := by
  rw [hp.mem_iff, List.mem_map]
  refine ⟨n, (h.i3 n).mpr ?_, rfl⟩
  have hWs : W ∈ ss := by
    rcases h.i4 with h4 | h4 | h4
    · cases h4
    · exact h4
    · lia
  obtain ⟨h5, h6⟩ := h.i5 W hWs
  rcases hn with e | ⟨hb, e⟩ | ⟨hb, e⟩
  · exact ⟨W, hWs, e⟩
  · rcases h5 with h5 | h5 | h5
    · cases h5
    · exact ⟨_, h5, e⟩
    · lia
  · rcases Nat.mod_two_eq_zero_or_one W with ho | ho
    · have e2 : (W + 1) / 2 = W / 2 := by lia
      rw [e2] at hb e
      rcases h5 with h5 | h5 | h5
      · cases h5
      · exact ⟨_, h5, e⟩
      · lia
    · have e2 : (W + 1) / 2 = W / 2 + 1 := by lia
      rw [e2] at hb e
      rcases h6 ho with h5 | h5 | h5
      · cases h5
      · exact ⟨_, h5, e⟩
      · lia
theorem cp_some {W : Nat} {ss ns : List Nat} (h : CpI W [] ss ns) (hW : 2048 < W) : ns ≠ [] := by
  intro e
  have hWs : W ∈ ss := by
    rcases h.i4 with h4 | h4 | h4
    · cases h4
    · exact h4
    · lia
  have := (h.i3 (W / 2)).mpr ⟨W, hWs, rfl⟩
  rw [e] at this; cases this
end
example {prog : Program} {w : World} {A : Around} {env : Env} {Q : Flow → Shared → Prop} {E : Value → Shared → Prop} {s : Shared} (h : wpAny (model prog w) A (execs [] env) Q E s) : wpAny (model prog w) A (execs [] env) Q E s := by ((k_with "now" => have kReset : True := trivial); (k_with "piece" => have kP_I1 : True := trivial); w_top off; first | (walk1; fail) | exact h)
section
section
open PySem.NumText
theorem wp_textN {M : Model} {A : Around} {E : Value → Shared → Prop} {s : Shared} {Q : Value → Shared → Prop} {v : Value} {text : List Nat} {n : Int} (hd : s.heap.NoDigits)
    (hs : ¬ (text.takeWhile (· != 0)).length ≤ 640) (hr : (int_private% "readNumeral") 4300 10 (text.takeWhile (· != 0)) = (int_private% "Numeral.value") n)
    (ha : ((text.takeWhile (· != 0)).length == text.length) = true) (h : Q (.int n s.toks) { s with toks := s.toks + 1 }) :
    wpAny M A ((int_private% "intFromText") v text 10) Q E s := by
  obtain ⟨mc, hns, hnone⟩ := hd
  have key : wpAny M A Builtin.intMaxStrDigits (fun r s' => r = 4300 ∧ s' = s) E s := by
    unfold Builtin.intMaxStrDigits
    refine wpAny_bind (wpAny_nsGet hns ?_)
    rw [hnone]
    exact wpAny_pure ⟨rfl, rfl⟩
  obtain ⟨hp, g, d, tk, os⟩ := s
  repeat (any_goals (first
    | assumption
    | (with_reducible refine wpAny_ite_false (decide_eq_false hs) ?_)
    | (with_reducible refine wpAny_ite_true (decide_eq_true ha) ?_)
    | ((with_reducible show wpAny _ _ Builtin.intMaxStrDigits _ _ _); refine wpAny_mono key (fun r s' hq => ?_) (fun _ _ x => x))
    | wp_step))
  all_goals (obtain ⟨rfl, rfl⟩ := hq)
  all_goals (try rw [hr])
  all_goals (try dsimp only)
  repeat (any_goals (first
    | assumption
    | (with_reducible refine wpAny_ite_true (decide_eq_true ha) ?_)
    | wp_step))
theorem meets_text {x : PySem.Str} {u : Tok} {n : Int} (hl : x.length ≤ sizeLine) (hn : PySem.intText? x = some n) :
    Meets (Builtin.«int.__new__» ⟨[.type "int", .str x u], []⟩) (fun _ R s => s.heap.NoDigits ∧ R (.ok (.ret (.int n s.toks))) { s with toks := s.toks + 1 }) :=
  fun prog w A R s ⟨hnd, h⟩ => by
    have f1 := F.conv_sub_int
    have f2 := F.madeHere_int
    have f3 := PySem.W.KIN.str_int
    have f4 := PySem.W.KIN.str_idx
    have f5 := PySem.W.KIN.str_trunc
    have f6 : typeOf (.str x u) = pure (.type "str") := rfl
    have hk : ∀ {M : Model} {A : Around} {E : Value → Shared → Prop} {Q : Value → Shared → Prop} {v : Value}, Q (.int n s.toks) { s with toks := s.toks + 1 } → wpAny M A ((int_private% "intFromText") v (numTextOf x) 10) Q E s := by
      intro M A E Q v hq
      by_cases hs : (numSeenOf x).length ≤ 640
      · rcases read0 x hs with ⟨m, h1, h2, h3⟩ | ⟨h1, _⟩
        · rw [hn] at h1; injection h1 with h1; subst h1
          exact PySem.W.KIN.wp_text hs h3 h2 hq
        · rw [hn] at h1; cases h1
      · rcases read4300 x hl with ⟨m, h1, h2, h3⟩ | ⟨h1, _⟩
        · rw [hn] at h1; injection h1 with h1; subst h1
          exact wp_textN hnd hs h3 h2 hq
        · rw [hn] at h1; cases h1
    clear hnd hn hl
    obtain ⟨hp, g, d, tk, os⟩ := s
    repeat (any_goals (first
      | assumption
      | ((with_reducible show wpAny _ _ ((int_private% "intFromText") _ _ _) _ _ _); refine hk ?_)
      | wp_step))
theorem call_textL {prog : Program} {w : World} {A : Around} {E : Value → Shared → Prop} {s : Shared} {Q : Value → Shared → Prop} {x : PySem.Str} {t : Tok} (hd : s.heap.NoDigits) (ha : AllDigits x.cps.toList) (h1 : x.cps.toList ≠ []) (h2 : x.length ≤ 4300)
    (h : Q (.int ((digitsVal x.cps.toList : Nat) : Int) s.toks) { s with toks := s.toks + 1 }) : wpAny (model prog w) A (call (.type "int") [.str x t]) Q E s :=
  call_int_1 (meets_text (by rw [sizeLine_eq]; lia) (intText_digits ha h1 h2)) ⟨hd, ⟨rfl, h⟩⟩
end
end
example {prog : Program} {w : World} {A : Around} {env : Env} {Q : Flow → Shared → Prop} {E : Value → Shared → Prop} {s : Shared} (h : wpAny (model prog w) A (execs [] env) Q E s) : wpAny (model prog w) A (execs [] env) Q E s := by ((k_with "now" => have kReset : True := trivial); (k_with "piece" => have kP_W0 : True := trivial); w_top off; first | (walk1; fail) | exact h)
section
section
variable {M : Model} {A : Around} {E : Value → Shared → Prop} {α : Type}
theorem toksQ {t : Sem α} {Q : α → Shared → Prop} {s : Shared} {n : Nat} (hn : n ≤ s.toks) (h : wpAny M A t (fun a s' => n ≤ s'.toks → Q a s') E s) : wpAny M A t Q E s :=
  wpAny_mono (wpAny_toks_of hn h) (fun _ _ x => x.2 x.1) fun _ _ x => x.2
theorem genToks {t : Sem α} {Q : α → Shared → Prop} {hp : Heap} {g : Array GenState} {d : Drawn} {a b : Nat} {os : OsState} (k : ∀ tk, a + b ≤ tk → wpAny M A t Q E ⟨hp, g, d, tk, os⟩) : wpAny M A t Q E ⟨hp, g, d, a + b, os⟩ := k _ (Nat.le_refl _)
end
section
variable {prog : Program} {w : World} {A : Around} {E : Value → Shared → Prop}
theorem execsT {st : Stmt} {rest : List Stmt} {env : Env} {Q : Flow → Shared → Prop} {s : Shared} (h : wpAny (model prog w) A (exec st env) (fun f s' => s.toks ≤ s'.toks → match f with | .next => wpAny (model prog w) A (execs rest env) Q E s' | f => Q f s') E s) :
    wpAny (model prog w) A (execs (st :: rest) env) Q E s :=
  wpAny_execs_cons (toksQ (Nat.le_refl _) h)
end
end
example {prog : Program} {w : World} {A : Around} {env : Env} {Q : Flow → Shared → Prop} {E : Value → Shared → Prop} {s : Shared} (h : wpAny (model prog w) A (execs [] env) Q E s) : wpAny (model prog w) A (execs [] env) Q E s := by ((k_with "now" => have kReset : True := trivial); (k_with "piece" => have kP_W2 : True := trivial); w_top off; first | (walk1; fail) | exact h)
section
section
variable {prog : Program} {w : World} {A : Around} {E : Value → Shared → Prop} {Q : Flow → Shared → Prop} {s : Shared} {env : Env} {h₀ : Heap} {L : Addr} {news : List (Addr × Obj)}
def WmEnd {σ : Type} (h₀ : Heap) (L : Addr) (s : Shared) (news : List (Addr × Obj)) (Mm : σ → Str → Option Value) (P : σ → Nat → Prop) (μ : σ → Nat) (c : σ) (s₂ : Shared) : Prop :=
  ∃ (c' : σ) (h' : Heap) (tk : Nat) (m' : Str → Option Value), s₂ = { s with heap := h', toks := tk } ∧ Fr h₀ L h' m' ∧ News h₀ L h' news ∧ (∀ y, m' y = Mm c' y) ∧ P c' tk ∧ μ c' < μ c
def WmPost {σ : Type} (h₀ : Heap) (L : Addr) (s : Shared) (news : List (Addr × Obj)) (Mm : σ → Str → Option Value) (P : σ → Nat → Prop) (μ : σ → Nat) (Q : Flow → Shared → Prop) (c : σ) (f : Flow) (s₂ : Shared) : Prop :=
  match f with
  | .ret v => Q (.ret v) s₂
  | .brk => Q .next s₂
  | _ => WmEnd h₀ L s news Mm P μ c s₂
theorem fr_ext {h : Heap} {m m' : Str → Option Value} (F : Fr h₀ L h m) (e : ∀ y, m y = m' y) : Fr h₀ L h m' := by
  have : m = m' := funext e
  rw [← this]; exact F
theorem wm_end {σ : Type} {Mm : σ → Str → Option Value} {P : σ → Nat → Prop} {μ : σ → Nat} {c : σ} {h' : Heap} {tk : Nat} {m' : Str → Option Value} {news' : List (Addr × Obj)} (c' : σ)
    (F : Fr h₀ L h' m') (N : News h₀ L h' news') (hn : ∀ p ∈ news, p ∈ news') (hr : ∀ y, m' y = Mm c' y) (hp : P c' tk) (hm : μ c' < μ c) :
    WmEnd h₀ L s news Mm P μ c { s with heap := h', toks := tk } := ⟨c', h', tk, m', rfl, F, fun p hp => N p (hn p hp), hr, hp, hm⟩
/-- a while whose names are told by a state, and whose tokens count -/
theorem wm_while {σ : Type} {test : Expr} {body : List Stmt} {pos : Pos} {m₀ : Str → Option Value} (Mm : σ → Str → Option Value) (P : σ → Nat → Prop) (μ : σ → Nat) (c₀ : σ)
    (F : Fr h₀ L s.heap m₀) (N : News h₀ L s.heap news) (e0 : ∀ y, m₀ y = Mm c₀ y) (hp : P c₀ s.toks)
    (turn : ∀ (c : σ) h tk, P c tk → Fr h₀ L h (Mm c) → News h₀ L h news →
      wpAny (model prog w) A (isTrue test env (eval test env)) (fun b s₂ =>
        if b = true then wpAny (model prog w) A (execs body env) (WmPost h₀ L s news Mm P μ Q c) E s₂ else Q .next s₂) E { s with heap := h, toks := tk })
    (hE : PassesOwn (model prog w) A env E := by passes_own) :
    wpAny (model prog w) A (exec (.While test body [] pos) env) Q E s := by
  have key : ∀ (n : Nat) (c : σ) h tk, μ c < n → P c tk → Fr h₀ L h (Mm c) → News h₀ L h news →
      WhlRest prog w A E env test body [] Q 0 { s with heap := h, toks := tk } := by
    intro n
    induction n with
    | zero => intro c h tk hlt; exact absurd hlt (Nat.not_lt_zero _)
    | succ n ih =>
      intro c h tk hlt hP hF hN
      refine whl_turn (k := 0) hE (wpAny_mono (turn c h tk hP hF hN) (fun b s₂ p => ?_) fun _ _ x => x)
      cases b with
      | false =>
        refine WhlIf.no rfl ?_
        exact wpAny_execs_nil (by simpa using p)
      | true =>
        refine WhlIf.yes rfl ?_
        simp only [if_true] at p
        refine wpAny_mono p (fun f s₃ q => ?_) fun _ _ x => x
        cases f with
        | ret v => exact q
        | brk => exact q
        | next =>
          obtain ⟨c', h', tk', m', rfl, F', N', hr, hp', hm'⟩ := q
          exact ih c' h' tk' (by lia) hp' (fr_ext F' hr) N'
        | cont =>
          obtain ⟨c', h', tk', m', rfl, F', N', hr, hp', hm'⟩ := q
          exact ih c' h' tk' (by lia) hp' (fr_ext F' hr) N'
  refine whl_start 0 ?_
  exact key (μ c₀ + 1) c₀ s.heap s.toks (by lia) hp (fr_ext F e0) N
end
section
variable {prog : Program} {w : World} {A : Around} {E : Value → Shared → Prop} {s : Shared} {b c : Array UInt8} {t u : Tok} {Q : Value → Shared → Prop}
theorem add_bytesT (lo : Nat) (hsz : b.size + c.size ≤ 16777216) (h1 : @LE.le Nat _ lo t) (h2 : @LT.lt Nat _ t s.toks) (h3 : @LE.le Nat _ lo u) (h4 : @LT.lt Nat _ u s.toks) (h : ∀ t' k, @LE.le Nat _ lo t' → @LT.lt Nat _ t' k → Q (.bytes (b ++ c) t') { s with toks := k }) : wpAny (model prog w) A (binaryOp .Add (.bytes b t) (.bytes c u)) Q E s := by
  refine concat_gives (typeIs_bytes s b t) (typeIs_bytes s c u) PySem.W.KBy.noFill_bytes_add PySem.W.KBy.seq_bytes_add FB.slot_bytes_add FB.entry_bytes_add (FB.args_bytes_add_2 _ _) (PySem.W.KBy.gives_bytes_add (PySem.W.KBy.tooLong_not hsz)) ?_
  by_cases hb : b.isEmpty = true
  · rw [if_pos hb]
    have e : b = #[] := Array.isEmpty_iff.1 hb
    have h' := h u s.toks h3 h4
    rw [e, Array.empty_append] at h'
    exact h'
  · rw [if_neg hb]
    by_cases hc : c.isEmpty = true
    · rw [if_pos hc]
      have e : c = #[] := Array.isEmpty_iff.1 hc
      have h' := h t s.toks h1 h2
      rw [e, Array.append_empty] at h'
      exact h'
    · rw [if_neg hc]
      exact ⟨by rw [Array.size_append, sizeLine_eq]; exact hsz, h s.toks (s.toks + 1) (Nat.le_trans h1 (Nat.le_of_lt h2)) (Nat.lt_succ_self _)⟩
end

section
open PySem.Builtin
theorem bslice_meets (b : Array UInt8) (t : Tok) (a : Addr) {lo hi : Int} {ti tj : Tok} (hw : PySem.W.KBy.whole b (some lo) (some hi) = false) :
    Meets («bytes.__getitem__» ⟨[.bytes b t, .ref a], []⟩) (fun _ R s => s.heap.IsSliceOf a (.int lo ti) (.int hi tj) .none ∧ (PySem.W.KBy.picked b (some lo) (some hi)).size ≤ sizeLine ∧ R (.ok (.ret (.bytes (PySem.W.KBy.picked b (some lo) (some hi)) s.toks))) { s with toks := s.toks + 1 }) := by
  refine .of_wp fun prog w A R s hS => ?_
  obtain ⟨⟨o, ho, hc, hd⟩, hsz, h⟩ := hS
  have hT : s.TypeIs (.ref a) "slice" := ⟨o, ho, hc⟩
  show wpAny _ _ (Bytes.payload (.bytes b t) >>= fun r => _) _ _ s
  refine wpAny_bind (wpAny_of_eq (a := b) rfl ?_)
  show wpAny _ _ (Bytes.subscript? (.ref a) >>= fun r => _) _ _ s
  refine wpAny_bind ?_
  unfold Bytes.subscript?
  refine wpAny_bind (wpAny_specialOf hT slice_no_index (wpAny_pure ?_))
  refine wpAny_bind (wpAny_typeOf hT ?_)
  show wpAny _ _ (Bytes.sliceParts (.ref a) >>= fun r => _) _ _ s
  refine wpAny_bind ?_
  unfold Bytes.sliceParts
  refine wpAny_bind (wpAny_field (x := .none) ho hd rfl ?_)
  kby_none
  refine wpAny_ite (PySem.W.KBy.ite_no (show ¬ ((Value.none == rawInt 0) = true) from Bool.false_ne_true) ?_)
  refine wpAny_bind (wpAny_field (x := .int lo ti) ho hd rfl ?_)
  have go : wpAny (model prog w) A.in1 (sliceIndices (rawPart (some lo)) (rawPart (some hi)) (rawPart none) b.size) (fun r s' => r = sliceBounds (some lo) (some hi) none b.size ∧ s' = s) (fun _ _ => False) s :=
    wpAny_of_eq (sliceIndices_raw (some lo) (some hi) none b.size (fun e => nomatch e)) ⟨rfl, rfl⟩
  (kby_int; (refine wpAny_bind (wpAny_field (x := .int _ _) ho hd rfl ?_)); kby_int); refine wpAny_pure ?_
  refine wpAny_bind (wpAny_mono go (fun r s' hr => ?_) fun _ _ e => e.elim)
  obtain ⟨hr1, hr2⟩ := hr
  subst hr1 hr2
  have hn := ne_true_of_eq_false hw
  refine wpAny_ite (PySem.W.KBy.ite_no hn ?_)
  exact wpAny_bind (wpAny_mkBytes (wpAny_pure ⟨_, rfl, h⟩) hsz)
end
end
example {prog : Program} {w : World} {A : Around} {env : Env} {Q : Flow → Shared → Prop} {E : Value → Shared → Prop} {s : Shared} (h : wpAny (model prog w) A (execs [] env) Q E s) : wpAny (model prog w) A (execs [] env) Q E s := by ((k_with "now" => have kReset : True := trivial); (k_with "piece" => have kP_W3 : True := trivial); w_top off; first | (walk1; fail) | exact h)
section
example : True := by
  k_with "m execs cons" => ((fail_if_success (fail_if_success (k_extra "piece"; clear kP_W3))); k_extra "toks")
  trivial
section
variable {w : World} {p0 : Program} {loose : List Str} {mean : ExcName → Option Value} {mg mb : Str → Option Value}
/-- the contract of a call that tells how its tokens lie -/
def CtrT (w : World) (p : Program) (loose : List Str) (mean : ExcName → Option Value) (mg mb : Str → Option Value) (d u : Nat) (f : Addr) (vs : List Value) (news : List (Addr × Obj)) (R : Nat → Value → List (Addr × Obj) → Nat → Nat → Prop) : Prop :=
  ∀ (dp un : Nat) (gd : Option (List Code)) (cn : Str) (cs : Scope) (a : Addr) (ccd : Value) (cl : List (Str × Addr)) (outer : List Env) (A₀ : Around) (base h₀ : Heap) (L : Addr) (m : Str → Option Value) (s : Shared) (Q E : Value → Shared → Prop),
    Below A₀ base outer h₀ → Fr h₀ L s.heap m → (Mine.hd.heap_1 w.params).In h₀ → News h₀ L s.heap news → Top p loose mean mg mb h₀ → cs.kind = .function →
    dp + d < recursionLimit → un + u < cLine →
    (∀ v h' tk' news', R s.heap.objs.size v news' s.toks tk' → Fr h₀ L h' m → News h₀ L h' news' → Q v { s with heap := h', toks := tk' }) →
    wpAny (model PySem.Challenge.rw_xi0020_01.prog w) (ktrTop dp un gd cn cs L a ccd cl outer) (call (.ref f) vs) Q E s
def CtrTAt (w : World) (p : Program) (loose : List Str) (mean : ExcName → Option Value) (mg mb : Str → Option Value) (d u : Nat) (f : Addr) (vs : List Value) (news : List (Addr × Obj)) (R : Nat → Value → List (Addr × Obj) → Nat → Nat → Prop) (dp un : Nat) (gd : Option (List Code)) (cn : Str) (cs : Scope) (a : Addr) (ccd : Value) (cl : List (Str × Addr)) (outer : List Env) (A₀ : Around) (base h₀ : Heap) (L : Addr) (m : Str → Option Value) (s : Shared) (Q E : Value → Shared → Prop) : Prop :=
    Below A₀ base outer h₀ → Fr h₀ L s.heap m → (Mine.hd.heap_1 w.params).In h₀ → News h₀ L s.heap news → Top p loose mean mg mb h₀ → cs.kind = .function →
    dp + d < recursionLimit → un + u < cLine →
    (∀ v h' tk' news', R s.heap.objs.size v news' s.toks tk' → Fr h₀ L h' m → News h₀ L h' news' → Q v { s with heap := h', toks := tk' }) →
    wpAny (model PySem.Challenge.rw_xi0020_01.prog w) (ktrTop dp un gd cn cs L a ccd cl outer) (call (.ref f) vs) Q E s
def CtrTG (w : World) (p : Program) (loose : List Str) (mean : ExcName → Option Value) (mg mb : Str → Option Value) (d u : Nat) (f : Addr) (vs : List Value) (news : List (Addr × Obj)) (R : Nat → Value → List (Addr × Obj) → Nat → Nat → Prop) (dp un : Nat) (gd : Option (List Code)) (cn : Str) (cs : Scope) (a : Addr) (ccd : Value) (cl : List (Str × Addr)) (outer : List Env) (A₀ : Around) (base h₀ : Heap) (L : Addr) (m : Str → Option Value) (s : Shared) (Q E : Value → Shared → Prop) (G : Prop) : Prop :=
    Below A₀ base outer h₀ → Fr h₀ L s.heap m → (Mine.hd.heap_1 w.params).In h₀ → News h₀ L s.heap news → Top p loose mean mg mb h₀ → cs.kind = .function →
    dp + d < recursionLimit → un + u < cLine →
    (∀ v h' tk' news', R s.heap.objs.size v news' s.toks tk' → Fr h₀ L h' m → News h₀ L h' news' → Q v { s with heap := h', toks := tk' }) →
    G
theorem CtrT.use {d u : Nat} {f : Addr} {vs : List Value} {news : List (Addr × Obj)} {R : Nat → Value → List (Addr × Obj) → Nat → Nat → Prop}
    {dp un : Nat} {gd : Option (List Code)} {cn : Str} {cs : Scope} {a : Addr} {ccd : Value} {cl : List (Str × Addr)} {outer : List Env} {A₀ : Around} {base h₀ : Heap} {L : Addr} {m : Str → Option Value} {s : Shared} {Q E : Value → Shared → Prop}
    (B : Below A₀ base outer h₀) (F : Fr h₀ L s.heap m) (X : (Mine.hd.heap_1 w.params).In h₀) (N : News h₀ L s.heap news) (T : Top p0 loose mean mg mb h₀) (hk : cs.kind = .function)
    (hd : dp + d < recursionLimit) (hu : un + u < cLine) (C : CtrT w p0 loose mean mg mb d u f vs news R)
    (ret : ∀ B v h' tk' news', (∀ p ∈ news, p.1 < B) → @LT.lt Nat _ L B → R B v news' s.toks tk' → s.toks ≤ tk' → Fr h₀ L h' m → News h₀ L h' news' → Q v { s with heap := h', toks := tk' }) :
    wpAny (model PySem.Challenge.rw_xi0020_01.prog w) (ktrTop dp un gd cn cs L a ccd cl outer) (call (.ref f) vs) Q E s :=
  wpAny_mono (wpAny_toks (C _ _ _ _ _ _ _ _ _ _ _ _ _ _ _ (fun v s' => s.toks ≤ s'.toks → Q v s') _ B F X N T hk hd hu fun v h' tk' n' => fun r F' N' hle => ret _ v h' tk' n' (fun p hp => Heap.lt_size (N p hp).1) F.ns.lt r hle F' N')) (fun _ _ x => x.2 x.1) fun _ _ x => x.2
theorem stW {P : Prop} (h : Stop P) : P := h
structure ApS where
  num : Int
  tn : Tok
  val : Array UInt8
  tv : Tok
  md : Option Value
def apM (m₁ : Str → Option Value) (c : ApS) : Str → Option Value := fun y => if y = "num" then some (.int c.num c.tn) else if y = "mod" then c.md else if y = "val" then some (.bytes c.val c.tv) else m₁ y
def apP (x : Int) (lo : Nat) (c : ApS) (tk : Nat) : Prop := (0 ≤ c.num ∧ c.num < 2 ^ 60 ∧ apW x.natAbs = apW c.num.toNat ++ c.val.toList) ∧ @LE.le Nat _ lo c.tv ∧ @LT.lt Nat _ c.tv tk
theorem apM_start {m₁ : Str → Option Value} {num : Int} {tn tv : Tok} {val : Array UInt8} (h1 : m₁ "num" = some (.int num tn)) (h2 : m₁ "mod" = none) (h3 : m₁ "val" = some (.bytes val tv)) : ∀ y, m₁ y = apM m₁ ⟨num, tn, val, tv, none⟩ y := by
  intro y
  unfold apM
  by_cases e1 : y = "num"
  · rw [if_pos e1, e1, h1]
  · rw [if_neg e1]
    by_cases e2 : y = "mod"
    · rw [if_pos e2, e2, h2]
    · rw [if_neg e2]
      by_cases e3 : y = "val"
      · rw [if_pos e3, e3, h3]
      · rw [if_neg e3]
end
example : True := by
  k_with "tkom" => ((fail_if_success (fail_if_success (k_extra "piece"; clear kP_W3))); ((try dsimp only at *); lia))
  trivial
section
variable {w : World} {p0 : Program} {loose : List Str} {mean : ExcName → Option Value} {mg mb : Str → Option Value}
end
example : True := by
  k_with "fmod16" => ((fail_if_success (fail_if_success (k_extra "piece"; clear kP_W3))); first | exact PySem.W.fmod_lo _ (by decide) | exact PySem.W.fmod_hi _ (by decide) | (rw [Int.fmod_eq_emod_of_nonneg _ (by lia)]; lia))
  trivial
section
variable {w : World} {p0 : Program} {loose : List Str} {mean : ExcName → Option Value} {mg mb : Str → Option Value}
theorem apM_next {m₁ : Str → Option Value} {num : Int} {tn tv : Tok} {val : Array UInt8} {mv : Value} {a b d : Option Value} : ∀ y : Str, (if y = "val" then some (Value.bytes val tv) else if y = "mod" then some mv else if y = "num" then some (Value.int num tn) else if y = "num" then a else if y = "mod" then b else if y = "val" then d else m₁ y) = apM m₁ ⟨num, tn, val, tv, some mv⟩ y := by
  intro y
  unfold apM
  have n1 : ¬ ((Str.ofString "val") = Str.ofString "num") := by decide +kernel
  have n2 : ¬ ((Str.ofString "val") = Str.ofString "mod") := by decide +kernel
  have n3 : ¬ ((Str.ofString "mod") = Str.ofString "num") := by decide +kernel
  by_cases e3 : y = "val"
  · subst e3
    rw [if_pos rfl, if_neg n1, if_neg n2, if_pos rfl]
  · rw [if_neg e3]
    by_cases e2 : y = "mod"
    · subst e2
      rw [if_pos rfl, if_neg n3, if_pos rfl]
    · rw [if_neg e2]
      by_cases e1 : y = "num"
      · subst e1
        rw [if_pos rfl, if_pos rfl]
      · rw [if_neg e1, if_neg e1, if_neg e2, if_neg e3, if_neg e1, if_neg e2, if_neg e3]
theorem bslice_T {prog : Program} {w : World} {A : Around} {E : Value → Shared → Prop} {s : Shared} {value slice : PySem.Expr} {b : Array UInt8} {t : Tok} {h₀ : Heap} {L : Addr} {m : PySem.Str → Option Value} {news : List (Addr × Obj)} {Q : Value → Shared → Prop} {lo hi : Int} {ti tj : Tok}
    (hF : Fr h₀ L s.heap m) (hN : News h₀ L s.heap news) (hw : PySem.W.KBy.whole b (some lo) (some hi) = false) (hz : (PySem.W.KBy.picked b (some lo) (some hi)).size ≤ sizeLine)
    (h : ∀ h' t' k, @LE.le Nat _ s.toks t' → @LT.lt Nat _ t' k → Fr h₀ L h' m → News h₀ L h' news → Q (.bytes (PySem.W.KBy.picked b (some lo) (some hi)) t') { s with heap := h', toks := k })
    (hs : subscripted slice false (.bytes b t) (.ref s.heap.objs.size) = operate [.ref s.heap.objs.size, .bytes b t] (getItem (.bytes b t) (.ref s.heap.objs.size)) := by with_unfolding_all rfl)
    (ht : ∀ r, letTemporaryGo value (.bytes b t) r = pure () := by intro _; with_unfolding_all rfl) :
    wpAny (model prog w) A (subscriptTail value slice (.bytes b t) (.ref s.heap.objs.size)) Q E { s with heap := s.heap.push { cls := .type "slice", data := .fields #[.int lo ti, .int hi tj, .none] } } :=
  tail_of_ItemOn ⟨"bytes", _, FB.slot_bytes_getitem.lookup, typeIs_bytes _ _ _, getItem_meets (typeIs_bytes _ _ _) (by decide) FB.slot_bytes_getitem FB.entry_bytes_getitem (FB.args_bytes_getitem_2 _ _) (bslice_meets b t _ hw)
    ⟨Heap.IsSliceOf.new _ _ _ _, hz, h _ _ _ (Nat.le_refl _) (Nat.lt_succ_self _) (hF.push _) (News.pushKeep hN _)⟩⟩ hs ht
theorem ap_whole (i : Int) (h0 : 0 ≤ i) (h1 : i < 16) : PySem.W.KBy.whole #[65, 66, 67, 68, 69, 70, 71, 72, 73, 74, 75, 76, 77, 78, 79, 80] (some i) (some (i + 1)) = false := by
  have key : ∀ j : Fin 16, PySem.W.KBy.whole #[65, 66, 67, 68, 69, 70, 71, 72, 73, 74, 75, 76, 77, 78, 79, 80] (some ((j.1 : Nat) : Int)) (some (((j.1 : Nat) : Int) + 1)) = false := by decide +kernel
  have := key ⟨i.toNat, by lia⟩
  rw [show ((i.toNat : Nat) : Int) = i by lia] at this
  exact this
theorem ap_psz (i j : Option Int) : (PySem.W.KBy.picked #[65, 66, 67, 68, 69, 70, 71, 72, 73, 74, 75, 76, 77, 78, 79, 80] i j).size ≤ sizeLine := by
  have := PySem.W.KBc.size_picked_le #[65, 66, 67, 68, 69, 70, 71, 72, 73, 74, 75, 76, 77, 78, 79, 80] i j
  rw [sizeLine_eq]
  simp only [List.size_toArray, List.length_cons, List.length_nil] at this
  lia
end
example : True := by
  k_with "m binaryOp Add bytes bytes" => ((fail_if_success (fail_if_success (k_extra "piece"; clear kP_W3))); k_extra "ov addb")
  trivial
section
variable {w : World} {p0 : Program} {loose : List Str} {mean : ExcName → Option Value} {mg mb : Str → Option Value}
end
example : True := by
  k_with "m subscriptTail Name Slice bytes ref" => ((fail_if_success (fail_if_success (k_extra "piece"; clear kP_W3))); k_extra "ov bslice")
  trivial
section
variable {w : World} {p0 : Program} {loose : List Str} {mean : ExcName → Option Value} {mg mb : Str → Option Value}
end
example : True := by
  k_with "WmPost" => ((fail_if_success (fail_if_success (k_extra "piece"; clear kP_W3))); (dsimp only [WmPost]))
  trivial
section
variable {w : World} {p0 : Program} {loose : List Str} {mean : ExcName → Option Value} {mg mb : Str → Option Value}
end
namespace sk_c_apT
abbrev skD : Type := (World) × (Program) × (List PySem.Str) × (ExcName → Option Value) × (PySem.Str → Option Value) × (PySem.Str → Option Value) × (Int) × (Tok) × (List (Addr × Obj)) × (Nat) × (Nat) × (Option (List Code)) × (PySem.Str) × (Scope) × (Addr) × (Value) × (List (PySem.Str × Addr)) × (List Env) × (Around) × (Heap) × (Heap) × (Addr) × (PySem.Str → Option Value) × (Shared) × (Value → Shared → Prop) × (Value → Shared → Prop) × (Heap) × (Addr) × (Heap)
def skP (w : World) (p0 : Program) (loose : List PySem.Str) (mean : ExcName → Option Value) (mg : PySem.Str → Option Value) (mb : PySem.Str → Option Value) (x : Int) (t : Tok) (news : List (Addr × Obj)) (dp : Nat) (un : Nat) (gd : Option (List Code)) (cn : PySem.Str) (cs : Scope) (a' : Addr) (ccd : Value) (cl : List (PySem.Str × Addr)) (outer : List Env) (A₀ : Around) (base : Heap) (h₀ : Heap) (L : Addr) (m : PySem.Str → Option Value) (s : Shared) (Q : Value → Shared → Prop) (E : Value → Shared → Prop) (g9 : Heap) (L9 : Addr) (h9 : Heap) : Prop := ∀ (hx : x.natAbs < 2 ^ 60),
    CtrTG w p0 loose mean mg mb 2 16 85 [.int x t] news (fun B v n tk0 tk1 => n = news ∧ ∃ t, v = .bytes (apW x.natAbs).toArray t ∧ @LE.le Nat _ tk0 t ∧ @LT.lt Nat _ t tk1) dp un gd cn cs a' ccd cl outer A₀ base h₀ L m s Q E (premOf3 (B := CtrTAt w p0 loose mean mg mb 2 16 85 [.int x t] news (fun B v n tk0 tk1 => n = news ∧ ∃ t, v = .bytes (apW x.natAbs).toArray t ∧ @LE.le Nat _ tk0 t ∧ @LT.lt Nat _ t tk1) dp un gd cn cs a' ccd cl outer A₀ base h₀ L m s Q E) (by
      intro hh
      unfold CtrTAt
      intro B F X N T hk hd hu hret
      revert X; k_fill; intro X
      have S := Sp.none N
      walk_at "enterS"
      exact hh) g9 L9 h9)
theorem skN : Nonempty skD := ⟨(Classical.choice neWorld, default, default, default, default, default, default, default, default, default, default, default, default, default, default, default, default, default, ({} : Around), default, default, default, default, ({} : Shared), default, default, default, default, default)⟩
@[irreducible] noncomputable def skK : skD := @Classical.epsilon skD skN fun d => ¬ skP d.1 d.2.1 d.2.2.1 d.2.2.2.1 d.2.2.2.2.1 d.2.2.2.2.2.1 d.2.2.2.2.2.2.1 d.2.2.2.2.2.2.2.1 d.2.2.2.2.2.2.2.2.1 d.2.2.2.2.2.2.2.2.2.1 d.2.2.2.2.2.2.2.2.2.2.1 d.2.2.2.2.2.2.2.2.2.2.2.1 d.2.2.2.2.2.2.2.2.2.2.2.2.1 d.2.2.2.2.2.2.2.2.2.2.2.2.2.1 d.2.2.2.2.2.2.2.2.2.2.2.2.2.2.1 d.2.2.2.2.2.2.2.2.2.2.2.2.2.2.2.1 d.2.2.2.2.2.2.2.2.2.2.2.2.2.2.2.2.1 d.2.2.2.2.2.2.2.2.2.2.2.2.2.2.2.2.2.1 d.2.2.2.2.2.2.2.2.2.2.2.2.2.2.2.2.2.2.1 d.2.2.2.2.2.2.2.2.2.2.2.2.2.2.2.2.2.2.2.1 d.2.2.2.2.2.2.2.2.2.2.2.2.2.2.2.2.2.2.2.2.1 d.2.2.2.2.2.2.2.2.2.2.2.2.2.2.2.2.2.2.2.2.2.1 d.2.2.2.2.2.2.2.2.2.2.2.2.2.2.2.2.2.2.2.2.2.2.1 d.2.2.2.2.2.2.2.2.2.2.2.2.2.2.2.2.2.2.2.2.2.2.2.1 d.2.2.2.2.2.2.2.2.2.2.2.2.2.2.2.2.2.2.2.2.2.2.2.2.1 d.2.2.2.2.2.2.2.2.2.2.2.2.2.2.2.2.2.2.2.2.2.2.2.2.2.1 d.2.2.2.2.2.2.2.2.2.2.2.2.2.2.2.2.2.2.2.2.2.2.2.2.2.2.1 d.2.2.2.2.2.2.2.2.2.2.2.2.2.2.2.2.2.2.2.2.2.2.2.2.2.2.2.1 d.2.2.2.2.2.2.2.2.2.2.2.2.2.2.2.2.2.2.2.2.2.2.2.2.2.2.2.2
@[irreducible] noncomputable def w : World := skK.1
@[irreducible] noncomputable def p0 : Program := skK.2.1
@[irreducible] noncomputable def loose : List PySem.Str := skK.2.2.1
@[irreducible] noncomputable def mean : ExcName → Option Value := skK.2.2.2.1
@[irreducible] noncomputable def mg : PySem.Str → Option Value := skK.2.2.2.2.1
@[irreducible] noncomputable def mb : PySem.Str → Option Value := skK.2.2.2.2.2.1
@[irreducible] noncomputable def x : Int := skK.2.2.2.2.2.2.1
@[irreducible] noncomputable def t : Tok := skK.2.2.2.2.2.2.2.1
@[irreducible] noncomputable def news : List (Addr × Obj) := skK.2.2.2.2.2.2.2.2.1
@[irreducible] noncomputable def dp : Nat := skK.2.2.2.2.2.2.2.2.2.1
@[irreducible] noncomputable def un : Nat := skK.2.2.2.2.2.2.2.2.2.2.1
@[irreducible] noncomputable def gd : Option (List Code) := skK.2.2.2.2.2.2.2.2.2.2.2.1
@[irreducible] noncomputable def cn : PySem.Str := skK.2.2.2.2.2.2.2.2.2.2.2.2.1
@[irreducible] noncomputable def cs : Scope := skK.2.2.2.2.2.2.2.2.2.2.2.2.2.1
@[irreducible] noncomputable def a' : Addr := skK.2.2.2.2.2.2.2.2.2.2.2.2.2.2.1
@[irreducible] noncomputable def ccd : Value := skK.2.2.2.2.2.2.2.2.2.2.2.2.2.2.2.1
@[irreducible] noncomputable def cl : List (PySem.Str × Addr) := skK.2.2.2.2.2.2.2.2.2.2.2.2.2.2.2.2.1
@[irreducible] noncomputable def outer : List Env := skK.2.2.2.2.2.2.2.2.2.2.2.2.2.2.2.2.2.1
@[irreducible] noncomputable def A₀ : Around := skK.2.2.2.2.2.2.2.2.2.2.2.2.2.2.2.2.2.2.1
@[irreducible] noncomputable def base : Heap := skK.2.2.2.2.2.2.2.2.2.2.2.2.2.2.2.2.2.2.2.1
@[irreducible] noncomputable def h₀ : Heap := skK.2.2.2.2.2.2.2.2.2.2.2.2.2.2.2.2.2.2.2.2.1
@[irreducible] noncomputable def L : Addr := skK.2.2.2.2.2.2.2.2.2.2.2.2.2.2.2.2.2.2.2.2.2.1
@[irreducible] noncomputable def m : PySem.Str → Option Value := skK.2.2.2.2.2.2.2.2.2.2.2.2.2.2.2.2.2.2.2.2.2.2.1
@[irreducible] noncomputable def s : Shared := skK.2.2.2.2.2.2.2.2.2.2.2.2.2.2.2.2.2.2.2.2.2.2.2.1
@[irreducible] noncomputable def Q : Value → Shared → Prop := skK.2.2.2.2.2.2.2.2.2.2.2.2.2.2.2.2.2.2.2.2.2.2.2.2.1
@[irreducible] noncomputable def E : Value → Shared → Prop := skK.2.2.2.2.2.2.2.2.2.2.2.2.2.2.2.2.2.2.2.2.2.2.2.2.2.1
@[irreducible] noncomputable def g9 : Heap := skK.2.2.2.2.2.2.2.2.2.2.2.2.2.2.2.2.2.2.2.2.2.2.2.2.2.2.1
@[irreducible] noncomputable def L9 : Addr := skK.2.2.2.2.2.2.2.2.2.2.2.2.2.2.2.2.2.2.2.2.2.2.2.2.2.2.2.1
@[irreducible] noncomputable def h9 : Heap := skK.2.2.2.2.2.2.2.2.2.2.2.2.2.2.2.2.2.2.2.2.2.2.2.2.2.2.2.2
theorem skAll (hb : skP w p0 loose mean mg mb x t news dp un gd cn cs a' ccd cl outer A₀ base h₀ L m s Q E g9 L9 h9) : ∀ (y0 : World) (y1 : Program) (y2 : List PySem.Str) (y3 : ExcName → Option Value) (y4 : PySem.Str → Option Value) (y5 : PySem.Str → Option Value) (y6 : Int) (y7 : Tok) (y8 : List (Addr × Obj)) (y9 : Nat) (y10 : Nat) (y11 : Option (List Code)) (y12 : PySem.Str) (y13 : Scope) (y14 : Addr) (y15 : Value) (y16 : List (PySem.Str × Addr)) (y17 : List Env) (y18 : Around) (y19 : Heap) (y20 : Heap) (y21 : Addr) (y22 : PySem.Str → Option Value) (y23 : Shared) (y24 : Value → Shared → Prop) (y25 : Value → Shared → Prop) (y26 : Heap) (y27 : Addr) (y28 : Heap), skP y0 y1 y2 y3 y4 y5 y6 y7 y8 y9 y10 y11 y12 y13 y14 y15 y16 y17 y18 y19 y20 y21 y22 y23 y24 y25 y26 y27 y28 := by
  intro y0 y1 y2 y3 y4 y5 y6 y7 y8 y9 y10 y11 y12 y13 y14 y15 y16 y17 y18 y19 y20 y21 y22 y23 y24 y25 y26 y27 y28
  refine Classical.byContradiction fun hn => ?_
  have h1 := @Classical.epsilon_spec skD (fun d => ¬ skP d.1 d.2.1 d.2.2.1 d.2.2.2.1 d.2.2.2.2.1 d.2.2.2.2.2.1 d.2.2.2.2.2.2.1 d.2.2.2.2.2.2.2.1 d.2.2.2.2.2.2.2.2.1 d.2.2.2.2.2.2.2.2.2.1 d.2.2.2.2.2.2.2.2.2.2.1 d.2.2.2.2.2.2.2.2.2.2.2.1 d.2.2.2.2.2.2.2.2.2.2.2.2.1 d.2.2.2.2.2.2.2.2.2.2.2.2.2.1 d.2.2.2.2.2.2.2.2.2.2.2.2.2.2.1 d.2.2.2.2.2.2.2.2.2.2.2.2.2.2.2.1 d.2.2.2.2.2.2.2.2.2.2.2.2.2.2.2.2.1 d.2.2.2.2.2.2.2.2.2.2.2.2.2.2.2.2.2.1 d.2.2.2.2.2.2.2.2.2.2.2.2.2.2.2.2.2.2.1 d.2.2.2.2.2.2.2.2.2.2.2.2.2.2.2.2.2.2.2.1 d.2.2.2.2.2.2.2.2.2.2.2.2.2.2.2.2.2.2.2.2.1 d.2.2.2.2.2.2.2.2.2.2.2.2.2.2.2.2.2.2.2.2.2.1 d.2.2.2.2.2.2.2.2.2.2.2.2.2.2.2.2.2.2.2.2.2.2.1 d.2.2.2.2.2.2.2.2.2.2.2.2.2.2.2.2.2.2.2.2.2.2.2.1 d.2.2.2.2.2.2.2.2.2.2.2.2.2.2.2.2.2.2.2.2.2.2.2.2.1 d.2.2.2.2.2.2.2.2.2.2.2.2.2.2.2.2.2.2.2.2.2.2.2.2.2.1 d.2.2.2.2.2.2.2.2.2.2.2.2.2.2.2.2.2.2.2.2.2.2.2.2.2.2.1 d.2.2.2.2.2.2.2.2.2.2.2.2.2.2.2.2.2.2.2.2.2.2.2.2.2.2.2.1 d.2.2.2.2.2.2.2.2.2.2.2.2.2.2.2.2.2.2.2.2.2.2.2.2.2.2.2.2) ⟨(y0, y1, y2, y3, y4, y5, y6, y7, y8, y9, y10, y11, y12, y13, y14, y15, y16, y17, y18, y19, y20, y21, y22, y23, y24, y25, y26, y27, y28), hn⟩
  delta w p0 loose mean mg mb x t news dp un gd cn cs a' ccd cl outer A₀ base h₀ L m s Q E g9 L9 h9 at hb
  delta skK at hb
  exact h1 hb
theorem skBody : skP w p0 loose mean mg mb x t news dp un gd cn cs a' ccd cl outer A₀ base h₀ L m s Q E g9 L9 h9 := by
  unfold skP CtrTG premOf3
  intro hx
  intro B F X N T hk hd hu hret
  revert X; k_fill; intro X
  have S := Sp.none N
  k_with "now" => have kNow12 : True := trivial
  k_with "ov While" => ((fail_if_success (fail_if_success (k_extra "now"; clear kNow12))); refine stW ?_)
  k_with "toks" => ((fail_if_success (fail_if_success (k_extra "now"; clear kNow12))); first | k_fold | (refine genToks ?_; intro tk9 htk9; (try dsimp only at htk9)) | ((with_reducible refine execsT ?_); (try dsimp only)))
  intro FG' F' N' B' X' T' l1 l2 l3
  (try k_lt l1); (try dsimp only); (try k_fold)
  k_steps
  refine Stop.go ?_
  (rename Fr _ _ _ _ => lF9)
  (rename News _ _ _ _ => lN9)
  refine' wm_while (apM _) (apP x s.toks) (fun c => c.num.toNat) ⟨_, _, #[], _, none⟩ lF9 lN9 (apM_start rfl rfl rfl) ?pw9 ?_
  case pw9 => exact ⟨ap_start hx, by walk_at "tkom", by walk_at "tkom"⟩
  rintro ⟨num, tn, val, tv, md⟩ h9 tk9 ⟨⟨hi1, hi2, hi3⟩, hlo, hhi⟩ F9 N9
  clear lF9 lN9
  unfold apM at F9
  dsimp only at F9 hi1 hi2 hi3 hlo hhi
  k_with "ov bslice" => ((fail_if_success (fail_if_success (k_extra "now"; clear kNow12))); ((rename Fr _ _ _ _ => lF8); (rename News _ _ _ _ => lN8); (refine bslice_T (s := ⟨_, _, _, _, _⟩) lF8 lN8 (ap_whole _ (by walk_at "fmod16") (by walk_at "fmod16")) (ap_psz _ _) ?_); intro h8 t8 k8 hk8 hk9 F8 N8; clear lF8 lN8))
  k_with "ov addb" => ((fail_if_success (fail_if_success (k_extra "now"; clear kNow12))); ((refine add_bytesT s.toks (ap_size hx (by with_reducible assumption)) (by walk_at "tkom") (by walk_at "tkom") (by walk_at "tkom") (by walk_at "tkom") ?_); intro t7 k7 hk6 hk7))
  try k_fold
  k_steps
  · (rename (num ≠ 0) => hn0)
    (rename Fr _ _ _ _ => lF8)
    (rename News _ _ _ _ => lN8)
    exact wm_end ⟨_, _, _, _, _⟩ lF8 lN8 (by intro p hp; cases hp) apM_next ⟨ap_turn hi1 hi2 hi3 hn0, by walk_at "tkom", by walk_at "tkom"⟩ (ap_meas hi1 hn0)
  · exact hret _ _ _ _ ⟨rfl, tv, congrArg (fun z => Value.bytes z tv) (ap_done hi3 (by with_reducible assumption)), hlo, hhi⟩ (by assumption) (by assumption)
end sk_c_apT
section
variable {w : World} {p0 : Program} {loose : List Str} {mean : ExcName → Option Value} {mg mb : Str → Option Value}
theorem c_apT (x : Int) (t : Tok) (news : List (Addr × Obj)) (hx : x.natAbs < 2 ^ 60) :
    CtrT w p0 loose mean mg mb 2 16 85 [.int x t] news (fun B v n tk0 tk1 => n = news ∧ ∃ t, v = .bytes (apW x.natAbs).toArray t ∧ @LE.le Nat _ tk0 t ∧ @LT.lt Nat _ t tk1) := by
  intro dp un gd cn cs a' ccd cl outer A₀ base h₀ L m s Q E
  intro B F X N T hk hd hu hret
  have X0 := X
  revert X; k_fill; intro X
  have S := Sp.none N
  walk_at "enterS"
  intro g9 L9 h9
  exact sk_c_apT.skAll sk_c_apT.skBody w p0 loose mean mg mb x t news dp un gd cn cs a' ccd cl outer A₀ base h₀ L m s Q E g9 L9 h9 hx B F X0 N T hk hd hu hret

end
end
example {prog : Program} {w : World} {A : Around} {env : Env} {Q : Flow → Shared → Prop} {E : Value → Shared → Prop} {s : Shared} (h : wpAny (model prog w) A (execs [] env) Q E s) : wpAny (model prog w) A (execs [] env) Q E s := by ((k_with "now" => have kReset : True := trivial); (k_with "piece" => have kP_C9 : True := trivial); w_top off; first | (walk1; fail) | exact h)
section
example : True := by
  k_with "tkom" => ((fail_if_success (fail_if_success (k_extra "piece"; clear kP_C9))); ((try dsimp only at *); lia))
  k_with "m exec For Name Call cons nil" => ((fail_if_success (fail_if_success (k_extra "piece"; clear kP_C9))); k_extra "ov For")
  k_with "m binaryOp Pow int int" => ((fail_if_success (fail_if_success (k_extra "piece"; clear kP_C9))); k_extra "ov Pow")
  k_with "m call builtin:divmod" => ((fail_if_success (fail_if_success (k_extra "piece"; clear kP_C9))); k_extra "ov divmod")
  trivial
section
variable {w : World} {p0 : Program} {loose : List Str} {mean : ExcName → Option Value} {mg mb : Str → Option Value}
def abv (U g : Nat) (p : Int) (j : Nat) : Nat := U * g ^ ((j : Int) - p).toNat
def blw (W g : Nat) (p : Int) (j : Nat) : Nat := W * g ^ (p - (j : Int)).toNat
/-- the nearer whole number to A over B, the upper one if both are as near -/
def rnd (A B : Nat) : Nat := if B - 1 - (A - 1) % B ≤ A % B then (A - 1) / B + 1 else A / B
theorem srch_turn {C : Nat → Prop} {k : Nat} {pre : List Int} (hk : k = pre.length) (hP : ∀ j, j < k → ¬ C j) (hn : ¬ C k) : ∀ j, j < (pre ++ [(k : Int)]).length → ¬ C j := by
  intro j hj
  rw [List.length_append, List.length_singleton, ← hk] at hj
  rcases Nat.lt_or_ge j k with h | h
  · exact hP j h
  · rw [show j = k by lia]; exact hn
theorem rnd_le {A B : Nat} (hB : 0 < B) (h : -(-((B : Int) + (-(((A - 1) % B : Nat) : Int) - 1))) ≤ ((A % B : Nat) : Int)) : rnd A B = (A - 1) / B + 1 := by
  have := Nat.mod_lt (A - 1) hB
  exact if_pos (by lia)
theorem rnd_gt {A B : Nat} (hB : 0 < B) (h : ¬ -(-((B : Int) + (-(((A - 1) % B : Nat) : Int) - 1))) ≤ ((A % B : Nat) : Int)) : rnd A B = A / B := by
  have := Nat.mod_lt (A - 1) hB
  exact if_neg (by lia)
theorem up_e {A B : Nat} (h : rnd A B = (A - 1) / B + 1) : (-(-(((A - 1) / B : Nat) : Int) - 1)) = (rnd A B : Int) := by rw [h]; push_cast; lia
theorem dn_e {A B : Nat} (h : rnd A B = A / B) : (((A / B : Nat) : Int)) = (rnd A B : Int) := by rw [h]
theorem gc_iff {r g c : Nat} {x : Int} (e : x = (r : Int)) : x = (g : Int) ^ (c : Int).toNat ↔ r = g ^ c := by
  rw [e, Int.toNat_natCast]
  constructor
  · intro h; exact_mod_cast h
  · intro h; rw [h]; push_cast; rfl
theorem rnd_fin {h₀ : Heap} {L : Addr} {h : Heap} {D : Addr} {x y X Y : Int} {t u : Tok} {n : List (Addr × Obj)} (N : News h₀ L h ((D, { cls := .type "tuple", data := .seq #[.int x t, .int y u] }) :: n)) (hx : x = X) (hy : y = Y) :
    News h₀ L h ((D, { cls := .type "tuple", data := .seq #[.int X t, .int Y u] }) :: n) := by subst hx; subst hy; exact N
theorem tup_ne {P : Prop} {a b c d : Int} (h : (a == c && b == d) = false) (e1 : a = c) (e2 : b = d) : P := by subst e1; subst e2; simp at h
theorem sec_tr1 {B B1 B2 c1 c2 c3 : Addr} {o1 o2 o3 : Obj} {d : Option ((Addr × Obj) × (Addr × Obj))} (h1 : @LE.le Nat _ B B1) (h2 : @LE.le Nat _ B B2) (g : @LE.le Nat _ B1 c1 ∨ ∃ y', d = some ((c1, o1), y')) (g' : @LE.le Nat _ B2 c3 ∨ ∃ y', some ((c1, o1), (c2, o2)) = some ((c3, o3), y')) :
    @LE.le Nat _ B c3 ∨ ∃ y', d = some ((c3, o3), y') := by
  rcases g' with h | ⟨y, h⟩
  · exact .inl (Nat.le_trans h2 h)
  · injection h with h; injection h with h _; injection h with h h'
    subst h; subst h'
    exact g.imp_left (Nat.le_trans h1)
theorem sec_tr2 {B B1 B2 c1 c2 c3 : Addr} {o1 o2 o3 : Obj} {d : Option ((Addr × Obj) × (Addr × Obj))} (h1 : @LE.le Nat _ B B1) (h2 : @LE.le Nat _ B B2) (g : @LE.le Nat _ B1 c2 ∨ ∃ x', d = some (x', (c2, o2))) (g' : @LE.le Nat _ B2 c3 ∨ ∃ x', some ((c1, o1), (c2, o2)) = some (x', (c3, o3))) :
    @LE.le Nat _ B c3 ∨ ∃ x', d = some (x', (c3, o3)) := by
  rcases g' with h | ⟨y, h⟩
  · exact .inl (Nat.le_trans h2 h)
  · injection h with h; injection h with _ h; injection h with h h'
    subst h; subst h'
    exact g.imp_left (Nat.le_trans h1)
theorem ne_secs {D c1 c2 : Addr} {o oc1 oc2 : Obj} (h1 : @Ne Nat D 52) (h2 : @Ne Nat D 59) (h3 : @Ne Nat c1 D) (h4 : @Ne Nat c2 D) : ∀ q ∈ [(D, o)], ∀ p ∈ secs (some ((c1, oc1), (c2, oc2))), q.1 ≠ p.1 := by
  intro q hq p hp
  simp only [secs, sec52, sec59, List.cons_append, List.nil_append, List.mem_cons, List.mem_nil_iff, or_false, List.not_mem_nil] at hq hp
  subst hq
  rcases hp with e | e | e | e <;> subst e
  · exact h1
  · exact fun e => h3 e.symm
  · exact h2
  · exact fun e => h4 e.symm
theorem secs_lt {d : Option ((Addr × Obj) × (Addr × Obj))} {L : Addr} (h : ∀ p ∈ secs d, p.1 < L) : @LT.lt Nat _ 52 L ∧ @LT.lt Nat _ 59 L := by
  cases d with
  | none => exact ⟨h _ (.head _), h _ (.tail _ (.head _))⟩
  | some x => exact ⟨h _ (.head _), h _ (.tail _ (.tail _ (.head _)))⟩
def RTupT (x y : Int) (d : Option ((Addr × Obj) × (Addr × Obj))) (rest : List (Addr × Obj)) (B : Nat) (v : Value) (n' : List (Addr × Obj)) (tk0 tk1 : Nat) : Prop :=
  ∃ D c1 oc1 c2 oc2 t u, v = .ref D ∧ n' = (D, { cls := .type "tuple", data := .seq #[.int x t, .int y u] }) :: secs (some ((c1, oc1), (c2, oc2))) ++ rest ∧
      secsOk (some ((c1, oc1), (c2, oc2))) ∧ @LE.le Nat _ B D ∧ @Ne Nat c1 D ∧ @Ne Nat c2 D ∧ (@LE.le Nat _ B c1 ∨ ∃ y', d = some ((c1, oc1), y')) ∧ (@LE.le Nat _ B c2 ∨ ∃ x', d = some (x', (c2, oc2))) ∧ @LE.le Nat _ tk0 u ∧ @LT.lt Nat _ u tk1
end
namespace sk_c_rounded
abbrev skD : Type := (World) × (Program) × (List PySem.Str) × (ExcName → Option Value) × (PySem.Str → Option Value) × (PySem.Str → Option Value) × (Nat) × (Nat) × (Nat) × (Nat) × (Int) × (Nat) × (Tok) × (Tok) × (Tok) × (Tok) × (Tok) × (List (Addr × Obj)) × (Nat) × (Nat) × (Option (List Code)) × (PySem.Str) × (Scope) × (Addr) × (Value) × (List (PySem.Str × Addr)) × (List Env) × (Around) × (Heap) × (Heap) × (Addr) × (PySem.Str → Option Value) × (Shared) × (Value → Shared → Prop) × (Value → Shared → Prop) × (Heap) × (Addr) × (Heap)
def skP (w : World) (p0 : Program) (loose : List PySem.Str) (mean : ExcName → Option Value) (mg : PySem.Str → Option Value) (mb : PySem.Str → Option Value) (U : Nat) (W : Nat) (g : Nat) (c : Nat) (p : Int) (l : Nat) (tU : Tok) (tW : Tok) (tg : Tok) (tc : Tok) (tp : Tok) (rest : List (Addr × Obj)) (dp : Nat) (un : Nat) (gd : Option (List Code)) (cn : PySem.Str) (cs : Scope) (a' : Addr) (ccd : Value) (cl : List (PySem.Str × Addr)) (outer : List Env) (A₀ : Around) (base : Heap) (h₀ : Heap) (L : Addr) (m : PySem.Str → Option Value) (s : Shared) (Q : Value → Shared → Prop) (E : Value → Shared → Prop) (g9 : Heap) (L9 : Addr) (h9 : Heap) : Prop := ∀ (d : Option ((Addr × Obj) × (Addr × Obj))) (hd : secsOk d) (hU : 0 < U) (hW : 0 < W) (hg : 2 ≤ g) (hg2 : g ≤ 16) (hc : 1 ≤ c) (hc2 : c ≤ 12) (hp1 : -10000 ≤ p) (hp2 : p ≤ 10000) (hbU : BL U ≤ 50000) (hbW : BL W ≤ 50000) (hl : l < 4) (hyes : blw W g p l * g ^ (c - 1) ≤ abv U g p l) (hno : ∀ j, j < l → ¬ blw W g p j * g ^ (c - 1) ≤ abv U g p j) (hA1 : 1 < abv U g p l) (hA2 : abv U g p l < blw W g p l * 2 ^ 60) (hB2 : BL (blw W g p l) ≤ 50000) (hr : ∀ q ∈ rest, ∀ p ∈ secs d, q.1 ≠ p.1),
    CtrTG w p0 loose mean mg mb 260 3400 142 [.int U tU, .int W tW, .int g tg, .int c tc, .int p tp] (secs d ++ rest)
      (RTupT (if rnd (abv U g p l) (blw W g p l) = g ^ c then ((g ^ (c - 1) : Nat) : Int) else (rnd (abv U g p l) (blw W g p l) : Int)) (if rnd (abv U g p l) (blw W g p l) = g ^ c then p - l + 1 else p - l) d rest) dp un gd cn cs a' ccd cl outer A₀ base h₀ L m s Q E (premOf3 (B := CtrTAt w p0 loose mean mg mb 260 3400 142 [.int U tU, .int W tW, .int g tg, .int c tc, .int p tp] (secs d ++ rest)
      (RTupT (if rnd (abv U g p l) (blw W g p l) = g ^ c then ((g ^ (c - 1) : Nat) : Int) else (rnd (abv U g p l) (blw W g p l) : Int)) (if rnd (abv U g p l) (blw W g p l) = g ^ c then p - l + 1 else p - l) d rest) dp un gd cn cs a' ccd cl outer A₀ base h₀ L m s Q E) (by
      intro hh
      unfold CtrTAt
      intro B F X N T hk hdp hu hret
      revert X; k_fill; intro X
      have S : Sp h₀ L s.heap (secs d) rest := ⟨news_sub N (fun p hp => List.mem_append_left _ hp), news_sub N (fun p hp => List.mem_append_right _ hp), hr⟩
      have hg64 : g < 2 ^ 64 := by lia
      have hcI : (c : Int) - 1 = ((c - 1 : Nat) : Int) := by lia
      have hcS : c - 1 ≤ 1000000 := by lia
      have hbl := bl_mul hA2
      have hbl2 : BL (abv U g p l) ≤ BL (blw W g p l) + 4000 := by lia
      have hBpos : 0 < blw W g p l := Nat.mul_pos hW (Nat.pow_pos (by lia))
      walk_at "enterS"
      exact hh) g9 L9 h9)
theorem skN : Nonempty skD := ⟨(Classical.choice neWorld, default, default, default, default, default, default, default, default, default, default, default, default, default, default, default, default, default, default, default, default, default, default, default, default, default, default, ({} : Around), default, default, default, default, ({} : Shared), default, default, default, default, default)⟩
@[irreducible] noncomputable def skK : skD := @Classical.epsilon skD skN fun d => ¬ skP d.1 d.2.1 d.2.2.1 d.2.2.2.1 d.2.2.2.2.1 d.2.2.2.2.2.1 d.2.2.2.2.2.2.1 d.2.2.2.2.2.2.2.1 d.2.2.2.2.2.2.2.2.1 d.2.2.2.2.2.2.2.2.2.1 d.2.2.2.2.2.2.2.2.2.2.1 d.2.2.2.2.2.2.2.2.2.2.2.1 d.2.2.2.2.2.2.2.2.2.2.2.2.1 d.2.2.2.2.2.2.2.2.2.2.2.2.2.1 d.2.2.2.2.2.2.2.2.2.2.2.2.2.2.1 d.2.2.2.2.2.2.2.2.2.2.2.2.2.2.2.1 d.2.2.2.2.2.2.2.2.2.2.2.2.2.2.2.2.1 d.2.2.2.2.2.2.2.2.2.2.2.2.2.2.2.2.2.1 d.2.2.2.2.2.2.2.2.2.2.2.2.2.2.2.2.2.2.1 d.2.2.2.2.2.2.2.2.2.2.2.2.2.2.2.2.2.2.2.1 d.2.2.2.2.2.2.2.2.2.2.2.2.2.2.2.2.2.2.2.2.1 d.2.2.2.2.2.2.2.2.2.2.2.2.2.2.2.2.2.2.2.2.2.1 d.2.2.2.2.2.2.2.2.2.2.2.2.2.2.2.2.2.2.2.2.2.2.1 d.2.2.2.2.2.2.2.2.2.2.2.2.2.2.2.2.2.2.2.2.2.2.2.1 d.2.2.2.2.2.2.2.2.2.2.2.2.2.2.2.2.2.2.2.2.2.2.2.2.1 d.2.2.2.2.2.2.2.2.2.2.2.2.2.2.2.2.2.2.2.2.2.2.2.2.2.1 d.2.2.2.2.2.2.2.2.2.2.2.2.2.2.2.2.2.2.2.2.2.2.2.2.2.2.1 d.2.2.2.2.2.2.2.2.2.2.2.2.2.2.2.2.2.2.2.2.2.2.2.2.2.2.2.1 d.2.2.2.2.2.2.2.2.2.2.2.2.2.2.2.2.2.2.2.2.2.2.2.2.2.2.2.2.1 d.2.2.2.2.2.2.2.2.2.2.2.2.2.2.2.2.2.2.2.2.2.2.2.2.2.2.2.2.2.1 d.2.2.2.2.2.2.2.2.2.2.2.2.2.2.2.2.2.2.2.2.2.2.2.2.2.2.2.2.2.2.1 d.2.2.2.2.2.2.2.2.2.2.2.2.2.2.2.2.2.2.2.2.2.2.2.2.2.2.2.2.2.2.2.1 d.2.2.2.2.2.2.2.2.2.2.2.2.2.2.2.2.2.2.2.2.2.2.2.2.2.2.2.2.2.2.2.2.1 d.2.2.2.2.2.2.2.2.2.2.2.2.2.2.2.2.2.2.2.2.2.2.2.2.2.2.2.2.2.2.2.2.2.1 d.2.2.2.2.2.2.2.2.2.2.2.2.2.2.2.2.2.2.2.2.2.2.2.2.2.2.2.2.2.2.2.2.2.2.1 d.2.2.2.2.2.2.2.2.2.2.2.2.2.2.2.2.2.2.2.2.2.2.2.2.2.2.2.2.2.2.2.2.2.2.2.1 d.2.2.2.2.2.2.2.2.2.2.2.2.2.2.2.2.2.2.2.2.2.2.2.2.2.2.2.2.2.2.2.2.2.2.2.2.1 d.2.2.2.2.2.2.2.2.2.2.2.2.2.2.2.2.2.2.2.2.2.2.2.2.2.2.2.2.2.2.2.2.2.2.2.2.2
@[irreducible] noncomputable def w : World := skK.1
@[irreducible] noncomputable def p0 : Program := skK.2.1
@[irreducible] noncomputable def loose : List PySem.Str := skK.2.2.1
@[irreducible] noncomputable def mean : ExcName → Option Value := skK.2.2.2.1
@[irreducible] noncomputable def mg : PySem.Str → Option Value := skK.2.2.2.2.1
@[irreducible] noncomputable def mb : PySem.Str → Option Value := skK.2.2.2.2.2.1
@[irreducible] noncomputable def U : Nat := skK.2.2.2.2.2.2.1
@[irreducible] noncomputable def W : Nat := skK.2.2.2.2.2.2.2.1
@[irreducible] noncomputable def g : Nat := skK.2.2.2.2.2.2.2.2.1
@[irreducible] noncomputable def c : Nat := skK.2.2.2.2.2.2.2.2.2.1
@[irreducible] noncomputable def p : Int := skK.2.2.2.2.2.2.2.2.2.2.1
@[irreducible] noncomputable def l : Nat := skK.2.2.2.2.2.2.2.2.2.2.2.1
@[irreducible] noncomputable def tU : Tok := skK.2.2.2.2.2.2.2.2.2.2.2.2.1
@[irreducible] noncomputable def tW : Tok := skK.2.2.2.2.2.2.2.2.2.2.2.2.2.1
@[irreducible] noncomputable def tg : Tok := skK.2.2.2.2.2.2.2.2.2.2.2.2.2.2.1
@[irreducible] noncomputable def tc : Tok := skK.2.2.2.2.2.2.2.2.2.2.2.2.2.2.2.1
@[irreducible] noncomputable def tp : Tok := skK.2.2.2.2.2.2.2.2.2.2.2.2.2.2.2.2.1
@[irreducible] noncomputable def rest : List (Addr × Obj) := skK.2.2.2.2.2.2.2.2.2.2.2.2.2.2.2.2.2.1
@[irreducible] noncomputable def dp : Nat := skK.2.2.2.2.2.2.2.2.2.2.2.2.2.2.2.2.2.2.1
@[irreducible] noncomputable def un : Nat := skK.2.2.2.2.2.2.2.2.2.2.2.2.2.2.2.2.2.2.2.1
@[irreducible] noncomputable def gd : Option (List Code) := skK.2.2.2.2.2.2.2.2.2.2.2.2.2.2.2.2.2.2.2.2.1
@[irreducible] noncomputable def cn : PySem.Str := skK.2.2.2.2.2.2.2.2.2.2.2.2.2.2.2.2.2.2.2.2.2.1
@[irreducible] noncomputable def cs : Scope := skK.2.2.2.2.2.2.2.2.2.2.2.2.2.2.2.2.2.2.2.2.2.2.1
@[irreducible] noncomputable def a' : Addr := skK.2.2.2.2.2.2.2.2.2.2.2.2.2.2.2.2.2.2.2.2.2.2.2.1
@[irreducible] noncomputable def ccd : Value := skK.2.2.2.2.2.2.2.2.2.2.2.2.2.2.2.2.2.2.2.2.2.2.2.2.1
@[irreducible] noncomputable def cl : List (PySem.Str × Addr) := skK.2.2.2.2.2.2.2.2.2.2.2.2.2.2.2.2.2.2.2.2.2.2.2.2.2.1
@[irreducible] noncomputable def outer : List Env := skK.2.2.2.2.2.2.2.2.2.2.2.2.2.2.2.2.2.2.2.2.2.2.2.2.2.2.1
@[irreducible] noncomputable def A₀ : Around := skK.2.2.2.2.2.2.2.2.2.2.2.2.2.2.2.2.2.2.2.2.2.2.2.2.2.2.2.1
@[irreducible] noncomputable def base : Heap := skK.2.2.2.2.2.2.2.2.2.2.2.2.2.2.2.2.2.2.2.2.2.2.2.2.2.2.2.2.1
@[irreducible] noncomputable def h₀ : Heap := skK.2.2.2.2.2.2.2.2.2.2.2.2.2.2.2.2.2.2.2.2.2.2.2.2.2.2.2.2.2.1
@[irreducible] noncomputable def L : Addr := skK.2.2.2.2.2.2.2.2.2.2.2.2.2.2.2.2.2.2.2.2.2.2.2.2.2.2.2.2.2.2.1
@[irreducible] noncomputable def m : PySem.Str → Option Value := skK.2.2.2.2.2.2.2.2.2.2.2.2.2.2.2.2.2.2.2.2.2.2.2.2.2.2.2.2.2.2.2.1
@[irreducible] noncomputable def s : Shared := skK.2.2.2.2.2.2.2.2.2.2.2.2.2.2.2.2.2.2.2.2.2.2.2.2.2.2.2.2.2.2.2.2.1
@[irreducible] noncomputable def Q : Value → Shared → Prop := skK.2.2.2.2.2.2.2.2.2.2.2.2.2.2.2.2.2.2.2.2.2.2.2.2.2.2.2.2.2.2.2.2.2.1
@[irreducible] noncomputable def E : Value → Shared → Prop := skK.2.2.2.2.2.2.2.2.2.2.2.2.2.2.2.2.2.2.2.2.2.2.2.2.2.2.2.2.2.2.2.2.2.2.1
@[irreducible] noncomputable def g9 : Heap := skK.2.2.2.2.2.2.2.2.2.2.2.2.2.2.2.2.2.2.2.2.2.2.2.2.2.2.2.2.2.2.2.2.2.2.2.1
@[irreducible] noncomputable def L9 : Addr := skK.2.2.2.2.2.2.2.2.2.2.2.2.2.2.2.2.2.2.2.2.2.2.2.2.2.2.2.2.2.2.2.2.2.2.2.2.1
@[irreducible] noncomputable def h9 : Heap := skK.2.2.2.2.2.2.2.2.2.2.2.2.2.2.2.2.2.2.2.2.2.2.2.2.2.2.2.2.2.2.2.2.2.2.2.2.2
theorem skAll (hb : skP w p0 loose mean mg mb U W g c p l tU tW tg tc tp rest dp un gd cn cs a' ccd cl outer A₀ base h₀ L m s Q E g9 L9 h9) : ∀ (y0 : World) (y1 : Program) (y2 : List PySem.Str) (y3 : ExcName → Option Value) (y4 : PySem.Str → Option Value) (y5 : PySem.Str → Option Value) (y6 : Nat) (y7 : Nat) (y8 : Nat) (y9 : Nat) (y10 : Int) (y11 : Nat) (y12 : Tok) (y13 : Tok) (y14 : Tok) (y15 : Tok) (y16 : Tok) (y17 : List (Addr × Obj)) (y18 : Nat) (y19 : Nat) (y20 : Option (List Code)) (y21 : PySem.Str) (y22 : Scope) (y23 : Addr) (y24 : Value) (y25 : List (PySem.Str × Addr)) (y26 : List Env) (y27 : Around) (y28 : Heap) (y29 : Heap) (y30 : Addr) (y31 : PySem.Str → Option Value) (y32 : Shared) (y33 : Value → Shared → Prop) (y34 : Value → Shared → Prop) (y35 : Heap) (y36 : Addr) (y37 : Heap), skP y0 y1 y2 y3 y4 y5 y6 y7 y8 y9 y10 y11 y12 y13 y14 y15 y16 y17 y18 y19 y20 y21 y22 y23 y24 y25 y26 y27 y28 y29 y30 y31 y32 y33 y34 y35 y36 y37 := by
  intro y0 y1 y2 y3 y4 y5 y6 y7 y8 y9 y10 y11 y12 y13 y14 y15 y16 y17 y18 y19 y20 y21 y22 y23 y24 y25 y26 y27 y28 y29 y30 y31 y32 y33 y34 y35 y36 y37
  refine Classical.byContradiction fun hn => ?_
  have h1 := @Classical.epsilon_spec skD (fun d => ¬ skP d.1 d.2.1 d.2.2.1 d.2.2.2.1 d.2.2.2.2.1 d.2.2.2.2.2.1 d.2.2.2.2.2.2.1 d.2.2.2.2.2.2.2.1 d.2.2.2.2.2.2.2.2.1 d.2.2.2.2.2.2.2.2.2.1 d.2.2.2.2.2.2.2.2.2.2.1 d.2.2.2.2.2.2.2.2.2.2.2.1 d.2.2.2.2.2.2.2.2.2.2.2.2.1 d.2.2.2.2.2.2.2.2.2.2.2.2.2.1 d.2.2.2.2.2.2.2.2.2.2.2.2.2.2.1 d.2.2.2.2.2.2.2.2.2.2.2.2.2.2.2.1 d.2.2.2.2.2.2.2.2.2.2.2.2.2.2.2.2.1 d.2.2.2.2.2.2.2.2.2.2.2.2.2.2.2.2.2.1 d.2.2.2.2.2.2.2.2.2.2.2.2.2.2.2.2.2.2.1 d.2.2.2.2.2.2.2.2.2.2.2.2.2.2.2.2.2.2.2.1 d.2.2.2.2.2.2.2.2.2.2.2.2.2.2.2.2.2.2.2.2.1 d.2.2.2.2.2.2.2.2.2.2.2.2.2.2.2.2.2.2.2.2.2.1 d.2.2.2.2.2.2.2.2.2.2.2.2.2.2.2.2.2.2.2.2.2.2.1 d.2.2.2.2.2.2.2.2.2.2.2.2.2.2.2.2.2.2.2.2.2.2.2.1 d.2.2.2.2.2.2.2.2.2.2.2.2.2.2.2.2.2.2.2.2.2.2.2.2.1 d.2.2.2.2.2.2.2.2.2.2.2.2.2.2.2.2.2.2.2.2.2.2.2.2.2.1 d.2.2.2.2.2.2.2.2.2.2.2.2.2.2.2.2.2.2.2.2.2.2.2.2.2.2.1 d.2.2.2.2.2.2.2.2.2.2.2.2.2.2.2.2.2.2.2.2.2.2.2.2.2.2.2.1 d.2.2.2.2.2.2.2.2.2.2.2.2.2.2.2.2.2.2.2.2.2.2.2.2.2.2.2.2.1 d.2.2.2.2.2.2.2.2.2.2.2.2.2.2.2.2.2.2.2.2.2.2.2.2.2.2.2.2.2.1 d.2.2.2.2.2.2.2.2.2.2.2.2.2.2.2.2.2.2.2.2.2.2.2.2.2.2.2.2.2.2.1 d.2.2.2.2.2.2.2.2.2.2.2.2.2.2.2.2.2.2.2.2.2.2.2.2.2.2.2.2.2.2.2.1 d.2.2.2.2.2.2.2.2.2.2.2.2.2.2.2.2.2.2.2.2.2.2.2.2.2.2.2.2.2.2.2.2.1 d.2.2.2.2.2.2.2.2.2.2.2.2.2.2.2.2.2.2.2.2.2.2.2.2.2.2.2.2.2.2.2.2.2.1 d.2.2.2.2.2.2.2.2.2.2.2.2.2.2.2.2.2.2.2.2.2.2.2.2.2.2.2.2.2.2.2.2.2.2.1 d.2.2.2.2.2.2.2.2.2.2.2.2.2.2.2.2.2.2.2.2.2.2.2.2.2.2.2.2.2.2.2.2.2.2.2.1 d.2.2.2.2.2.2.2.2.2.2.2.2.2.2.2.2.2.2.2.2.2.2.2.2.2.2.2.2.2.2.2.2.2.2.2.2.1 d.2.2.2.2.2.2.2.2.2.2.2.2.2.2.2.2.2.2.2.2.2.2.2.2.2.2.2.2.2.2.2.2.2.2.2.2.2) ⟨(y0, y1, y2, y3, y4, y5, y6, y7, y8, y9, y10, y11, y12, y13, y14, y15, y16, y17, y18, y19, y20, y21, y22, y23, y24, y25, y26, y27, y28, y29, y30, y31, y32, y33, y34, y35, y36, y37), hn⟩
  delta w p0 loose mean mg mb U W g c p l tU tW tg tc tp rest dp un gd cn cs a' ccd cl outer A₀ base h₀ L m s Q E g9 L9 h9 at hb
  delta skK at hb
  exact h1 hb
theorem skBody : skP w p0 loose mean mg mb U W g c p l tU tW tg tc tp rest dp un gd cn cs a' ccd cl outer A₀ base h₀ L m s Q E g9 L9 h9 := by
  unfold skP CtrTG premOf3
  intro d hd hU hW hg hg2 hc hc2 hp1 hp2 hbU hbW hl hyes hno hA1 hA2 hB2 hr
  intro B F X N T hk hdp hu hret
  revert X; k_fill; intro X
  have S : Sp h₀ L s.heap (secs d) rest := ⟨news_sub N (fun p hp => List.mem_append_left _ hp), news_sub N (fun p hp => List.mem_append_right _ hp), hr⟩
  have hg64 : g < 2 ^ 64 := by lia
  have hcI : (c : Int) - 1 = ((c - 1 : Nat) : Int) := by lia
  have hcS : c - 1 ≤ 1000000 := by lia
  have hbl := bl_mul hA2
  have hbl2 : BL (abv U g p l) ≤ BL (blw W g p l) + 4000 := by lia
  have hBpos : 0 < blw W g p l := Nat.mul_pos hW (Nat.pow_pos (by lia))
  k_with "now" => have kNow13 : True := trivial
  k_with "ov For" => ((fail_if_success (fail_if_success (k_extra "now"; clear kNow13))); kpr_for)
  k_with "ov divmod" => ((fail_if_success (fail_if_success (k_extra "now"; clear kNow13))); ((with_reducible show wpAny _ _ (call (Value.builtin _) [Value.int _ _, Value.int _ _]) _ _ _); first | (refine divmod_pp _ _ rfl rfl (by with_reducible assumption) (by with_reducible assumption) (by k_asm) (by k_asm) ?_) | (refine divmod_pn _ _ rfl rfl (by with_reducible assumption) (by with_reducible assumption) (by with_reducible assumption) (by k_asm) (by k_asm) ?_)); intro D' h' t1' t2' k' F' N' l1 l2; (try k_lt l1))
  intro FG' F' N' B' X' T' l1 l2 l3
  (try k_lt l1); (try dsimp only); (try k_fold)
  obtain ⟨l52, l59⟩ := secs_lt l1
  refine genToks ?_
  intro tk5 htk5
  change _ + 5 ≤ _ at htk5
  refine toksQ (Nat.le_refl _) ?_
  try k_fold
  iterate 7 walk1
  (rename Fr _ _ _ _ => lF9)
  (rename News _ _ _ _ => lN9)
  (rename IsRange _ _ _ _ _ _ _ _ => rgX)
  refine rng_search (n := 4) [PySem.Str.ofString "above", PySem.Str.ofString "below"] (fun n => ∀ j, j < n → ¬ (blw W g p j * g ^ (c - 1) ≤ abv U g p j)) rfl rgX (by decide) rfl lF9 lN9 (fun j h => by lia) ?_ ?_
  · intro pre k t u h9 tk9 own hk9 hk4 hOff hP F9 N9
    have kMark := kstMark
    try simp only [List.cons_append, List.nil_append] at N9
    try simp only [List.map_cons, List.map_nil] at hOff
    clear lF9 lN9
    have he1 : ((k : Int) - p).toNat ≤ 10004 := by lia
    have he2 : (p - (k : Int)).toNat ≤ 10004 := by lia
    have hb1 := bl_pow g ((k : Int) - p).toNat hg2
    have hb2 := bl_pow g (p - (k : Int)).toNat hg2
    have hb3 := bl_mulle U (g ^ ((k : Int) - p).toNat)
    have hb4 := bl_mulle W (g ^ (p - (k : Int)).toNat)
    have hb5 := bl_pow g (c - 1) hg2
    k_with "ov Sub" => ((fail_if_success (fail_if_success (k_extra "now"; clear kNow13))); (refine sub_to ((c - 1 : Nat) : Int) hcI ?_; intro _ _))
    k_with "ov Pow" => ((fail_if_success (fail_if_success (k_extra "now"; clear kNow13))); (refine pow_nat g (c - 1) rfl rfl hg64 hcS ?_; intro _ _))
    k_with "ov Mult" => ((fail_if_success (fail_if_success (k_extra "now"; clear kNow13))); (refine mul_natB (W * g ^ (p - (k : Int)).toNat) (g ^ (c - 1)) rfl rfl (by lia) (by lia) ?_; intro _ _))
    try k_fold
    k_with "state" => ((fail_if_success (fail_if_success (k_extra "now"; clear kNow13))); exact srch_turn (C := fun j => blw W g p j * g ^ (c - 1) ≤ abv U g p j) hk9 hP (fun h => absurd (Int.ofNat_le.mpr h) (by assumption)))
    k_steps
    (rename ((W * g ^ (p - (k : Int)).toNat * g ^ (c - 1) : Nat) : Int) ≤ _ => hcond)
    have hkl : k = l := by
      rcases Nat.lt_trichotomy k l with h | h | h
      · exact absurd (Int.ofNat_le.mp hcond) (hno k h)
      · exact h
      · exact absurd hyes (hP l h)
    rw [← hkl] at hA1 hA2 hB2 hBpos hbl hbl2 hret
    have hA3 : 0 < U * g ^ ((k : Int) - p).toNat := Nat.lt_trans Nat.zero_lt_one hA1
    have hB3 : 0 < W * g ^ (p - (k : Int)).toNat := hBpos
    have hs3 : BL (U * g ^ ((k : Int) - p).toNat) ≤ BL (W * g ^ (p - (k : Int)).toNat) + 4000 := hbl2
    refine Stop.go ?_
    k_dflt (refine' Ctr.use ?B1 ?F1 ?X1 ?N1 ?T1 ?k1 ?d1 ?u1 (c_idm1 (abv U g p k) (blw W g p k) _ _ d [] hd (by lia) hBpos hA2 hB2 (fun _ h => nomatch h)) ?_)
    case B1 => k_asm
    case F1 => k_asm
    case X1 => k_asm
    case N1 => (refine news_sub (by k_asm) ?_; intro p hp; first | exact List.mem_append_left _ (by simpa using hp) | simpa using hp)
    case T1 => k_asm
    case k1 => first | exact rfl | assumption
    case d1 => ktr_room
    case u1 => ktr_units
    intro B1 v1 h1 tk1 n1 hB1 hL1 R1 F1 N1
    obtain ⟨D1, c1, oc1, c2, oc2, t1, u1, e1, e2, hs1, g1, g2, g3, g4, g5⟩ := R1
    subst e1; subst e2
    dsimp only [secs, sec52, sec59, List.cons_append, List.nil_append] at N1
    clear hB1
    k_sweep
    try k_fold
    k_steps
    refine Stop.go ?_
    k_dflt (refine' Ctr.use ?B2 ?F2 ?X2 ?N2 ?T2 ?k2 ?d2 ?u2 (c_idm3 (abv U g p k) (blw W g p k) _ _ (some ((c1, oc1), (c2, oc2))) ((D1, { cls := .type "tuple", data := .seq #[.int ((abv U g p k / blw W g p k : Nat) : Int) t1, .int ((abv U g p k % blw W g p k : Nat) : Int) u1] }) :: []) hs1 hA1 hBpos (by lia) hB2 (ne_secs (neN (by lia)) (neN (by lia)) g2 g3)) ?_)
    case B2 => k_asm
    case F2 => k_asm
    case X2 => k_asm
    case N2 => (refine news_sub (by k_asm) ?_; (try dsimp only [sec52, sec59, secs, List.cons_append, List.nil_append]); walk_at "allIn")
    case T2 => k_asm
    case k2 => first | exact rfl | assumption
    case d2 => ktr_room
    case u2 => ktr_units
    intro B2 v2 h2 tk2 n2 hB2' hL2 R2' F2 N2
    obtain ⟨D2, c3, oc3, c4, oc4, t2, u2, e1, e2, hs2, g1', g2', g3', g4', g5'⟩ := R2'
    subst e1; subst e2
    dsimp only [secs, sec52, sec59, List.cons_append, List.nil_append] at N2 hB2'
    k_lt hB2'
    clear hB2'
    k_sweep
    try k_fold
    k_steps
    all_goals try (rename ((_ == _ && _ == _) = false) => hf; exact tup_ne hf rfl rfl)
    all_goals (rename News _ _ _ ((_, Obj.mk _ _ (.seq #[.int _ _, .int _ _]) _) :: _) => hN9)
    · have e := rnd_le hBpos (by assumption)
      have e2 := (gc_iff (r := rnd (abv U g p k) (blw W g p k)) (up_e e)).mp (by assumption)
      refine hret _ _ _ _ ⟨_, c3, oc3, c4, oc4, _, _, rfl, rfl, hs2, leN (by lia), neN (by lia), neN (by lia), sec_tr1 (leN (by lia)) (leN (by lia)) g4 g4', sec_tr2 (leN (by lia)) (leN (by lia)) g5 g5', ?tka1, ?tkb1⟩ (by assumption) (news_app (news_sub (rnd_fin hN9 (if_pos e2).symm (if_pos e2).symm) (by dsimp only [sec52, sec59, secs, List.cons_append, List.nil_append]; walk_at "allIn")) (by assumption))
      all_goals walk_at "tkom"
    · have e := rnd_le hBpos (by assumption)
      have e2 : ¬ rnd (abv U g p k) (blw W g p k) = g ^ c := fun h => absurd ((gc_iff (r := rnd (abv U g p k) (blw W g p k)) (up_e e)).mpr h) (by assumption)
      refine hret _ _ _ _ ⟨_, c3, oc3, c4, oc4, _, _, rfl, rfl, hs2, leN (by lia), neN (by lia), neN (by lia), sec_tr1 (leN (by lia)) (leN (by lia)) g4 g4', sec_tr2 (leN (by lia)) (leN (by lia)) g5 g5', ?tka2, ?tkb2⟩ (by assumption) (news_app (news_sub (rnd_fin hN9 ((up_e e).trans (if_neg e2).symm) (if_neg e2).symm) (by dsimp only [sec52, sec59, secs, List.cons_append, List.nil_append]; walk_at "allIn")) (by assumption))
      all_goals walk_at "tkom"
    · have e := rnd_gt hBpos (by assumption)
      have e2 := (gc_iff (r := rnd (abv U g p k) (blw W g p k)) (dn_e e)).mp (by assumption)
      refine hret _ _ _ _ ⟨_, c3, oc3, c4, oc4, _, _, rfl, rfl, hs2, leN (by lia), neN (by lia), neN (by lia), sec_tr1 (leN (by lia)) (leN (by lia)) g4 g4', sec_tr2 (leN (by lia)) (leN (by lia)) g5 g5', ?tka3, ?tkb3⟩ (by assumption) (news_app (news_sub (rnd_fin hN9 (if_pos e2).symm (if_pos e2).symm) (by dsimp only [sec52, sec59, secs, List.cons_append, List.nil_append]; walk_at "allIn")) (by assumption))
      all_goals walk_at "tkom"
    · have e := rnd_gt hBpos (by assumption)
      have e2 : ¬ rnd (abv U g p k) (blw W g p k) = g ^ c := fun h => absurd ((gc_iff (r := rnd (abv U g p k) (blw W g p k)) (dn_e e)).mpr h) (by assumption)
      refine hret _ _ _ _ ⟨_, c3, oc3, c4, oc4, _, _, rfl, rfl, hs2, leN (by lia), neN (by lia), neN (by lia), sec_tr1 (leN (by lia)) (leN (by lia)) g4 g4', sec_tr2 (leN (by lia)) (leN (by lia)) g5 g5', ?tka4, ?tkb4⟩ (by assumption) (news_app (news_sub (rnd_fin hN9 ((dn_e e).trans (if_neg e2).symm) (if_neg e2).symm) (by dsimp only [sec52, sec59, secs, List.cons_append, List.nil_append]; walk_at "allIn")) (by assumption))
      all_goals walk_at "tkom"
  · intro u h9 tk9 hP F9 N9
    exact absurd hyes (hP l hl)
end sk_c_rounded
section
variable {w : World} {p0 : Program} {loose : List Str} {mean : ExcName → Option Value} {mg mb : Str → Option Value}
theorem c_rounded (U W g c : Nat) (p : Int) (l : Nat) (tU tW tg tc tp : Tok) (d : Option ((Addr × Obj) × (Addr × Obj))) (rest : List (Addr × Obj)) (hd : secsOk d)
   (hU : 0 < U) (hW : 0 < W) (hg : 2 ≤ g) (hg2 : g ≤ 16) (hc : 1 ≤ c) (hc2 : c ≤ 12) (hp1 : -10000 ≤ p) (hp2 : p ≤ 10000) (hbU : BL U ≤ 50000) (hbW : BL W ≤ 50000)
   (hl : l < 4) (hyes : blw W g p l * g ^ (c - 1) ≤ abv U g p l) (hno : ∀ j, j < l → ¬ blw W g p j * g ^ (c - 1) ≤ abv U g p j)
   (hA1 : 1 < abv U g p l) (hA2 : abv U g p l < blw W g p l * 2 ^ 60) (hB2 : BL (blw W g p l) ≤ 50000) (hr : ∀ q ∈ rest, ∀ p ∈ secs d, q.1 ≠ p.1) :
    CtrT w p0 loose mean mg mb 260 3400 142 [.int U tU, .int W tW, .int g tg, .int c tc, .int p tp] (secs d ++ rest)
      (RTupT (if rnd (abv U g p l) (blw W g p l) = g ^ c then ((g ^ (c - 1) : Nat) : Int) else (rnd (abv U g p l) (blw W g p l) : Int)) (if rnd (abv U g p l) (blw W g p l) = g ^ c then p - l + 1 else p - l) d rest) := by
  intro dp un gd cn cs a' ccd cl outer A₀ base h₀ L m s Q E
  intro B F X N T hk hdp hu hret
  have X0 := X
  revert X; k_fill; intro X
  have S : Sp h₀ L s.heap (secs d) rest := ⟨news_sub N (fun p hp => List.mem_append_left _ hp), news_sub N (fun p hp => List.mem_append_right _ hp), hr⟩
  have hg64 : g < 2 ^ 64 := by lia
  have hcI : (c : Int) - 1 = ((c - 1 : Nat) : Int) := by lia
  have hcS : c - 1 ≤ 1000000 := by lia
  have hbl := bl_mul hA2
  have hbl2 : BL (abv U g p l) ≤ BL (blw W g p l) + 4000 := by lia
  have hBpos : 0 < blw W g p l := Nat.mul_pos hW (Nat.pow_pos (by lia))
  walk_at "enterS"
  intro g9 L9 h9
  exact sk_c_rounded.skAll sk_c_rounded.skBody w p0 loose mean mg mb U W g c p l tU tW tg tc tp rest dp un gd cn cs a' ccd cl outer A₀ base h₀ L m s Q E g9 L9 h9 d hd hU hW hg hg2 hc hc2 hp1 hp2 hbU hbW hl hyes hno hA1 hA2 hB2 hr B F X0 N T hk hdp hu hret

end
end
example {prog : Program} {w : World} {A : Around} {env : Env} {Q : Flow → Shared → Prop} {E : Value → Shared → Prop} {s : Shared} (h : wpAny (model prog w) A (execs [] env) Q E s) : wpAny (model prog w) A (execs [] env) Q E s := by ((k_with "now" => have kReset : True := trivial); (k_with "piece" => have kP_M5 : True := trivial); w_top off; first | (walk1; fail) | exact h)
section
theorem rnd_eq {A B : Nat} (hA : 0 < A) (hB : 0 < B) : rnd A B = (2 * A + B) / (2 * B) := by
  have h1 := Nat.div_add_mod (A - 1) B
  have h2 := Nat.mod_lt (A - 1) hB
  have h3 := Nat.div_add_mod A B
  have h4 := Nat.mod_lt A hB
  unfold rnd
  generalize (A - 1) / B = q1 at *
  generalize (A - 1) % B = r1 at *
  generalize A / B = q at *
  generalize A % B = r at *
  symm
  by_cases h : B - 1 - r1 ≤ r
  · rw [if_pos h]
    refine Nat.div_eq_of_lt_le ?_ ?_
    · have e : (q1 + 1) * (2 * B) = 2 * (B * q1) + 2 * B := by rw [Nat.add_mul, Nat.mul_comm q1, Nat.mul_assoc, Nat.one_mul]
      rcases Nat.lt_or_ge q (q1 + 1) with hq | hq
      · have hqq : q = q1 := by
          rcases Nat.lt_or_ge q q1 with hq | hq
          · have e3 : B * (q + 1) ≤ B * q1 := Nat.mul_le_mul_left _ hq
            rw [Nat.mul_succ] at e3
            lia
          · lia
        subst hqq
        lia
      · have e3 : B * (q1 + 1) ≤ B * q := Nat.mul_le_mul_left _ hq
        rw [Nat.mul_succ] at e3
        lia
    · have e : (q1 + 1 + 1) * (2 * B) = 2 * (B * q1) + 4 * B := by rw [Nat.add_mul, Nat.add_mul, Nat.mul_comm q1, Nat.mul_assoc, Nat.one_mul]; lia
      lia
  · rw [if_neg h]
    have hq : q ≤ q1 := by
      rcases Nat.lt_or_ge q1 q with hq | hq
      · have e3 : B * (q1 + 1) ≤ B * q := Nat.mul_le_mul_left _ hq
        rw [Nat.mul_succ] at e3
        lia
      · exact hq
    have hq2 : B * q ≤ B * q1 := Nat.mul_le_mul_left _ hq
    refine Nat.div_eq_of_lt_le ?_ ?_
    · have e : q * (2 * B) = 2 * (B * q) := by rw [Nat.mul_comm q, Nat.mul_assoc]
      lia
    · have e : (q + 1) * (2 * B) = 2 * (B * q) + 2 * B := by rw [Nat.add_mul, Nat.mul_comm q, Nat.mul_assoc, Nat.one_mul]
      have hqq : q1 = q := by
        rcases Nat.lt_or_ge q q1 with hq | hq
        · have e3 : B * (q + 1) ≤ B * q1 := Nat.mul_le_mul_left _ hq
          rw [Nat.mul_succ] at e3
          lia
        · lia
      subst hqq
      lia
theorem rnd_ge {A B m : Nat} (hA : 0 < A) (hB : 0 < B) (h : B * m ≤ A) : m ≤ rnd A B := by
  rw [rnd_eq hA hB]
  refine (Nat.le_div_iff_mul_le (by lia)).mpr ?_
  have e : m * (2 * B) = 2 * (B * m) := by rw [Nat.mul_comm m, Nat.mul_assoc]
  lia
theorem rnd_lt {A B m : Nat} (hA : 0 < A) (hB : 0 < B) (h : A < B * m) : rnd A B ≤ m := by
  rw [rnd_eq hA hB]
  refine Nat.le_of_lt_succ (Nat.div_lt_of_lt_mul ?_)
  show _ < 2 * B * (m + 1)
  have e : 2 * B * (m + 1) = 2 * (B * m) + 2 * B := by rw [Nat.mul_succ, Nat.mul_assoc]
  lia
/-- rnd A B = m says that A over B is at least m - 1/2 and below m + 1/2 -/
theorem rnd_iff {A B m : Nat} (hA : 0 < A) (hB : 0 < B) : rnd A B = m ↔ 2 * (B * m) ≤ 2 * A + B ∧ 2 * A < 2 * (B * m) + B := by
  rw [rnd_eq hA hB]
  have e1 : m * (2 * B) = 2 * (B * m) := by rw [Nat.mul_comm m, Nat.mul_assoc]
  have e2 : (m + 1) * (2 * B) = 2 * (B * m) + 2 * B := by rw [Nat.add_mul, Nat.one_mul]; lia
  constructor
  · intro h
    subst h
    have h1 := Nat.div_mul_le_self (2 * A + B) (2 * B)
    have h2 := Nat.lt_mul_div_succ (2 * A + B) (show 0 < 2 * B by lia)
    have e3 : ∀ x, 2 * B * (x + 1) = 2 * (B * x) + 2 * B := by intro x; rw [Nat.mul_succ, Nat.mul_assoc]
    rw [e3] at h2
    lia
  · intro ⟨h1, h2⟩
    exact Nat.div_eq_of_lt_le (by lia) (by lia)
/-- one turn more: either the upper one is g times as great, or the lower one is one g-th -/
theorem turn_step (U W g : Nat) (p : Int) (j : Nat) : (abv U g p (j + 1) = abv U g p j ∧ blw W g p j = blw W g p (j + 1) * g) ∨ (abv U g p (j + 1) = abv U g p j * g ∧ blw W g p (j + 1) = blw W g p j) := by
  unfold abv blw
  rcases Int.lt_or_le (j : Int) p with h | h
  · left
    have e1 : (((j + 1 : Nat) : Int) - p).toNat = 0 := by lia
    have e2 : ((j : Int) - p).toNat = 0 := by lia
    have e3 : (p - (j : Int)).toNat = (p - ((j + 1 : Nat) : Int)).toNat + 1 := by lia
    rw [e1, e2, e3, Nat.pow_succ, Nat.mul_assoc]; exact ⟨rfl, rfl⟩
  · right
    have e1 : (((j + 1 : Nat) : Int) - p).toNat = ((j : Int) - p).toNat + 1 := by lia
    have e2 : (p - (j : Int)).toNat = 0 := by lia
    have e3 : (p - ((j + 1 : Nat) : Int)).toNat = 0 := by lia
    rw [e1, e2, e3, Nat.pow_succ, Nat.mul_assoc]; exact ⟨rfl, rfl⟩
theorem turn_lt {U W g : Nat} {p : Int} {j m : Nat} (hg : 0 < g) (h : abv U g p j < blw W g p j * m) : abv U g p (j + 1) < blw W g p (j + 1) * (g * m) := by
  rcases turn_step U W g p j with ⟨e1, e2⟩ | ⟨e1, e2⟩
  · rw [e1, ← Nat.mul_assoc, ← e2]; exact h
  · rw [e1, e2, Nat.mul_comm g m, ← Nat.mul_assoc]
    exact Nat.mul_lt_mul_of_pos_right h hg
theorem turn_le {U W g : Nat} {p : Int} {j m : Nat} (hg : 0 < g) (h : blw W g p (j + 1) * (g * m) ≤ abv U g p (j + 1)) : blw W g p j * m ≤ abv U g p j := by
  rcases Nat.lt_or_ge (abv U g p j) (blw W g p j * m) with h1 | h1
  · have := turn_lt hg h1; lia
  · exact h1
theorem turn_le' {U W g : Nat} {p : Int} {j m : Nat} (hg : 0 < g) (h : blw W g p j * m ≤ abv U g p j) : blw W g p (j + 1) * (g * m) ≤ abv U g p (j + 1) := by
  rcases turn_step U W g p j with ⟨e1, e2⟩ | ⟨e1, e2⟩
  · rw [e1, ← Nat.mul_assoc, ← e2]; exact h
  · rw [e1, e2, Nat.mul_comm g m, ← Nat.mul_assoc]
    exact Nat.mul_le_mul_right _ h
def lP (U W c : Nat) : Int := ((BL U : Int) - (BL W : Int) + 1).fdiv 4 - (c : Int) + 1
def lL (U W c : Nat) : Nat := if blw W 16 (lP U W c) 0 * 16 ^ (c - 1) ≤ abv U 16 (lP U W c) 0 then 0 else 1
def lA (U W c : Nat) : Nat := abv U 16 (lP U W c) (lL U W c)
def lB (U W c : Nat) : Nat := blw W 16 (lP U W c) (lL U W c)
def lR (U W c : Nat) : Nat := rnd (lA U W c) (lB U W c)
def lN (U W c : Nat) : Nat := if lR U W c = 16 ^ c then 16 ^ (c - 1) else lR U W c
def lE (U W c : Nat) : Int := if lR U W c = 16 ^ c then lP U W c - (lL U W c : Int) + 1 else lP U W c - (lL U W c : Int)
theorem p16 (e : Nat) : 16 ^ e = 2 ^ (4 * e) := by rw [Nat.pow_mul]
theorem bl_cmp_le {U W a b : Nat} (hU : 0 < U) (h : BL W + 4 * a ≤ BL U - 1 + 4 * b) : W * 16 ^ a ≤ U * 16 ^ b := by
  rw [p16, p16]
  have h1 := bl_lt W
  have h2 := bl_ge hU
  refine Nat.le_trans (Nat.mul_le_mul_right _ (Nat.le_of_lt h1)) (Nat.le_trans ?_ (Nat.mul_le_mul_right _ h2))
  rw [← Nat.pow_add, ← Nat.pow_add]
  exact pow2_mono h
theorem bl_cmp_lt {U W a b : Nat} (hU : 0 < U) (h : BL W + 4 * a ≤ BL U - 1 + 4 * b) : W * 16 ^ a < U * 16 ^ b := by
  rw [p16, p16]
  have h1 := bl_lt W
  have h2 := bl_ge hU
  refine Nat.lt_of_lt_of_le (Nat.mul_lt_mul_of_pos_right h1 (Nat.two_pow_pos _)) (Nat.le_trans ?_ (Nat.mul_le_mul_right _ h2))
  rw [← Nat.pow_add, ← Nat.pow_add]
  exact pow2_mono h
theorem lP_le (U W c : Nat) : 4 * (lP U W c + (c : Int) - 1) ≤ (BL U : Int) - BL W + 1 ∧ (BL U : Int) - BL W + 1 < 4 * (lP U W c + (c : Int) - 1) + 4 := by
  unfold lP
  have := Int.fdiv_eq_ediv_of_nonneg ((BL U : Int) - (BL W : Int) + 1) (show (0 : Int) ≤ 4 by lia)
  rw [this]
  generalize (BL U : Int) - (BL W : Int) + 1 = z
  lia
section
variable {U W c : Nat} (hU : 0 < U) (hW : 0 < W) (hc : 1 ≤ c)
include hU hc in
theorem l_yes1 : blw W 16 (lP U W c) 1 * 16 ^ (c - 1) ≤ abv U 16 (lP U W c) 1 := by
  unfold abv blw
  rw [Nat.mul_assoc, ← Nat.pow_add]
  have h := lP_le U W c
  have := bl_pos hU
  exact bl_cmp_le hU (by dsimp only [BL] at *; lia)
include hW in
theorem l_up0 : abv U 16 (lP U W c) 0 < blw W 16 (lP U W c) 0 * 16 ^ c := by
  unfold abv blw
  rw [Nat.mul_assoc, ← Nat.pow_add]
  have h := lP_le U W c
  have := bl_pos hW
  exact bl_cmp_lt hW (by dsimp only [BL] at *; lia)
theorem lL_lt : lL U W c < 4 := by unfold lL; split <;> lia
include hU hc in
theorem l_yes : blw W 16 (lP U W c) (lL U W c) * 16 ^ (c - 1) ≤ abv U 16 (lP U W c) (lL U W c) := by
  by_cases h : blw W 16 (lP U W c) 0 * 16 ^ (c - 1) ≤ abv U 16 (lP U W c) 0
  · rw [show lL U W c = 0 from if_pos h]; exact h
  · rw [show lL U W c = 1 from if_neg h]; exact l_yes1 hU hc
theorem l_no : ∀ j, j < lL U W c → ¬ blw W 16 (lP U W c) j * 16 ^ (c - 1) ≤ abv U 16 (lP U W c) j := by
  intro j hj
  unfold lL at hj
  split at hj
  · lia
  · rw [show j = 0 by lia]; assumption
include hW hc in
theorem l_up : lA U W c < lB U W c * 16 ^ c := by
  unfold lA lB
  by_cases h : blw W 16 (lP U W c) 0 * 16 ^ (c - 1) ≤ abv U 16 (lP U W c) 0
  · rw [show lL U W c = 0 from if_pos h]; exact l_up0 hW
  · rw [show lL U W c = 1 from if_neg h]
    have := turn_lt (g := 16) (by lia) (Nat.lt_of_not_ge h)
    rw [show 16 * 16 ^ (c - 1) = 16 ^ c by rw [Nat.mul_comm, ← Nat.pow_succ]; congr 1; lia] at this
    exact this
include hU in
theorem lA_pos : 0 < lA U W c := Nat.mul_pos hU (Nat.pow_pos (by lia))
include hW in
theorem lB_pos : 0 < lB U W c := Nat.mul_pos hW (Nat.pow_pos (by lia))
include hU hW hc in
theorem lR_in : 16 ^ (c - 1) ≤ lR U W c ∧ lR U W c ≤ 16 ^ c :=
  ⟨rnd_ge (lA_pos hU) (lB_pos hW) (l_yes hU hc), rnd_lt (lA_pos hU) (lB_pos hW) (l_up hW hc)⟩
include hU hW hc in
theorem lN_in : 16 ^ (c - 1) ≤ lN U W c ∧ lN U W c < 16 ^ c := by
  have h := lR_in hU hW hc
  have h2 : 16 ^ (c - 1) < 16 ^ c := Nat.pow_lt_pow_right (by lia) (by lia)
  unfold lN
  split <;> lia
include hU hc in
theorem lA_gt (h : 2 ≤ c ∨ 1 < U) (hW : 0 < W) : 1 < lA U W c := by
  rcases h with h | h
  · have h1 := l_yes (W := W) hU hc
    have h2 : 16 ^ 1 ≤ 16 ^ (c - 1) := Nat.pow_le_pow_right (by lia) (by lia)
    have h3 : 1 * 16 ^ (c - 1) ≤ blw W 16 (lP U W c) (lL U W c) * 16 ^ (c - 1) := Nat.mul_le_mul_right _ (lB_pos hW)
    unfold lA
    lia
  · exact Nat.lt_of_lt_of_le h (Nat.le_mul_of_pos_right _ (Nat.pow_pos (by lia)))
end
end
example {prog : Program} {w : World} {A : Around} {env : Env} {Q : Flow → Shared → Prop} {E : Value → Shared → Prop} {s : Shared} (h : wpAny (model prog w) A (execs [] env) Q E s) : wpAny (model prog w) A (execs [] env) Q E s := by ((k_with "now" => have kReset : True := trivial); (k_with "piece" => have kP_C10a : True := trivial); w_top off; first | (walk1; fail) | exact h)
section
section
variable {w : World} {p0 : Program} {loose : List Str} {mean : ExcName → Option Value} {mg mb : Str → Option Value}
theorem lP_in {U W c : Nat} (hU : BL U ≤ 16000) (hW : BL W ≤ 16000) (hc : 1 ≤ c) (hc2 : c ≤ 12) : -10000 ≤ lP U W c ∧ lP U W c ≤ 5000 := by
  have := lP_le U W c
  dsimp only [BL] at *; lia
theorem lB_bl {U W c : Nat} (hU : BL U ≤ 16000) (hW : BL W ≤ 16000) (hc : 1 ≤ c) (hc2 : c ≤ 12) : BL (lB U W c) ≤ 50000 := by
  have h := lP_in hU hW hc hc2
  have h1 := bl_mulle W (16 ^ (lP U W c - (lL U W c : Int)).toNat)
  have h2 := bl_pow 16 (lP U W c - (lL U W c : Int)).toNat (by lia)
  unfold lB blw
  dsimp only [BL] at *; lia
theorem c_round16 (U W c : Nat) (tU tW tg tc tp : Tok) (d : Option ((Addr × Obj) × (Addr × Obj))) (rest : List (Addr × Obj)) (hd : secsOk d)
   (hU : 0 < U) (hW : 0 < W) (hc : 1 ≤ c) (hc2 : c ≤ 12) (hbU : BL U ≤ 16000) (hbW : BL W ≤ 16000) (h1 : 2 ≤ c ∨ 1 < U) (hr : ∀ q ∈ rest, ∀ p ∈ secs d, q.1 ≠ p.1) :
    CtrT w p0 loose mean mg mb 260 3400 142 [.int U tU, .int W tW, .int 16 tg, .int c tc, .int (lP U W c) tp] (secs d ++ rest) (RTupT (lN U W c : Int) (lE U W c) d rest) := by
  have hin := lP_in hbU hbW hc hc2
  have h := c_rounded (w := w) (p0 := p0) (loose := loose) (mean := mean) (mg := mg) (mb := mb) U W 16 c (lP U W c) (lL U W c) tU tW tg tc tp d rest hd hU hW (by lia) (by lia) hc hc2 hin.1 (by lia) (by lia) (by lia) lL_lt (l_yes hU hc) l_no
    (lA_gt hU hc h1 hW) (Nat.lt_of_lt_of_le (l_up hW hc) (Nat.mul_le_mul_left _ (by rw [p16]; exact pow2_mono (by lia)))) (lB_bl hbU hbW hc hc2) hr
  have e : (if rnd (abv U 16 (lP U W c) (lL U W c)) (blw W 16 (lP U W c) (lL U W c)) = 16 ^ c then ((16 ^ (c - 1) : Nat) : Int) else (rnd (abv U 16 (lP U W c) (lL U W c)) (blw W 16 (lP U W c) (lL U W c)) : Int)) = (lN U W c : Int) := by
    show (if lR U W c = 16 ^ c then ((16 ^ (c - 1) : Nat) : Int) else (lR U W c : Int)) = _
    unfold lN; split <;> rfl
  rw [e] at h
  exact h
theorem w_bits {U W c : Nat} (hU : 0 < U) (hW : 0 < W) (hc : 1 ≤ c) (hc2 : c ≤ 12) : lN U W c < 2 ^ 60 := by
  have h1 := (lN_in hU hW hc).2
  have h2 : 16 ^ c ≤ 2 ^ 60 := by rw [p16]; exact pow2_mono (by lia)
  lia
theorem w_len {U W c : Nat} (hU : 0 < U) (hW : 0 < W) (hc : 1 ≤ c) : (apW (lN U W c)).length = c := by
  obtain ⟨c, rfl⟩ : ∃ k, c = k + 1 := ⟨c - 1, by lia⟩
  exact apW_len_eq c _ (lN_in hU hW (by omega)).1 (lN_in hU hW (by omega)).2
theorem c_apTP (n : Nat) (t : Tok) (news : List (Addr × Obj)) (hx : n < 2 ^ 60) :
    CtrT w p0 loose mean mg mb 2 16 85 [.int n t] news (fun B v n' tk0 tk1 => n' = news ∧ ∃ t, v = .bytes (apW n).toArray t ∧ @LE.le Nat _ tk0 t ∧ @LT.lt Nat _ t tk1) := by
  have := c_apT (w := w) (p0 := p0) (loose := loose) (mean := mean) (mg := mg) (mb := mb) (n : Int) t news (by lia)
  rw [Int.natAbs_natCast] at this; exact this
theorem c_apTN (n : Nat) (t : Tok) (news : List (Addr × Obj)) (hx : n < 2 ^ 60) :
    CtrT w p0 loose mean mg mb 2 16 85 [.int (-(n : Int)) t] news (fun B v n' tk0 tk1 => n' = news ∧ ∃ t, v = .bytes (apW n).toArray t ∧ @LE.le Nat _ tk0 t ∧ @LT.lt Nat _ t tk1) := by
  have := c_apT (w := w) (p0 := p0) (loose := loose) (mean := mean) (mg := mg) (mb := mb) (-(n : Int)) t news (by lia)
  rw [Int.natAbs_neg, Int.natAbs_natCast] at this; exact this
theorem c_hintW (U W c : Nat) (tb : Tok) (news : List (Addr × Obj)) (hU : 0 < U) (hW : 0 < W) (hc : 1 ≤ c) (hc2 : c ≤ 12) :
    Ctr w p0 loose mean mg mb 2 16 100 [.bytes (apW (lN U W c)).toArray tb] news (RInt (c : Int) news) := by
  have e : (apW (lN U W c)).toArray.size = c := by rw [List.size_toArray]; exact w_len hU hW hc
  have := c_hint (w := w) (p := p0) (loose := loose) (mean := mean) (mg := mg) (mb := mb) (apW (lN U W c)).toArray tb news (by lia)
  rw [e] at this; exact this
theorem c_worthW (U W c : Nat) (tb : Tok) (news : List (Addr × Obj)) (hU : 0 < U) (hW : 0 < W) (hc : 1 ≤ c) (hc2 : c ≤ 12) :
    Ctr w p0 loose mean mg mb 2 16 135 [.bytes (apW (lN U W c)).toArray tb] news (RInt (lN U W c : Int) news) := by
  have h := apW_ints (lN U W c)
  have := c_worth (w := w) (p := p0) (loose := loose) (mean := mean) (mg := mg) (mb := mb) (apW (lN U W c)).toArray tb news h.1 (by rw [w_len hU hW hc]; exact hc2)
  rw [show apVal (KBw.bInts (apW (lN U W c)).toArray) = (lN U W c : Int) from h.2] at this; exact this
end
end
example : True := by
  k_with "m call ref" => (k_dflt (refine' Ctr.use (by k_asm) (by k_asm) (by k_asm) (by k_asm) (by k_asm) (by first | exact rfl | assumption) (by ktr_room) (by ktr_units) (c_hintW _ _ _ _ _ (by assumption) (by assumption) (by walk_at "side") (by walk_at "side")) ?_); walk_at "retInt")
  k_with "m call ref" => (k_dflt (refine' Ctr.use (by k_asm) (by k_asm) (by k_asm) (by k_asm) (by k_asm) (by first | exact rfl | assumption) (by ktr_room) (by ktr_units) (c_worthW _ _ _ _ _ (by assumption) (by assumption) (by walk_at "side") (by walk_at "side")) ?_); walk_at "retInt")
  trivial
example {prog : Program} {w : World} {A : Around} {env : Env} {Q : Flow → Shared → Prop} {E : Value → Shared → Prop} {s : Shared} (h : wpAny (model prog w) A (execs [] env) Q E s) : wpAny (model prog w) A (execs [] env) Q E s := by ((k_with "now" => have kReset : True := trivial); (k_with "piece" => have kP_C10 : True := trivial); w_top off; first | (walk1; fail) | exact h)
section
example : True := by
  k_with "m execs cons" => ((fail_if_success (fail_if_success (k_extra "piece"; clear kP_C10))); k_extra "toks")
  k_with "tkom" => ((fail_if_success (fail_if_success (k_extra "piece"; clear kP_C10))); ((try dsimp only at *); lia))
  trivial
section
variable {w : World} {p0 : Program} {loose : List Str} {mean : ExcName → Option Value} {mg mb : Str → Option Value}
def RWord (U W c : Nat) (d : Option ((Addr × Obj) × (Addr × Obj))) (rest : List (Addr × Obj)) (B : Nat) (v : Value) (n' : List (Addr × Obj)) (tk0 tk1 : Nat) : Prop :=
  ∃ D c1 oc1 c2 oc2 t u, v = .ref D ∧ n' = (D, { cls := .type "tuple", data := .seq #[.bytes (apW (lN U W c)).toArray t, .int (lE U W c) u] }) :: secs (some ((c1, oc1), (c2, oc2))) ++ rest ∧
      secsOk (some ((c1, oc1), (c2, oc2))) ∧ @LE.le Nat _ B D ∧ @Ne Nat c1 D ∧ @Ne Nat c2 D ∧ (@LE.le Nat _ B c1 ∨ ∃ y', d = some ((c1, oc1), y')) ∧ (@LE.le Nat _ B c2 ∨ ∃ x', d = some (x', (c2, oc2))) ∧
      @LE.le Nat _ tk0 t ∧ @LT.lt Nat _ t tk1 ∧ @LE.le Nat _ tk0 u ∧ @LT.lt Nat _ u tk1
end
namespace sk_c_lettered
abbrev skD : Type := (World) × (Program) × (List PySem.Str) × (ExcName → Option Value) × (PySem.Str → Option Value) × (PySem.Str → Option Value) × (Nat) × (Nat) × (Nat) × (Tok) × (Tok) × (Tok) × (List (Addr × Obj)) × (Nat) × (Nat) × (Option (List Code)) × (PySem.Str) × (Scope) × (Addr) × (Value) × (List (PySem.Str × Addr)) × (List Env) × (Around) × (Heap) × (Heap) × (Addr) × (PySem.Str → Option Value) × (Shared) × (Value → Shared → Prop) × (Value → Shared → Prop) × (Heap) × (Addr) × (Heap)
def skP (w : World) (p0 : Program) (loose : List PySem.Str) (mean : ExcName → Option Value) (mg : PySem.Str → Option Value) (mb : PySem.Str → Option Value) (U : Nat) (W : Nat) (c : Nat) (tU : Tok) (tW : Tok) (tc : Tok) (rest : List (Addr × Obj)) (dp : Nat) (un : Nat) (gd : Option (List Code)) (cn : PySem.Str) (cs : Scope) (a' : Addr) (ccd : Value) (cl : List (PySem.Str × Addr)) (outer : List Env) (A₀ : Around) (base : Heap) (h₀ : Heap) (L : Addr) (m : PySem.Str → Option Value) (s : Shared) (Q : Value → Shared → Prop) (E : Value → Shared → Prop) (g9 : Heap) (L9 : Addr) (h9 : Heap) : Prop := ∀ (d : Option ((Addr × Obj) × (Addr × Obj))) (hd : secsOk d) (hU : 0 < U) (hW : 0 < W) (hc : 1 ≤ c) (hc2 : c ≤ 12) (hbU : BL U ≤ 16000) (hbW : BL W ≤ 16000) (h1 : 2 ≤ c ∨ 1 < U) (hr : ∀ q ∈ rest, ∀ p ∈ secs d, q.1 ≠ p.1),
    CtrTG w p0 loose mean mg mb 280 3600 149 [.int U tU, .int W tW, .int c tc] (secs d ++ rest) (RWord U W c d rest) dp un gd cn cs a' ccd cl outer A₀ base h₀ L m s Q E (premOf3 (B := CtrTAt w p0 loose mean mg mb 280 3600 149 [.int U tU, .int W tW, .int c tc] (secs d ++ rest) (RWord U W c d rest) dp un gd cn cs a' ccd cl outer A₀ base h₀ L m s Q E) (by
      intro hh
      unfold CtrTAt
      intro B F X N T hk hdp hu hret
      revert X; k_fill; intro X
      have S : Sp h₀ L s.heap (secs d) rest := ⟨news_sub N (fun p hp => List.mem_append_left _ hp), news_sub N (fun p hp => List.mem_append_right _ hp), hr⟩
      have hin := lP_in hbU hbW hc hc2
      have hwb := w_bits hU hW hc hc2
      walk_at "enterS"
      exact hh) g9 L9 h9)
theorem skN : Nonempty skD := ⟨(Classical.choice neWorld, default, default, default, default, default, default, default, default, default, default, default, default, default, default, default, default, default, default, default, default, default, ({} : Around), default, default, default, default, ({} : Shared), default, default, default, default, default)⟩
@[irreducible] noncomputable def skK : skD := @Classical.epsilon skD skN fun d => ¬ skP d.1 d.2.1 d.2.2.1 d.2.2.2.1 d.2.2.2.2.1 d.2.2.2.2.2.1 d.2.2.2.2.2.2.1 d.2.2.2.2.2.2.2.1 d.2.2.2.2.2.2.2.2.1 d.2.2.2.2.2.2.2.2.2.1 d.2.2.2.2.2.2.2.2.2.2.1 d.2.2.2.2.2.2.2.2.2.2.2.1 d.2.2.2.2.2.2.2.2.2.2.2.2.1 d.2.2.2.2.2.2.2.2.2.2.2.2.2.1 d.2.2.2.2.2.2.2.2.2.2.2.2.2.2.1 d.2.2.2.2.2.2.2.2.2.2.2.2.2.2.2.1 d.2.2.2.2.2.2.2.2.2.2.2.2.2.2.2.2.1 d.2.2.2.2.2.2.2.2.2.2.2.2.2.2.2.2.2.1 d.2.2.2.2.2.2.2.2.2.2.2.2.2.2.2.2.2.2.1 d.2.2.2.2.2.2.2.2.2.2.2.2.2.2.2.2.2.2.2.1 d.2.2.2.2.2.2.2.2.2.2.2.2.2.2.2.2.2.2.2.2.1 d.2.2.2.2.2.2.2.2.2.2.2.2.2.2.2.2.2.2.2.2.2.1 d.2.2.2.2.2.2.2.2.2.2.2.2.2.2.2.2.2.2.2.2.2.2.1 d.2.2.2.2.2.2.2.2.2.2.2.2.2.2.2.2.2.2.2.2.2.2.2.1 d.2.2.2.2.2.2.2.2.2.2.2.2.2.2.2.2.2.2.2.2.2.2.2.2.1 d.2.2.2.2.2.2.2.2.2.2.2.2.2.2.2.2.2.2.2.2.2.2.2.2.2.1 d.2.2.2.2.2.2.2.2.2.2.2.2.2.2.2.2.2.2.2.2.2.2.2.2.2.2.1 d.2.2.2.2.2.2.2.2.2.2.2.2.2.2.2.2.2.2.2.2.2.2.2.2.2.2.2.1 d.2.2.2.2.2.2.2.2.2.2.2.2.2.2.2.2.2.2.2.2.2.2.2.2.2.2.2.2.1 d.2.2.2.2.2.2.2.2.2.2.2.2.2.2.2.2.2.2.2.2.2.2.2.2.2.2.2.2.2.1 d.2.2.2.2.2.2.2.2.2.2.2.2.2.2.2.2.2.2.2.2.2.2.2.2.2.2.2.2.2.2.1 d.2.2.2.2.2.2.2.2.2.2.2.2.2.2.2.2.2.2.2.2.2.2.2.2.2.2.2.2.2.2.2.1 d.2.2.2.2.2.2.2.2.2.2.2.2.2.2.2.2.2.2.2.2.2.2.2.2.2.2.2.2.2.2.2.2
@[irreducible] noncomputable def w : World := skK.1
@[irreducible] noncomputable def p0 : Program := skK.2.1
@[irreducible] noncomputable def loose : List PySem.Str := skK.2.2.1
@[irreducible] noncomputable def mean : ExcName → Option Value := skK.2.2.2.1
@[irreducible] noncomputable def mg : PySem.Str → Option Value := skK.2.2.2.2.1
@[irreducible] noncomputable def mb : PySem.Str → Option Value := skK.2.2.2.2.2.1
@[irreducible] noncomputable def U : Nat := skK.2.2.2.2.2.2.1
@[irreducible] noncomputable def W : Nat := skK.2.2.2.2.2.2.2.1
@[irreducible] noncomputable def c : Nat := skK.2.2.2.2.2.2.2.2.1
@[irreducible] noncomputable def tU : Tok := skK.2.2.2.2.2.2.2.2.2.1
@[irreducible] noncomputable def tW : Tok := skK.2.2.2.2.2.2.2.2.2.2.1
@[irreducible] noncomputable def tc : Tok := skK.2.2.2.2.2.2.2.2.2.2.2.1
@[irreducible] noncomputable def rest : List (Addr × Obj) := skK.2.2.2.2.2.2.2.2.2.2.2.2.1
@[irreducible] noncomputable def dp : Nat := skK.2.2.2.2.2.2.2.2.2.2.2.2.2.1
@[irreducible] noncomputable def un : Nat := skK.2.2.2.2.2.2.2.2.2.2.2.2.2.2.1
@[irreducible] noncomputable def gd : Option (List Code) := skK.2.2.2.2.2.2.2.2.2.2.2.2.2.2.2.1
@[irreducible] noncomputable def cn : PySem.Str := skK.2.2.2.2.2.2.2.2.2.2.2.2.2.2.2.2.1
@[irreducible] noncomputable def cs : Scope := skK.2.2.2.2.2.2.2.2.2.2.2.2.2.2.2.2.2.1
@[irreducible] noncomputable def a' : Addr := skK.2.2.2.2.2.2.2.2.2.2.2.2.2.2.2.2.2.2.1
@[irreducible] noncomputable def ccd : Value := skK.2.2.2.2.2.2.2.2.2.2.2.2.2.2.2.2.2.2.2.1
@[irreducible] noncomputable def cl : List (PySem.Str × Addr) := skK.2.2.2.2.2.2.2.2.2.2.2.2.2.2.2.2.2.2.2.2.1
@[irreducible] noncomputable def outer : List Env := skK.2.2.2.2.2.2.2.2.2.2.2.2.2.2.2.2.2.2.2.2.2.1
@[irreducible] noncomputable def A₀ : Around := skK.2.2.2.2.2.2.2.2.2.2.2.2.2.2.2.2.2.2.2.2.2.2.1
@[irreducible] noncomputable def base : Heap := skK.2.2.2.2.2.2.2.2.2.2.2.2.2.2.2.2.2.2.2.2.2.2.2.1
@[irreducible] noncomputable def h₀ : Heap := skK.2.2.2.2.2.2.2.2.2.2.2.2.2.2.2.2.2.2.2.2.2.2.2.2.1
@[irreducible] noncomputable def L : Addr := skK.2.2.2.2.2.2.2.2.2.2.2.2.2.2.2.2.2.2.2.2.2.2.2.2.2.1
@[irreducible] noncomputable def m : PySem.Str → Option Value := skK.2.2.2.2.2.2.2.2.2.2.2.2.2.2.2.2.2.2.2.2.2.2.2.2.2.2.1
@[irreducible] noncomputable def s : Shared := skK.2.2.2.2.2.2.2.2.2.2.2.2.2.2.2.2.2.2.2.2.2.2.2.2.2.2.2.1
@[irreducible] noncomputable def Q : Value → Shared → Prop := skK.2.2.2.2.2.2.2.2.2.2.2.2.2.2.2.2.2.2.2.2.2.2.2.2.2.2.2.2.1
@[irreducible] noncomputable def E : Value → Shared → Prop := skK.2.2.2.2.2.2.2.2.2.2.2.2.2.2.2.2.2.2.2.2.2.2.2.2.2.2.2.2.2.1
@[irreducible] noncomputable def g9 : Heap := skK.2.2.2.2.2.2.2.2.2.2.2.2.2.2.2.2.2.2.2.2.2.2.2.2.2.2.2.2.2.2.1
@[irreducible] noncomputable def L9 : Addr := skK.2.2.2.2.2.2.2.2.2.2.2.2.2.2.2.2.2.2.2.2.2.2.2.2.2.2.2.2.2.2.2.1
@[irreducible] noncomputable def h9 : Heap := skK.2.2.2.2.2.2.2.2.2.2.2.2.2.2.2.2.2.2.2.2.2.2.2.2.2.2.2.2.2.2.2.2
theorem skAll (hb : skP w p0 loose mean mg mb U W c tU tW tc rest dp un gd cn cs a' ccd cl outer A₀ base h₀ L m s Q E g9 L9 h9) : ∀ (y0 : World) (y1 : Program) (y2 : List PySem.Str) (y3 : ExcName → Option Value) (y4 : PySem.Str → Option Value) (y5 : PySem.Str → Option Value) (y6 : Nat) (y7 : Nat) (y8 : Nat) (y9 : Tok) (y10 : Tok) (y11 : Tok) (y12 : List (Addr × Obj)) (y13 : Nat) (y14 : Nat) (y15 : Option (List Code)) (y16 : PySem.Str) (y17 : Scope) (y18 : Addr) (y19 : Value) (y20 : List (PySem.Str × Addr)) (y21 : List Env) (y22 : Around) (y23 : Heap) (y24 : Heap) (y25 : Addr) (y26 : PySem.Str → Option Value) (y27 : Shared) (y28 : Value → Shared → Prop) (y29 : Value → Shared → Prop) (y30 : Heap) (y31 : Addr) (y32 : Heap), skP y0 y1 y2 y3 y4 y5 y6 y7 y8 y9 y10 y11 y12 y13 y14 y15 y16 y17 y18 y19 y20 y21 y22 y23 y24 y25 y26 y27 y28 y29 y30 y31 y32 := by
  intro y0 y1 y2 y3 y4 y5 y6 y7 y8 y9 y10 y11 y12 y13 y14 y15 y16 y17 y18 y19 y20 y21 y22 y23 y24 y25 y26 y27 y28 y29 y30 y31 y32
  refine Classical.byContradiction fun hn => ?_
  have h1 := @Classical.epsilon_spec skD (fun d => ¬ skP d.1 d.2.1 d.2.2.1 d.2.2.2.1 d.2.2.2.2.1 d.2.2.2.2.2.1 d.2.2.2.2.2.2.1 d.2.2.2.2.2.2.2.1 d.2.2.2.2.2.2.2.2.1 d.2.2.2.2.2.2.2.2.2.1 d.2.2.2.2.2.2.2.2.2.2.1 d.2.2.2.2.2.2.2.2.2.2.2.1 d.2.2.2.2.2.2.2.2.2.2.2.2.1 d.2.2.2.2.2.2.2.2.2.2.2.2.2.1 d.2.2.2.2.2.2.2.2.2.2.2.2.2.2.1 d.2.2.2.2.2.2.2.2.2.2.2.2.2.2.2.1 d.2.2.2.2.2.2.2.2.2.2.2.2.2.2.2.2.1 d.2.2.2.2.2.2.2.2.2.2.2.2.2.2.2.2.2.1 d.2.2.2.2.2.2.2.2.2.2.2.2.2.2.2.2.2.2.1 d.2.2.2.2.2.2.2.2.2.2.2.2.2.2.2.2.2.2.2.1 d.2.2.2.2.2.2.2.2.2.2.2.2.2.2.2.2.2.2.2.2.1 d.2.2.2.2.2.2.2.2.2.2.2.2.2.2.2.2.2.2.2.2.2.1 d.2.2.2.2.2.2.2.2.2.2.2.2.2.2.2.2.2.2.2.2.2.2.1 d.2.2.2.2.2.2.2.2.2.2.2.2.2.2.2.2.2.2.2.2.2.2.2.1 d.2.2.2.2.2.2.2.2.2.2.2.2.2.2.2.2.2.2.2.2.2.2.2.2.1 d.2.2.2.2.2.2.2.2.2.2.2.2.2.2.2.2.2.2.2.2.2.2.2.2.2.1 d.2.2.2.2.2.2.2.2.2.2.2.2.2.2.2.2.2.2.2.2.2.2.2.2.2.2.1 d.2.2.2.2.2.2.2.2.2.2.2.2.2.2.2.2.2.2.2.2.2.2.2.2.2.2.2.1 d.2.2.2.2.2.2.2.2.2.2.2.2.2.2.2.2.2.2.2.2.2.2.2.2.2.2.2.2.1 d.2.2.2.2.2.2.2.2.2.2.2.2.2.2.2.2.2.2.2.2.2.2.2.2.2.2.2.2.2.1 d.2.2.2.2.2.2.2.2.2.2.2.2.2.2.2.2.2.2.2.2.2.2.2.2.2.2.2.2.2.2.1 d.2.2.2.2.2.2.2.2.2.2.2.2.2.2.2.2.2.2.2.2.2.2.2.2.2.2.2.2.2.2.2.1 d.2.2.2.2.2.2.2.2.2.2.2.2.2.2.2.2.2.2.2.2.2.2.2.2.2.2.2.2.2.2.2.2) ⟨(y0, y1, y2, y3, y4, y5, y6, y7, y8, y9, y10, y11, y12, y13, y14, y15, y16, y17, y18, y19, y20, y21, y22, y23, y24, y25, y26, y27, y28, y29, y30, y31, y32), hn⟩
  delta w p0 loose mean mg mb U W c tU tW tc rest dp un gd cn cs a' ccd cl outer A₀ base h₀ L m s Q E g9 L9 h9 at hb
  delta skK at hb
  exact h1 hb
theorem skBody : skP w p0 loose mean mg mb U W c tU tW tc rest dp un gd cn cs a' ccd cl outer A₀ base h₀ L m s Q E g9 L9 h9 := by
  unfold skP CtrTG premOf3
  intro d hd hU hW hc hc2 hbU hbW h1 hr
  intro B F X N T hk hdp hu hret
  revert X; k_fill; intro X
  have S : Sp h₀ L s.heap (secs d) rest := ⟨news_sub N (fun p hp => List.mem_append_left _ hp), news_sub N (fun p hp => List.mem_append_right _ hp), hr⟩
  have hin := lP_in hbU hbW hc hc2
  have hwb := w_bits hU hW hc hc2
  k_with "now" => have kNow14 : True := trivial
  k_with "toks" => ((fail_if_success (fail_if_success (k_extra "now"; clear kNow14))); first | k_fold | (refine genToks ?_; intro tk9 htk9; (try dsimp only at htk9)) | ((with_reducible refine execsT ?_); (try dsimp only)))
  intro FG' F' N' B' X' T' l1 l2 l3
  (try k_lt l1); (try dsimp only); (try k_fold)
  k_steps
  refine Stop.go ?_
  k_dflt (refine' CtrT.use ?B1 ?F1 ?X1 ?N1 ?T1 ?k1 ?d1 ?u1 (c_round16 U W c _ _ _ _ _ d [] hd hU hW hc hc2 hbU hbW h1 (fun _ h => nomatch h)) ?_)
  case B1 => k_asm
  case F1 => k_asm
  case X1 => k_asm
  case N1 => (refine news_sub (by k_asm) ?_; intro p hp; first | exact List.mem_append_left _ (by simpa using hp) | simpa using hp)
  case T1 => k_asm
  case k1 => first | exact rfl | assumption
  case d1 => ktr_room
  case u1 => ktr_units
  intro B1 v1 h1 tk1 n1 hB1 hL1 R1 hle1 F1 N1
  obtain ⟨D1, c1, oc1, c2, oc2, t1, u1, e1, e2, hs1, g1, g2, g3, g4, g5, g6, g7⟩ := R1
  subst e1; subst e2
  dsimp only [secs, sec52, sec59, List.cons_append, List.nil_append] at N1
  clear hB1
  k_sweep
  try k_fold
  k_steps
  refine Stop.go ?_
  k_dflt (refine' CtrT.use ?B2 ?F2 ?X2 ?N2 ?T2 ?k2 ?d2 ?u2 (c_apTN (lN U W c) _ _ hwb) ?_)
  case B2 => k_asm
  case F2 => k_asm
  case X2 => k_asm
  case N2 => k_asm
  case T2 => k_asm
  case k2 => first | exact rfl | assumption
  case d2 => ktr_room
  case u2 => ktr_units
  intro B2 v2 h2 tk2 n2 hB2 hL2 R2 hle2 F2 N2
  obtain ⟨e1, t2, e2, g8, g9⟩ := R2
  subst e1; subst e2
  clear hB2
  k_sweep
  try k_fold
  k_steps
  refine Stop.go ?_
  k_dflt (refine' CtrT.use ?B3 ?F3 ?X3 ?N3 ?T3 ?k3 ?d3 ?u3 (c_apTP (lN U W c) _ _ hwb) ?_)
  case B3 => k_asm
  case F3 => k_asm
  case X3 => k_asm
  case N3 => k_asm
  case T3 => k_asm
  case k3 => first | exact rfl | assumption
  case d3 => ktr_room
  case u3 => ktr_units
  intro B3 v3 h3 tk3 n3 hB3 hL3 R3 hle3 F3 N3
  obtain ⟨e1, t3, e2, _, _⟩ := R3
  subst e1; subst e2
  clear hB3
  k_sweep
  try k_fold
  k_steps
  all_goals try (rename ((_ != _) = true) => hf; exact absurd hf (by simp))
  refine Stop.go ?_
  k_dflt (refine' Ctr.use ?B4 ?F4 ?X4 ?N4 ?T4 ?k4 ?d4 ?u4 (c_hintW U W c _ _ hU hW hc hc2) ?_)
  case B4 => k_asm
  case F4 => k_asm
  case X4 => k_asm
  case N4 => k_asm
  case T4 => k_asm
  case k4 => first | exact rfl | assumption
  case d4 => ktr_room
  case u4 => ktr_units
  walk_at "retInt"
  k_steps
  all_goals try (rename (_ ≠ _) => hf; exact absurd rfl hf)
  refine Stop.go ?_
  k_dflt (refine' Ctr.use ?B5 ?F5 ?X5 ?N5 ?T5 ?k5 ?d5 ?u5 (c_worthW U W c _ _ hU hW hc hc2) ?_)
  case B5 => k_asm
  case F5 => k_asm
  case X5 => k_asm
  case N5 => k_asm
  case T5 => k_asm
  case k5 => first | exact rfl | assumption
  case d5 => ktr_room
  case u5 => ktr_units
  walk_at "retInt"
  k_steps
  all_goals try (rename (_ ≠ _) => hf; exact absurd rfl hf)
  (rename News _ _ _ (_ :: _) => hN9)
  refine hret _ _ _ _ ⟨_, c1, oc1, c2, oc2, _, _, rfl, rfl, hs1, leN (by lia), neN (by lia), neN (by lia), g4.imp_left (fun h => Nat.le_trans (leN (by lia)) h), g5.imp_left (fun h => Nat.le_trans (leN (by lia)) h), ?tka, ?tkb, ?tkc, ?tkd⟩ (by assumption) (news_app (news_sub hN9 (by dsimp only [sec52, sec59, secs, List.cons_append, List.nil_append]; walk_at "allIn")) (by assumption))
  all_goals walk_at "tkom"
end sk_c_lettered
section
variable {w : World} {p0 : Program} {loose : List Str} {mean : ExcName → Option Value} {mg mb : Str → Option Value}
theorem c_lettered (U W c : Nat) (tU tW tc : Tok) (d : Option ((Addr × Obj) × (Addr × Obj))) (rest : List (Addr × Obj)) (hd : secsOk d)
   (hU : 0 < U) (hW : 0 < W) (hc : 1 ≤ c) (hc2 : c ≤ 12) (hbU : BL U ≤ 16000) (hbW : BL W ≤ 16000) (h1 : 2 ≤ c ∨ 1 < U) (hr : ∀ q ∈ rest, ∀ p ∈ secs d, q.1 ≠ p.1) :
    CtrT w p0 loose mean mg mb 280 3600 149 [.int U tU, .int W tW, .int c tc] (secs d ++ rest) (RWord U W c d rest) := by
  intro dp un gd cn cs a' ccd cl outer A₀ base h₀ L m s Q E
  intro B F X N T hk hdp hu hret
  have X0 := X
  revert X; k_fill; intro X
  have S : Sp h₀ L s.heap (secs d) rest := ⟨news_sub N (fun p hp => List.mem_append_left _ hp), news_sub N (fun p hp => List.mem_append_right _ hp), hr⟩
  have hin := lP_in hbU hbW hc hc2
  have hwb := w_bits hU hW hc hc2
  walk_at "enterS"
  intro g9 L9 h9
  exact sk_c_lettered.skAll sk_c_lettered.skBody w p0 loose mean mg mb U W c tU tW tc rest dp un gd cn cs a' ccd cl outer A₀ base h₀ L m s Q E g9 L9 h9 d hd hU hW hc hc2 hbU hbW h1 hr B F X0 N T hk hdp hu hret

end
end
example {prog : Program} {w : World} {A : Around} {env : Env} {Q : Flow → Shared → Prop} {E : Value → Shared → Prop} {s : Shared} (h : wpAny (model prog w) A (execs [] env) Q E s) : wpAny (model prog w) A (execs [] env) Q E s := by ((k_with "now" => have kReset : True := trivial); (k_with "piece" => have kP_C11 : True := trivial); w_top off; first | (walk1; fail) | exact h)
section
section
variable {w : World} {p0 : Program} {loose : List Str} {mean : ExcName → Option Value} {mg mb : Str → Option Value}
/-- the contract of a call that may draw by lot -/
def CtrD (w : World) (p : Program) (loose : List Str) (mean : ExcName → Option Value) (mg mb : Str → Option Value) (d u : Nat) (f : Addr) (vs : List Value) (news : List (Addr × Obj)) (R : Nat → Value → List (Addr × Obj) → Prop) : Prop :=
  ∀ (dp un : Nat) (gd : Option (List Code)) (cn : Str) (cs : Scope) (a : Addr) (ccd : Value) (cl : List (Str × Addr)) (outer : List Env) (A₀ : Around) (base h₀ : Heap) (L : Addr) (m : Str → Option Value) (s : Shared) (Q E : Value → Shared → Prop),
    Below A₀ base outer h₀ → Fr h₀ L s.heap m → (Mine.hd.heap_1 w.params).In h₀ → News h₀ L s.heap news → Top p loose mean mg mb h₀ → cs.kind = .function →
    dp + d < recursionLimit → un + u < cLine →
    (∀ v h' tk' dr' news', R s.heap.objs.size v news' → Fr h₀ L h' m → News h₀ L h' news' → Q v { s with heap := h', toks := tk', drawn := dr' }) →
    wpAny (model PySem.Challenge.rw_xi0020_01.prog w) (ktrTop dp un gd cn cs L a ccd cl outer) (call (.ref f) vs) Q E s
def CtrDAt (w : World) (p : Program) (loose : List Str) (mean : ExcName → Option Value) (mg mb : Str → Option Value) (d u : Nat) (f : Addr) (vs : List Value) (news : List (Addr × Obj)) (R : Nat → Value → List (Addr × Obj) → Prop) (dp un : Nat) (gd : Option (List Code)) (cn : Str) (cs : Scope) (a : Addr) (ccd : Value) (cl : List (Str × Addr)) (outer : List Env) (A₀ : Around) (base h₀ : Heap) (L : Addr) (m : Str → Option Value) (s : Shared) (Q E : Value → Shared → Prop) : Prop :=
    Below A₀ base outer h₀ → Fr h₀ L s.heap m → (Mine.hd.heap_1 w.params).In h₀ → News h₀ L s.heap news → Top p loose mean mg mb h₀ → cs.kind = .function →
    dp + d < recursionLimit → un + u < cLine →
    (∀ v h' tk' dr' news', R s.heap.objs.size v news' → Fr h₀ L h' m → News h₀ L h' news' → Q v { s with heap := h', toks := tk', drawn := dr' }) →
    wpAny (model PySem.Challenge.rw_xi0020_01.prog w) (ktrTop dp un gd cn cs L a ccd cl outer) (call (.ref f) vs) Q E s
def CtrDG (w : World) (p : Program) (loose : List Str) (mean : ExcName → Option Value) (mg mb : Str → Option Value) (d u : Nat) (f : Addr) (vs : List Value) (news : List (Addr × Obj)) (R : Nat → Value → List (Addr × Obj) → Prop) (dp un : Nat) (gd : Option (List Code)) (cn : Str) (cs : Scope) (a : Addr) (ccd : Value) (cl : List (Str × Addr)) (outer : List Env) (A₀ : Around) (base h₀ : Heap) (L : Addr) (m : Str → Option Value) (s : Shared) (Q E : Value → Shared → Prop) (G : Prop) : Prop :=
    Below A₀ base outer h₀ → Fr h₀ L s.heap m → (Mine.hd.heap_1 w.params).In h₀ → News h₀ L s.heap news → Top p loose mean mg mb h₀ → cs.kind = .function →
    dp + d < recursionLimit → un + u < cLine →
    (∀ v h' tk' dr' news', R s.heap.objs.size v news' → Fr h₀ L h' m → News h₀ L h' news' → Q v { s with heap := h', toks := tk', drawn := dr' }) →
    G
theorem IsSet.weak {w : World} {o : Obj} {xs : List Nat} {b : Bool} (h : IsSet w o xs b) : IsSet w o xs false := by
  obtain ⟨hex, es, ep, t, hd, hb⟩ := h
  exact ⟨hex, es, ep, t, hd, hb.1, hb.2.1, hb.2.2.1, hb.2.2.2.1, (fun h => nomatch h), hb.2.2.2.2.2⟩
theorem stopW {P : Prop} (h : Stop P) : P := h
structure CpS where
  oW : Obj
  oS : Obj
  oN : Obj
  xs : List Nat
  ss : List Nat
  ns : List Nat
def cpLed (dW dN dS : Addr) (c : CpS) : List (Addr × Obj) := [(dW, c.oW), (dN, c.oN), (dS, c.oS)]
structure CpP (w : World) (W : Nat) (c : CpS) : Prop where
  hW : IsSet w c.oW c.xs false
  hS : IsSet w c.oS c.ss true
  hN : IsSet w c.oN c.ns true
  hI : CpI W c.xs c.ss c.ns
theorem ne_of_isE {xs : List Nat} (h : (!xs.isEmpty) = true) : xs ≠ [] := by intro e; rw [e] at h; simp at h
theorem ne_of_isF {xs : List Nat} (h : xs.isEmpty = false) : xs ≠ [] := by intro e; rw [e] at h; simp at h
theorem len_e {xs : List Nat} {x : Nat} (h : xs.length ≤ 10) : (xs.erase x).length ≤ 1000 := by have := List.length_erase_le (a := x) (l := xs); lia
theorem len_i {xs : List Nat} {x k : Nat} (h : xs.length ≤ 10) : (ins k (xs.erase x)).length ≤ 1000 := by
  have := List.length_erase_le (a := x) (l := xs)
  have := ins_len k (xs.erase x)
  lia
theorem ints1 {vs : List Value} {a : Int} (h : IntsAre vs [a]) : ∃ t, vs = [.int a t] := by
  cases h with | cons _ t h => cases h; exact ⟨t, rfl⟩
theorem ints2 {vs : List Value} {a b : Int} (h : IntsAre vs [a, b]) : ∃ t u, vs = [.int a t, .int b u] := by
  cases h with | cons _ t h => obtain ⟨u, rfl⟩ := ints1 h; exact ⟨t, u, rfl⟩
theorem ints3 {vs : List Value} {a b c : Int} (h : IntsAre vs [a, b, c]) : ∃ t u v, vs = [.int a t, .int b u, .int c v] := by
  cases h with | cons _ t h => obtain ⟨u, v, rfl⟩ := ints2 h; exact ⟨t, u, v, rfl⟩
theorem band1 (x : Nat) : Builtin.bitAnd (x : Int) 1 = ((x % 2 : Nat) : Int) := by
  rw [PyProof.Rows.bitAnd_pp (by lia) (by lia), Int.toNat_natCast]
  show ((x &&& 1 : Nat) : Int) = _
  rw [Nat.and_one_is_mod]
theorem rshift_half {prog : Program} {w : World} {A : Around} {E : Value → Shared → Prop} {s : Shared} {t u : Tok} {X Y : Int} {Q : Value → Shared → Prop} (x y : Nat) (eX : X = (x : Int)) (eY : Y = 1) (e : y = x / 2) (h : ∀ t k, Q (.int ((y : Nat) : Int) t) { s with toks := k }) : wpAny (model prog w) A (binaryOp .RShift (.int X t) (.int Y u)) Q E s := by
  subst e
  exact rshift_nat x 1 eX eY h
def PowOk (w : World) (o : Obj) (W : Nat) : Prop := ∃ kvs T, o.IsDictOf (PySem.intKind PySem.Challenge.rw_xi0020_01.prog w) kvs ∧ PyProof.V.FlatPairs PyData.int kvs T ∧ ∀ n, Need W n → PySem.Spec.lookup (PyData.int (n : Int)) T = some (PyData.int ((5 ^ n : Nat) : Int))
theorem lookup_put (k n : Int) (dv : PyData) (D : List (PyData × PyData)) : PySem.Spec.lookup (PyData.int k) (PyProof.V.putD (PyData.int n) dv D) = if k = n then some dv else PySem.Spec.lookup (PyData.int k) D :=
  PyProof.Rows.lookup_putK PyProof.V.keyEnc_int k n dv D
theorem pow_odd {h a : Nat} (e : a = 2 * h + 1) : ((5 ^ h * 5 ^ h : Nat) : Int) * 5 = ((5 ^ a : Nat) : Int) := by
  have : 5 ^ a = 5 ^ h * 5 ^ h * 5 := by rw [e, Nat.pow_succ, Nat.two_mul, Nat.pow_add]
  rw [this]; push_cast; rfl
theorem pow_even {h a : Nat} (e : a = 2 * h) : ((5 ^ h * 5 ^ h : Nat) : Int) = ((5 ^ a : Nat) : Int) := by
  have : 5 ^ a = 5 ^ h * 5 ^ h := by rw [e, Nat.two_mul, Nat.pow_add]
  rw [this]
theorem look1 {a n : Nat} (hm : (n : Int) ∈ [(a : Int)]) : PySem.Spec.lookup (PyData.int (n : Int)) (PyProof.V.putD (PyData.int (a : Int)) (PyData.int ((5 ^ a : Nat) : Int)) []) = some (PyData.int ((5 ^ n : Nat) : Int)) := by
  have e : n = a := by simp at hm; lia
  rw [lookup_put, e, if_pos rfl]
theorem look2 {h a n : Nat} {v : Int} (hm : (n : Int) ∈ [(h : Int), (a : Int)]) (hv : v = ((5 ^ a : Nat) : Int)) : PySem.Spec.lookup (PyData.int (n : Int)) (PyProof.V.putD (PyData.int (a : Int)) (PyData.int v) (PyProof.V.putD (PyData.int (h : Int)) (PyData.int ((5 ^ h : Nat) : Int)) [])) = some (PyData.int ((5 ^ n : Nat) : Int)) := by
  rw [lookup_put, lookup_put]
  by_cases e : (n : Int) = a
  · rw [if_pos e, hv, Int.ofNat.inj e]
  · rw [if_neg e]
    have e2 : n = h := by
      simp only [List.mem_cons, List.not_mem_nil, or_false] at hm
      lia
    rw [e2, if_pos rfl]
theorem look3 {h h1 a n : Nat} {u v : Int} (hm : (n : Int) ∈ [(h : Int), (h1 : Int), (a : Int)]) (hu : u = ((5 ^ h1 : Nat) : Int)) (hv : v = ((5 ^ a : Nat) : Int)) : PySem.Spec.lookup (PyData.int (n : Int)) (PyProof.V.putD (PyData.int (a : Int)) (PyData.int v) (PyProof.V.putD (PyData.int (h1 : Int)) (PyData.int u) (PyProof.V.putD (PyData.int (h : Int)) (PyData.int ((5 ^ h : Nat) : Int)) []))) = some (PyData.int ((5 ^ n : Nat) : Int)) := by
  rw [lookup_put]
  by_cases e : (n : Int) = a
  · rw [if_pos e, hv, Int.ofNat.inj e]
  · rw [if_neg e]
    refine look2 ?_ hu
    simp only [List.mem_cons, List.not_mem_nil, or_false] at hm ⊢
    lia
end
namespace sk_c_cp0
abbrev skD : Type := (World) × (Program) × (List PySem.Str) × (ExcName → Option Value) × (PySem.Str → Option Value) × (PySem.Str → Option Value) × (Nat) × (Tok) × (Tok) × (Tok) × (List (Addr × Obj)) × (Nat) × (Nat) × (Option (List Code)) × (PySem.Str) × (Scope) × (Addr) × (Value) × (List (PySem.Str × Addr)) × (List Env) × (Around) × (Heap) × (Heap) × (Addr) × (PySem.Str → Option Value) × (Shared) × (Value → Shared → Prop) × (Value → Shared → Prop) × (Heap) × (Addr) × (Heap)
def skP (w : World) (p0 : Program) (loose : List PySem.Str) (mean : ExcName → Option Value) (mg : PySem.Str → Option Value) (mb : PySem.Str → Option Value) (W : Nat) (tw : Tok) (t5 : Tok) (tm : Tok) (news : List (Addr × Obj)) (dp : Nat) (un : Nat) (gd : Option (List Code)) (cn : PySem.Str) (cs : Scope) (a' : Addr) (ccd : Value) (cl : List (PySem.Str × Addr)) (outer : List Env) (A₀ : Around) (base : Heap) (h₀ : Heap) (L : Addr) (m : PySem.Str → Option Value) (s : Shared) (Q : Value → Shared → Prop) (E : Value → Shared → Prop) (g9 : Heap) (L9 : Addr) (h9 : Heap) : Prop := ∀ (hW : W ≤ 8000),
    CtrDG w p0 loose mean mg mb 10 100 22 [.int W tw, .int 5 t5, .int 2048 tm] news (fun B v n' => ∃ D o, v = .ref D ∧ n' = (D, o) :: news ∧ @LE.le Nat _ B D ∧ (D == sysModules) = false ∧ (2048 < W → PowOk w o W)) dp un gd cn cs a' ccd cl outer A₀ base h₀ L m s Q E (premOf3 (B := CtrDAt w p0 loose mean mg mb 10 100 22 [.int W tw, .int 5 t5, .int 2048 tm] news (fun B v n' => ∃ D o, v = .ref D ∧ n' = (D, o) :: news ∧ @LE.le Nat _ B D ∧ (D == sysModules) = false ∧ (2048 < W → PowOk w o W)) dp un gd cn cs a' ccd cl outer A₀ base h₀ L m s Q E) (by
      intro hh
      unfold CtrDAt
      intro B F X N T hk hdp hu hret
      revert X; k_fill; intro X
      have S := Sp.none N
      walk_at "enterDS"
      exact hh) g9 L9 h9)
theorem skN : Nonempty skD := ⟨(Classical.choice neWorld, default, default, default, default, default, default, default, default, default, default, default, default, default, default, default, default, default, default, default, ({} : Around), default, default, default, default, ({} : Shared), default, default, default, default, default)⟩
@[irreducible] noncomputable def skK : skD := @Classical.epsilon skD skN fun d => ¬ skP d.1 d.2.1 d.2.2.1 d.2.2.2.1 d.2.2.2.2.1 d.2.2.2.2.2.1 d.2.2.2.2.2.2.1 d.2.2.2.2.2.2.2.1 d.2.2.2.2.2.2.2.2.1 d.2.2.2.2.2.2.2.2.2.1 d.2.2.2.2.2.2.2.2.2.2.1 d.2.2.2.2.2.2.2.2.2.2.2.1 d.2.2.2.2.2.2.2.2.2.2.2.2.1 d.2.2.2.2.2.2.2.2.2.2.2.2.2.1 d.2.2.2.2.2.2.2.2.2.2.2.2.2.2.1 d.2.2.2.2.2.2.2.2.2.2.2.2.2.2.2.1 d.2.2.2.2.2.2.2.2.2.2.2.2.2.2.2.2.1 d.2.2.2.2.2.2.2.2.2.2.2.2.2.2.2.2.2.1 d.2.2.2.2.2.2.2.2.2.2.2.2.2.2.2.2.2.2.1 d.2.2.2.2.2.2.2.2.2.2.2.2.2.2.2.2.2.2.2.1 d.2.2.2.2.2.2.2.2.2.2.2.2.2.2.2.2.2.2.2.2.1 d.2.2.2.2.2.2.2.2.2.2.2.2.2.2.2.2.2.2.2.2.2.1 d.2.2.2.2.2.2.2.2.2.2.2.2.2.2.2.2.2.2.2.2.2.2.1 d.2.2.2.2.2.2.2.2.2.2.2.2.2.2.2.2.2.2.2.2.2.2.2.1 d.2.2.2.2.2.2.2.2.2.2.2.2.2.2.2.2.2.2.2.2.2.2.2.2.1 d.2.2.2.2.2.2.2.2.2.2.2.2.2.2.2.2.2.2.2.2.2.2.2.2.2.1 d.2.2.2.2.2.2.2.2.2.2.2.2.2.2.2.2.2.2.2.2.2.2.2.2.2.2.1 d.2.2.2.2.2.2.2.2.2.2.2.2.2.2.2.2.2.2.2.2.2.2.2.2.2.2.2.1 d.2.2.2.2.2.2.2.2.2.2.2.2.2.2.2.2.2.2.2.2.2.2.2.2.2.2.2.2.1 d.2.2.2.2.2.2.2.2.2.2.2.2.2.2.2.2.2.2.2.2.2.2.2.2.2.2.2.2.2.1 d.2.2.2.2.2.2.2.2.2.2.2.2.2.2.2.2.2.2.2.2.2.2.2.2.2.2.2.2.2.2
@[irreducible] noncomputable def w : World := skK.1
@[irreducible] noncomputable def p0 : Program := skK.2.1
@[irreducible] noncomputable def loose : List PySem.Str := skK.2.2.1
@[irreducible] noncomputable def mean : ExcName → Option Value := skK.2.2.2.1
@[irreducible] noncomputable def mg : PySem.Str → Option Value := skK.2.2.2.2.1
@[irreducible] noncomputable def mb : PySem.Str → Option Value := skK.2.2.2.2.2.1
@[irreducible] noncomputable def W : Nat := skK.2.2.2.2.2.2.1
@[irreducible] noncomputable def tw : Tok := skK.2.2.2.2.2.2.2.1
@[irreducible] noncomputable def t5 : Tok := skK.2.2.2.2.2.2.2.2.1
@[irreducible] noncomputable def tm : Tok := skK.2.2.2.2.2.2.2.2.2.1
@[irreducible] noncomputable def news : List (Addr × Obj) := skK.2.2.2.2.2.2.2.2.2.2.1
@[irreducible] noncomputable def dp : Nat := skK.2.2.2.2.2.2.2.2.2.2.2.1
@[irreducible] noncomputable def un : Nat := skK.2.2.2.2.2.2.2.2.2.2.2.2.1
@[irreducible] noncomputable def gd : Option (List Code) := skK.2.2.2.2.2.2.2.2.2.2.2.2.2.1
@[irreducible] noncomputable def cn : PySem.Str := skK.2.2.2.2.2.2.2.2.2.2.2.2.2.2.1
@[irreducible] noncomputable def cs : Scope := skK.2.2.2.2.2.2.2.2.2.2.2.2.2.2.2.1
@[irreducible] noncomputable def a' : Addr := skK.2.2.2.2.2.2.2.2.2.2.2.2.2.2.2.2.1
@[irreducible] noncomputable def ccd : Value := skK.2.2.2.2.2.2.2.2.2.2.2.2.2.2.2.2.2.1
@[irreducible] noncomputable def cl : List (PySem.Str × Addr) := skK.2.2.2.2.2.2.2.2.2.2.2.2.2.2.2.2.2.2.1
@[irreducible] noncomputable def outer : List Env := skK.2.2.2.2.2.2.2.2.2.2.2.2.2.2.2.2.2.2.2.1
@[irreducible] noncomputable def A₀ : Around := skK.2.2.2.2.2.2.2.2.2.2.2.2.2.2.2.2.2.2.2.2.1
@[irreducible] noncomputable def base : Heap := skK.2.2.2.2.2.2.2.2.2.2.2.2.2.2.2.2.2.2.2.2.2.1
@[irreducible] noncomputable def h₀ : Heap := skK.2.2.2.2.2.2.2.2.2.2.2.2.2.2.2.2.2.2.2.2.2.2.1
@[irreducible] noncomputable def L : Addr := skK.2.2.2.2.2.2.2.2.2.2.2.2.2.2.2.2.2.2.2.2.2.2.2.1
@[irreducible] noncomputable def m : PySem.Str → Option Value := skK.2.2.2.2.2.2.2.2.2.2.2.2.2.2.2.2.2.2.2.2.2.2.2.2.1
@[irreducible] noncomputable def s : Shared := skK.2.2.2.2.2.2.2.2.2.2.2.2.2.2.2.2.2.2.2.2.2.2.2.2.2.1
@[irreducible] noncomputable def Q : Value → Shared → Prop := skK.2.2.2.2.2.2.2.2.2.2.2.2.2.2.2.2.2.2.2.2.2.2.2.2.2.2.1
@[irreducible] noncomputable def E : Value → Shared → Prop := skK.2.2.2.2.2.2.2.2.2.2.2.2.2.2.2.2.2.2.2.2.2.2.2.2.2.2.2.1
@[irreducible] noncomputable def g9 : Heap := skK.2.2.2.2.2.2.2.2.2.2.2.2.2.2.2.2.2.2.2.2.2.2.2.2.2.2.2.2.1
@[irreducible] noncomputable def L9 : Addr := skK.2.2.2.2.2.2.2.2.2.2.2.2.2.2.2.2.2.2.2.2.2.2.2.2.2.2.2.2.2.1
@[irreducible] noncomputable def h9 : Heap := skK.2.2.2.2.2.2.2.2.2.2.2.2.2.2.2.2.2.2.2.2.2.2.2.2.2.2.2.2.2.2
theorem skAll (hb : skP w p0 loose mean mg mb W tw t5 tm news dp un gd cn cs a' ccd cl outer A₀ base h₀ L m s Q E g9 L9 h9) : ∀ (y0 : World) (y1 : Program) (y2 : List PySem.Str) (y3 : ExcName → Option Value) (y4 : PySem.Str → Option Value) (y5 : PySem.Str → Option Value) (y6 : Nat) (y7 : Tok) (y8 : Tok) (y9 : Tok) (y10 : List (Addr × Obj)) (y11 : Nat) (y12 : Nat) (y13 : Option (List Code)) (y14 : PySem.Str) (y15 : Scope) (y16 : Addr) (y17 : Value) (y18 : List (PySem.Str × Addr)) (y19 : List Env) (y20 : Around) (y21 : Heap) (y22 : Heap) (y23 : Addr) (y24 : PySem.Str → Option Value) (y25 : Shared) (y26 : Value → Shared → Prop) (y27 : Value → Shared → Prop) (y28 : Heap) (y29 : Addr) (y30 : Heap), skP y0 y1 y2 y3 y4 y5 y6 y7 y8 y9 y10 y11 y12 y13 y14 y15 y16 y17 y18 y19 y20 y21 y22 y23 y24 y25 y26 y27 y28 y29 y30 := by
  intro y0 y1 y2 y3 y4 y5 y6 y7 y8 y9 y10 y11 y12 y13 y14 y15 y16 y17 y18 y19 y20 y21 y22 y23 y24 y25 y26 y27 y28 y29 y30
  refine Classical.byContradiction fun hn => ?_
  have h1 := @Classical.epsilon_spec skD (fun d => ¬ skP d.1 d.2.1 d.2.2.1 d.2.2.2.1 d.2.2.2.2.1 d.2.2.2.2.2.1 d.2.2.2.2.2.2.1 d.2.2.2.2.2.2.2.1 d.2.2.2.2.2.2.2.2.1 d.2.2.2.2.2.2.2.2.2.1 d.2.2.2.2.2.2.2.2.2.2.1 d.2.2.2.2.2.2.2.2.2.2.2.1 d.2.2.2.2.2.2.2.2.2.2.2.2.1 d.2.2.2.2.2.2.2.2.2.2.2.2.2.1 d.2.2.2.2.2.2.2.2.2.2.2.2.2.2.1 d.2.2.2.2.2.2.2.2.2.2.2.2.2.2.2.1 d.2.2.2.2.2.2.2.2.2.2.2.2.2.2.2.2.1 d.2.2.2.2.2.2.2.2.2.2.2.2.2.2.2.2.2.1 d.2.2.2.2.2.2.2.2.2.2.2.2.2.2.2.2.2.2.1 d.2.2.2.2.2.2.2.2.2.2.2.2.2.2.2.2.2.2.2.1 d.2.2.2.2.2.2.2.2.2.2.2.2.2.2.2.2.2.2.2.2.1 d.2.2.2.2.2.2.2.2.2.2.2.2.2.2.2.2.2.2.2.2.2.1 d.2.2.2.2.2.2.2.2.2.2.2.2.2.2.2.2.2.2.2.2.2.2.1 d.2.2.2.2.2.2.2.2.2.2.2.2.2.2.2.2.2.2.2.2.2.2.2.1 d.2.2.2.2.2.2.2.2.2.2.2.2.2.2.2.2.2.2.2.2.2.2.2.2.1 d.2.2.2.2.2.2.2.2.2.2.2.2.2.2.2.2.2.2.2.2.2.2.2.2.2.1 d.2.2.2.2.2.2.2.2.2.2.2.2.2.2.2.2.2.2.2.2.2.2.2.2.2.2.1 d.2.2.2.2.2.2.2.2.2.2.2.2.2.2.2.2.2.2.2.2.2.2.2.2.2.2.2.1 d.2.2.2.2.2.2.2.2.2.2.2.2.2.2.2.2.2.2.2.2.2.2.2.2.2.2.2.2.1 d.2.2.2.2.2.2.2.2.2.2.2.2.2.2.2.2.2.2.2.2.2.2.2.2.2.2.2.2.2.1 d.2.2.2.2.2.2.2.2.2.2.2.2.2.2.2.2.2.2.2.2.2.2.2.2.2.2.2.2.2.2) ⟨(y0, y1, y2, y3, y4, y5, y6, y7, y8, y9, y10, y11, y12, y13, y14, y15, y16, y17, y18, y19, y20, y21, y22, y23, y24, y25, y26, y27, y28, y29, y30), hn⟩
  delta w p0 loose mean mg mb W tw t5 tm news dp un gd cn cs a' ccd cl outer A₀ base h₀ L m s Q E g9 L9 h9 at hb
  delta skK at hb
  exact h1 hb
theorem skBody : skP w p0 loose mean mg mb W tw t5 tm news dp un gd cn cs a' ccd cl outer A₀ base h₀ L m s Q E g9 L9 h9 := by
  unfold skP CtrDG premOf3
  intro hW
  intro B F X N T hk hdp hu hret
  revert X; k_fill; intro X
  have S := Sp.none N
  k_with "now" => have kNow15 : True := trivial
  k_with "ov While" => ((fail_if_success (fail_if_success (k_extra "now"; clear kNow15))); refine stopW ?_)
  k_with "ov Pow" => ((fail_if_success (fail_if_success (k_extra "now"; clear kNow15))); first | (refine pow_nat 5 _ rfl rfl (by decide) (by lia) ?_; intro _ _))
  k_with "ov sorted" => ((fail_if_success (fail_if_success (k_extra "now"; clear kNow15))); refine stopW ?_)
  k_with "ov pyIter" => ((fail_if_success (fail_if_success (k_extra "now"; clear kNow15))); refine stopW ?_)
  k_with "ov ForN" => ((fail_if_success (fail_if_success (k_extra "now"; clear kNow15))); ((rename Fr _ _ _ _ => lF'); (with_unfolding_all refine' For_invVF lF' ?k1 ?k2 ?_; (case k1 => exact rfl); (case k2 => exact rfl); k_whole)))
  k_with "ov RShift" => ((fail_if_success (fail_if_success (k_extra "now"; clear kNow15))); (refine rshift_nat _ 1 rfl rfl ?_; intro _ _))
  intro FG' F' N' B' X' T' l1 l2 l3
  (try k_lt l1); (try dsimp only); (try k_fold)
  k_steps
  (rename Fr _ _ _ _ => lF9)
  (rename News _ _ _ _ => lN9)
  refine Stop.go ?_
  refine' sl_while (cpLed _ _ _) [PySem.Str.ofString "w", PySem.Str.ofString "lo"] (CpP w W) (fun c => cpM c.xs c.ss) ⟨_, _, _, ins W [], [], []⟩ ?kF ?kN ?kP ?_
  case kF => exact lF9
  case kN => exact lN9
  case kP => exact ⟨IsSet.weak (by assumption), (by assumption), (by assumption), cp_start W⟩
  rintro ⟨oW, oS, oN, xs, ss, ns⟩ u h9 tk9 dr9 ⟨h1, h2, h3, hI⟩ F9 N9
  dsimp only [cpLed] at h1 h2 h3 hI N9
  clear lF9 lN9
  have hx1 : xs.length ≤ 10 := by have := hI.i6; lia
  have hx2 : xs.length ≤ 1000 := by lia
  have hs1 : ss.length ≤ 3 := hI.slen
  have hs2 : ss.length ≤ 1000 := by lia
  have hn1 : ns.length ≤ 3 := hI.nlen
  have hn2 : ns.length ≤ 1000 := by lia
  k_with "side" => ((fail_if_success (fail_if_success (k_extra "now"; clear kNow15))); first | exact ne_of_isE (by with_reducible assumption) | exact ne_of_isF (by with_reducible assumption) | exact len_e (by with_reducible assumption) | exact len_i (by with_reducible assumption))
  try k_fold
  k_steps
  · have hxe : xs = [] := List.isEmpty_iff.mp (by assumption)
    subst hxe
    (rename ns.isEmpty = true => hnf)
    (rename News _ _ _ (_ :: _) => hN9)
    exact hret _ _ _ _ _ ⟨_, _, rfl, rfl, leN (by lia), by assumption, fun hgt => absurd (List.isEmpty_iff.mp hnf) (cp_some hI hgt)⟩ (by assumption) (news_app (a := [(_, _)]) (news_sub hN9 (by walk_at "allIn")) (by assumption))
  · have hxe : xs = [] := List.isEmpty_iff.mp (by assumption)
    subst hxe
    have hW1 : 2048 < W := by
      rcases Nat.lt_or_ge 2048 W with h | h
      · exact h
      · have hne := cp_none hI h
        (rename ns.isEmpty = false => hnf)
        rw [hne] at hnf; cases hnf
    refine Stop.go ?_
    k_dflt (refine' is_sorted ?hh ?F ?N ?i ?s ?r ?_)
    case hh => rfl
    case F => k_asm
    case N => k_asm
    case i => k_mem
    case s => assumption
    case r => lia
    intro D1 vsL nsL c1 hh1 tk1 FF1 NN1 l1 hiL hpL hoL
    k_lt l1
    rcases cp_sorted hI hW1 hW hpL hoL with e | e | ⟨ho, e⟩
    · subst e
      obtain ⟨t1, rfl⟩ := ints1 hiL
      k_steps
      refine Stop.go ?_
      (rename LiObj _ _ (0 + 1) => hLi)
      refine' iter_li (k := 1) ?hh ?F ?N ?I hLi ?k ?m ?c ?d ?_
      case hh => rfl
      case F => k_asm
      case N => k_asm
      case I => k_all
      case m => k_mem
      case c => rfl
      case d => rfl
      case k => exact Nat.le_of_ble_eq_true rfl
      dsimp only [List.drop]
      k_steps
      (rename News _ _ _ (_ :: _) => hN9)
      (rename Obj.IsDictOf _ _ _ => hD9)
      (rename PyProof.V.FlatPairs _ _ _ => hP9)
      refine hret _ _ _ _ _ ⟨_, _, rfl, rfl, leN (by lia), by assumption, fun _ => ⟨_, _, hD9, hP9, fun n hn => ?_⟩⟩ (by assumption) (news_app (a := [(_, _)]) (news_sub hN9 (by walk_at "allIn")) (by assumption))
      exact look1 (cp_need hI hW1 hpL n hn)
    · generalize hA : W / 2 = a at e hpL
      generalize hH : a / 2 = hf at e hpL
      subst e
      obtain ⟨t1, u1, rfl⟩ := ints2 hiL
      k_with "ov RShift" => ((fail_if_success (fail_if_success (k_extra "now"; clear kNow15))); (refine rshift_half a hf rfl rfl hH.symm ?_; intro _ _))
      have hb5 : BL (5 ^ hf) ≤ 200000 := by have := bl_pow 5 hf (by lia); lia
      k_with "ov Mult" => ((fail_if_success (fail_if_success (k_extra "now"; clear kNow15))); (refine mul_natB (5 ^ hf) (5 ^ hf) rfl rfl hb5 hb5 ?_; intro _ _))
      k_steps
      refine Stop.go ?_
      (rename LiObj _ _ (0 + 1) => hLi)
      refine' iter_li (k := 1) ?hh ?F ?N ?I hLi ?k ?m ?c ?d ?_
      case hh => rfl
      case F => k_asm
      case N => k_asm
      case I => k_all
      case m => k_mem
      case c => rfl
      case d => rfl
      case k => exact Nat.le_of_ble_eq_true rfl
      dsimp only [List.drop]
      k_steps
      all_goals try (exfalso; lia)
      all_goals (rename News _ _ _ (_ :: _) => hN9)
      all_goals (rename Obj.IsDictOf _ _ _ => hD9)
      all_goals (rename PyProof.V.FlatPairs _ _ _ => hP9)
      all_goals (refine hret _ _ _ _ _ ⟨_, _, rfl, rfl, leN (by lia), by assumption, fun _ => ⟨_, _, hD9, hP9, fun n hn => ?_⟩⟩ (by assumption) (news_app (a := [(_, _)]) (news_sub hN9 (by walk_at "allIn")) (by assumption)))
      · exact look2 (cp_need hI hW1 hpL n hn) (pow_odd (by lia))
      · exact look2 (cp_need hI hW1 hpL n hn) (pow_even (by lia))
    · generalize hA : W / 2 = a at e hpL
      rw [hA] at ho
      generalize hH : a / 2 = hf at e hpL
      subst e
      obtain ⟨t1, u1, v1, rfl⟩ := ints3 hiL
      k_with "ov RShift" => ((fail_if_success (fail_if_success (k_extra "now"; clear kNow15))); (refine rshift_half a hf rfl rfl hH.symm ?_; intro _ _))
      have hb5 : BL (5 ^ hf) ≤ 200000 := by have := bl_pow 5 hf (by lia); lia
      have hb1 : BL 5 ≤ 200000 := Nat.le_trans (bl_le (k := 3).mpr (by decide)) (by decide)
      k_with "ov Mult" => ((fail_if_success (fail_if_success (k_extra "now"; clear kNow15))); first | (refine mul_natB (5 ^ hf) (5 ^ hf) rfl rfl hb5 hb5 ?_; intro _ _) | (refine mul_natB (5 ^ hf) 5 rfl rfl hb5 hb1 ?_; intro _ _))
      k_steps
      refine Stop.go ?_
      (rename LiObj _ _ (0 + 1) => hLi)
      refine' iter_li (k := 1) ?hh ?F ?N ?I hLi ?k ?m ?c ?d ?_
      case hh => rfl
      case F => k_asm
      case N => k_asm
      case I => k_all
      case m => k_mem
      case c => rfl
      case d => rfl
      case k => exact Nat.le_of_ble_eq_true rfl
      dsimp only [List.drop]
      k_steps
      all_goals try (exfalso; lia)
      all_goals (rename News _ _ _ (_ :: _) => hN9)
      all_goals (rename Obj.IsDictOf _ _ _ => hD9)
      all_goals (rename PyProof.V.FlatPairs _ _ _ => hP9)
      all_goals (refine hret _ _ _ _ _ ⟨_, _, rfl, rfl, leN (by lia), by assumption, fun _ => ⟨_, _, hD9, hP9, fun n hn => ?_⟩⟩ (by assumption) (news_app (a := [(_, _)]) (news_sub hN9 (by walk_at "allIn")) (by assumption)))
      all_goals exact look3 (cp_need hI hW1 hpL n hn) (by rw [Nat.pow_succ]) (pow_odd (by lia))
  · (rename (_ ∈ xs) => hx)
    (rename (_ ∈ ss) => hxs)
    have hk := cp_skip hI hx (.inl hxs)
    (rename News _ _ _ [_, _, _] => hN9)
    exact sl_end ⟨_, _, _, _, _, _⟩ (by assumption) hN9 (fun p hp => hp) (by intro z h3; simp only [List.contains_cons, List.contains_nil, Bool.or_false, Bool.or_eq_false_iff, beq_eq_false_iff_ne, ne_eq] at h3; simp [h3]) ⟨by assumption, by assumption, by assumption, hk.1⟩ hk.2
  · (rename (_ ∈ xs) => hx)
    (rename ((_ : Int) ≤ 2048) => hxs)
    have hk := cp_skip hI hx (.inr (by lia))
    (rename News _ _ _ [_, _, _] => hN9)
    exact sl_end ⟨_, _, _, _, _, _⟩ (by assumption) hN9 (fun p hp => hp) (by intro z h3; simp only [List.contains_cons, List.contains_nil, Bool.or_false, Bool.or_eq_false_iff, beq_eq_false_iff_ne, ne_eq] at h3; simp [h3]) ⟨by assumption, by assumption, by assumption, hk.1⟩ hk.2
  · (rename (_ ∈ xs) => hx)
    (rename (¬ _ ∈ ss) => hxs)
    (rename (¬ (_ : Int) ≤ 2048) => hxb)
    (rename (Builtin.bitAnd _ 1 ≠ 0) => hb)
    rw [band1] at hb
    have hk := cp_new hW hI hx hxs (by lia) _ (.inl ⟨by lia, rfl⟩)
    (rename News _ _ _ [_, _, _] => hN9)
    exact sl_end ⟨_, _, _, _, _, _⟩ (by assumption) hN9 (fun p hp => hp) (by intro z h3; simp only [List.contains_cons, List.contains_nil, Bool.or_false, Bool.or_eq_false_iff, beq_eq_false_iff_ne, ne_eq] at h3; simp [h3]) ⟨by assumption, by assumption, by assumption, hk.1⟩ hk.2
  · (rename (_ ∈ xs) => hx)
    (rename (¬ _ ∈ ss) => hxs)
    (rename (¬ (_ : Int) ≤ 2048) => hxb)
    (rename (Builtin.bitAnd _ 1 = 0) => hb)
    rw [band1] at hb
    have hk := cp_new hW hI hx hxs (by lia) _ (.inr ⟨by lia, rfl⟩)
    (rename News _ _ _ [_, _, _] => hN9)
    exact sl_end ⟨_, _, _, _, _, _⟩ (by assumption) hN9 (fun p hp => hp) (by intro z h3; simp only [List.contains_cons, List.contains_nil, Bool.or_false, Bool.or_eq_false_iff, beq_eq_false_iff_ne, ne_eq] at h3; simp [h3]) ⟨by assumption, by assumption, by assumption, hk.1⟩ hk.2
end sk_c_cp0
section
variable {w : World} {p0 : Program} {loose : List Str} {mean : ExcName → Option Value} {mg mb : Str → Option Value}
theorem c_cp0 (W : Nat) (tw t5 tm : Tok) (hW : W ≤ 8000) (news : List (Addr × Obj)) :
    CtrD w p0 loose mean mg mb 10 100 22 [.int W tw, .int 5 t5, .int 2048 tm] news (fun B v n' => ∃ D o, v = .ref D ∧ n' = (D, o) :: news ∧ @LE.le Nat _ B D ∧ (D == sysModules) = false ∧ (2048 < W → PowOk w o W)) := by
  intro dp un gd cn cs a' ccd cl outer A₀ base h₀ L m s Q E
  intro B F X N T hk hdp hu hret
  have X0 := X
  revert X; k_fill; intro X
  have S := Sp.none N
  walk_at "enterDS"
  intro g9 L9 h9
  exact sk_c_cp0.skAll sk_c_cp0.skBody w p0 loose mean mg mb W tw t5 tm news dp un gd cn cs a' ccd cl outer A₀ base h₀ L m s Q E g9 L9 h9 hW B F X0 N T hk hdp hu hret

end
end
section
open PySem.NumText in
theorem digits_fold : ∀ (b : List Nat) (x : Nat), b.foldl (fun acc c => acc * 10 + (c - 48)) x = x * 10 ^ b.length + digitsVal b
  | [], x => by simp [digitsVal]
  | c :: b, x => by
    have e1 := digits_fold b (x * 10 + (c - 48))
    have e2 := digits_fold b (0 * 10 + (c - 48))
    show b.foldl _ (x * 10 + (c - 48)) = _
    rw [e1]
    show _ = _ + b.foldl _ (0 * 10 + (c - 48))
    rw [e2, List.length_cons, Nat.pow_succ, Nat.add_mul, Nat.zero_mul, Nat.zero_add, Nat.add_assoc, Nat.mul_assoc, Nat.mul_comm 10]
open PySem.NumText in
theorem digits_app (a b : List Nat) : digitsVal (a ++ b) = digitsVal a * 10 ^ b.length + digitsVal b := by
  show (a ++ b).foldl _ 0 = _
  rw [List.foldl_append, digits_fold]; rfl
open PySem.NumText in
theorem digits_lt : ∀ (cs : List Nat), AllDigits cs → digitsVal cs < 10 ^ cs.length := by
  intro cs
  induction cs with
  | nil => intro _; decide
  | cons c cs ih =>
    intro h
    have e := digits_app [c] cs
    have e1 : digitsVal [c] = c - 48 := by show 0 * 10 + (c - 48) = _; lia
    have h1 := h.head
    have h2 := ih h.tail
    rw [List.singleton_append] at e
    rw [e, e1, List.length_cons, Nat.pow_succ, Nat.mul_comm (10 ^ cs.length) 10]
    have h3 : (c - 48 + 1) * 10 ^ cs.length ≤ 10 * 10 ^ cs.length := Nat.mul_le_mul_right _ (by lia)
    rw [Nat.succ_mul] at h3
    lia
/-- the worth of k signs from lo on -/
def dvs (x : PySem.Str) (lo k : Nat) : Nat := PySem.NumText.digitsVal ((x.cps.toList.drop lo).take k)
theorem dvs_all (x : PySem.Str) : dvs x 0 x.length = PySem.NumText.digitsVal x.cps.toList := by
  unfold dvs
  rw [List.drop_zero, List.take_of_length_le]
  show x.cps.toList.length ≤ x.cps.size
  simp
theorem dvs_two (x : PySem.Str) (lo k j : Nat) (hj : j ≤ k) (hl : lo + k ≤ x.length) : dvs x (lo + (k - j)) j + dvs x lo (k - j) * 5 ^ j * 2 ^ j = dvs x lo k := by
  have hl' : lo + k ≤ x.cps.toList.length := by simpa [PySem.Str.length] using hl
  have e : (x.cps.toList.drop lo).take k = (x.cps.toList.drop lo).take (k - j) ++ (x.cps.toList.drop (lo + (k - j))).take j := by
    rw [← List.drop_drop, ← List.take_add, show k - j + j = k by lia]
  unfold dvs
  rw [e, digits_app]
  have hlen : ((x.cps.toList.drop (lo + (k - j))).take j).length = j := by rw [List.length_take, List.length_drop]; lia
  rw [hlen, Nat.mul_assoc, ← Nat.mul_pow, Nat.add_comm]
theorem all_part {x : PySem.Str} (ha : PySem.NumText.AllDigits x.cps.toList) (lo k : Nat) : PySem.NumText.AllDigits ((x.cps.toList.drop lo).take k) :=
  fun c hc => ha c (List.mem_of_mem_drop (List.mem_of_mem_take hc))
theorem dvs_bl {x : PySem.Str} (ha : PySem.NumText.AllDigits x.cps.toList) (lo k : Nat) (hk : k ≤ 8000) : BL (dvs x lo k) ≤ 40000 := by
  have h1 := digits_lt _ (all_part ha lo k)
  have h2 : ((x.cps.toList.drop lo).take k).length ≤ 8000 := by rw [List.length_take]; lia
  have h3 := pow_lt 10 ((x.cps.toList.drop lo).take k).length (by lia) (b := 40000) (by lia)
  exact bl_le.mpr (Nat.lt_trans h1 h3)
theorem slice_mid (x : PySem.Str) (lo k : Nat) (h : lo + k ≤ x.length) (hn : ¬ (lo = 0 ∧ k = x.length)) (hk : 0 < k) : (PySem.Txt.slice x (some (lo : Int)) (some ((lo + k : Nat) : Int))).cps.toList = (x.cps.toList.drop lo).take k := by
  have hp := PySem.StrLaws.sliced_plain x (a := lo) (b := lo + k) (by lia) h
  rw [show lo + k - lo = k by lia] at hp
  unfold PySem.Txt.slice
  have hlen : (PySem.Builtin.Str.strSliceIndices (some (lo : Int)) (some ((lo + k : Nat) : Int)) 1 x.length).length = k := by
    rw [PySem.StrLaws.strSliceIndices_plain (by lia) h]; simp
  rw [hlen]
  by_cases e : k = x.length
  · lia
  · have e2 : ((1 : Int) == 1 && k == x.length) = false := by simp [e]
    rw [e2]
    simp only [Bool.false_eq_true, if_false]
    exact hp
theorem slice_val (x : PySem.Str) (lo k : Nat) (h : lo + k ≤ x.length) (hk : 0 < k) : (PySem.Txt.slice x (some (lo : Int)) (some ((lo + k : Nat) : Int))).cps.toList = (x.cps.toList.drop lo).take k := by
  by_cases hn : lo = 0 ∧ k = x.length
  · obtain ⟨rfl, rfl⟩ := hn
    have hlen : (PySem.Builtin.Str.strSliceIndices (some ((0 : Nat) : Int)) (some ((0 + x.length : Nat) : Int)) 1 x.length).length = x.length := by
      rw [PySem.StrLaws.strSliceIndices_plain (by lia) h]; simp
    unfold PySem.Txt.slice
    rw [hlen]
    simp only [beq_self_eq_true, Bool.and_self, if_true]
    rw [List.drop_zero, List.take_of_length_le]
    show x.cps.toList.length ≤ x.cps.size
    simp
  · exact slice_mid x lo k h hn hk
end
example {prog : Program} {w : World} {A : Around} {env : Env} {Q : Flow → Shared → Prop} {E : Value → Shared → Prop} {s : Shared} (h : wpAny (model prog w) A (execs [] env) Q E s) : wpAny (model prog w) A (execs [] env) Q E s := by ((k_with "now" => have kReset : True := trivial); (k_with "piece" => have kP_C12 : True := trivial); w_top off; first | (walk1; fail) | exact h)
section
example : True := by
  k_with "m subscriptTail Name BinOp ref int" => ((fail_if_success (fail_if_success (k_extra "piece"; clear kP_C12))); k_extra "ov item")
  k_with "m subscriptTail Name Slice str ref" => ((fail_if_success (fail_if_success (k_extra "piece"; clear kP_C12))); k_extra "ov slice")
  k_with "m call type:int" => ((fail_if_success (fail_if_success (k_extra "piece"; clear kP_C12))); k_extra "ov int")
  trivial
section
variable {w : World} {p0 : Program} {loose : List Str} {mean : ExcName → Option Value} {mg mb : Str → Option Value}
theorem CtrD.use {d u : Nat} {f : Addr} {vs : List Value} {news : List (Addr × Obj)} {R : Nat → Value → List (Addr × Obj) → Prop}
    {dp un : Nat} {gd : Option (List Code)} {cn : Str} {cs : Scope} {a : Addr} {ccd : Value} {cl : List (Str × Addr)} {outer : List Env} {A₀ : Around} {base h₀ : Heap} {L : Addr} {m : Str → Option Value} {s : Shared} {Q E : Value → Shared → Prop}
    (B : Below A₀ base outer h₀) (F : Fr h₀ L s.heap m) (X : (Mine.hd.heap_1 w.params).In h₀) (N : News h₀ L s.heap news) (T : Top p0 loose mean mg mb h₀) (hk : cs.kind = .function)
    (hd : dp + d < recursionLimit) (hu : un + u < cLine) (C : CtrD w p0 loose mean mg mb d u f vs news R)
    (ret : ∀ B v h' tk' dr' news', (∀ p ∈ news, p.1 < B) → @LT.lt Nat _ L B → R B v news' → Fr h₀ L h' m → News h₀ L h' news' → Q v { s with heap := h', toks := tk', drawn := dr' }) :
    wpAny (model PySem.Challenge.rw_xi0020_01.prog w) (ktrTop dp un gd cn cs L a ccd cl outer) (call (.ref f) vs) Q E s :=
  C _ _ _ _ _ _ _ _ _ _ _ _ _ _ _ _ _ B F X N T hk hd hu fun v h' tk' dr' n' => ret _ v h' tk' dr' n' (fun p hp => Heap.lt_size (N p hp).1) F.ns.lt
section
variable {prog : Program} {w : World} {A : Around} {E : Value → Shared → Prop} {s : Shared} {t u : Tok} {X Y : Int} {Q : Value → Shared → Prop}
theorem rshift_midU (lo k : Nat) (eX : X = (lo : Int) + ((lo + k : Nat) : Int) + 1) (eY : Y = 1) (h : ∀ t k', Q (.int ((lo + (k - k / 2) : Nat) : Int) t) { s with toks := k' }) : wpAny (model prog w) A (binaryOp .RShift (.int X t) (.int Y u)) Q E s := by
  refine rshift_nat (lo + (lo + k) + 1) 1 (by lia) (by lia) ?_
  have e : (lo + (lo + k) + 1) / 2 ^ 1 = lo + (k - k / 2) := by lia
  rw [e]; exact h
theorem lshift_natB (x n : Nat) (eX : X = (x : Int)) (eY : Y = (n : Int)) (hx : BL x ≤ 200000) (hn : n ≤ 200000) (h : ∀ t k, Q (.int ((x * 2 ^ n : Nat) : Int) t) { s with toks := k }) : wpAny (model prog w) A (binaryOp .LShift (.int X t) (.int Y u)) Q E s :=
  lshift_nat x n 200000 eX eY (bl_le.mp hx) (by lia) h
theorem pow_item {value slice : Expr} {D : Addr} {o : Obj} {h₀ : Heap} {L : Addr} {news : List (Addr × Obj)} {W n : Nat} (N : News h₀ L s.heap news) (hm : (D, o) ∈ news) (lo : (D == sysModules) = false) (hP : PowOk w o W) (hn : Need W n)
    (eX : X = (n : Int)) (h : ∀ t k, Q (.int ((5 ^ n : Nat) : Int) t) { s with toks := k })
    (hs : subscripted slice false (.ref D) (.int X t) = operate [.ref D, .int X t] (getItem (.ref D) (.int X t)) := by with_unfolding_all rfl) (hg : ∀ r, letTemporaryGo value (.ref D) r = pure () := by intro _; with_unfolding_all rfl) :
    wpAny (model PySem.Challenge.rw_xi0020_01.prog w) A (subscriptTail value slice (.ref D) (.int X t)) Q E s := by
  subst eX
  obtain ⟨kvs, Tb, hd, hf, hl⟩ := hP
  refine item_tab (knd := PySem.intKind _ _) (enc := PyData.int) (k := (n : Int)) (PyProof.V.keyEnc_int).1 (by simp [PySem.intKind, PySem.Value.isInt]) (TabAt.ofNews N hm lo hd hf) (hl n hn) (fun v hv => ?_) hs hg
  obtain ⟨t, rfl⟩ := hv.int_inv
  exact h _ _
end
/-- how deep the recursion still goes -/
def Dep (W k dd : Nat) : Prop := (k ≤ 2048 ∧ dd = 1) ∨ ((k = W / 2 ∨ k = (W + 1) / 2) ∧ dd = 2) ∨ (k = W ∧ dd = 3)
theorem dep_in {W k dd : Nat} (h : Dep W k dd) : 1 ≤ dd ∧ dd ≤ 3 := by
  rcases h with ⟨_, rfl⟩ | ⟨_, rfl⟩ | ⟨_, rfl⟩ <;> decide
theorem dep_lo {W k dd : Nat} (hW : W ≤ 8000) (hk : 2048 < k) (h : Dep W k dd) : Dep W (k / 2) (dd - 1) := by
  rcases h with ⟨h1, rfl⟩ | ⟨h1, rfl⟩ | ⟨rfl, rfl⟩
  · exact absurd hk (Nat.not_lt.mpr h1)
  · have h2 : k ≤ 4000 := by rcases h1 with rfl | rfl <;> lia
    exact .inl ⟨by lia, rfl⟩
  · exact .inr (.inl ⟨.inl rfl, rfl⟩)
theorem dep_hi {W k dd : Nat} (hW : W ≤ 8000) (hk : 2048 < k) (h : Dep W k dd) : Dep W (k - k / 2) (dd - 1) := by
  rcases h with ⟨h1, rfl⟩ | ⟨h1, rfl⟩ | ⟨rfl, rfl⟩
  · exact absurd hk (Nat.not_lt.mpr h1)
  · have h2 : k ≤ 4000 := by rcases h1 with rfl | rfl <;> lia
    exact .inl ⟨by lia, rfl⟩
  · exact .inr (.inl ⟨.inr (by lia), rfl⟩)
theorem dep_need {W k dd : Nat} (hk : 2048 < k) (h : Dep W k dd) : Need W (k / 2) := by
  rcases h with ⟨h1, rfl⟩ | ⟨h1 | h1, rfl⟩ | ⟨rfl, rfl⟩
  · exact absurd hk (Nat.not_lt.mpr h1)
  · subst h1; exact .inr (.inl ⟨hk, rfl⟩)
  · subst h1; exact .inr (.inr ⟨hk, rfl⟩)
  · exact .inl rfl
theorem dep_W {W k dd : Nat} (hk : 2048 < k) (h : Dep W k dd) : 2048 < W := by
  rcases h with ⟨h1, rfl⟩ | ⟨h1 | h1, rfl⟩ | ⟨rfl, rfl⟩ <;> lia
def KeyS (w : World) (p : Program) (loose : List Str) (mean : ExcName → Option Value) (mg mb : Str → Option Value) (f : Addr) (led : List (Addr × Obj)) (x : PySem.Str) (k : Nat) : Prop :=
  ∀ (lo top dd : Nat) (tl th : Tok), 0 < k → top = lo + k → lo + k ≤ x.length → Dep x.length k dd →
    Ctr w p loose mean mg mb (dd + 2) (8 * dd + 16) f [.int (lo : Int) tl, .int (top : Int) th] led
      (fun B v n' => (∃ t, v = .int (dvs x lo k : Nat) t) ∧ n' = led)
theorem key_introS {M : Model} {A : Around} {Q E : Value → Shared → Prop} {s : Shared} {h₀ h : Heap} {L f : Addr} {led : List (Addr × Obj)} {vs : List Value} (x : PySem.Str) (N : News h₀ L h led)
    (key : ∀ k, (∀ j, j < k → KeyS w p0 loose mean mg mb f led x j) → KeyS w p0 loose mean mg mb f led x k)
    (rest : (∀ j, KeyS w p0 loose mean mg mb f led x j) → wpAny M A (call (.ref f) vs) Q E s) : wpAny M A (call (.ref f) vs) Q E s :=
  rest fun j => Nat.strongRecOn j key
theorem c_s2i (x : PySem.Str) (tx : Tok) (ha : PySem.NumText.AllDigits x.cps.toList) (hx1 : 0 < x.length) (h2 : x.length ≤ 8000) (rest : List (Addr × Obj)) (hr : ∀ q ∈ rest, ∀ p ∈ [((24 : Addr), tabObj #[])], q.1 ≠ p.1) :
    CtrD w p0 loose mean mg mb 40 400 29 [.str x tx] ([(24, tabObj #[])] ++ rest) (fun B v n' => ∃ ps, n' = (24, tabObj ps) :: rest ∧ ∃ t, v = .int ((PySem.NumText.digitsVal x.cps.toList : Nat) : Int) t) := by
  intro dp un gd cn cs a' ccd cl outer A₀ base h₀ L m s Q E B F X N T hk hd hu hret
  revert X; k_fill; intro X
  have S : Sp h₀ L s.heap [(24, tabObj #[])] rest := ⟨news_sub N (fun p hp => List.mem_append_left _ hp), news_sub N (fun p hp => List.mem_append_right _ hp), hr⟩
  k_with "now" => have kNow16 : True := trivial
  walk_at "enterC"
  k_steps
  refine Stop.go ?_
  k_dflt (refine' CtrD.use ?B1 ?F1 ?X1 ?N1 ?T1 ?k1 ?d1 ?u1 (c_cp0 x.length _ _ _ h2 _) ?_)
  case B1 => k_asm
  case F1 => k_asm
  case X1 => k_asm
  case N1 => k_asm
  case T1 => k_asm
  case k1 => first | exact rfl | assumption
  case d1 => ktr_room
  case u1 => ktr_units
  intro B1 v1 h1 tk1 dr1 n1 hB1 hL1 R1 F1 N1
  obtain ⟨D1, o1, e1, e2, g1, g2, hP⟩ := R1
  subst e1; subst e2
  k_lt hB1
  k_sweep
  try k_fold
  k_steps
  refine' key_introS (w := w) (p0 := p0) (loose := loose) (mean := mean) (mg := mg) (mb := mb) x ?N ?key ?rest
  case N => (rename News _ _ _ (_ :: _) => hN9); exact hN9
  case key =>
    clear hret S F N B X T hr
    intro k IH lo top dd tl th hk0 htop hlk hkk
    intro dp un gd cn cs a' ccd cl outer A₀ base h₀ L m s Q E B F X N T hk hd hu hret
    subst htop
    have hk2 : k ≤ 8000 := by lia
    obtain ⟨hdd1, hdd3⟩ := dep_in hkk
    walk_at "closure"
    k_with "now" => have kNow17 : True := trivial
    k_with "ov Sub" => ((fail_if_success (fail_if_success (k_extra "now"; clear kNow17))); first | (refine sub_to ((k : Nat) : Int) (by lia) ?_; intro _ _) | (refine sub_to ((k / 2 : Nat) : Int) (by lia) ?_; intro _ _))
    k_with "ov RShift" => ((fail_if_success (fail_if_success (k_extra "now"; clear kNow17))); (refine rshift_midU lo k rfl rfl ?_; intro _ _))
    k_with "ov item" => ((fail_if_success (fail_if_success (k_extra "now"; clear kNow17))); (refine pow_item (n := k / 2) (by k_asm) (by k_mem) g2 (hP (dep_W (by lia) hkk)) (dep_need (by lia) hkk) rfl ?_; intro _ _))
    k_with "ov Mult" => ((fail_if_success (fail_if_success (k_extra "now"; clear kNow17))); (refine mul_natB (dvs x lo (k - k / 2)) (5 ^ (k / 2)) rfl rfl (Nat.le_trans (dvs_bl ha lo (k - k / 2) (by lia)) (by lia)) (by have := bl_pow 5 (k / 2) (by lia); lia) ?_; intro _ _))
    k_with "ov LShift" => ((fail_if_success (fail_if_success (k_extra "now"; clear kNow17))); (refine lshift_natB (dvs x lo (k - k / 2) * 5 ^ (k / 2)) (k / 2) rfl rfl (by have := bl_mulle (dvs x lo (k - k / 2)) (5 ^ (k / 2)); have := dvs_bl ha lo (k - k / 2) (by lia); have := bl_pow 5 (k / 2) (by lia); lia) (by lia) ?_; intro _ _))
    k_with "ov Add" => ((fail_if_success (fail_if_success (k_extra "now"; clear kNow17))); (refine add_nat (dvs x (lo + (k - k / 2)) (k / 2)) (dvs x lo (k - k / 2) * 5 ^ (k / 2) * 2 ^ (k / 2)) rfl rfl ?_; intro _ _))
    k_steps
    · have hsl := slice_val x lo k hlk hk0
      refine call_textL (Heap.NoDigits.keeps (Top.nodigits (by assumption)) (Fr.keep (by assumption))) (hsl ▸ all_part ha lo k) ?_ ?_ ?_
      · rw [hsl]; intro e
        have e2 := congrArg List.length e
        have : x.cps.toList.length = x.length := by simp [PySem.Str.length]
        rw [List.length_take, List.length_drop, List.length_nil] at e2
        lia
      · have e2 := congrArg List.length hsl
        rw [List.length_take, List.length_drop] at e2
        have : (PySem.Txt.slice x (some (lo : Int)) (some ((lo + k : Nat) : Int))).cps.toList.length = (PySem.Txt.slice x (some (lo : Int)) (some ((lo + k : Nat) : Int))).length := by simp [PySem.Str.length]
        lia
      · rw [hsl]
        dsimp only
        try k_fold
        k_steps
        exact hret _ _ _ _ ⟨⟨_, rfl⟩, rfl⟩ (by assumption) (by assumption)
    · skip
      k_dflt (refine' Ctr.use ?B2 ?F2 ?X2 ?N2 ?T2 ?k2 ?d2 ?u2 (IH (k / 2) (by lia) (lo + (k - k / 2)) (lo + k) (dd - 1) _ _ (by lia) (by lia) (by lia) (dep_lo h2 (by lia) hkk)) ?_)
      case B2 => k_asm
      case F2 => k_asm
      case X2 => k_asm
      case N2 => k_asm
      case T2 => k_asm
      case k2 => first | exact rfl | assumption
      case d2 => ktr_room
      case u2 => ktr_units
      intro B1 v1 h1 tk1 n1 hB1 hL1 R1 F1 N1
      obtain ⟨⟨t1, e1⟩, e2⟩ := R1
      subst e1; subst e2
      try k_fold
      k_steps
      k_dflt (refine' Ctr.use ?B3 ?F3 ?X3 ?N3 ?T3 ?k3 ?d3 ?u3 (IH (k - k / 2) (by lia) lo (lo + (k - k / 2)) (dd - 1) _ _ (by lia) rfl (by lia) (dep_hi h2 (by lia) hkk)) ?_)
      case B3 => k_asm
      case F3 => k_asm
      case X3 => k_asm
      case N3 => k_asm
      case T3 => k_asm
      case k3 => first | exact rfl | assumption
      case d3 => ktr_room
      case u3 => ktr_units
      intro B2 v2 h2 tk2 n2 hB2 hL2 R2 F2 N2
      obtain ⟨⟨t2, e1⟩, e2⟩ := R2
      subst e1; subst e2
      try k_fold
      k_steps
      refine hret _ _ _ _ ⟨ktn_int ?_, rfl⟩ (by assumption) (by assumption)
      exact congrArg Nat.cast (dvs_two x lo k (k / 2) (by lia) hlk)
  case rest =>
    intro KEY
    k_dflt (refine' Ctr.use ?B4 ?F4 ?X4 ?N4 ?T4 ?k4 ?d4 ?u4 (KEY x.length 0 x.length 3 _ _ hx1 (by lia) (by lia) (.inr (.inr ⟨rfl, rfl⟩))) ?_)
    case B4 => k_asm
    case F4 => k_asm
    case X4 => k_asm
    case N4 => k_asm
    case T4 => k_asm
    case k4 => first | exact rfl | assumption
    case d4 => ktr_room
    case u4 => ktr_units
    intro B2 v2 h2 tk2 n2 hB2 hL2 R2 F2 N2
    obtain ⟨⟨t2, e1⟩, e2⟩ := R2
    subst e1; subst e2
    try k_fold
    k_steps
    rw [dvs_all]
    (rename News _ _ _ (_ :: _) => hN9)
    exact hret _ _ _ _ _ ⟨_, rfl, _, rfl⟩ (by assumption) (news_app (a := [(_, _)]) (news_sub hN9 (by walk_at "allIn")) (by assumption))
end
end
section
theorem sp_digit : ∀ j : Fin 10, spS ⟨#[48 + j.1]⟩ = false := by decide +kernel
theorem sp_tail : spS ⟨#[32]⟩ = true ∧ spS ⟨#[9]⟩ = true ∧ spS ⟨#[10]⟩ = true := by decide +kernel
theorem getD_list (x : PySem.Str) (k : Nat) : x.cps.getD k 0 = x.cps.toList.getD k 0 := by simp
theorem rstrip_body {x : PySem.Str} {body tail : List Nat} (hx : x.cps.toList = body ++ tail) (hb : ∀ c ∈ body, (48 ≤ c ∧ c ≤ 57) ∨ c = 95) (ht : ∀ c ∈ tail, c = 32 ∨ c = 9 ∨ c = 10) {ini : List Nat} {d : Nat} (hl : body = ini ++ [d]) (hd : 48 ≤ d ∧ d ≤ 57) :
    (PySem.Txt.rstrip x).cps.toList = body := by
  have hA : ∀ c ∈ x.cps.toList, c < 128 := fun c hc => by
    rw [hx] at hc
    rcases List.mem_append.mp hc with h | h
    · have := hb c h; lia
    · have := ht c h; lia
  obtain ⟨hi, h0, he, h1, h2⟩ := PyProof.Rows.rstrip_cut hA
  have hlen : x.length = body.length + tail.length := by
    have := congrArg List.length hx
    rw [List.length_append] at this
    simpa [PySem.Str.length] using this
  have hbl : body.length = ini.length + 1 := by rw [hl]; simp
  have e : hi = body.length := by
    rcases Nat.lt_trichotomy hi body.length with h | h | h
    · exfalso
      have h3 := h1 (body.length - 1) (by lia) (by lia)
      rw [getD_list, hx] at h3
      have e4 : (body ++ tail).getD (body.length - 1) 0 = d := by
        rw [hbl, hl]; simp
      rw [e4] at h3
      have := sp_digit ⟨d - 48, by lia⟩
      dsimp only at this
      rw [show 48 + (d - 48) = d by lia, h3] at this
      cases this
    · exact h
    · exfalso
      rcases h2 with h3 | h3
      · lia
      · rw [getD_list, hx] at h3
        have hm : (body ++ tail).getD (hi - 1) 0 ∈ tail := by
          rw [List.getD_eq_getElem?_getD, List.getElem?_append_right (by lia), List.getElem?_eq_getElem (by lia)]
          exact List.getElem_mem _
        rcases ht _ hm with q | q | q <;> rw [q] at h3
        · rw [sp_tail.1] at h3; cases h3
        · rw [sp_tail.2.1] at h3; cases h3
        · rw [sp_tail.2.2] at h3; cases h3
  rw [he, PySem.StrLaws.strSub_toList, hx, e]
  simp
theorem struck_body {x : PySem.Str} {body tail : List Nat} (hx : x.cps.toList = body ++ tail) (hb : ∀ c ∈ body, (48 ≤ c ∧ c ≤ 57) ∨ c = 95) (ht : ∀ c ∈ tail, c = 32 ∨ c = 9 ∨ c = 10) {ini : List Nat} {d : Nat} (hl : body = ini ++ [d]) (hd : 48 ≤ d ∧ d ≤ 57) :
    (PySem.Txt.replace (PySem.Txt.rstrip x) (Str.ofString "_") (Str.ofString "")).cps.toList = body.filter (· != 95) := by
  have e1 : Str.ofString "_" = (⟨#[95]⟩ : PySem.Str) := by decide +kernel
  have e2 : Str.ofString "" = (⟨#[]⟩ : PySem.Str) := by decide +kernel
  rw [e1, e2, PyProof.Rows.replace_strikes, rstrip_body hx hb ht hl hd]
theorem struck_digits {body : List Nat} (hb : ∀ c ∈ body, (48 ≤ c ∧ c ≤ 57) ∨ c = 95) : PySem.NumText.AllDigits (body.filter (· != 95)) := fun c hc => by
  obtain ⟨h1, h2⟩ := List.mem_filter.mp hc
  have h3 := hb c h1
  simp at h2
  lia
end
example {prog : Program} {w : World} {A : Around} {env : Env} {Q : Flow → Shared → Prop} {E : Value → Shared → Prop} {s : Shared} (h : wpAny (model prog w) A (execs [] env) Q E s) : wpAny (model prog w) A (execs [] env) Q E s := by ((k_with "now" => have kReset : True := trivial); (k_with "piece" => have kP_C13 : True := trivial); w_top off; first | (walk1; fail) | exact h)
section
example : True := by
  k_with "m call builtin:str.rstrip" => ((fail_if_success (fail_if_success (k_extra "piece"; clear kP_C13))); k_extra "ov rstrip")
  k_with "m call builtin:str.replace" => ((fail_if_success (fail_if_success (k_extra "piece"; clear kP_C13))); k_extra "ov replace")
  trivial
section
variable {w : World} {p0 : Program} {loose : List Str} {mean : ExcName → Option Value} {mg mb : Str → Option Value}
theorem rstrip_tk {prog : Program} {A : Around} {E : Value → Shared → Prop} {s : Shared} {x : PySem.Str} {t : Tok} {Q : Value → Shared → Prop} (hk : 1 ≤ s.toks) (hx : x.length ≤ 20000)
    (h : ∀ t' k, 1 ≤ k → Q (.str (PySem.Txt.rstrip x) t') { s with toks := k }) : wpAny (model prog w) A (call (.builtin "str.rstrip") [.str x t]) Q E s :=
  wpAny_with_toks hk (PySem.W.KXw.rstrip rfl (by rw [sizeLine_eq]; lia) fun t' k hk => h t' k hk)
end
namespace sk_c_ifs
abbrev skD : Type := (World) × (Program) × (List PySem.Str) × (ExcName → Option Value) × (PySem.Str → Option Value) × (PySem.Str → Option Value) × (PySem.Str) × (Tok) × (List Nat) × (List Nat) × (List Nat) × (Nat) × (List (Addr × Obj)) × (Nat) × (Nat) × (Option (List Code)) × (PySem.Str) × (Scope) × (Addr) × (Value) × (List (PySem.Str × Addr)) × (List Env) × (Around) × (Heap) × (Heap) × (Addr) × (PySem.Str → Option Value) × (Shared) × (Value → Shared → Prop) × (Value → Shared → Prop) × (Heap) × (Addr) × (Heap)
def skP (w : World) (p0 : Program) (loose : List PySem.Str) (mean : ExcName → Option Value) (mg : PySem.Str → Option Value) (mb : PySem.Str → Option Value) (x : PySem.Str) (tx : Tok) (body : List Nat) (tail : List Nat) (ini : List Nat) (dg : Nat) (rest : List (Addr × Obj)) (dp : Nat) (un : Nat) (gd : Option (List Code)) (cn : PySem.Str) (cs : Scope) (a' : Addr) (ccd : Value) (cl : List (PySem.Str × Addr)) (outer : List Env) (A₀ : Around) (base : Heap) (h₀ : Heap) (L : Addr) (m : PySem.Str → Option Value) (s : Shared) (Q : Value → Shared → Prop) (E : Value → Shared → Prop) (g9 : Heap) (L9 : Addr) (h9 : Heap) : Prop := ∀ (hx : x.cps.toList = body ++ tail) (hb : ∀ c ∈ body, (48 ≤ c ∧ c ≤ 57) ∨ c = 95) (ht : ∀ c ∈ tail, c = 32 ∨ c = 9 ∨ c = 10) (hl : body = ini ++ [dg]) (hdg : 48 ≤ dg ∧ dg ≤ 57) (hn : (body.filter (· != 95)).length ≤ 8000) (h2 : x.length ≤ 20000) (hr : ∀ q ∈ rest, ∀ p ∈ [((24 : Addr), tabObj #[])], q.1 ≠ p.1),
    CtrDG w p0 loose mean mg mb 50 500 36 [.str x tx] ([(24, tabObj #[])] ++ rest) (fun B v n' => ∃ ps, n' = (24, tabObj ps) :: rest ∧ ∃ t, v = .int ((PySem.NumText.digitsVal (body.filter (· != 95)) : Nat) : Int) t) dp un gd cn cs a' ccd cl outer A₀ base h₀ L m s Q E (premOf3 (B := CtrDAt w p0 loose mean mg mb 50 500 36 [.str x tx] ([(24, tabObj #[])] ++ rest) (fun B v n' => ∃ ps, n' = (24, tabObj ps) :: rest ∧ ∃ t, v = .int ((PySem.NumText.digitsVal (body.filter (· != 95)) : Nat) : Int) t) dp un gd cn cs a' ccd cl outer A₀ base h₀ L m s Q E) (by
      intro hh
      unfold CtrDAt
      intro B F X N T hk hd hu hret
      revert X; k_fill; intro X
      have S : Sp h₀ L s.heap [(24, tabObj #[])] rest := ⟨news_sub N (fun p hp => List.mem_append_left _ hp), news_sub N (fun p hp => List.mem_append_right _ hp), hr⟩
      walk_at "enterS"
      exact hh) g9 L9 h9)
theorem skN : Nonempty skD := ⟨(Classical.choice neWorld, default, default, default, default, default, default, default, default, default, default, default, default, default, default, default, default, default, default, default, default, default, ({} : Around), default, default, default, default, ({} : Shared), default, default, default, default, default)⟩
@[irreducible] noncomputable def skK : skD := @Classical.epsilon skD skN fun d => ¬ skP d.1 d.2.1 d.2.2.1 d.2.2.2.1 d.2.2.2.2.1 d.2.2.2.2.2.1 d.2.2.2.2.2.2.1 d.2.2.2.2.2.2.2.1 d.2.2.2.2.2.2.2.2.1 d.2.2.2.2.2.2.2.2.2.1 d.2.2.2.2.2.2.2.2.2.2.1 d.2.2.2.2.2.2.2.2.2.2.2.1 d.2.2.2.2.2.2.2.2.2.2.2.2.1 d.2.2.2.2.2.2.2.2.2.2.2.2.2.1 d.2.2.2.2.2.2.2.2.2.2.2.2.2.2.1 d.2.2.2.2.2.2.2.2.2.2.2.2.2.2.2.1 d.2.2.2.2.2.2.2.2.2.2.2.2.2.2.2.2.1 d.2.2.2.2.2.2.2.2.2.2.2.2.2.2.2.2.2.1 d.2.2.2.2.2.2.2.2.2.2.2.2.2.2.2.2.2.2.1 d.2.2.2.2.2.2.2.2.2.2.2.2.2.2.2.2.2.2.2.1 d.2.2.2.2.2.2.2.2.2.2.2.2.2.2.2.2.2.2.2.2.1 d.2.2.2.2.2.2.2.2.2.2.2.2.2.2.2.2.2.2.2.2.2.1 d.2.2.2.2.2.2.2.2.2.2.2.2.2.2.2.2.2.2.2.2.2.2.1 d.2.2.2.2.2.2.2.2.2.2.2.2.2.2.2.2.2.2.2.2.2.2.2.1 d.2.2.2.2.2.2.2.2.2.2.2.2.2.2.2.2.2.2.2.2.2.2.2.2.1 d.2.2.2.2.2.2.2.2.2.2.2.2.2.2.2.2.2.2.2.2.2.2.2.2.2.1 d.2.2.2.2.2.2.2.2.2.2.2.2.2.2.2.2.2.2.2.2.2.2.2.2.2.2.1 d.2.2.2.2.2.2.2.2.2.2.2.2.2.2.2.2.2.2.2.2.2.2.2.2.2.2.2.1 d.2.2.2.2.2.2.2.2.2.2.2.2.2.2.2.2.2.2.2.2.2.2.2.2.2.2.2.2.1 d.2.2.2.2.2.2.2.2.2.2.2.2.2.2.2.2.2.2.2.2.2.2.2.2.2.2.2.2.2.1 d.2.2.2.2.2.2.2.2.2.2.2.2.2.2.2.2.2.2.2.2.2.2.2.2.2.2.2.2.2.2.1 d.2.2.2.2.2.2.2.2.2.2.2.2.2.2.2.2.2.2.2.2.2.2.2.2.2.2.2.2.2.2.2.1 d.2.2.2.2.2.2.2.2.2.2.2.2.2.2.2.2.2.2.2.2.2.2.2.2.2.2.2.2.2.2.2.2
@[irreducible] noncomputable def w : World := skK.1
@[irreducible] noncomputable def p0 : Program := skK.2.1
@[irreducible] noncomputable def loose : List PySem.Str := skK.2.2.1
@[irreducible] noncomputable def mean : ExcName → Option Value := skK.2.2.2.1
@[irreducible] noncomputable def mg : PySem.Str → Option Value := skK.2.2.2.2.1
@[irreducible] noncomputable def mb : PySem.Str → Option Value := skK.2.2.2.2.2.1
@[irreducible] noncomputable def x : PySem.Str := skK.2.2.2.2.2.2.1
@[irreducible] noncomputable def tx : Tok := skK.2.2.2.2.2.2.2.1
@[irreducible] noncomputable def body : List Nat := skK.2.2.2.2.2.2.2.2.1
@[irreducible] noncomputable def tail : List Nat := skK.2.2.2.2.2.2.2.2.2.1
@[irreducible] noncomputable def ini : List Nat := skK.2.2.2.2.2.2.2.2.2.2.1
@[irreducible] noncomputable def dg : Nat := skK.2.2.2.2.2.2.2.2.2.2.2.1
@[irreducible] noncomputable def rest : List (Addr × Obj) := skK.2.2.2.2.2.2.2.2.2.2.2.2.1
@[irreducible] noncomputable def dp : Nat := skK.2.2.2.2.2.2.2.2.2.2.2.2.2.1
@[irreducible] noncomputable def un : Nat := skK.2.2.2.2.2.2.2.2.2.2.2.2.2.2.1
@[irreducible] noncomputable def gd : Option (List Code) := skK.2.2.2.2.2.2.2.2.2.2.2.2.2.2.2.1
@[irreducible] noncomputable def cn : PySem.Str := skK.2.2.2.2.2.2.2.2.2.2.2.2.2.2.2.2.1
@[irreducible] noncomputable def cs : Scope := skK.2.2.2.2.2.2.2.2.2.2.2.2.2.2.2.2.2.1
@[irreducible] noncomputable def a' : Addr := skK.2.2.2.2.2.2.2.2.2.2.2.2.2.2.2.2.2.2.1
@[irreducible] noncomputable def ccd : Value := skK.2.2.2.2.2.2.2.2.2.2.2.2.2.2.2.2.2.2.2.1
@[irreducible] noncomputable def cl : List (PySem.Str × Addr) := skK.2.2.2.2.2.2.2.2.2.2.2.2.2.2.2.2.2.2.2.2.1
@[irreducible] noncomputable def outer : List Env := skK.2.2.2.2.2.2.2.2.2.2.2.2.2.2.2.2.2.2.2.2.2.1
@[irreducible] noncomputable def A₀ : Around := skK.2.2.2.2.2.2.2.2.2.2.2.2.2.2.2.2.2.2.2.2.2.2.1
@[irreducible] noncomputable def base : Heap := skK.2.2.2.2.2.2.2.2.2.2.2.2.2.2.2.2.2.2.2.2.2.2.2.1
@[irreducible] noncomputable def h₀ : Heap := skK.2.2.2.2.2.2.2.2.2.2.2.2.2.2.2.2.2.2.2.2.2.2.2.2.1
@[irreducible] noncomputable def L : Addr := skK.2.2.2.2.2.2.2.2.2.2.2.2.2.2.2.2.2.2.2.2.2.2.2.2.2.1
@[irreducible] noncomputable def m : PySem.Str → Option Value := skK.2.2.2.2.2.2.2.2.2.2.2.2.2.2.2.2.2.2.2.2.2.2.2.2.2.2.1
@[irreducible] noncomputable def s : Shared := skK.2.2.2.2.2.2.2.2.2.2.2.2.2.2.2.2.2.2.2.2.2.2.2.2.2.2.2.1
@[irreducible] noncomputable def Q : Value → Shared → Prop := skK.2.2.2.2.2.2.2.2.2.2.2.2.2.2.2.2.2.2.2.2.2.2.2.2.2.2.2.2.1
@[irreducible] noncomputable def E : Value → Shared → Prop := skK.2.2.2.2.2.2.2.2.2.2.2.2.2.2.2.2.2.2.2.2.2.2.2.2.2.2.2.2.2.1
@[irreducible] noncomputable def g9 : Heap := skK.2.2.2.2.2.2.2.2.2.2.2.2.2.2.2.2.2.2.2.2.2.2.2.2.2.2.2.2.2.2.1
@[irreducible] noncomputable def L9 : Addr := skK.2.2.2.2.2.2.2.2.2.2.2.2.2.2.2.2.2.2.2.2.2.2.2.2.2.2.2.2.2.2.2.1
@[irreducible] noncomputable def h9 : Heap := skK.2.2.2.2.2.2.2.2.2.2.2.2.2.2.2.2.2.2.2.2.2.2.2.2.2.2.2.2.2.2.2.2
theorem skAll (hb : skP w p0 loose mean mg mb x tx body tail ini dg rest dp un gd cn cs a' ccd cl outer A₀ base h₀ L m s Q E g9 L9 h9) : ∀ (y0 : World) (y1 : Program) (y2 : List PySem.Str) (y3 : ExcName → Option Value) (y4 : PySem.Str → Option Value) (y5 : PySem.Str → Option Value) (y6 : PySem.Str) (y7 : Tok) (y8 : List Nat) (y9 : List Nat) (y10 : List Nat) (y11 : Nat) (y12 : List (Addr × Obj)) (y13 : Nat) (y14 : Nat) (y15 : Option (List Code)) (y16 : PySem.Str) (y17 : Scope) (y18 : Addr) (y19 : Value) (y20 : List (PySem.Str × Addr)) (y21 : List Env) (y22 : Around) (y23 : Heap) (y24 : Heap) (y25 : Addr) (y26 : PySem.Str → Option Value) (y27 : Shared) (y28 : Value → Shared → Prop) (y29 : Value → Shared → Prop) (y30 : Heap) (y31 : Addr) (y32 : Heap), skP y0 y1 y2 y3 y4 y5 y6 y7 y8 y9 y10 y11 y12 y13 y14 y15 y16 y17 y18 y19 y20 y21 y22 y23 y24 y25 y26 y27 y28 y29 y30 y31 y32 := by
  intro y0 y1 y2 y3 y4 y5 y6 y7 y8 y9 y10 y11 y12 y13 y14 y15 y16 y17 y18 y19 y20 y21 y22 y23 y24 y25 y26 y27 y28 y29 y30 y31 y32
  refine Classical.byContradiction fun hn => ?_
  have h1 := @Classical.epsilon_spec skD (fun d => ¬ skP d.1 d.2.1 d.2.2.1 d.2.2.2.1 d.2.2.2.2.1 d.2.2.2.2.2.1 d.2.2.2.2.2.2.1 d.2.2.2.2.2.2.2.1 d.2.2.2.2.2.2.2.2.1 d.2.2.2.2.2.2.2.2.2.1 d.2.2.2.2.2.2.2.2.2.2.1 d.2.2.2.2.2.2.2.2.2.2.2.1 d.2.2.2.2.2.2.2.2.2.2.2.2.1 d.2.2.2.2.2.2.2.2.2.2.2.2.2.1 d.2.2.2.2.2.2.2.2.2.2.2.2.2.2.1 d.2.2.2.2.2.2.2.2.2.2.2.2.2.2.2.1 d.2.2.2.2.2.2.2.2.2.2.2.2.2.2.2.2.1 d.2.2.2.2.2.2.2.2.2.2.2.2.2.2.2.2.2.1 d.2.2.2.2.2.2.2.2.2.2.2.2.2.2.2.2.2.2.1 d.2.2.2.2.2.2.2.2.2.2.2.2.2.2.2.2.2.2.2.1 d.2.2.2.2.2.2.2.2.2.2.2.2.2.2.2.2.2.2.2.2.1 d.2.2.2.2.2.2.2.2.2.2.2.2.2.2.2.2.2.2.2.2.2.1 d.2.2.2.2.2.2.2.2.2.2.2.2.2.2.2.2.2.2.2.2.2.2.1 d.2.2.2.2.2.2.2.2.2.2.2.2.2.2.2.2.2.2.2.2.2.2.2.1 d.2.2.2.2.2.2.2.2.2.2.2.2.2.2.2.2.2.2.2.2.2.2.2.2.1 d.2.2.2.2.2.2.2.2.2.2.2.2.2.2.2.2.2.2.2.2.2.2.2.2.2.1 d.2.2.2.2.2.2.2.2.2.2.2.2.2.2.2.2.2.2.2.2.2.2.2.2.2.2.1 d.2.2.2.2.2.2.2.2.2.2.2.2.2.2.2.2.2.2.2.2.2.2.2.2.2.2.2.1 d.2.2.2.2.2.2.2.2.2.2.2.2.2.2.2.2.2.2.2.2.2.2.2.2.2.2.2.2.1 d.2.2.2.2.2.2.2.2.2.2.2.2.2.2.2.2.2.2.2.2.2.2.2.2.2.2.2.2.2.1 d.2.2.2.2.2.2.2.2.2.2.2.2.2.2.2.2.2.2.2.2.2.2.2.2.2.2.2.2.2.2.1 d.2.2.2.2.2.2.2.2.2.2.2.2.2.2.2.2.2.2.2.2.2.2.2.2.2.2.2.2.2.2.2.1 d.2.2.2.2.2.2.2.2.2.2.2.2.2.2.2.2.2.2.2.2.2.2.2.2.2.2.2.2.2.2.2.2) ⟨(y0, y1, y2, y3, y4, y5, y6, y7, y8, y9, y10, y11, y12, y13, y14, y15, y16, y17, y18, y19, y20, y21, y22, y23, y24, y25, y26, y27, y28, y29, y30, y31, y32), hn⟩
  delta w p0 loose mean mg mb x tx body tail ini dg rest dp un gd cn cs a' ccd cl outer A₀ base h₀ L m s Q E g9 L9 h9 at hb
  delta skK at hb
  exact h1 hb
theorem skBody : skP w p0 loose mean mg mb x tx body tail ini dg rest dp un gd cn cs a' ccd cl outer A₀ base h₀ L m s Q E g9 L9 h9 := by
  unfold skP CtrDG premOf3
  intro hx hb ht hl hdg hn h2 hr
  intro B F X N T hk hd hu hret
  revert X; k_fill; intro X
  have S : Sp h₀ L s.heap [(24, tabObj #[])] rest := ⟨news_sub N (fun p hp => List.mem_append_left _ hp), news_sub N (fun p hp => List.mem_append_right _ hp), hr⟩
  k_with "now" => have kNow18 : True := trivial
  k_with "ov rstrip" => ((fail_if_success (fail_if_success (k_extra "now"; clear kNow18))); ((refine rstrip_tk (Nat.le_add_left 1 _) h2 ?_); intro t' k' hk'))
  k_with "ov replace" => ((fail_if_success (fail_if_success (k_extra "now"; clear kNow18))); ((refine SC.replaceW (by show @Ne Nat _ _; lia) (by show @Ne Nat _ _; lia) (by show @Ne Nat _ _; lia) (by decide +kernel) (by have := fact_rstrip x; lia) (by decide +kernel) ?_); intro t' k'))
  intro FG' F' N' B' X' T' l1 l2 l3
  (try k_lt l1); (try dsimp only); (try k_fold)
  k_steps
  have hst := struck_body hx hb ht hl hdg
  have hsl : (PySem.Txt.replace (PySem.Txt.rstrip x) (Str.ofString "_") (Str.ofString "")).length = (body.filter (· != 95)).length := by
    rw [← hst]; simp [PySem.Str.length]
  have hpos : 0 < (body.filter (· != 95)).length := by
    refine List.length_pos_of_mem (a := dg) (List.mem_filter.mpr ⟨?_, ?_⟩)
    · rw [hl]; simp
    · simp; lia
  refine Stop.go ?_
  k_dflt (refine' CtrD.use ?B1 ?F1 ?X1 ?N1 ?T1 ?k1 ?d1 ?u1 (c_s2i (PySem.Txt.replace (PySem.Txt.rstrip x) (Str.ofString "_") (Str.ofString "")) _ (by rw [hst]; exact struck_digits hb) (by lia) (by lia) [] (fun _ h => nomatch h)) ?_)
  case B1 => k_asm
  case F1 => k_asm
  case X1 => k_asm
  case N1 => k_asm
  case T1 => k_asm
  case k1 => first | exact rfl | assumption
  case d1 => ktr_room
  case u1 => ktr_units
  intro B1 v1 h1 tk1 dr1 n1 hB1 hL1 R1 F1 N1
  obtain ⟨ps, e1, t1, e2⟩ := R1
  subst e1; subst e2
  rw [hst]
  try k_fold
  k_steps
  (rename News _ _ _ (_ :: _) => hN9)
  exact hret _ _ _ _ _ ⟨_, rfl, _, rfl⟩ (by assumption) (news_app (a := [(_, _)]) (news_sub hN9 (by walk_at "allIn")) (by assumption))
end sk_c_ifs
section
variable {w : World} {p0 : Program} {loose : List Str} {mean : ExcName → Option Value} {mg mb : Str → Option Value}
theorem c_ifs (x : PySem.Str) (tx : Tok) (body tail ini : List Nat) (dg : Nat) (hx : x.cps.toList = body ++ tail) (hb : ∀ c ∈ body, (48 ≤ c ∧ c ≤ 57) ∨ c = 95) (ht : ∀ c ∈ tail, c = 32 ∨ c = 9 ∨ c = 10) (hl : body = ini ++ [dg]) (hdg : 48 ≤ dg ∧ dg ≤ 57)
    (hn : (body.filter (· != 95)).length ≤ 8000) (h2 : x.length ≤ 20000) (rest : List (Addr × Obj)) (hr : ∀ q ∈ rest, ∀ p ∈ [((24 : Addr), tabObj #[])], q.1 ≠ p.1) :
    CtrD w p0 loose mean mg mb 50 500 36 [.str x tx] ([(24, tabObj #[])] ++ rest) (fun B v n' => ∃ ps, n' = (24, tabObj ps) :: rest ∧ ∃ t, v = .int ((PySem.NumText.digitsVal (body.filter (· != 95)) : Nat) : Int) t) := by
  intro dp un gd cn cs a' ccd cl outer A₀ base h₀ L m s Q E
  intro B F X N T hk hd hu hret
  have X0 := X
  revert X; k_fill; intro X
  have S : Sp h₀ L s.heap [(24, tabObj #[])] rest := ⟨news_sub N (fun p hp => List.mem_append_left _ hp), news_sub N (fun p hp => List.mem_append_right _ hp), hr⟩
  walk_at "enterS"
  intro g9 L9 h9
  exact sk_c_ifs.skAll sk_c_ifs.skBody w p0 loose mean mg mb x tx body tail ini dg rest dp un gd cn cs a' ccd cl outer A₀ base h₀ L m s Q E g9 L9 h9 hx hb ht hl hdg hn h2 hr B F X0 N T hk hd hu hret

end
end
example {prog : Program} {w : World} {A : Around} {env : Env} {Q : Flow → Shared → Prop} {E : Value → Shared → Prop} {s : Shared} (h : wpAny (model prog w) A (execs [] env) Q E s) : wpAny (model prog w) A (execs [] env) Q E s := by ((k_with "now" => have kReset : True := trivial); (k_with "piece" => have kP_W1 : True := trivial); w_top off; first | (walk1; fail) | exact h)
section
section
variable {prog : Program} {w : World} {A : Around} {E : Value → Shared → Prop} {s : Shared}
theorem nb_of {K : Frag} {h : Heap} (X : K.In h) (e : nsIn K cStatics sharingNotToldKey = some none) : Looks (model prog w) h (nsGet cStatics sharingNotToldKey) none := looks_nsIn X e
theorem snt {h : Heap} {t : Tok} {Q : Bool → Shared → Prop} (hb : Looks (model prog w) h (nsGet cStatics sharingNotToldKey) none) (hk : ∀ b o, h.get? b = some o → s.heap.get? b = some o) (hq : Q false s) : wpAny (model prog w) A (sharingNotTold t) Q E s := by
  unfold sharingNotTold
  exact wpAny_bind (hb _ _ _ _ hk (wpAny_pure hq))
theorem created_any {h : Heap} {c : Bool} {t u : Tok} {Q : Bool → Shared → Prop} (hb : Looks (model prog w) h (nsGet cStatics sharingNotToldKey) none) (hk : ∀ b o, h.get? b = some o → s.heap.get? b = some o) (ht : t ≠ 0) (hu : u ≠ 0)
    (htu : t = u → c = true) (hq : ∀ r, (r = true → c = true) → Q r s) : wpAny (model prog w) A (isSame.created c t u) Q E s := by
  unfold isSame.created
  have h0 : (t == 0 || u == 0) = false := by simp [ht, hu]
  refine wpAny_ite ?_
  split
  · rename_i h; rw [h0] at h; exact absurd h Bool.false_ne_true
  refine wpAny_ite ?_
  split
  · rename_i h; exact wpAny_pure (hq _ fun _ => htu (eq_of_beq h))
  refine wpAny_ite ?_
  split
  · exact wpAny_pure (hq _ fun h => absurd h Bool.false_ne_true)
  · rename_i hc
    have hc' : c = true := by cases c <;> simp_all
    refine wpAny_bind (snt hb hk ?_)
    simp only [Bool.false_eq_true, if_false]
    refine wpAny_bind (snt hb hk ?_)
    simp only [Bool.false_eq_true, if_false]
    exact wpAny_bind (wpAny_rule (wpAny_bind (wpAny_askSetting (wpAny_pure (hq _ fun _ => hc')))))
end
end
example {prog : Program} {w : World} {A : Around} {env : Env} {Q : Flow → Shared → Prop} {E : Value → Shared → Prop} {s : Shared} (h : wpAny (model prog w) A (execs [] env) Q E s) : wpAny (model prog w) A (execs [] env) Q E s := by ((k_with "now" => have kReset : True := trivial); (k_with "piece" => have kP_W4 : True := trivial); w_top off; first | (walk1; fail) | exact h)
section
section
variable {prog : Program} {w : World} {A : Around} {E : Value → Shared → Prop} {s : Shared}
theorem entry_proto_is : entryFor table "proto.is" = some Builtin.«proto.is» := entryFor_of_fast (by kernel_rfl)
abbrev NoBook (prog : Program) (w : World) (h : Heap) : Prop := Looks (model prog w) h (nsGet cStatics sharingNotToldKey) none
theorem pis {p q : Value} {Q : Value → Shared → Prop} (h : ∀ A' : Around, wpAny (model prog w) A' (isSame p q) (fun r s' => Q (.bool r) s') E s) : wpAny (model prog w) A (runValue (.builtin "proto.is" ⟨[p, q], []⟩)) Q E s := by
  refine wpAny_runValue (codeAny_builtin entry_proto_is ?_)
  show wpAny _ _ (isSame p q >>= fun r => ret (.bool r)) _ _ s
  refine wpAny_bind (wpAny_mono (h _) (fun r s' hq => ?_) fun _ _ e => e)
  exact wpAny_pure hq
end
section
variable {prog : Program} {w : World} {A : Around} {E : Value → Shared → Prop} {s : Shared}
theorem emp_b {P : Params} {p q : Array UInt8} {t u : Tok} : emptiesJoinedAsOfOld P (.bytes p t) (.bytes q u) = pure true := rfl
theorem emp_i {P : Params} {p q : Int} {t u : Tok} : emptiesJoinedAsOfOld P (.int p t) (.int q u) = pure true := rfl
theorem sameItems2 {p q : Array UInt8} {i j : Int} {t u t' u' : Tok} {c1 c2 : Prop} {Q : Bool → Shared → Prop}
    (h1 : ∀ A' (Q' : Bool → Shared → Prop), (∀ r : Bool, (r = true → c1) → Q' r s) → wpAny (model prog w) A' (isSame (.bytes p t) (.bytes q t')) Q' E s)
    (h2 : ∀ A' (Q' : Bool → Shared → Prop), (∀ r : Bool, (r = true → c2) → Q' r s) → wpAny (model prog w) A' (isSame (.int i u) (.int j u')) Q' E s)
    (h : ∀ r : Bool, (r = true → c1 ∧ c2) → Q r s) : wpAny (model prog w) A (sameItems #[.bytes p t, .int i u] #[.bytes q t', .int j u']) Q E s := by
  unfold sameItems
  refine wpAny_ite ?_
  rw [if_neg (by simp)]
  refine wpAny_bind ?_
  show wpAny _ _ (forIn [(Value.bytes p t, Value.bytes q t'), (Value.int i u, Value.int j u')] _ _) _ _ _
  have bad : wpAny (model prog w) A (pure false) Q E s := wpAny_pure (h false (fun e => absurd e Bool.false_ne_true))
  rw [List.forIn_cons]
  refine wpAny_bind ?_
  dsimp only
  refine wpAny_bind (pis fun A' => h1 A' _ fun r hr => ?_)
  cases r with
  | false => exact wpAny_pure (wpAny_pure bad)
  | true =>
    refine wpAny_bind (wpAny_askSetting ?_)
    refine wpAny_ite ?_
    split
    · exact wpAny_pure (wpAny_pure bad)
    rw [emp_b]
    refine wpAny_bind (wpAny_pure ?_)
    rw [if_neg (by simp)]
    refine wpAny_pure ?_
    dsimp only
    rw [List.forIn_cons]
    refine wpAny_bind ?_
    dsimp only
    refine wpAny_bind (pis fun A' => h2 A' _ fun r2 hr2 => ?_)
    cases r2 with
    | false => exact wpAny_pure (wpAny_pure bad)
    | true =>
      refine wpAny_bind (wpAny_askSetting ?_)
      refine wpAny_ite ?_
      split
      · exact wpAny_pure (wpAny_pure bad)
      rw [emp_i]
      refine wpAny_bind (wpAny_pure ?_)
      rw [if_neg (by simp)]
      refine wpAny_pure ?_
      dsimp only
      rw [List.forIn_nil]
      exact wpAny_pure (wpAny_pure (h true fun _ => ⟨hr rfl, hr2 rfl⟩))
/-- is two tuples of bytes and an int one thing: if so, they have the same in them -/
theorem is_tup2 {M : Type} {x y : Addr} {ox oy : Obj} {p q : Array UInt8} {i j : Int} {t u t' u' : Tok} {nx ny : Nat} {hB : Heap} {Q : Value → Shared → Prop}
    (hb : NoBook prog w hB) (hk : ∀ b o, hB.get? b = some o → s.heap.get? b = some o) (hne : x ≠ y) (hx : s.heap.get? x = some ox) (hcx : ox.cls = .type "tuple") (hdx : ox.data = .seq #[.bytes p t, .int i u] nx)
    (hy : s.heap.get? y = some oy) (hcy : oy.cls = .type "tuple") (hdy : oy.data = .seq #[.bytes q t', .int j u'] ny) (h1 : t ≠ 0) (h2 : u ≠ 0) (h3 : t' ≠ 0) (h4 : u' ≠ 0) (h5 : t = t' → p = q) (h6 : u = u' → i = j)
    (h : ∀ r : Bool, (r = true → p = q ∧ i = j) → Q (.bool r) s) : wpAny (model prog w) A (compareOp .Is (.ref x) (.ref y)) Q E s := by
  show wpAny _ A (do return .bool (← isSame (.ref x) (.ref y))) Q E s
  refine wpAny_bind ?_
  have bad : Q (.bool false) s := h false (fun e => absurd e Bool.false_ne_true)
  show wpAny _ A (if (x == y) = true then pure true else _) _ E s
  rw [if_neg (by simpa using hne)]
  refine wpAny_bind (wpAny_load hx (wpAny_bind (wpAny_load hy ?_)))
  rw [hcx, hcy, hdx, hdy]
  show wpAny _ A (if (false && false) = true then _ else sameTuple x y _ _) _ E s
  rw [if_neg (by decide)]
  unfold sameTuple
  refine wpAny_bind (wpAny_askSetting ?_)
  refine wpAny_ite ?_
  split
  · exact wpAny_pure (wpAny_pure bad)
  refine wpAny_ite ?_
  split
  · exact wpAny_pure (wpAny_pure bad)
  refine wpAny_bind (wpAny_holding (sameItems2 (c1 := p = q) (c2 := i = j) (fun A' Q' hq => ?_) (fun A' Q' hq => ?_) fun r hr => ?_))
  · exact created_any hb hk h1 h3 (fun e => by rw [h5 e]; simp) fun r hr => hq r fun e => eq_of_beq (hr e)
  · show wpAny _ A' (if (i == j && smallInt i) = true then isSame.cachedInt u u' else isSame.created (i == j) u u') Q' E s
    refine wpAny_ite ?_
    split
    · rename_i hc
      unfold isSame.cachedInt
      have h0 : (u == 0 || u' == 0) = false := by simp [h2, h4]
      refine wpAny_ite ?_
      split
      · rename_i h; rw [h0] at h; exact absurd h Bool.false_ne_true
      · refine wpAny_bind (wpAny_rule (wpAny_pure (hq _ fun _ => ?_)))
        exact eq_of_beq (Bool.and_eq_true_iff.mp hc).1
    · exact created_any hb hk h2 h4 (fun e => by rw [h6 e]; simp) fun r hr => hq r fun e => eq_of_beq (hr e)
  · cases r with
    | false => exact wpAny_pure (wpAny_pure bad)
    | true => exact wpAny_bind (wpAny_rule (wpAny_pure (wpAny_pure (h true hr))))
open PySem.SeqAt in
theorem eq_bytesAt {p q : Array UInt8} {t u : Tok} : EqAt A s (.bytes p t) (.bytes q u) (decide (p = q)) := fun prog w E Q hq => by
  unfold eqBool
  refine wpAny_holding ?_
  have e : (p.toList == q.toList) = decide (p = q) := by
    rw [Bool.eq_iff_iff, beq_iff_eq, decide_eq_true_iff, Array.toList_inj]
  refine wpAny_ite_split (fun hab => ?_) (fun hab => ?_)
  · have e : p = q := by have := eq_of_beq hab; injection this
    subst e
    exact wpAny_bind (wpAny_rule (wpAny_pure (by simpa using hq)))
  · refine wpAny_bind (richCompare_gives (op := .Eq) (T := "bytes") rfl rfl FB.slot_bytes_eq FB.entry_bytes_eq (FB.args_bytes_eq_2 _ _) (PySem.W.gives_bytes_eq p q t u) (fun x => nomatch x) (wpAny_truthy_bool ?_))
    rw [e]; exact hq
open PySem.SeqAt in
theorem eq_tup2 {x y : Addr} {p q : Array UInt8} {i j : Int} {t u t' u' : Tok} {Q : Value → Shared → Prop} (hx : s.heap.IsTuple x #[.bytes p t, .int i u]) (hy : s.heap.IsTuple y #[.bytes q t', .int j u']) (hu : A.units < cLine)
    (h : Q (.bool (decide (p = q ∧ i = j))) s) : wpAny (model prog w) A (compareOp .Eq (.ref x) (.ref y)) Q E s := by
  refine eq_tupleAt (e := fun k => if k = 0 then decide (p = q) else i == j) hx hy hu (fun k h1 h2 => ?_) ?_
  · match k, h1 with
    | 0, _ => exact eq_bytesAt
    | 1, _ => exact EqAt.int_int _ _ _ _
  · have e : ((List.range (min (#[Value.bytes p t, Value.int i u] : Array Value).size (#[Value.bytes q t', Value.int j u'] : Array Value).size)).all (fun k => if k = 0 then decide (p = q) else i == j) && (#[Value.bytes p t, Value.int i u] : Array Value).size == (#[Value.bytes q t', Value.int j u'] : Array Value).size) = decide (p = q ∧ i = j) := by
      show ((List.range 2).all _ && (2 == 2)) = _
      simp [List.range_succ, List.range_zero]
      rfl
    rw [e]; exact h
end
end
example {prog : Program} {w : World} {A : Around} {env : Env} {Q : Flow → Shared → Prop} {E : Value → Shared → Prop} {s : Shared} (h : wpAny (model prog w) A (execs [] env) Q E s) : wpAny (model prog w) A (execs [] env) Q E s := by ((k_with "now" => have kReset : True := trivial); (k_with "piece" => have kP_C14 : True := trivial); w_top off; first | (walk1; fail) | exact h)
section
example : True := by
  k_with "m compareOp Is ref ref" => ((fail_if_success (fail_if_success (k_extra "piece"; clear kP_C14))); k_extra "ov is")
  k_with "m compareOp Eq ref ref" => ((fail_if_success (fail_if_success (k_extra "piece"; clear kP_C14))); k_extra "ov eq")
  trivial
section
variable {w : World} {p0 : Program} {loose : List Str} {mean : ExcName → Option Value} {mg mb : Str → Option Value}
abbrev tupO (b : Array UInt8) (t : Tok) (e : Int) (u : Tok) : Obj := { cls := .type "tuple", data := .seq #[.bytes b t, .int e u] }
theorem tupO_at {h₀ h : Heap} {L d : Addr} {b : Array UInt8} {t u : Tok} {e : Int} {news : List (Addr × Obj)} (N : News h₀ L h news) (hm : (d, tupO b t e u) ∈ news) : h.IsTuple d #[.bytes b t, .int e u] := ⟨_, (N _ hm).1, rfl, 0, rfl⟩
theorem is_tupN {prog : Program} {A : Around} {E : Value → Shared → Prop} {s : Shared} {x y : Addr} {p q : Array UInt8} {i j : Int} {t u t' u' : Tok} {h₀ : Heap} {L : Addr} {m : Str → Option Value} {news : List (Addr × Obj)} {Q : Value → Shared → Prop}
    (hb : NoBook prog w h₀) (F : Fr h₀ L s.heap m) (N : News h₀ L s.heap news) (hx : (x, tupO p t i u) ∈ news) (hy : (y, tupO q t' j u') ∈ news) (hne : @Ne Nat x y) (h1 : t ≠ 0) (h2 : u ≠ 0) (h3 : t' ≠ 0) (h4 : u' ≠ 0) (h5 : @Ne Nat t t') (h6 : @Ne Nat u u')
    (h : ∀ r : Bool, (r = true → p = q ∧ i = j) → Q (.bool r) s) : wpAny (model prog w) A (compareOp .Is (.ref x) (.ref y)) Q E s :=
  is_tup2 (M := Unit) hb F.keep hne (N _ hx).1 rfl rfl (N _ hy).1 rfl rfl h1 h2 h3 h4 (fun e => absurd e h5) (fun e => absurd e h6) h
end
namespace sk_c_count
abbrev skD : Type := (World) × (Program) × (List PySem.Str) × (ExcName → Option Value) × (PySem.Str → Option Value) × (PySem.Str → Option Value) × (Addr) × (Addr) × (Addr) × (Addr) × (Array UInt8) × (Array UInt8) × (Array UInt8) × (Tok) × (Tok) × (Tok) × (Tok) × (Tok) × (Tok) × (Int) × (Int) × (Int) × (Nat) × (List (Addr × Obj)) × (Nat) × (Nat) × (Option (List Code)) × (PySem.Str) × (Scope) × (Addr) × (Value) × (List (PySem.Str × Addr)) × (List Env) × (Around) × (Heap) × (Heap) × (Addr) × (PySem.Str → Option Value) × (Shared) × (Value → Shared → Prop) × (Value → Shared → Prop) × (Heap) × (Addr) × (Heap)
def skP (w : World) (p0 : Program) (loose : List PySem.Str) (mean : ExcName → Option Value) (mg : PySem.Str → Option Value) (mb : PySem.Str → Option Value) (W : Addr) (d0 : Addr) (d1 : Addr) (d2 : Addr) (b0 : Array UInt8) (b1 : Array UInt8) (b2 : Array UInt8) (t0 : Tok) (t1 : Tok) (t2 : Tok) (u0 : Tok) (u1 : Tok) (u2 : Tok) (e0 : Int) (e1 : Int) (e2 : Int) (ep : Nat) (rest : List (Addr × Obj)) (dp : Nat) (un : Nat) (gd : Option (List Code)) (cn : PySem.Str) (cs : Scope) (a' : Addr) (ccd : Value) (cl : List (PySem.Str × Addr)) (outer : List Env) (A₀ : Around) (base : Heap) (h₀ : Heap) (L : Addr) (m : PySem.Str → Option Value) (s : Shared) (Q : Value → Shared → Prop) (E : Value → Shared → Prop) (g9 : Heap) (L9 : Addr) (h9 : Heap) : Prop := ∀ (h01 : @Ne Nat d0 d1) (h21 : @Ne Nat d2 d1) (z1 : t0 ≠ 0) (z2 : t1 ≠ 0) (z3 : t2 ≠ 0) (z4 : u0 ≠ 0) (z5 : u1 ≠ 0) (z6 : u2 ≠ 0) (y1 : @Ne Nat t0 t1) (y2 : @Ne Nat t2 t1) (y3 : @Ne Nat u0 u1) (y4 : @Ne Nat u2 u1) (hr : ∀ q ∈ rest, ∀ p ∈ [(W, listOf #[.ref d0, .ref d1, .ref d2] ep), (d0, tupO b0 t0 e0 u0), (d1, tupO b1 t1 e1 u1), (d2, tupO b2 t2 e2 u2)], q.1 ≠ p.1),
    CtrG w p0 loose mean mg mb 20 200 92 [.ref W, .ref d1] ([(W, listOf #[.ref d0, .ref d1, .ref d2] ep), (d0, tupO b0 t0 e0 u0), (d1, tupO b1 t1 e1 u1), (d2, tupO b2 t2 e2 u2)] ++ rest)
      (fun B v n' => n' = [(W, listOf #[.ref d0, .ref d1, .ref d2] ep), (d0, tupO b0 t0 e0 u0), (d1, tupO b1 t1 e1 u1), (d2, tupO b2 t2 e2 u2)] ++ rest ∧ ∃ t, v = .int (1 + (if b0 = b1 ∧ e0 = e1 then 1 else 0) + (if b2 = b1 ∧ e2 = e1 then 1 else 0)) t) dp un gd cn cs a' ccd cl outer A₀ base h₀ L m s Q E (premOf3 (B := CtrAt w p0 loose mean mg mb 20 200 92 [.ref W, .ref d1] ([(W, listOf #[.ref d0, .ref d1, .ref d2] ep), (d0, tupO b0 t0 e0 u0), (d1, tupO b1 t1 e1 u1), (d2, tupO b2 t2 e2 u2)] ++ rest)
      (fun B v n' => n' = [(W, listOf #[.ref d0, .ref d1, .ref d2] ep), (d0, tupO b0 t0 e0 u0), (d1, tupO b1 t1 e1 u1), (d2, tupO b2 t2 e2 u2)] ++ rest ∧ ∃ t, v = .int (1 + (if b0 = b1 ∧ e0 = e1 then 1 else 0) + (if b2 = b1 ∧ e2 = e1 then 1 else 0)) t) dp un gd cn cs a' ccd cl outer A₀ base h₀ L m s Q E) (by
      intro hh
      unfold CtrAt
      intro B F X N T hk hd hu hret
      revert X; k_fill; intro X
      have S : Sp h₀ L s.heap [(W, listOf #[.ref d0, .ref d1, .ref d2] ep), (d0, tupO b0 t0 e0 u0), (d1, tupO b1 t1 e1 u1), (d2, tupO b2 t2 e2 u2)] rest := ⟨news_sub N (fun p hp => List.mem_append_left _ hp), news_sub N (fun p hp => List.mem_append_right _ hp), hr⟩
      walk_at "enterS"
      exact hh) g9 L9 h9)
theorem skN : Nonempty skD := ⟨(Classical.choice neWorld, default, default, default, default, default, default, default, default, default, default, default, default, default, default, default, default, default, default, default, default, default, default, default, default, default, default, default, default, default, default, default, default, ({} : Around), default, default, default, default, ({} : Shared), default, default, default, default, default)⟩
@[irreducible] noncomputable def skK : skD := @Classical.epsilon skD skN fun d => ¬ skP d.1 d.2.1 d.2.2.1 d.2.2.2.1 d.2.2.2.2.1 d.2.2.2.2.2.1 d.2.2.2.2.2.2.1 d.2.2.2.2.2.2.2.1 d.2.2.2.2.2.2.2.2.1 d.2.2.2.2.2.2.2.2.2.1 d.2.2.2.2.2.2.2.2.2.2.1 d.2.2.2.2.2.2.2.2.2.2.2.1 d.2.2.2.2.2.2.2.2.2.2.2.2.1 d.2.2.2.2.2.2.2.2.2.2.2.2.2.1 d.2.2.2.2.2.2.2.2.2.2.2.2.2.2.1 d.2.2.2.2.2.2.2.2.2.2.2.2.2.2.2.1 d.2.2.2.2.2.2.2.2.2.2.2.2.2.2.2.2.1 d.2.2.2.2.2.2.2.2.2.2.2.2.2.2.2.2.2.1 d.2.2.2.2.2.2.2.2.2.2.2.2.2.2.2.2.2.2.1 d.2.2.2.2.2.2.2.2.2.2.2.2.2.2.2.2.2.2.2.1 d.2.2.2.2.2.2.2.2.2.2.2.2.2.2.2.2.2.2.2.2.1 d.2.2.2.2.2.2.2.2.2.2.2.2.2.2.2.2.2.2.2.2.2.1 d.2.2.2.2.2.2.2.2.2.2.2.2.2.2.2.2.2.2.2.2.2.2.1 d.2.2.2.2.2.2.2.2.2.2.2.2.2.2.2.2.2.2.2.2.2.2.2.1 d.2.2.2.2.2.2.2.2.2.2.2.2.2.2.2.2.2.2.2.2.2.2.2.2.1 d.2.2.2.2.2.2.2.2.2.2.2.2.2.2.2.2.2.2.2.2.2.2.2.2.2.1 d.2.2.2.2.2.2.2.2.2.2.2.2.2.2.2.2.2.2.2.2.2.2.2.2.2.2.1 d.2.2.2.2.2.2.2.2.2.2.2.2.2.2.2.2.2.2.2.2.2.2.2.2.2.2.2.1 d.2.2.2.2.2.2.2.2.2.2.2.2.2.2.2.2.2.2.2.2.2.2.2.2.2.2.2.2.1 d.2.2.2.2.2.2.2.2.2.2.2.2.2.2.2.2.2.2.2.2.2.2.2.2.2.2.2.2.2.1 d.2.2.2.2.2.2.2.2.2.2.2.2.2.2.2.2.2.2.2.2.2.2.2.2.2.2.2.2.2.2.1 d.2.2.2.2.2.2.2.2.2.2.2.2.2.2.2.2.2.2.2.2.2.2.2.2.2.2.2.2.2.2.2.1 d.2.2.2.2.2.2.2.2.2.2.2.2.2.2.2.2.2.2.2.2.2.2.2.2.2.2.2.2.2.2.2.2.1 d.2.2.2.2.2.2.2.2.2.2.2.2.2.2.2.2.2.2.2.2.2.2.2.2.2.2.2.2.2.2.2.2.2.1 d.2.2.2.2.2.2.2.2.2.2.2.2.2.2.2.2.2.2.2.2.2.2.2.2.2.2.2.2.2.2.2.2.2.2.1 d.2.2.2.2.2.2.2.2.2.2.2.2.2.2.2.2.2.2.2.2.2.2.2.2.2.2.2.2.2.2.2.2.2.2.2.1 d.2.2.2.2.2.2.2.2.2.2.2.2.2.2.2.2.2.2.2.2.2.2.2.2.2.2.2.2.2.2.2.2.2.2.2.2.1 d.2.2.2.2.2.2.2.2.2.2.2.2.2.2.2.2.2.2.2.2.2.2.2.2.2.2.2.2.2.2.2.2.2.2.2.2.2.1 d.2.2.2.2.2.2.2.2.2.2.2.2.2.2.2.2.2.2.2.2.2.2.2.2.2.2.2.2.2.2.2.2.2.2.2.2.2.2.1 d.2.2.2.2.2.2.2.2.2.2.2.2.2.2.2.2.2.2.2.2.2.2.2.2.2.2.2.2.2.2.2.2.2.2.2.2.2.2.2.1 d.2.2.2.2.2.2.2.2.2.2.2.2.2.2.2.2.2.2.2.2.2.2.2.2.2.2.2.2.2.2.2.2.2.2.2.2.2.2.2.2.1 d.2.2.2.2.2.2.2.2.2.2.2.2.2.2.2.2.2.2.2.2.2.2.2.2.2.2.2.2.2.2.2.2.2.2.2.2.2.2.2.2.2.1 d.2.2.2.2.2.2.2.2.2.2.2.2.2.2.2.2.2.2.2.2.2.2.2.2.2.2.2.2.2.2.2.2.2.2.2.2.2.2.2.2.2.2.1 d.2.2.2.2.2.2.2.2.2.2.2.2.2.2.2.2.2.2.2.2.2.2.2.2.2.2.2.2.2.2.2.2.2.2.2.2.2.2.2.2.2.2.2
@[irreducible] noncomputable def w : World := skK.1
@[irreducible] noncomputable def p0 : Program := skK.2.1
@[irreducible] noncomputable def loose : List PySem.Str := skK.2.2.1
@[irreducible] noncomputable def mean : ExcName → Option Value := skK.2.2.2.1
@[irreducible] noncomputable def mg : PySem.Str → Option Value := skK.2.2.2.2.1
@[irreducible] noncomputable def mb : PySem.Str → Option Value := skK.2.2.2.2.2.1
@[irreducible] noncomputable def W : Addr := skK.2.2.2.2.2.2.1
@[irreducible] noncomputable def d0 : Addr := skK.2.2.2.2.2.2.2.1
@[irreducible] noncomputable def d1 : Addr := skK.2.2.2.2.2.2.2.2.1
@[irreducible] noncomputable def d2 : Addr := skK.2.2.2.2.2.2.2.2.2.1
@[irreducible] noncomputable def b0 : Array UInt8 := skK.2.2.2.2.2.2.2.2.2.2.1
@[irreducible] noncomputable def b1 : Array UInt8 := skK.2.2.2.2.2.2.2.2.2.2.2.1
@[irreducible] noncomputable def b2 : Array UInt8 := skK.2.2.2.2.2.2.2.2.2.2.2.2.1
@[irreducible] noncomputable def t0 : Tok := skK.2.2.2.2.2.2.2.2.2.2.2.2.2.1
@[irreducible] noncomputable def t1 : Tok := skK.2.2.2.2.2.2.2.2.2.2.2.2.2.2.1
@[irreducible] noncomputable def t2 : Tok := skK.2.2.2.2.2.2.2.2.2.2.2.2.2.2.2.1
@[irreducible] noncomputable def u0 : Tok := skK.2.2.2.2.2.2.2.2.2.2.2.2.2.2.2.2.1
@[irreducible] noncomputable def u1 : Tok := skK.2.2.2.2.2.2.2.2.2.2.2.2.2.2.2.2.2.1
@[irreducible] noncomputable def u2 : Tok := skK.2.2.2.2.2.2.2.2.2.2.2.2.2.2.2.2.2.2.1
@[irreducible] noncomputable def e0 : Int := skK.2.2.2.2.2.2.2.2.2.2.2.2.2.2.2.2.2.2.2.1
@[irreducible] noncomputable def e1 : Int := skK.2.2.2.2.2.2.2.2.2.2.2.2.2.2.2.2.2.2.2.2.1
@[irreducible] noncomputable def e2 : Int := skK.2.2.2.2.2.2.2.2.2.2.2.2.2.2.2.2.2.2.2.2.2.1
@[irreducible] noncomputable def ep : Nat := skK.2.2.2.2.2.2.2.2.2.2.2.2.2.2.2.2.2.2.2.2.2.2.1
@[irreducible] noncomputable def rest : List (Addr × Obj) := skK.2.2.2.2.2.2.2.2.2.2.2.2.2.2.2.2.2.2.2.2.2.2.2.1
@[irreducible] noncomputable def dp : Nat := skK.2.2.2.2.2.2.2.2.2.2.2.2.2.2.2.2.2.2.2.2.2.2.2.2.1
@[irreducible] noncomputable def un : Nat := skK.2.2.2.2.2.2.2.2.2.2.2.2.2.2.2.2.2.2.2.2.2.2.2.2.2.1
@[irreducible] noncomputable def gd : Option (List Code) := skK.2.2.2.2.2.2.2.2.2.2.2.2.2.2.2.2.2.2.2.2.2.2.2.2.2.2.1
@[irreducible] noncomputable def cn : PySem.Str := skK.2.2.2.2.2.2.2.2.2.2.2.2.2.2.2.2.2.2.2.2.2.2.2.2.2.2.2.1
@[irreducible] noncomputable def cs : Scope := skK.2.2.2.2.2.2.2.2.2.2.2.2.2.2.2.2.2.2.2.2.2.2.2.2.2.2.2.2.1
@[irreducible] noncomputable def a' : Addr := skK.2.2.2.2.2.2.2.2.2.2.2.2.2.2.2.2.2.2.2.2.2.2.2.2.2.2.2.2.2.1
@[irreducible] noncomputable def ccd : Value := skK.2.2.2.2.2.2.2.2.2.2.2.2.2.2.2.2.2.2.2.2.2.2.2.2.2.2.2.2.2.2.1
@[irreducible] noncomputable def cl : List (PySem.Str × Addr) := skK.2.2.2.2.2.2.2.2.2.2.2.2.2.2.2.2.2.2.2.2.2.2.2.2.2.2.2.2.2.2.2.1
@[irreducible] noncomputable def outer : List Env := skK.2.2.2.2.2.2.2.2.2.2.2.2.2.2.2.2.2.2.2.2.2.2.2.2.2.2.2.2.2.2.2.2.1
@[irreducible] noncomputable def A₀ : Around := skK.2.2.2.2.2.2.2.2.2.2.2.2.2.2.2.2.2.2.2.2.2.2.2.2.2.2.2.2.2.2.2.2.2.1
@[irreducible] noncomputable def base : Heap := skK.2.2.2.2.2.2.2.2.2.2.2.2.2.2.2.2.2.2.2.2.2.2.2.2.2.2.2.2.2.2.2.2.2.2.1
@[irreducible] noncomputable def h₀ : Heap := skK.2.2.2.2.2.2.2.2.2.2.2.2.2.2.2.2.2.2.2.2.2.2.2.2.2.2.2.2.2.2.2.2.2.2.2.1
@[irreducible] noncomputable def L : Addr := skK.2.2.2.2.2.2.2.2.2.2.2.2.2.2.2.2.2.2.2.2.2.2.2.2.2.2.2.2.2.2.2.2.2.2.2.2.1
@[irreducible] noncomputable def m : PySem.Str → Option Value := skK.2.2.2.2.2.2.2.2.2.2.2.2.2.2.2.2.2.2.2.2.2.2.2.2.2.2.2.2.2.2.2.2.2.2.2.2.2.1
@[irreducible] noncomputable def s : Shared := skK.2.2.2.2.2.2.2.2.2.2.2.2.2.2.2.2.2.2.2.2.2.2.2.2.2.2.2.2.2.2.2.2.2.2.2.2.2.2.1
@[irreducible] noncomputable def Q : Value → Shared → Prop := skK.2.2.2.2.2.2.2.2.2.2.2.2.2.2.2.2.2.2.2.2.2.2.2.2.2.2.2.2.2.2.2.2.2.2.2.2.2.2.2.1
@[irreducible] noncomputable def E : Value → Shared → Prop := skK.2.2.2.2.2.2.2.2.2.2.2.2.2.2.2.2.2.2.2.2.2.2.2.2.2.2.2.2.2.2.2.2.2.2.2.2.2.2.2.2.1
@[irreducible] noncomputable def g9 : Heap := skK.2.2.2.2.2.2.2.2.2.2.2.2.2.2.2.2.2.2.2.2.2.2.2.2.2.2.2.2.2.2.2.2.2.2.2.2.2.2.2.2.2.1
@[irreducible] noncomputable def L9 : Addr := skK.2.2.2.2.2.2.2.2.2.2.2.2.2.2.2.2.2.2.2.2.2.2.2.2.2.2.2.2.2.2.2.2.2.2.2.2.2.2.2.2.2.2.1
@[irreducible] noncomputable def h9 : Heap := skK.2.2.2.2.2.2.2.2.2.2.2.2.2.2.2.2.2.2.2.2.2.2.2.2.2.2.2.2.2.2.2.2.2.2.2.2.2.2.2.2.2.2.2
theorem skAll (hb : skP w p0 loose mean mg mb W d0 d1 d2 b0 b1 b2 t0 t1 t2 u0 u1 u2 e0 e1 e2 ep rest dp un gd cn cs a' ccd cl outer A₀ base h₀ L m s Q E g9 L9 h9) : ∀ (y0 : World) (y1 : Program) (y2 : List PySem.Str) (y3 : ExcName → Option Value) (y4 : PySem.Str → Option Value) (y5 : PySem.Str → Option Value) (y6 : Addr) (y7 : Addr) (y8 : Addr) (y9 : Addr) (y10 : Array UInt8) (y11 : Array UInt8) (y12 : Array UInt8) (y13 : Tok) (y14 : Tok) (y15 : Tok) (y16 : Tok) (y17 : Tok) (y18 : Tok) (y19 : Int) (y20 : Int) (y21 : Int) (y22 : Nat) (y23 : List (Addr × Obj)) (y24 : Nat) (y25 : Nat) (y26 : Option (List Code)) (y27 : PySem.Str) (y28 : Scope) (y29 : Addr) (y30 : Value) (y31 : List (PySem.Str × Addr)) (y32 : List Env) (y33 : Around) (y34 : Heap) (y35 : Heap) (y36 : Addr) (y37 : PySem.Str → Option Value) (y38 : Shared) (y39 : Value → Shared → Prop) (y40 : Value → Shared → Prop) (y41 : Heap) (y42 : Addr) (y43 : Heap), skP y0 y1 y2 y3 y4 y5 y6 y7 y8 y9 y10 y11 y12 y13 y14 y15 y16 y17 y18 y19 y20 y21 y22 y23 y24 y25 y26 y27 y28 y29 y30 y31 y32 y33 y34 y35 y36 y37 y38 y39 y40 y41 y42 y43 := by
  intro y0 y1 y2 y3 y4 y5 y6 y7 y8 y9 y10 y11 y12 y13 y14 y15 y16 y17 y18 y19 y20 y21 y22 y23 y24 y25 y26 y27 y28 y29 y30 y31 y32 y33 y34 y35 y36 y37 y38 y39 y40 y41 y42 y43
  refine Classical.byContradiction fun hn => ?_
  have h1 := @Classical.epsilon_spec skD (fun d => ¬ skP d.1 d.2.1 d.2.2.1 d.2.2.2.1 d.2.2.2.2.1 d.2.2.2.2.2.1 d.2.2.2.2.2.2.1 d.2.2.2.2.2.2.2.1 d.2.2.2.2.2.2.2.2.1 d.2.2.2.2.2.2.2.2.2.1 d.2.2.2.2.2.2.2.2.2.2.1 d.2.2.2.2.2.2.2.2.2.2.2.1 d.2.2.2.2.2.2.2.2.2.2.2.2.1 d.2.2.2.2.2.2.2.2.2.2.2.2.2.1 d.2.2.2.2.2.2.2.2.2.2.2.2.2.2.1 d.2.2.2.2.2.2.2.2.2.2.2.2.2.2.2.1 d.2.2.2.2.2.2.2.2.2.2.2.2.2.2.2.2.1 d.2.2.2.2.2.2.2.2.2.2.2.2.2.2.2.2.2.1 d.2.2.2.2.2.2.2.2.2.2.2.2.2.2.2.2.2.2.1 d.2.2.2.2.2.2.2.2.2.2.2.2.2.2.2.2.2.2.2.1 d.2.2.2.2.2.2.2.2.2.2.2.2.2.2.2.2.2.2.2.2.1 d.2.2.2.2.2.2.2.2.2.2.2.2.2.2.2.2.2.2.2.2.2.1 d.2.2.2.2.2.2.2.2.2.2.2.2.2.2.2.2.2.2.2.2.2.2.1 d.2.2.2.2.2.2.2.2.2.2.2.2.2.2.2.2.2.2.2.2.2.2.2.1 d.2.2.2.2.2.2.2.2.2.2.2.2.2.2.2.2.2.2.2.2.2.2.2.2.1 d.2.2.2.2.2.2.2.2.2.2.2.2.2.2.2.2.2.2.2.2.2.2.2.2.2.1 d.2.2.2.2.2.2.2.2.2.2.2.2.2.2.2.2.2.2.2.2.2.2.2.2.2.2.1 d.2.2.2.2.2.2.2.2.2.2.2.2.2.2.2.2.2.2.2.2.2.2.2.2.2.2.2.1 d.2.2.2.2.2.2.2.2.2.2.2.2.2.2.2.2.2.2.2.2.2.2.2.2.2.2.2.2.1 d.2.2.2.2.2.2.2.2.2.2.2.2.2.2.2.2.2.2.2.2.2.2.2.2.2.2.2.2.2.1 d.2.2.2.2.2.2.2.2.2.2.2.2.2.2.2.2.2.2.2.2.2.2.2.2.2.2.2.2.2.2.1 d.2.2.2.2.2.2.2.2.2.2.2.2.2.2.2.2.2.2.2.2.2.2.2.2.2.2.2.2.2.2.2.1 d.2.2.2.2.2.2.2.2.2.2.2.2.2.2.2.2.2.2.2.2.2.2.2.2.2.2.2.2.2.2.2.2.1 d.2.2.2.2.2.2.2.2.2.2.2.2.2.2.2.2.2.2.2.2.2.2.2.2.2.2.2.2.2.2.2.2.2.1 d.2.2.2.2.2.2.2.2.2.2.2.2.2.2.2.2.2.2.2.2.2.2.2.2.2.2.2.2.2.2.2.2.2.2.1 d.2.2.2.2.2.2.2.2.2.2.2.2.2.2.2.2.2.2.2.2.2.2.2.2.2.2.2.2.2.2.2.2.2.2.2.1 d.2.2.2.2.2.2.2.2.2.2.2.2.2.2.2.2.2.2.2.2.2.2.2.2.2.2.2.2.2.2.2.2.2.2.2.2.1 d.2.2.2.2.2.2.2.2.2.2.2.2.2.2.2.2.2.2.2.2.2.2.2.2.2.2.2.2.2.2.2.2.2.2.2.2.2.1 d.2.2.2.2.2.2.2.2.2.2.2.2.2.2.2.2.2.2.2.2.2.2.2.2.2.2.2.2.2.2.2.2.2.2.2.2.2.2.1 d.2.2.2.2.2.2.2.2.2.2.2.2.2.2.2.2.2.2.2.2.2.2.2.2.2.2.2.2.2.2.2.2.2.2.2.2.2.2.2.1 d.2.2.2.2.2.2.2.2.2.2.2.2.2.2.2.2.2.2.2.2.2.2.2.2.2.2.2.2.2.2.2.2.2.2.2.2.2.2.2.2.1 d.2.2.2.2.2.2.2.2.2.2.2.2.2.2.2.2.2.2.2.2.2.2.2.2.2.2.2.2.2.2.2.2.2.2.2.2.2.2.2.2.2.1 d.2.2.2.2.2.2.2.2.2.2.2.2.2.2.2.2.2.2.2.2.2.2.2.2.2.2.2.2.2.2.2.2.2.2.2.2.2.2.2.2.2.2.1 d.2.2.2.2.2.2.2.2.2.2.2.2.2.2.2.2.2.2.2.2.2.2.2.2.2.2.2.2.2.2.2.2.2.2.2.2.2.2.2.2.2.2.2) ⟨(y0, y1, y2, y3, y4, y5, y6, y7, y8, y9, y10, y11, y12, y13, y14, y15, y16, y17, y18, y19, y20, y21, y22, y23, y24, y25, y26, y27, y28, y29, y30, y31, y32, y33, y34, y35, y36, y37, y38, y39, y40, y41, y42, y43), hn⟩
  delta w p0 loose mean mg mb W d0 d1 d2 b0 b1 b2 t0 t1 t2 u0 u1 u2 e0 e1 e2 ep rest dp un gd cn cs a' ccd cl outer A₀ base h₀ L m s Q E g9 L9 h9 at hb
  delta skK at hb
  exact h1 hb
theorem skBody : skP w p0 loose mean mg mb W d0 d1 d2 b0 b1 b2 t0 t1 t2 u0 u1 u2 e0 e1 e2 ep rest dp un gd cn cs a' ccd cl outer A₀ base h₀ L m s Q E g9 L9 h9 := by
  unfold skP CtrG premOf3
  intro h01 h21 z1 z2 z3 z4 z5 z6 y1 y2 y3 y4 hr
  intro B F X N T hk hd hu hret
  revert X; k_fill; intro X
  have S : Sp h₀ L s.heap [(W, listOf #[.ref d0, .ref d1, .ref d2] ep), (d0, tupO b0 t0 e0 u0), (d1, tupO b1 t1 e1 u1), (d2, tupO b2 t2 e2 u2)] rest := ⟨news_sub N (fun p hp => List.mem_append_left _ hp), news_sub N (fun p hp => List.mem_append_right _ hp), hr⟩
  k_with "now" => have kNow19 : True := trivial
  intro FG' F' N' B' X' T' l1 l2 l3
  (try k_lt l1); (try dsimp only); (try k_fold)
  (rename Frag.In _ _ => hXin)
  have NB := nb_of (prog := PySem.Challenge.rw_xi0020_01.prog) (w := w) hXin (by kernel_rfl)
  k_with "ov is" => ((fail_if_success (fail_if_success (k_extra "now"; clear kNow19))); first | (refine wpAny_is_ref_self ?_) | (refine' is_tupN NB ?F9 ?N9 ?x9 ?y9 ?ne9 ?_ ?_ ?_ ?_ ?_ ?_ ?_; (case F9 => k_asm); (case N9 => k_asm); (case x9 => k_mem); (case y9 => k_mem); (case ne9 => assumption); assumption; assumption; assumption; assumption; assumption; assumption; intro r9 hr9))
  k_with "ov eq" => ((fail_if_success (fail_if_success (k_extra "now"; clear kNow19))); ((rename News _ _ _ _ => lN8); refine eq_tup2 (tupO_at lN8 (by k_mem)) (tupO_at lN8 (by k_mem)) (by ktr_units) ?_))
  k_steps
  all_goals (rename News _ _ _ (_ :: _) => hN9)
  all_goals refine hret _ _ _ _ ⟨rfl, ktn_int ?_⟩ (by assumption) (news_app (news_sub hN9 (by walk_at "allIn")) (by assumption))
  all_goals clear hN9 hret S F N B X T hXin NB
  all_goals first | rw [if_pos (show b0 = b1 ∧ e0 = e1 by first | with_reducible assumption | (refine (by with_reducible assumption : _ = true → b0 = b1 ∧ e0 = e1) ?_; with_reducible assumption))] | rw [if_neg (show ¬ (b0 = b1 ∧ e0 = e1) by with_reducible assumption)]
  all_goals first | rw [if_pos (show b2 = b1 ∧ e2 = e1 by first | with_reducible assumption | (refine (by with_reducible assumption : _ = true → b2 = b1 ∧ e2 = e1) ?_; with_reducible assumption))] | rw [if_neg (show ¬ (b2 = b1 ∧ e2 = e1) by with_reducible assumption)]
  all_goals rfl
end sk_c_count
section
variable {w : World} {p0 : Program} {loose : List Str} {mean : ExcName → Option Value} {mg mb : Str → Option Value}
theorem c_count (W d0 d1 d2 : Addr) (b0 b1 b2 : Array UInt8) (t0 t1 t2 u0 u1 u2 : Tok) (e0 e1 e2 : Int) (ep : Nat) (h01 : @Ne Nat d0 d1) (h21 : @Ne Nat d2 d1)
    (z1 : t0 ≠ 0) (z2 : t1 ≠ 0) (z3 : t2 ≠ 0) (z4 : u0 ≠ 0) (z5 : u1 ≠ 0) (z6 : u2 ≠ 0) (y1 : @Ne Nat t0 t1) (y2 : @Ne Nat t2 t1) (y3 : @Ne Nat u0 u1) (y4 : @Ne Nat u2 u1) (rest : List (Addr × Obj)) (hr : ∀ q ∈ rest, ∀ p ∈ [(W, listOf #[.ref d0, .ref d1, .ref d2] ep), (d0, tupO b0 t0 e0 u0), (d1, tupO b1 t1 e1 u1), (d2, tupO b2 t2 e2 u2)], q.1 ≠ p.1) :
    Ctr w p0 loose mean mg mb 20 200 92 [.ref W, .ref d1] ([(W, listOf #[.ref d0, .ref d1, .ref d2] ep), (d0, tupO b0 t0 e0 u0), (d1, tupO b1 t1 e1 u1), (d2, tupO b2 t2 e2 u2)] ++ rest)
      (fun B v n' => n' = [(W, listOf #[.ref d0, .ref d1, .ref d2] ep), (d0, tupO b0 t0 e0 u0), (d1, tupO b1 t1 e1 u1), (d2, tupO b2 t2 e2 u2)] ++ rest ∧ ∃ t, v = .int (1 + (if b0 = b1 ∧ e0 = e1 then 1 else 0) + (if b2 = b1 ∧ e2 = e1 then 1 else 0)) t) := by
  intro dp un gd cn cs a' ccd cl outer A₀ base h₀ L m s Q E
  intro B F X N T hk hd hu hret
  have X0 := X
  revert X; k_fill; intro X
  have S : Sp h₀ L s.heap [(W, listOf #[.ref d0, .ref d1, .ref d2] ep), (d0, tupO b0 t0 e0 u0), (d1, tupO b1 t1 e1 u1), (d2, tupO b2 t2 e2 u2)] rest := ⟨news_sub N (fun p hp => List.mem_append_left _ hp), news_sub N (fun p hp => List.mem_append_right _ hp), hr⟩
  walk_at "enterS"
  intro g9 L9 h9
  exact sk_c_count.skAll sk_c_count.skBody w p0 loose mean mg mb W d0 d1 d2 b0 b1 b2 t0 t1 t2 u0 u1 u2 e0 e1 e2 ep rest dp un gd cn cs a' ccd cl outer A₀ base h₀ L m s Q E g9 L9 h9 h01 h21 z1 z2 z3 z4 z5 z6 y1 y2 y3 y4 hr B F X0 N T hk hd hu hret

end
end
section
theorem rnd_scale {A B a b Q k : Nat} (hA : 0 < A) (hB : 0 < B) (hQ : 0 < Q) (hk : 0 < k) (h1 : A * Q = a * k) (h2 : B * Q = b * k) : rnd A B = rnd a b := by
  have ha : 0 < a := by
    rcases Nat.eq_zero_or_pos a with h | h
    · rw [h, Nat.zero_mul] at h1
      have := Nat.mul_pos hA hQ; lia
    · exact h
  have hb : 0 < b := by
    rcases Nat.eq_zero_or_pos b with h | h
    · rw [h, Nat.zero_mul] at h2
      have := Nat.mul_pos hB hQ; lia
    · exact h
  rw [rnd_eq hA hB, rnd_eq ha hb]
  have e1 : (2 * A + B) / (2 * B) = ((2 * A + B) * Q) / ((2 * B) * Q) := (Nat.mul_div_mul_right _ _ hQ).symm
  have e2 : (2 * a + b) / (2 * b) = ((2 * a + b) * k) / ((2 * b) * k) := (Nat.mul_div_mul_right _ _ hk).symm
  rw [e1, e2, Nat.add_mul, Nat.mul_assoc 2 A Q, Nat.mul_assoc 2 B Q, h1, h2, Nat.add_mul, Nat.mul_assoc 2 a k, Nat.mul_assoc 2 b k]
theorem back_core {N c α β R K : Nat} (hα : 0 < α) (hβ : 0 < β) (hR0 : 0 < R) (hN1 : 10 ^ (c - 1) ≤ N) (hN2 : N < 10 ^ c) (hc : 1 ≤ c) (hK : 10 ^ c < K) (h1 : β * K ≤ N * α)
    (hR : 2 * (β * R) ≤ 2 * (N * α) + β ∧ 2 * (N * α) < 2 * (β * R) + β) :
    β * R < 10 ^ c * α ∧ (10 ^ (c - 1) * α ≤ β * R → rnd (β * R) α = N) ∧ (β * R < 10 ^ (c - 1) * α → N = 10 ^ (c - 1) ∧ 10 ^ (c - 1) * α ≤ 10 * (β * R) ∧ rnd (10 * (β * R)) α = 10 ^ c) := by
  have hD : 10 ^ c = 10 * 10 ^ (c - 1) := by rw [Nat.mul_comm, ← Nat.pow_succ]; congr 1; lia
  have hD0 : 0 < 10 ^ (c - 1) := Nat.pow_pos (by lia)
  generalize hY : β * R = Y at *
  have hY0 : 0 < Y := by rw [← hY]; exact Nat.mul_pos hβ hR0
  rw [hD] at hK hN2 ⊢
  generalize 10 ^ (c - 1) = D at *
  have e1 : (N + 1) * α ≤ (10 * D) * α := Nat.mul_le_mul_right _ hN2
  rw [Nat.succ_mul] at e1
  have e2 : β * (10 * D) < α * (10 * D) := by
    have := (Nat.mul_lt_mul_left hβ).mpr hK
    rw [Nat.mul_comm α]; lia
  have hβα : β < α := Nat.lt_of_mul_lt_mul_right e2
  refine ⟨by lia, fun h => ?_, fun h => ?_⟩
  · rw [rnd_iff hY0 hα, Nat.mul_comm α N]; lia
  · have hN : N = D := by
      rcases Nat.lt_or_ge D N with h2 | h2
      · have := Nat.mul_le_mul_right α h2
        rw [Nat.succ_mul] at this; lia
      · lia
    subst hN
    have e3 : (10 * β) * N < α * N := by
      have := (Nat.mul_lt_mul_left hβ).mpr hK
      have e4 : β * (10 * N) = 10 * β * N := by rw [← Nat.mul_assoc, Nat.mul_comm β 10]
      rw [Nat.mul_comm α]; lia
    have h10 : 10 * β < α := Nat.lt_of_mul_lt_mul_right e3
    have e5 : 1 * α ≤ N * α := Nat.mul_le_mul_right _ hD0
    refine ⟨rfl, by lia, ?_⟩
    rw [rnd_iff (by lia) hα]
    have e6 : α * (10 * N) = 10 * (N * α) := by rw [← Nat.mul_assoc, Nat.mul_comm α 10, Nat.mul_assoc, Nat.mul_comm α N]
    rw [e6]; lia
/-- what the letters and their power are worth, laid over what was rounded -/
theorem l_worth {U W c : Nat} (hc : 1 ≤ c) : lN U W c * 16 ^ (lE U W c).toNat * 16 ^ ((lL U W c : Int) - lP U W c).toNat = lR U W c * 16 ^ (lP U W c - (lL U W c : Int)).toNat * 16 ^ (-lE U W c).toNat := by
  unfold lN lE
  by_cases h : lR U W c = 16 ^ c
  · rw [if_pos h, if_pos h, h]
    simp only [← Nat.pow_add]
    congr 1; lia
  · rw [if_neg h, if_neg h]
    generalize lP U W c = p
    generalize (lL U W c : Int) = l
    rw [Nat.mul_assoc, Nat.mul_assoc, show -(p - l) = l - p by lia]
theorem back {N c L : Nat} {p : Int} (hc : 1 ≤ c) (hN1 : 10 ^ (c - 1) ≤ N) (hN2 : N < 10 ^ c) (hK : 10 ^ c < 16 ^ (L - 1)) {U W U' W' : Nat} (eU : U = N * 10 ^ p.toNat) (eW : W = 10 ^ (-p).toNat)
    (eU' : U' = lN U W L * 16 ^ (lE U W L).toNat) (eW' : W' = 16 ^ (-lE U W L).toNat) :
    ∃ l, (l = 1 ∨ l = 2) ∧ blw W' 10 (p + 1) l * 10 ^ (c - 1) ≤ abv U' 10 (p + 1) l ∧ (∀ j, j < l → ¬ blw W' 10 (p + 1) j * 10 ^ (c - 1) ≤ abv U' 10 (p + 1) j) ∧ abv U' 10 (p + 1) l < blw W' 10 (p + 1) l * 10 ^ (c + 1) ∧
      (if rnd (abv U' 10 (p + 1) l) (blw W' 10 (p + 1) l) = 10 ^ c then ((10 ^ (c - 1) : Nat) : Int) else (rnd (abv U' 10 (p + 1) l) (blw W' 10 (p + 1) l) : Int)) = (N : Int) ∧
      (if rnd (abv U' 10 (p + 1) l) (blw W' 10 (p + 1) l) = 10 ^ c then p + 1 - l + 1 else p + 1 - l) = p := by
  have hL : 1 ≤ L := by
    rcases Nat.eq_zero_or_pos L with h | h
    · subst h
      have : 0 < 10 ^ c := Nat.pow_pos (by lia)
      simp at hK
    · exact h
  have hN0 : 0 < N := Nat.lt_of_lt_of_le (Nat.pow_pos (by lia)) hN1
  have hU : 0 < U := by rw [eU]; exact Nat.mul_pos hN0 (Nat.pow_pos (by lia))
  have hW : 0 < W := by rw [eW]; exact Nat.pow_pos (by lia)
  have hw := l_worth (U := U) (W := W) hL
  have hy := l_yes (W := W) hU hL
  have hr := (rnd_iff (m := lR U W L) (lA_pos (W := W) (c := L) hU) (lB_pos (U := U) (c := L) hW)).mp rfl
  have hRin := lR_in hU hW hL
  have hR0 : 0 < lR U W L := Nat.lt_of_lt_of_le (Nat.pow_pos (by lia)) hRin.1
  have hn0 : 0 < lN U W L := Nat.lt_of_lt_of_le (Nat.pow_pos (by lia)) (lN_in hU hW hL).1
  have hU' : 0 < U' := by rw [eU']; exact Nat.mul_pos hn0 (Nat.pow_pos (by lia))
  have hW' : 0 < W' := by rw [eW']; exact Nat.pow_pos (by lia)
  change lB U W L * 16 ^ (L - 1) ≤ lA U W L at hy
  have eA : lA U W L = N * (10 ^ p.toNat * 16 ^ ((lL U W L : Int) - lP U W L).toNat) := by
    show U * 16 ^ ((lL U W L : Int) - lP U W L).toNat = _
    conv => lhs; rw [eU]
    rw [Nat.mul_assoc, ← eU]
  have eB : lB U W L = 10 ^ (-p).toNat * 16 ^ (lP U W L - (lL U W L : Int)).toNat := by
    show W * 16 ^ (lP U W L - (lL U W L : Int)).toNat = _
    conv => lhs; rw [eW]
    rw [← eW]
  rw [eA] at hy hr
  generalize hα : 10 ^ p.toNat * 16 ^ ((lL U W L : Int) - lP U W L).toNat = α at *
  have hα0 : 0 < α := by rw [← hα]; exact Nat.mul_pos (Nat.pow_pos (by lia)) (Nat.pow_pos (by lia))
  have hβ0 := lB_pos (U := U) (c := L) hW
  have core := back_core hα0 hβ0 hR0 hN1 hN2 hc hK hy hr
  generalize hβ : lB U W L = β at *
  generalize hQ : 16 ^ ((lL U W L : Int) - lP U W L).toNat = Q at *
  have hQ0 : 0 < Q := by rw [← hQ]; exact Nat.pow_pos (by lia)
  generalize hP : 16 ^ (lP U W L - (lL U W L : Int)).toNat = P at *
  generalize lR U W L = R at *
  have a1 : abv U' 10 (p + 1) 1 = U' * 10 ^ (-p).toNat := by
    unfold abv; congr 2; lia
  have b1 : blw W' 10 (p + 1) 1 = W' * 10 ^ p.toNat := by
    unfold blw; congr 2; lia
  have hA1 : abv U' 10 (p + 1) 1 * Q = (β * R) * W' := by
    rw [a1, Nat.mul_right_comm, eU', hw, ← eW', eB]
    generalize 10 ^ (-p).toNat = S
    simp only [Nat.mul_comm, Nat.mul_left_comm, Nat.mul_assoc]
  have hB1 : blw W' 10 (p + 1) 1 * Q = α * W' := by
    rw [b1, Nat.mul_assoc, hα, Nat.mul_comm]
  have hA1p : 0 < abv U' 10 (p + 1) 1 := Nat.mul_pos hU' (Nat.pow_pos (by lia))
  have hB1p : 0 < blw W' 10 (p + 1) 1 := Nat.mul_pos hW' (Nat.pow_pos (by lia))
  have hA2p : 0 < abv U' 10 (p + 1) 2 := Nat.mul_pos hU' (Nat.pow_pos (by lia))
  have hB2p : 0 < blw W' 10 (p + 1) 2 := Nat.mul_pos hW' (Nat.pow_pos (by lia))
  -- an inequality of one turn, told by α and β R
  have hcmp : ∀ m, blw W' 10 (p + 1) 1 * m ≤ abv U' 10 (p + 1) 1 ↔ m * α ≤ β * R := by
    intro m
    have e1 : blw W' 10 (p + 1) 1 * m * Q = m * α * W' := by rw [Nat.mul_right_comm, hB1, Nat.mul_comm m α, Nat.mul_right_comm]
    constructor
    · intro h
      have := Nat.mul_le_mul_right Q h
      rw [e1, hA1] at this
      exact Nat.le_of_mul_le_mul_right this hW'
    · intro h
      have := Nat.mul_le_mul_right W' h
      rw [← e1, ← hA1] at this
      exact Nat.le_of_mul_le_mul_right this hQ0
  have hD : 10 ^ c = 10 * 10 ^ (c - 1) := by rw [Nat.mul_comm, ← Nat.pow_succ]; congr 1; lia
  have hD2 : 10 ^ (c + 1) = 10 * 10 ^ c := by rw [Nat.mul_comm, ← Nat.pow_succ]
  have hNc : N ≠ 10 ^ c := by lia
  have n0 : ¬ blw W' 10 (p + 1) 0 * 10 ^ (c - 1) ≤ abv U' 10 (p + 1) 0 := by
    intro h
    have := turn_le' (g := 10) (by lia) h
    rw [← hD] at this
    have := (hcmp _).mp this
    lia
  have up1 : abv U' 10 (p + 1) 1 < blw W' 10 (p + 1) 1 * 10 ^ c := by
    rcases Nat.lt_or_ge (abv U' 10 (p + 1) 1) (blw W' 10 (p + 1) 1 * 10 ^ c) with h | h
    · exact h
    · have := (hcmp _).mp h; lia
  by_cases hy1 : blw W' 10 (p + 1) 1 * 10 ^ (c - 1) ≤ abv U' 10 (p + 1) 1
  · have hr1 : rnd (abv U' 10 (p + 1) 1) (blw W' 10 (p + 1) 1) = N := by
      rw [rnd_scale hA1p hB1p hQ0 hW' hA1 hB1]
      exact core.2.1 ((hcmp _).mp hy1)
    refine ⟨1, .inl rfl, hy1, fun j hj => ?_, ?_, ?_, ?_⟩
    · rw [show j = 0 by lia]; exact n0
    · refine Nat.lt_of_lt_of_le up1 (Nat.mul_le_mul_left _ ?_); lia
    · rw [hr1, if_neg hNc]
    · rw [hr1, if_neg hNc]; lia
  · have hlt : β * R < 10 ^ (c - 1) * α := by
      rcases Nat.lt_or_ge (β * R) (10 ^ (c - 1) * α) with h | h
      · exact h
      · exact absurd ((hcmp _).mpr h) hy1
    obtain ⟨hN, hy2, hr2⟩ := core.2.2 hlt
    have hst := turn_step U' W' 10 (p + 1) 1
    have key : ∃ Q2, 0 < Q2 ∧ abv U' 10 (p + 1) 2 * Q2 = (10 * (β * R)) * W' ∧ blw W' 10 (p + 1) 2 * Q2 = α * W' := by
      rcases hst with ⟨e1, e2⟩ | ⟨e1, e2⟩
      · refine ⟨10 * Q, by lia, ?_, ?_⟩
        · rw [e1, Nat.mul_left_comm, hA1, ← Nat.mul_assoc]
        · rw [← Nat.mul_assoc, ← e2, hB1]
      · refine ⟨Q, hQ0, ?_, ?_⟩
        · rw [e1, Nat.mul_right_comm, hA1, Nat.mul_right_comm, Nat.mul_comm _ 10]
        · rw [e2, hB1]
    obtain ⟨Q2, hQ2, hA2, hB2⟩ := key
    have hr2' : rnd (abv U' 10 (p + 1) 2) (blw W' 10 (p + 1) 2) = 10 ^ c := by
      rw [rnd_scale hA2p hB2p hQ2 hW' hA2 hB2]; exact hr2
    refine ⟨2, .inr rfl, ?_, fun j hj => ?_, ?_, ?_, ?_⟩
    · have e1 : blw W' 10 (p + 1) 2 * 10 ^ (c - 1) * Q2 = 10 ^ (c - 1) * α * W' := by rw [Nat.mul_right_comm, hB2, Nat.mul_right_comm, Nat.mul_comm α]
      have := Nat.mul_le_mul_right W' hy2
      rw [← e1, ← hA2] at this
      exact Nat.le_of_mul_le_mul_right this hQ2
    · rcases (show j = 0 ∨ j = 1 by lia) with e | e
      · rw [e]; exact n0
      · rw [e]; exact hy1
    · have := turn_lt (g := 10) (by lia) up1
      rw [← hD2] at this; exact this
    · rw [hr2', if_pos rfl, hN]
    · rw [hr2', if_pos rfl]; lia
end
section
theorem av_eq (U : Nat) (p : Int) (l : Nat) (E : Int) (h : p - (l : Int) = E) : abv U 16 p l = U * 16 ^ (-E).toNat := by
  unfold abv; congr 2; lia
theorem bw_eq (W : Nat) (p : Int) (l : Nat) (E : Int) (h : p - (l : Int) = E) : blw W 16 p l = W * 16 ^ E.toNat := by
  unfold blw; congr 2; lia
theorem l_A (U W c : Nat) : lA U W c = U * 16 ^ (-(lP U W c - (lL U W c : Int))).toNat := av_eq _ _ _ _ rfl
theorem l_B (U W c : Nat) : lB U W c = W * 16 ^ (lP U W c - (lL U W c : Int)).toNat := bw_eq _ _ _ _ rfl
/-- one scale above another cannot both hold the same number -/
theorem sc_lt {U W c : Nat} {E F : Int} (hc : 1 ≤ c) (h1 : U * 16 ^ (-E).toNat < W * 16 ^ E.toNat * 16 ^ c) (h2 : W * 16 ^ F.toNat * 16 ^ (c - 1) ≤ U * 16 ^ (-F).toNat) : F ≤ E := by
  rcases Int.lt_or_le E F with h | h
  · exfalso
    have g1 := (Nat.mul_lt_mul_right (show 0 < 16 ^ (-F).toNat from Nat.pow_pos (by lia))).mpr h1
    have g2 := Nat.mul_le_mul_right (16 ^ (-E).toNat) h2
    simp only [Nat.mul_assoc, ← Nat.pow_add] at g1 g2
    have e1 : (-E).toNat + (-F).toNat = (-F).toNat + (-E).toNat := Nat.add_comm _ _
    rw [e1] at g1
    have g3 := Nat.lt_of_le_of_lt g2 g1
    have g4 : 16 ^ (E.toNat + c + (-F).toNat) ≤ 16 ^ (F.toNat + (c - 1) + (-E).toNat) := Nat.pow_le_pow_right (by lia) (by lia)
    have g5 := Nat.mul_le_mul_left W g4
    lia
  · exact h
theorem l_scale {U W c : Nat} (hU : 0 < U) (hW : 0 < W) (hc : 1 ≤ c) {E : Int} (h1 : W * 16 ^ E.toNat * 16 ^ (c - 1) ≤ U * 16 ^ (-E).toNat) (h2 : U * 16 ^ (-E).toNat < W * 16 ^ E.toNat * 16 ^ c) :
    lP U W c - (lL U W c : Int) = E := by
  have g1 : lB U W c * 16 ^ (c - 1) ≤ lA U W c := l_yes hU hc
  have g2 : lA U W c < lB U W c * 16 ^ c := l_up hW hc
  rw [l_A, l_B] at g1 g2
  have := sc_lt hc h2 g1
  have := sc_lt hc g2 h1
  lia
theorem l_tell {U W c : Nat} (hU : 0 < U) (hW : 0 < W) (hc : 1 ≤ c) {E : Int} (h1 : W * 16 ^ E.toNat * 16 ^ (c - 1) ≤ U * 16 ^ (-E).toNat) (h2 : U * 16 ^ (-E).toNat < W * 16 ^ E.toNat * 16 ^ c) :
    lN U W c = (if rnd (U * 16 ^ (-E).toNat) (W * 16 ^ E.toNat) = 16 ^ c then 16 ^ (c - 1) else rnd (U * 16 ^ (-E).toNat) (W * 16 ^ E.toNat)) ∧
    lE U W c = (if rnd (U * 16 ^ (-E).toNat) (W * 16 ^ E.toNat) = 16 ^ c then E + 1 else E) := by
  have e := l_scale hU hW hc h1 h2
  have eR : lR U W c = rnd (U * 16 ^ (-E).toNat) (W * 16 ^ E.toNat) := by unfold lR; rw [l_A, l_B, e]
  unfold lN lE
  rw [eR, e]
  exact ⟨rfl, rfl⟩
theorem few_core {M T S f : Nat} (hM : 2 * 16 ^ f ≤ M) (hf : 1 ≤ f) (hT : 0 < T) (hS : 0 < S) :
    (lN ((M + 1) * T) S f = lN (M * T) S f ∧ lE ((M + 1) * T) S f = lE (M * T) S f) ∨
    (lN ((M + 1) * T) S f = lN ((M + 2) * T) S f ∧ lE ((M + 1) * T) S f = lE ((M + 2) * T) S f) := by
  have hf0 : 0 < 16 ^ (f - 1) := Nat.pow_pos (by lia)
  have hfs : 16 ^ f = 16 * 16 ^ (f - 1) := by rw [Nat.mul_comm, ← Nat.pow_succ]; congr 1; lia
  have hU0 : 0 < M * T := Nat.mul_pos (by lia) hT
  have hU1 : 0 < (M + 1) * T := Nat.mul_pos (by lia) hT
  have hU2 : 0 < (M + 2) * T := Nat.mul_pos (by lia) hT
  have y1 : lB ((M + 1) * T) S f * 16 ^ (f - 1) ≤ lA ((M + 1) * T) S f := l_yes hU1 hf
  have y2 : lA ((M + 1) * T) S f < lB ((M + 1) * T) S f * 16 ^ f := l_up hS hf
  rw [l_A, l_B] at y1 y2
  generalize lP ((M + 1) * T) S f - (lL ((M + 1) * T) S f : Int) = E at y1 y2
  obtain ⟨n1, p1⟩ := l_tell hU1 hS hf y1 y2
  have t0 := fun h1 h2 => l_tell (E := E) hU0 hS hf h1 h2
  have t2 := fun h1 h2 => l_tell (E := E) hU2 hS hf h1 h2
  have t3 := fun h1 h2 => l_tell (E := E + 1) hU2 hS hf h1 h2
  have st := turn_step ((M + 2) * T) S 16 (E + 1) 0
  have sA1 : abv ((M + 2) * T) 16 (E + 1) 1 = (M + 2) * T * 16 ^ (-E).toNat := av_eq _ _ _ _ (by lia)
  have sA0 : abv ((M + 2) * T) 16 (E + 1) 0 = (M + 2) * T * 16 ^ (-(E + 1)).toNat := av_eq _ _ _ _ (by lia)
  have sB1 : blw S 16 (E + 1) 1 = S * 16 ^ E.toNat := bw_eq _ _ _ _ (by lia)
  have sB0 : blw S 16 (E + 1) 0 = S * 16 ^ (E + 1).toNat := bw_eq _ _ _ _ (by lia)
  rw [show 0 + 1 = 1 from rfl, sA1, sA0, sB1, sB0, Nat.mul_assoc (M + 2) T (16 ^ (-E).toNat), Nat.mul_assoc (M + 2) T (16 ^ (-(E + 1)).toNat)] at st
  clear sA1 sA0 sB1 sB0
  simp only [Nat.mul_assoc] at n1 p1 t0 t2 t3 y1 y2
  have hα0 : 0 < T * 16 ^ (-E).toNat := Nat.mul_pos hT (Nat.pow_pos (by lia))
  have hβ0 : 0 < S * 16 ^ E.toNat := Nat.mul_pos hS (Nat.pow_pos (by lia))
  have hα3 : 0 < (M + 2) * (T * 16 ^ (-(E + 1)).toNat) := Nat.mul_pos (by lia) (Nat.mul_pos hT (Nat.pow_pos (by lia)))
  have hβ3 : 0 < S * 16 ^ (E + 1).toNat := Nat.mul_pos hS (Nat.pow_pos (by lia))
  simp only [← Nat.mul_assoc S] at n1 p1 t0 t2 t3 y1 y2
  generalize T * 16 ^ (-E).toNat = α at *
  generalize S * 16 ^ E.toNat = β at *
  generalize (M + 2) * (T * 16 ^ (-(E + 1)).toNat) = A3 at *
  generalize S * 16 ^ (E + 1).toNat = B3 at *
  simp only [hfs] at hM n1 p1 t0 t2 t3 y2
  clear hfs
  generalize hK : 16 ^ (f - 1) = K at *
  -- twice α is below β
  have h2 : (2 * α) * (16 * K) < β * (16 * K) := by
    have g1 := Nat.mul_le_mul_right α hM
    have g2 : M * α ≤ (M + 1) * α := Nat.mul_le_mul_right _ (by lia)
    have g3 : 2 * (16 * K) * α = 2 * α * (16 * K) := Nat.mul_right_comm _ _ _
    lia
  have hαβ : 2 * α < β := Nat.lt_of_mul_lt_mul_right h2
  have hA1 : 0 < (M + 1) * α := Nat.mul_pos (by lia) hα0
  have hA0 : 0 < M * α := Nat.mul_pos (by lia) hα0
  have hA2 : 0 < (M + 2) * α := Nat.mul_pos (by lia) hα0
  have e0 : (M + 1) * α = M * α + α := Nat.succ_mul _ _
  have e2 : (M + 2) * α = M * α + 2 * α := Nat.add_mul _ _ _
  have r1 := (rnd_iff (m := rnd ((M + 1) * α) β) hA1 hβ0).mp rfl
  generalize hR : rnd ((M + 1) * α) β = R at *
  have hMK : 2 * (16 * K) * α ≤ M * α := Nat.mul_le_mul_right _ hM
  rcases Nat.lt_or_ge (2 * ((M + 2) * α)) (2 * (β * R) + β) with g | g
  · right
    rcases Nat.lt_or_ge ((M + 2) * α) (β * (16 * K)) with k | k
    · obtain ⟨n2, p2⟩ := t2 (by lia) k
      have hr : rnd ((M + 2) * α) β = R := (rnd_iff hA2 hβ0).mpr ⟨by lia, g⟩
      rw [hr] at n2 p2
      exact ⟨n1.trans n2.symm, p1.trans p2.symm⟩
    · have hRK : R = 16 * K := by
        rcases Nat.lt_trichotomy R (16 * K) with q | q | q
        · have := Nat.mul_le_mul_left β q
          rw [Nat.mul_succ] at this; lia
        · exact q
        · have := Nat.mul_le_mul_left β q
          rw [Nat.mul_succ] at this; lia
      rw [if_pos hRK] at n1 p1
      have hbk : β * (16 * K) = 16 * (β * K) := Nat.mul_left_comm _ _ _
      have hβK : β * 1 ≤ β * K := Nat.mul_le_mul_left _ hf0
      rw [Nat.mul_one] at hβK
      have r3 : B3 * K ≤ A3 ∧ A3 < B3 * (16 * K) ∧ rnd A3 B3 = K := by
        rcases st with ⟨s1, s2⟩ | ⟨s1, s2⟩
        · -- the lower one is sixteen times as great
          rw [rnd_iff hα3 hβ3]
          have b1 : B3 * K = 16 * (β * K) := by rw [s2, Nat.mul_right_comm, Nat.mul_comm]
          have b2 : B3 * (16 * K) = 16 * (16 * (β * K)) := by rw [Nat.mul_left_comm, b1]
          rw [b1, b2, ← s1]
          rw [hRK] at g r1
          lia
        · rw [rnd_iff hα3 hβ3]
          rw [← s2]
          rw [hRK] at g r1
          have b2 : β * (16 * K) = 16 * (β * K) := hbk
          lia
      obtain ⟨q1, q2, q3⟩ := r3
      obtain ⟨n3, p3⟩ := t3 q1 q2
      have hKne : ¬ K = 16 * K := by lia
      rw [q3, if_neg hKne] at n3 p3
      exact ⟨n1.trans n3.symm, p1.trans p3.symm⟩
  · left
    rcases Nat.lt_or_ge (M * α) (β * K) with k | k
    · exfalso
      have hRK : R ≤ K := by
        rcases Nat.lt_or_ge K R with q | q
        · have := Nat.mul_le_mul_left β q
          rw [Nat.mul_succ] at this; lia
        · exact q
      have hRK2 : K ≤ R := by
        rcases Nat.lt_or_ge R K with q | q
        · have := Nat.mul_le_mul_left β q
          rw [Nat.mul_succ] at this; lia
        · exact q
      have hRK3 : R = K := by lia
      subst hRK3
      have h32 : (32 * α) * R < β * R := by
        have g3 : 2 * (16 * R) * α = 32 * α * R := by rw [← Nat.mul_assoc, Nat.mul_right_comm]
        lia
      have := Nat.lt_of_mul_lt_mul_right h32
      lia
    · obtain ⟨n0, p0⟩ := t0 k (by lia)
      have hr : rnd (M * α) β = R := (rnd_iff hA0 hβ0).mpr ⟨by lia, by lia⟩
      rw [hr] at n0 p0
      exact ⟨n1.trans n0.symm, p1.trans p0.symm⟩
end
section
theorem law_cn (c0 : Int) : ∃ cn : Nat, 1 + c0.fmod 9 = (cn : Int) ∧ 1 ≤ cn ∧ cn ≤ 9 := by
  have h1 := Int.fmod_nonneg_of_pos c0 (show (0 : Int) < 9 by lia)
  have h2 := Int.fmod_lt_of_pos c0 (show (0 : Int) < 9 by lia)
  exact ⟨(1 + c0.fmod 9).toNat, by lia, by lia, by lia⟩
theorem law_N (c1 : Int) {cn : Nat} (h : 1 ≤ cn) : ∃ N : Nat, ((10 ^ (cn - 1) : Nat) : Int) + c1.fmod ((9 * 10 ^ (cn - 1) : Nat) : Int) = (N : Int) ∧ 10 ^ (cn - 1) ≤ N ∧ N < 10 ^ cn := by
  have hp : 0 < 10 ^ (cn - 1) := Nat.pow_pos (by lia)
  have e : 10 ^ cn = 10 * 10 ^ (cn - 1) := by rw [Nat.mul_comm, ← Nat.pow_succ]; congr 1; lia
  generalize 10 ^ (cn - 1) = D at *
  have h1 := Int.fmod_nonneg_of_pos c1 (show (0 : Int) < ((9 * D : Nat) : Int) by lia)
  have h2 := Int.fmod_lt_of_pos c1 (show (0 : Int) < ((9 * D : Nat) : Int) by lia)
  generalize c1.fmod ((9 * D : Nat) : Int) = r at *
  exact ⟨((D : Int) + r).toNat, by lia, by lia, by lia⟩
theorem law_p (c2 : Int) : ∃ p : Int, c2.fmod 9001 - 4500 = p ∧ -4500 ≤ p ∧ p ≤ 4500 := by
  have h1 := Int.fmod_nonneg_of_pos c2 (show (0 : Int) < 9001 by lia)
  have h2 := Int.fmod_lt_of_pos c2 (show (0 : Int) < 9001 by lia)
  exact ⟨_, rfl, by lia, by lia⟩
theorem law_z (x : Int) : ∃ z : Nat, x.fmod 2200 = (z : Int) ∧ z < 2200 := by
  have h1 := Int.fmod_nonneg_of_pos x (show (0 : Int) < 2200 by lia)
  have h2 := Int.fmod_lt_of_pos x (show (0 : Int) < 2200 by lia)
  exact ⟨(x.fmod 2200).toNat, by lia, by lia⟩
section
variable {prog : Program} {w : World} {A : Around} {E : Value → Shared → Prop} {s : Shared} {t u : Tok} {X Y : Int} {Q : Value → Shared → Prop}
theorem mod_to (Z : Int) (hb : Y ≠ 0) (e : X.fmod Y = Z) (h : ∀ t k, Q (.int Z t) { s with toks := k }) : wpAny (model prog w) A (binaryOp .Mod (.int X t) (.int Y u)) Q E s := by
  subst e
  exact PyProof.Rows.mod_int' hb (h _ _)
end
end
section
theorem ten_bl {e : Nat} (h : e ≤ 4500) : BL (10 ^ e) ≤ 15000 := by
  have h1 : 10 ^ e ≤ 10 ^ 4500 := Nat.pow_le_pow_right (by lia) h
  have h2 : 10 ^ 4500 = (10 ^ 3) ^ 1500 := by rw [← Nat.pow_mul]
  have h3 : (10 ^ 3) ^ 1500 < (2 ^ 10) ^ 1500 := Nat.pow_lt_pow_left (by decide) (by decide)
  have h4 : (2 ^ 10) ^ 1500 = 2 ^ 15000 := by rw [← Nat.pow_mul]
  refine bl_le.mpr (Nat.lt_of_le_of_lt h1 ?_)
  rw [h2, ← h4]; exact h3
theorem num_bl {N e : Nat} (hN : BL N ≤ 40) (h : e ≤ 4500) : BL (N * 10 ^ e) ≤ 16000 := by
  have h1 := bl_mulle N (10 ^ e)
  have h2 := ten_bl h
  lia
theorem lE_in {U W c : Nat} (hU : BL U ≤ 16000) (hW : BL W ≤ 16000) (hc : 1 ≤ c) (hc2 : c ≤ 12) : -4100 ≤ lE U W c ∧ lE U W c ≤ 4100 := by
  have h := lP_le U W c
  have h2 : lL U W c ≤ 1 := by unfold lL; split <;> lia
  unfold lE
  dsimp only [BL] at *
  split <;> lia
theorem two_letters {cn n : Nat} (h1 : 1 ≤ cn) (h : ¬ ((16 ^ (n - 1) : Nat) : Int) ≤ ((10 ^ cn : Nat) : Int)) : 10 ^ cn < 16 ^ (n - 1) ∧ 2 ≤ n := by
  have h2 : 10 ^ cn < 16 ^ (n - 1) := Nat.lt_of_not_ge fun hh => h (Int.ofNat_le.mpr hh)
  refine ⟨h2, ?_⟩
  rcases Nat.lt_or_ge n 2 with h3 | h3
  · have : n - 1 = 0 := by lia
    rw [this, Nat.pow_zero] at h2
    have : 0 < 10 ^ cn := Nat.pow_pos (by lia)
    lia
  · exact h3
theorem more_letters {cn n r : Nat} (h : 10 ^ cn < 16 ^ (n - 1)) : 10 ^ cn < 16 ^ (n + r - 1) :=
  Nat.lt_of_lt_of_le h (Nat.pow_le_pow_right (by lia) (by lia))
theorem abv_big {U' g : Nat} {p : Int} {l : Nat} (h : 2 ≤ U') (hg : 0 < g) : 1 < abv U' g p l := by
  have : U' * 1 ≤ U' * g ^ ((l : Int) - p).toNat := Nat.mul_le_mul_left _ (Nat.pow_pos hg)
  unfold abv; lia
theorem ten_up {A B c : Nat} (hc : c ≤ 9) (h : A < B * 10 ^ (c + 1)) : A < B * 2 ^ 60 := by
  refine Nat.lt_of_lt_of_le h (Nat.mul_le_mul_left _ ?_)
  exact Nat.le_of_lt (pow_lt 10 (c + 1) (by lia) (by lia))
theorem blw_bl {W' : Nat} {p : Int} {l : Nat} (hp : p ≤ 4501) (hW : BL W' ≤ 30000) : BL (blw W' 10 p l) ≤ 50000 := by
  have h1 := bl_mulle W' (10 ^ (p - (l : Int)).toNat)
  have h2 := bl_pow 10 (p - (l : Int)).toNat (by lia)
  unfold blw; lia
theorem up_bl {n e : Nat} (hn : n < 2 ^ 60) (he : e ≤ 4100) : BL (n * 16 ^ e) ≤ 30000 ∧ BL (16 ^ e) ≤ 30000 := by
  have h1 := bl_mulle n (16 ^ e)
  have h2 := bl_pow 16 e (by lia)
  have h3 := bl_le.mpr hn
  lia
end
example {prog : Program} {w : World} {A : Around} {env : Env} {Q : Flow → Shared → Prop} {E : Value → Shared → Prop} {s : Shared} (h : wpAny (model prog w) A (execs [] env) Q E s) : wpAny (model prog w) A (execs [] env) Q E s := by ((k_with "now" => have kReset : True := trivial); (k_with "piece" => have kP_X1 : True := trivial); w_top off; first | (walk1; fail) | exact h)
section
open PyProof.Rows.LCg
section
variable {prog : Program} {w : World} {A : Around} {E : Value → Shared → Prop} {s : Shared} {h₀ : Heap} {L : Addr} {m : Str → Option Value} {env : Env}
theorem comp_turns {elt target iter : Expr} {scope : Scope} {pos : Pos} {it acc : Value} {env : Env} {R : Result → Shared → Prop} (I : Nat → Shared → Prop)
    (turn : ∀ n s, I n s → wpAny (model prog w) A (pyNext it) (fun r s₁ => match r with
      | none => R (.ok .next) s₁
      | some v => wpAny (model prog w) A (letOwnedTupleGo target it v) (fun _ s₁' => wpAny (model prog w) A (assign target env v) (fun _ s₂ => wpAny (model prog w) A (eval elt env) (fun x s₃ =>
          wpAny (model prog w) A (call (.builtin "list.append") [acc, x]) (fun _ s₄ => ∃ m, m < n ∧ I m s₄) (notedBy (model prog w) A env fun e s' => R (.error e) s') s₃) (notedBy (model prog w) A env fun e s' => R (.error e) s') s₂)
          (notedBy (model prog w) A env fun e s' => R (.error e) s') s₁') (notedBy (model prog w) A env fun e s' => R (.error e) s') s₁) (notedBy (model prog w) A env fun e s' => R (.error e) s') s)
    (n : Nat) (h : I n s) : codeAny (model prog w) A (.compLoop (.ListComp elt [⟨target, iter, [], 0⟩] scope pos) 0 it acc env) R s := by
  refine codeAny_loop rfl I (fun n s hI => ?_) n h
  show wpAny _ A ((compTurn (.ListComp elt [⟨target, iter, [], 0⟩] scope pos) 0 it acc env).onRaise (fun x => do noteFrame x env; theTreesLotGoes x)) _ _ s
  refine wpAny_noted ?_
  rw [compTurn_list1]
  refine wpAny_bind (wpAny_standAt (wpAny_bind (wpAny_mono (turn n s hI) (fun r s₁ h₁ => ?_) fun _ _ h' => h')))
  cases r with
  | none => exact wpAny_pure h₁
  | some v =>
    refine wpAny_bind (wpAny_mono h₁ (fun _ s₁' h₁' => wpAny_bind (wpAny_mono h₁' (fun _ s₂ h₂ => ?_) fun _ _ h' => h')) fun _ _ h' => h')
    exact wpAny_bind (wpAny_bind (wpAny_mono h₂ (fun x s₃ h₃ => wpAny_bind (wpAny_mono h₃ (fun _ s₄ h₄ => wpAny_pure (wpAny_pure ⟨rfl, h₄⟩)) fun _ _ h' => h')) fun _ _ h' => h'))
/-- what a turn of the comprehension hands on -/
def CmpEnd (h₀ : Heap) (L : Addr) (m : Str → Option Value) (s₂ : Shared) (wr : List Addr) (C : Addr) (oC : Obj) (D : Addr) (ys : List Value) (own : List (Addr × Obj)) (J : List Value → List (Addr × Obj) → Nat → Prop) (y : Value) (s₄ : Shared) : Prop :=
  ∃ h' tk' news₂, s₄ = { s₂ with heap := h', toks := tk' } ∧ Fr h₀ L h' m ∧ News h₀ L h' ((C, oC) :: (D, lst ys) :: (news₂ ++ own)) ∧ (∀ p ∈ news₂, p.1 ∉ wr ∧ (@Ne Nat p.1 C) ∧ (@Ne Nat p.1 D)) ∧ J (ys ++ [y]) news₂ tk'
theorem comp_blk {elt iter target : Expr} {scope : Scope} {cl : List (Str × Addr)} {pos : Pos} {s₂ : Shared} {I : Addr} {fp wr : List Addr} {n : Nat} {P Md : Nat → Value → Heap → Prop} {St : Nat → Heap → Prop} {news : List (Addr × Obj)} {RR : Value → Addr → Result → Shared → Prop}
    (W : KTurns prog w A target I fp wr n P Md St) (hself : ∀ (sx : Shared) (Q : Value → Shared → Prop) (E : Value → Shared → Prop), St 0 sx.heap → Q (.ref I) sx → wpAny (model prog w) A (pyIter (.ref I)) Q E sx)
    (G : Nat → (Str → Option Value) → Prop)
    (asg : ∀ i v (sx : Shared) (C : Addr) (m' : Str → Option Value) (Qa : Unit → Shared → Prop) (Ea : Value → Shared → Prop), P i v sx.heap → sx.heap.Ns C m' →
      (∀ h' m₂ tk', h'.Ns C m₂ → G i m₂ → (∀ b o, b ≠ C → sx.heap.get? b = some o → h'.get? b = some o) → sx.toks ≤ tk' → Qa () { sx with heap := h', toks := tk' }) → wpAny (model prog w) A (assign target (compEnvC scope cl C env) v) Qa Ea sx)
    (J : Nat → List Value → List (Addr × Obj) → Nat → Prop) (hJ : ∀ i ys nw tk tk', J i ys nw tk → tk ≤ tk' → J i ys nw tk')
    (hsz : n ≤ sizeLine) (hcell : ∀ y ∈ scope.names, y.2 ≠ .cell) (hkind : scope.kind = .function) (hst : St 0 s₂.heap) (hfp : ∀ b ∈ fp, b < s₂.heap.objs.size)
    (F : Fr h₀ L s₂.heap m) (N : News h₀ L s₂.heap news) (hLf : L ∉ fp) (hwr : ∀ b ∈ wr, h₀.get? b = none) (off : ∀ p ∈ news, p.1 ∉ wr) (h0 : J 0 [] news s₂.toks)
    (step : ∀ i ys news₁ h tk own C oC m₂ D (E' : Value → Shared → Prop), i < n → J i ys news₁ tk → ys.length = i → NsObj oC m₂ → G i m₂ → Fr h₀ L h m → News h₀ L h ((C, oC) :: (D, lst ys) :: (news₁ ++ own)) → (∀ p ∈ own, p.1 ∈ fp) → (∀ b ∈ fp, @LT.lt Nat _ b D) → @LT.lt Nat _ D C → @LT.lt Nat _ L D →
      (∀ p ∈ news₁, p.1 ∉ wr ∧ (@Ne Nat p.1 C) ∧ (@Ne Nat p.1 D)) → s₂.toks ≤ tk →
      wpAny (model prog w) A (eval elt (compEnvC scope cl C env)) (CmpEnd h₀ L m s₂ wr C oC D ys own (J (i + 1))) E' { s₂ with heap := h, toks := tk })
    (hRR : ∀ D C oC h tk ys news', Fr h₀ L h m → News h₀ L h ((C, oC) :: (D, lst ys) :: news') → @LT.lt Nat _ D C → (∀ b ∈ fp, @LT.lt Nat _ b D) → (∀ p ∈ news', (@Ne Nat p.1 C) ∧ (@Ne Nat p.1 D)) → (∃ m', NsObj oC m') → J n ys news' tk → RR (.ref D) C (.ok .next) { s₂ with heap := h, toks := tk }) :
    wpAny (model prog w) A (newList []) (fun acc s₃ => wpAny (model prog w) A (newFunctionEnv scope env.globals cl [] env.qual none .none (some env)) (fun cenv s₄ =>
      codeAny (model prog w) A (.compStart (.ListComp elt [⟨target, iter, [], 0⟩] scope pos) 0 (.ref I) acc { cenv with scope := relabel scope env }) (RR acc cenv.locals) s₄) E s₃) E s₂ := by
  refine wpAny_newObj_type (wpAny_newFunctionEnv hcell (by intro y hy; simp at hy) (fun h₁ hns₁ hsb₁ => ?_) hkind)
  dsimp only at hns₁ hsb₁ ⊢
  generalize hH2 : s₂.heap.push { cls := .type "list", dict := none, data := .seq ([] : List Value).toArray } = H2 at hns₁ hsb₁ ⊢
  have hC : H2.objs.size = s₂.heap.objs.size + 1 := by rw [← hH2, Heap.size_push]
  generalize hDd : s₂.heap.objs.size = D at *
  generalize hCc : H2.objs.size = C at *
  have hDC : @LT.lt Nat _ D C := by lia
  have old : ∀ b o, s₂.heap.get? b = some o → h₁.get? b = some o := fun b o e => by
    have hb := Heap.lt_size e
    refine hsb₁.extBut b o ?_ (Heap.get?_push_of_some _ (hH2 ▸ Heap.get?_push_of_some _ e))
    rw [hDd] at hb
    exact Nat.ne_of_lt (Nat.lt_trans hb hDC)
  have hacc : h₁.get? D = some (lst []) := by
    refine hsb₁.extBut _ _ (Nat.ne_of_lt hDC) (Heap.get?_push_of_some _ ?_)
    rw [← hH2, ← hDd]; exact Heap.get?_push_size _ rfl
  have fresh₀ : ∀ a, @LE.le Nat _ D a → h₀.get? a = none := fun a ha => by
    cases e : h₀.get? a with
    | none => rfl
    | some o' =>
      have := Heap.lt_size (F.keep a o' e)
      rw [hDd] at this
      exact absurd this (Nat.not_lt.mpr ha)
  have hD₀ : h₀.get? D = none := fresh₀ _ (Nat.le_refl _)
  have hC₀ : h₀.get? C = none := fresh₀ _ (Nat.le_of_lt hDC)
  have hLD : @LT.lt Nat _ L D := by have := F.ns.lt; rw [hDd] at this; exact this
  have hDL : D ≠ L := Nat.ne_of_gt hLD
  have hCL : C ≠ L := Nat.ne_of_gt (Nat.lt_trans hLD hDC)
  have hfD : ∀ b ∈ fp, @LT.lt Nat _ b D := hfp
  have hDf : D ∉ fp := fun hm => Nat.lt_irrefl _ (hfD _ hm)
  have hCf : C ∉ fp := fun hm => Nat.lt_irrefl _ (Nat.lt_trans (hfD _ hm) hDC)
  have hLw : L ∉ wr := fun h => hLf (W.sub _ h)
  have hDw : D ∉ wr := fun h => hDf (W.sub _ h)
  have hCw : C ∉ wr := fun h => hCf (W.sub _ h)
  have oldw : ∀ b o, h₀.get? b = some o → b ∉ wr := fun b o e hb => by rw [hwr b hb] at e; cases e
  have hst₁ : St 0 h₁ := W.frame _ _ _ hst fun b _ o e => old b o e
  have loop : ∀ s₃ : Shared, s₃ = { s₂ with heap := h₁, toks := s₂.toks + ([] : List (Str × Value)).length } →
      codeAny (model prog w) A (.compLoop (.ListComp elt [⟨target, iter, [], 0⟩] scope pos) 0 (.ref I) (.ref D) (compEnvC scope cl C env)) (RR (.ref D) C) s₃ := by
    rintro s₃ rfl
    refine comp_turns
      (fun k s' => ∃ h' tk i ys m' news', s' = { s₂ with heap := h', toks := tk } ∧ i ≤ n ∧ k = n + 1 - i ∧ ys.length = i ∧ St i h' ∧ Fr h₀ L h' m ∧ h'.Ns C m' ∧ News h₀ L h' ((D, lst ys) :: news') ∧
        (∀ p ∈ news', p.1 ∉ wr ∧ (@Ne Nat p.1 C) ∧ (@Ne Nat p.1 D)) ∧ J i ys news' tk ∧ s₂.toks ≤ tk) ?_ (n + 1)
      ⟨h₁, _, 0, [], _, news, rfl, Nat.zero_le _, rfl, rfl, hst₁, F.keeps old, hns₁, fun p hp => ?_, fun p hp => ⟨off p hp, ?_, ?_⟩, h0, Nat.le_refl _⟩
    · rintro k s' ⟨h', tk, i, ys, m', news', rfl, hi, rfl, hyl, hst', F', hn', N', off', hj, htk⟩
      have keepsW : ∀ {hh h'' : Heap}, (∀ b o, b ∉ wr → hh.get? b = some o → h''.get? b = some o) → Fr h₀ L hh m → Fr h₀ L h'' m := fun k F => ⟨F.ns.at' fun o e => k _ o hLw e, fun b o e => k b o (oldw b o e) (F.keep b o e), F.above⟩
      by_cases hlt : i < n
      · refine wpAny_mono (wpAny_toks (W.item i _ (fun r s₁ => tk ≤ s₁.toks → _) _ hlt hst' fun v h₂ tk₂ hMd hk₂ hle => ?_)) (fun _ _ x => x.2 x.1) fun _ _ x => x.2
        refine W.go i v _ _ _ hMd fun h₃ hP hst₃ hk₃ => ?_
        have hk : ∀ b o, b ∉ wr → h'.get? b = some o → h₃.get? b = some o := fun b o hb x => hk₃ b o hb (hk₂ b o hb x)
        refine asg i v _ C m' _ _ hP (hn'.at' fun o e => hk _ o hCw e) fun h₄ m₂ tk₄ hn₄ hG hk₄ hle4 => ?_
        have hst₄ : St (i + 1) h₄ := W.frame _ _ _ hst₃ fun b hb o e => hk₄ b o (fun q => hCf (q ▸ hb)) e
        obtain ⟨oC, heC, hoC⟩ := ns_obj hn₄
        have F₃ := keepsW hk F'
        have F₄ : Fr h₀ L h₄ m := ⟨F₃.ns.at' fun o e => hk₄ _ o (Ne.symm hCL) e, fun b o e => hk₄ b o (fun q => by rw [q, hC₀] at e; cases e) (F₃.keep b o e), F₃.above⟩
        have Nown : News h₀ L h₄ (PyProof.Rows.ownOf h₀ fp h₄) := news_ownOf hLf
        have N₄ : News h₀ L h₄ ((C, oC) :: (D, lst ys) :: (news' ++ PyProof.Rows.ownOf h₀ fp h₄)) := fun p hp => by
          rcases List.mem_cons.mp hp with rfl | hp
          · exact ⟨heC, hCL, hC₀⟩
          · rcases List.mem_cons.mp hp with rfl | hp
            · exact ⟨hk₄ _ _ (Nat.ne_of_lt hDC) (hk _ _ hDw (N' _ List.mem_cons_self).1), hDL, hD₀⟩
            · rcases List.mem_append.mp hp with hp | hp
              · have z := N' p (List.mem_cons_of_mem _ hp)
                exact ⟨hk₄ _ _ (off' p hp).2.1 (hk _ _ (off' p hp).1 z.1), z.2⟩
              · exact Nown p hp
        refine wpAny_mono (wpAny_toks (step i ys news' h₄ tk₄ _ C oC m₂ D _ hlt (hJ _ _ _ _ _ hj (Nat.le_trans hle hle4)) hyl hoC hG F₄ N₄ ownOf_sub hfD hDC hLD off' (Nat.le_trans htk (Nat.le_trans hle hle4)))) (fun y s₅ h₅ => ?_) fun _ _ e => e.2
        obtain ⟨hle5, h₅, tk₅, news₅, rfl, F₅, N₅, off₅, hj₅⟩ := h₅
        have zC := (N₅ (C, oC) List.mem_cons_self).1
        have zD := (N₅ (D, lst ys) (List.mem_cons_of_mem _ List.mem_cons_self)).1
        have hst₅ : St (i + 1) h₅ := W.frame _ _ _ hst₄ fun b hb o e => by
          cases hn : h₀.get? b with
          | some o₀ =>
            have : o₀ = o := by have q := F₄.keep b o₀ hn; rw [e] at q; exact (Option.some.inj q).symm
            exact this ▸ F₅.keep b o₀ hn
          | none => exact (N₅ _ (List.mem_cons_of_mem _ (List.mem_cons_of_mem _ (List.mem_append_right _ (mem_ownOf hb hn e))))).1
        refine append_at (hsz := by show ys.toArray.size ≤ sizeLine; rw [List.size_toArray, hyl]; exact Nat.le_trans hi hsz) zD fun h₆ hs₆ hD₆ => ?_
        refine ⟨n + 1 - (i + 1), by lia, h₆, tk₅, i + 1, ys ++ [y], _, news₅, rfl, hlt, rfl, by rw [List.length_append, List.length_singleton, hyl], W.frame _ _ _ hst₅ fun b hb o e => hs₆.extBut b o (fun q => hDf (q ▸ hb)) e, F₅.change hs₆ hDL hD₀,
          (hoC.ns zC).sameBut hs₆ (Nat.ne_of_gt hDC), fun p hp => ?_, off₅, hj₅, Nat.le_trans htk (Nat.le_trans hle (Nat.le_trans hle4 hle5))⟩
        rcases List.mem_cons.mp hp with rfl | hp
        · exact ⟨hD₆.trans (congrArg some (lst_snoc ys y)), hDL, hD₀⟩
        · have z := N₅ p (List.mem_cons_of_mem _ (List.mem_cons_of_mem _ (List.mem_append_left _ hp)))
          exact ⟨hs₆.extBut _ _ (off₅ p hp).2.2 z.1, z.2⟩
      · obtain rfl : i = n := Nat.le_antisymm hi (Nat.not_lt.mp hlt)
        refine wpAny_mono (wpAny_toks (W.done _ (fun r s₁ => tk ≤ s₁.toks → _) _ hst' fun h₂ tk₂ hk₂ hle => ?_)) (fun _ _ x => x.2 x.1) fun _ _ x => x.2
        obtain ⟨oC, heC, hoC⟩ := ns_obj hn'
        refine hRR D C oC h₂ tk₂ ys news' (keepsW hk₂ F') (fun p hp => ?_) hDC hfD (fun p hp => ⟨(off' p hp).2.1, (off' p hp).2.2⟩) ⟨_, hoC⟩ (hJ _ _ _ _ _ hj hle)
        rcases List.mem_cons.mp hp with rfl | hp
        · exact ⟨hk₂ _ _ hCw heC, hCL, hC₀⟩
        · have z := N' p hp
          rcases List.mem_cons.mp hp with rfl | hp
          · exact ⟨hk₂ _ _ hDw z.1, z.2⟩
          · exact ⟨hk₂ _ _ (off' p hp).1 z.1, z.2⟩
    · rcases List.mem_cons.mp hp with rfl | hp
      · exact ⟨hacc, hDL, hD₀⟩
      · exact ⟨old _ _ (N p hp).1, (N p hp).2⟩
    · have := Heap.lt_size (N p hp).1
      rw [hDd] at this
      exact Nat.ne_of_lt (Nat.lt_trans this hDC)
    · have := Heap.lt_size (N p hp).1
      rw [hDd] at this
      exact Nat.ne_of_lt this
  exact codeAny_compStart_list (loop _ rfl) (hself _ _ _ hst₁ (loop _ rfl))
/-- how a comprehension's list is taken by its name -/
def CmpTaken (h₀ : Heap) (L : Addr) (s₂ : Shared) (C : Addr) (oC : Obj) (Q : Flow → Shared → Prop) (s' : Shared) : Prop :=
  ∃ h₂ tk₂ m₂ news₂, s' = { s₂ with heap := h₂, toks := tk₂ } ∧ Fr h₀ L h₂ m₂ ∧ News h₀ L h₂ ((C, oC) :: news₂) ∧ (∀ p ∈ news₂, @Ne Nat p.1 C) ∧ ∀ h₃, Fr h₀ L h₃ m₂ → News h₀ L h₃ news₂ → Q .next { s₂ with heap := h₃, toks := tk₂ }
/-- the iterator that a comprehension goes through -/
def CmpSrc (prog : Program) (w : World) (A : Around) (h₀ : Heap) (L : Addr) (env : Env) (elt target : Expr) (scope : Scope) (cl : List (Str × Addr)) (y : Str) (py : Pos) (Q : Flow → Shared → Prop) (E : Value → Shared → Prop) (it : Value) (s₂ : Shared) : Prop :=
  ∃ (I : Addr) (fp wr : List Addr) (n : Nat) (P Md : Nat → Value → Heap → Prop) (St : Nat → Heap → Prop) (news : List (Addr × Obj)) (m : Str → Option Value) (G : Nat → (Str → Option Value) → Prop) (J : Nat → List Value → List (Addr × Obj) → Nat → Prop),
    it = .ref I ∧ KTurns prog w A target I fp wr n P Md St ∧ (∀ (sx : Shared) (Q : Value → Shared → Prop) (E : Value → Shared → Prop), St 0 sx.heap → Q (.ref I) sx → wpAny (model prog w) A (pyIter (.ref I)) Q E sx) ∧
    (∀ i v (sx : Shared) (C : Addr) (m' : Str → Option Value) (Qa : Unit → Shared → Prop) (Ea : Value → Shared → Prop), P i v sx.heap → sx.heap.Ns C m' →
      (∀ h' m₂ tk', h'.Ns C m₂ → G i m₂ → (∀ b o, b ≠ C → sx.heap.get? b = some o → h'.get? b = some o) → sx.toks ≤ tk' → Qa () { sx with heap := h', toks := tk' }) → wpAny (model prog w) A (assign target (compEnvC scope cl C env) v) Qa Ea sx) ∧
    (∀ i ys nw tk tk', J i ys nw tk → tk ≤ tk' → J i ys nw tk') ∧ n ≤ sizeLine ∧ St 0 s₂.heap ∧ (∀ b ∈ fp, b < s₂.heap.objs.size) ∧ Fr h₀ L s₂.heap m ∧ News h₀ L s₂.heap news ∧ L ∉ fp ∧ (∀ b ∈ wr, h₀.get? b = none) ∧ (∀ p ∈ news, p.1 ∉ wr) ∧ J 0 [] news s₂.toks ∧
    (∀ i ys news₁ h tk own C oC m₂ D (E' : Value → Shared → Prop), i < n → J i ys news₁ tk → ys.length = i → NsObj oC m₂ → G i m₂ → Fr h₀ L h m → News h₀ L h ((C, oC) :: (D, lst ys) :: (news₁ ++ own)) → (∀ p ∈ own, p.1 ∈ fp) → (∀ b ∈ fp, @LT.lt Nat _ b D) → @LT.lt Nat _ D C → @LT.lt Nat _ L D →
      (∀ p ∈ news₁, p.1 ∉ wr ∧ (@Ne Nat p.1 C) ∧ (@Ne Nat p.1 D)) → s₂.toks ≤ tk →
      wpAny (model prog w) A (eval elt (compEnvC scope cl C env)) (CmpEnd h₀ L m s₂ wr C oC D ys own (J (i + 1))) E' { s₂ with heap := h, toks := tk }) ∧
    (∀ D C oC h tk ys news', Fr h₀ L h m → News h₀ L h ((C, oC) :: (D, lst ys) :: news') → @LT.lt Nat _ D C → (∀ b ∈ fp, @LT.lt Nat _ b D) → (∀ p ∈ news', (@Ne Nat p.1 C) ∧ (@Ne Nat p.1 D)) → J n ys news' tk →
      wpAny (model prog w) A (assign (.Name y py) env (.ref D)) (fun _ s' => CmpTaken h₀ L s₂ C oC Q s') E { s₂ with heap := h, toks := tk })
theorem Assign_cmp {elt iter target : Expr} {y : Str} {py : Pos} {scope : Scope} {cl : List (Str × Addr)} {pos spos : Pos} {Q : Flow → Shared → Prop} (F₀ : Fr h₀ L s.heap m)
    (hsw : swapsWith (.ListComp elt [⟨target, iter, [], 0⟩] scope pos) (some (.Name y py)) spos.line env = pure true)
    (hclos : closureFor scope env = pure cl) (hcell : ∀ z ∈ scope.names, z.2 ≠ .cell) (hkind : scope.kind = .function)
    (hnames : ∀ z ∈ scope.names, z.2 = .local → scope.names.lookup z.1 = some .local)
    (h : wpAny (model prog w) A (eval iter env) (fun xv s₁ => wpAny (model prog w) A (pyIter xv) (fun it s₂ => CmpSrc prog w A h₀ L env elt target scope cl y py Q E it s₂) E s₁) E s)
    (hs : ∀ x, foldedSetIterable iter env x = pure x := by intro _; rfl) :
    wpAny (model prog w) A (exec (.Assign [.Name y py] (.ListComp elt [⟨target, iter, [], 0⟩] scope pos) spos) env) Q E s := by
  rw [exec_Assign_Name_used _ _ _ _ hsw]
  refine wpAny_bind (wpAny_standAt (wpAny_bind ?_))
  show wpAny _ A (do let _ ← comprehension (.ListComp elt [⟨target, iter, [], 0⟩] scope pos) scope env _ (newList []) false (eval iter env) (some (assign (.Name y py) env))) _ _ s
  refine wpAny_bind (wpAny_mono (wpAny_comprehension_free (use := some (assign (.Name y py) env)) (Q := fun _ s' => Q .next s') rfl hs hclos hkind hnames
    (wpAny_mono h (fun xv s₁ h₁ => ?_) fun _ _ e => e)) (fun _ s' hq => wpAny_pure (wpAny_pure hq)) fun _ _ e => e)
  refine wpAny_mono h₁ (fun it s₂ h₂ => ?_) fun _ _ e => e
  obtain ⟨I, fp, wr, n, P, Md, St, news, m, G, J, rfl, W, hself, asg, hJ, hsz, hst, hfp, F, N, hLf, hwr, off, h0, step, fin⟩ := h₂
  refine comp_blk W hself G asg J hJ hsz hcell hkind hst hfp F N hLf hwr off h0 step ?_
  intro D C oC h tk ys news' F' N' hDC hfD off' hoC hj
  obtain ⟨m', hoC⟩ := hoC
  have zC := N' (C, oC) List.mem_cons_self
  show wpAny _ A (assign (.Name y py) env (.ref D)) _ _ _
  refine wpAny_mono (fin D C oC h tk ys news' F' N' hDC hfD off' hj) (fun _ s' hq => ?_) fun _ _ e => e
  obtain ⟨h₂, tk₂, m₂, news₂, rfl, F₂, N₂, off₂, hQ⟩ := hq
  have zC₂ := N₂ (C, oC) List.mem_cons_self
  refine ⟨m', hoC.ns zC₂.1, fun h'' hs'' => hQ h'' (F₂.change hs'' zC₂.2.1 zC₂.2.2) fun p hp => ?_⟩
  have z := N₂ p (List.mem_cons_of_mem _ hp)
  exact ⟨hs''.extBut _ _ (off₂ p hp) z.1, z.2⟩
end
end
example {prog : Program} {w : World} {A : Around} {env : Env} {Q : Flow → Shared → Prop} {E : Value → Shared → Prop} {s : Shared} (h : wpAny (model prog w) A (execs [] env) Q E s) : wpAny (model prog w) A (execs [] env) Q E s := by ((k_with "now" => have kReset : True := trivial); (k_with "piece" => have kP_X2 : True := trivial); w_top off; first | (walk1; fail) | exact h)
section
open PyProof.Rows.LCg
section
variable {prog : Program} {w : World} {A : Around} {E : Value → Shared → Prop} {s : Shared} {h₀ : Heap} {L : Addr} {m : Str → Option Value} {env : Env}
theorem asg_pair {x x₂ : Str} {px px₂ tp : Pos} {tk : Nat} {scope : Scope} {cl : List (Str × Addr)} {T C : Addr} {v₁ v₂ : Value} {m' : Str → Option Value} {Q : Unit → Shared → Prop}
    (hh : A.handled = none) (hkind : scope.kind = .function) (hx : scope.names.lookup x = some .local) (hx₂ : scope.names.lookup x₂ = some .local) (hxx : x ≠ x₂) (ht : IsTup s.heap T #[v₁, v₂]) (hn : s.heap.Ns C m')
    (h : ∀ h' m₂ tk', h'.Ns C m₂ → m₂ x = some v₁ → m₂ x₂ = some v₂ → (∀ b o, b ≠ C → s.heap.get? b = some o → h'.get? b = some o) → s.toks ≤ tk' → Q () { s with heap := h', toks := tk' }) :
    wpAny (model prog w) A (assign (.Tuple [.Name x px, .Name x₂ px₂] tk tp) (compEnvC scope cl C env) (.ref T)) Q E s := by
  refine assign_Tuple_tuple hh ht rfl rfl fun h₅ he => ?_
  have he' : ∀ b o, s.heap.get? b = some o → h₅.get? b = some o := fun b o e => he b o (Nat.ne_of_lt (Heap.lt_size e)) e
  refine assignInOrder_cons (wpAny_assign_Name (wpAny_storeName_local (lookup_relabel_local hx) (hn.at' fun o e => he' _ o e) (fun h₆ hn₆ hs₆ => ?_) (by simp [compEnvC, relabel, hkind])))
  refine assignInOrder_cons (wpAny_assign_Name (wpAny_storeName_local (lookup_relabel_local hx₂) hn₆ (fun h₃ hn₃ hs₃ => ?_) (by simp [compEnvC, relabel, hkind])))
  refine assignInOrder_nil (h h₃ _ _ hn₃ ?_ ?_ (fun b o hb e => hs₃.extBut b o hb (hs₆.extBut b o hb (he' b o e))) (Nat.le_add_right _ 2))
  · simp [hxx]
  · simp
theorem asg_name {x : Str} {px : Pos} {scope : Scope} {cl : List (Str × Addr)} {C : Addr} {v : Value} {m' : Str → Option Value} {Q : Unit → Shared → Prop}
    (hkind : scope.kind = .function) (hx : scope.names.lookup x = some .local) (hn : s.heap.Ns C m')
    (h : ∀ h' m₂ tk', h'.Ns C m₂ → m₂ x = some v → (∀ b o, b ≠ C → s.heap.get? b = some o → h'.get? b = some o) → s.toks ≤ tk' → Q () { s with heap := h', toks := tk' }) :
    wpAny (model prog w) A (assign (.Name x px) (compEnvC scope cl C env) v) Q E s :=
  wpAny_assign_Name (wpAny_storeName_local (lookup_relabel_local hx) hn (fun h₃ hn₃ hs₃ => h h₃ _ _ hn₃ (by simp) (fun b o hb e => hs₃.extBut b o hb e) (Nat.le_succ _)) (by simp [compEnvC, relabel, hkind]))
/-- a comprehension over enumerate of a list of ints -/
theorem cmp_enum {elt : Expr} {x x₂ y : Str} {px px₂ tp py : Pos} {tk : Nat} {scope : Scope} {cl : List (Str × Addr)} {l : Addr} {lo : Obj} {vs : List Value} {ns : List Int} {n : Nat} {news : List (Addr × Obj)} {Q : Flow → Shared → Prop}
    (hh : A.handled = none) (hkind : scope.kind = .function) (hx : scope.names.lookup x = some .local) (hx₂ : scope.names.lookup x₂ = some .local) (hxx : x ≠ x₂)
    (F : Fr h₀ L s.heap m) (N : News h₀ L s.heap news) (hm : (l, lo) ∈ news) (hc : lo.cls = .type "list") (hd : lo.data = .seq vs.toArray n) (hi : IntsAre vs ns) (hz : vs.length ≤ 1000)
    (J : Nat → List Value → List (Addr × Obj) → Nat → Prop) (hJ : ∀ i ys nw tk tk', J i ys nw tk → tk ≤ tk' → J i ys nw tk') (h0 : J 0 [] news s.toks)
    (step : ∀ wr i ys news₁ h tk own C oC m₂ D t a u (E' : Value → Shared → Prop), i < vs.length → J i ys news₁ tk → ys.length = i → NsObj oC m₂ → m₂ x = some (.int (i : Int) t) → m₂ x₂ = some (.int a u) → Fr h₀ L h m → News h₀ L h ((C, oC) :: (D, lst ys) :: (news₁ ++ own)) → (∀ p ∈ own, @LT.lt Nat _ p.1 D) → @LT.lt Nat _ D C → @LT.lt Nat _ L D →
      (∀ p ∈ news₁, p.1 ∉ wr ∧ (@Ne Nat p.1 C) ∧ (@Ne Nat p.1 D)) → (∀ b ∈ wr, @LT.lt Nat _ b D) → @LT.lt Nat _ s.heap.objs.size D → s.toks ≤ tk →
      wpAny (model prog w) A (eval elt (compEnvC scope cl C env)) (CmpEnd h₀ L m s wr C oC D ys own (J (i + 1))) E' { s with heap := h, toks := tk })
    (fin : ∀ D C oC h tk ys news', Fr h₀ L h m → News h₀ L h ((C, oC) :: (D, lst ys) :: news') → @LT.lt Nat _ D C → @LT.lt Nat _ s.heap.objs.size D → (∀ p ∈ news', (@Ne Nat p.1 C) ∧ (@Ne Nat p.1 D)) → J vs.length ys news' tk →
      wpAny (model prog w) A (assign (.Name y py) env (.ref D)) (fun _ s' => CmpTaken h₀ L s C oC Q s') E { s with heap := h, toks := tk }) :
    wpAny (model prog w) A (call (.type "enumerate") [.ref l]) (fun xv s₁ => wpAny (model prog w) A (pyIter xv) (fun it s₂ => CmpSrc prog w A h₀ L env elt (.Tuple [.Name x px, .Name x₂ px₂] tk tp) scope cl y py Q E it s₂) E s₁) E s := by
  have hax := N _ hm
  have hl : s.heap.IsList l vs.toArray := ⟨lo, hax.1, hc, n, hd⟩
  have hlt : l < s.heap.objs.size := Heap.lt_size hax.1
  have hLs : L < s.heap.objs.size := F.ns.lt
  refine call_enumerate_list hl fun h' hE hI hsz hk => ?_
  refine wpAny_pyIter_enum hE ?_
  have W := WalksT.enumerate (prog := prog) (w := w) (A := A) hh (s.heap.objs.size + 1) s.heap.objs.size l (Nat.succ_ne_self _) (ktu_ne 1 hlt) (Nat.ne_of_lt hlt) vs.toArray
  have KT := KTurns.ofWalksU (elts := [.Name x px, .Name x₂ px₂]) (k := tk) (pos := tp) W.toU
  have hwr : ∀ b ∈ [s.heap.objs.size + 1, s.heap.objs.size], h₀.get? b = none := by
    intro b hb
    have hb' : b = s.heap.objs.size + 1 ∨ b = s.heap.objs.size := by simpa using hb
    rcases hb' with rfl | rfl
    · exact ktu_new F (Nat.le_add_right _ _)
    · exact ktu_new F (Nat.le_refl _)
  have hsz' : h'.objs.size = s.heap.objs.size + 2 := hsz
  refine ⟨_, _, _, _, _, _, _, news, m, fun i m₂ => ∃ t a u, m₂ x = some (.int (i : Int) t) ∧ m₂ x₂ = some (.int a u), J, rfl, KT, ?_, ?_, hJ, ?_, ?_, ?_, F.keeps hk, N.grown hk, ?_, hwr, ?_, h0, ?_, ?_⟩
  · intro sx Q E hst hq
    obtain ⟨⟨old, he⟩, _⟩ := hst
    exact wpAny_pyIter_enum he hq
  · rintro i v sx C m' Qa Ea ⟨T, vals, rfl, ⟨t, z, hz', rfl⟩, hT⟩ hn hq
    have hz2 : vs[i]? = some z := by simpa using hz'
    have hlen := hi.length
    have hil : i < vs.length := by
      rcases Nat.lt_or_ge i vs.length with h | h
      · exact h
      · rw [List.getElem?_eq_none h] at hz2; cases hz2
    obtain ⟨u, hu⟩ := hi.get i (ns[i]'(by lia)) (List.getElem?_eq_getElem (by lia))
    rw [hz2] at hu
    cases hu
    exact asg_pair hh hkind hx hx₂ hxx hT hn fun h' m₂ tk' hn' e1 e2 hk' hle => hq h' m₂ tk' hn' ⟨_, _, _, e1, e2⟩ hk' hle
  · rw [List.size_toArray, sizeLine_eq]; lia
  · exact ⟨⟨.none, hE⟩, hI, hl.at fun o e => hk l o e⟩
  · intro b hb
    rw [hsz']
    have hb' : b = s.heap.objs.size + 1 ∨ b = s.heap.objs.size ∨ b = l := by simpa using hb
    rcases hb' with rfl | rfl | rfl
    · exact Nat.lt_succ_self _
    · exact Nat.lt_succ_of_lt (Nat.lt_succ_self _)
    · exact Nat.lt_of_lt_of_le hlt (Nat.le_add_right _ _)
  · intro hI'
    have hb' : L = s.heap.objs.size + 1 ∨ L = s.heap.objs.size ∨ L = l := by simpa using hI'
    rcases hb' with e | e | e
    · exact ktu_ne 1 hLs e
    · exact Nat.ne_of_lt hLs e
    · exact hax.2.1 e.symm
  · intro p hp hI'
    have hb' : p.1 = s.heap.objs.size + 1 ∨ p.1 = s.heap.objs.size := by simpa using hI'
    have hlp := Heap.lt_size (N p hp).1
    rcases hb' with e | e
    · exact ktu_ne 1 hlp e
    · exact Nat.ne_of_lt hlp e
  · rintro i ys news₁ h tk own C oC m₂ D E' hlt' hj hyl hoC ⟨t, a, u, e1, e2⟩ F' N' hown hfD hDC hLD off' htk
    rw [List.size_toArray] at hlt'
    exact step _ i ys news₁ h tk own C oC m₂ D t a u E' hlt' hj hyl hoC e1 e2 F' N' (fun p hp => hfD _ (hown p hp)) hDC hLD off' (fun b hb => hfD b (KT.sub b hb)) (Nat.lt_trans (Nat.lt_succ_self _) (hfD _ (List.mem_cons_self ..))) htk
  · intro D C oC h tk ys news' F' N' hDC hfD off' hj
    rw [List.size_toArray] at hj
    exact fin D C oC h tk ys news' F' N' hDC (Nat.lt_trans (Nat.lt_succ_self _) (hfD _ (List.mem_cons_self ..))) off' hj
end
end
example {prog : Program} {w : World} {A : Around} {env : Env} {Q : Flow → Shared → Prop} {E : Value → Shared → Prop} {s : Shared} (h : wpAny (model prog w) A (execs [] env) Q E s) : wpAny (model prog w) A (execs [] env) Q E s := by ((k_with "now" => have kReset : True := trivial); (k_with "piece" => have kP_X3 : True := trivial); w_top off; first | (walk1; fail) | exact h)
section
open PyProof.Rows.LCg
section
variable {prog : Program} {w : World} {A : Around} {E : Value → Shared → Prop} {s : Shared} {h₀ : Heap} {L : Addr} {m : Str → Option Value} {env : Env}
theorem ints_snoc {vs : List Value} {ns : List Int} (b : Int) (tb : Tok) (h : IntsAre vs ns) : IntsAre (vs ++ [.int b tb]) (ns ++ [b]) := by
  induction h with
  | nil => exact .cons b tb .nil
  | cons n t _ ih => exact .cons n t ih
/-- a turn that makes an int and leaves all else -/
def CmpInt (h₀ : Heap) (L : Addr) (m : Str → Option Value) (s : Shared) (led : List (Addr × Obj)) (y : Value) (s₄ : Shared) : Prop :=
  ∃ h' tk' b tb, y = .int b tb ∧ s₄ = { s with heap := h', toks := tk' } ∧ Fr h₀ L h' m ∧ News h₀ L h' led
theorem cmp_ints {elt : Expr} {x x₂ y : Str} {px px₂ tp py : Pos} {tk : Nat} {scope : Scope} {cl : List (Str × Addr)} {l : Addr} {lo : Obj} {vs : List Value} {ns : List Int} {n : Nat} {news : List (Addr × Obj)} {Q : Flow → Shared → Prop}
    (hh : A.handled = none) (hkind : scope.kind = .function) (hx : scope.names.lookup x = some .local) (hx₂ : scope.names.lookup x₂ = some .local) (hxx : x ≠ x₂)
    (F : Fr h₀ L s.heap m) (N : News h₀ L s.heap news) (hm : (l, lo) ∈ news) (hc : lo.cls = .type "list") (hd : lo.data = .seq vs.toArray n) (hi : IntsAre vs ns) (hz : vs.length ≤ 1000)
    (step : ∀ (k : Nat) ys h tk own C oC m₂ D t a u (E' : Value → Shared → Prop), k < vs.length → NsObj oC m₂ → m₂ x = some (.int (k : Int) t) → m₂ x₂ = some (.int a u) → Fr h₀ L h m → News h₀ L h ((C, oC) :: (D, lst ys) :: (news ++ own)) → @LT.lt Nat _ D C → @LT.lt Nat _ L D →
      (∀ p ∈ news, @LT.lt Nat _ p.1 D) → wpAny (model prog w) A (eval elt (compEnvC scope cl C env)) (CmpInt h₀ L m s ((C, oC) :: (D, lst ys) :: (news ++ own))) E' { s with heap := h, toks := tk })
    (fin : ∀ D C oC h tk ys ks, IntsAre ys ks → ys.length = vs.length → Fr h₀ L h m → News h₀ L h ((C, oC) :: (D, lst ys) :: news) → @LT.lt Nat _ D C → (∀ p ∈ news, @LT.lt Nat _ p.1 D) →
      wpAny (model prog w) A (assign (.Name y py) env (.ref D)) (fun _ s' => CmpTaken h₀ L s C oC Q s') E { s with heap := h, toks := tk }) :
    wpAny (model prog w) A (call (.type "enumerate") [.ref l]) (fun xv s₁ => wpAny (model prog w) A (pyIter xv) (fun it s₂ => CmpSrc prog w A h₀ L env elt (.Tuple [.Name x px, .Name x₂ px₂] tk tp) scope cl y py Q E it s₂) E s₁) E s := by
  refine cmp_enum hh hkind hx hx₂ hxx F N hm hc hd hi hz (fun i ys nw tk => nw = news ∧ (∃ ks, IntsAre ys ks) ∧ ys.length = i) ?_ ⟨rfl, ⟨[], .nil⟩, rfl⟩ ?_ ?_
  · rintro i ys nw tk tk' ⟨h1, h2, h3⟩ _
    exact ⟨h1, h2, h3⟩
  · rintro wr i ys news₁ h tk own C oC m₂ D t a u E' hi' ⟨e0, ⟨ks, hks⟩, hyl⟩ _ hoC e1 e2 F' N' hown hDC hLD off hwr hsD htk
    subst e0
    refine wpAny_mono (step i ys h tk own C oC m₂ D t a u E' hi' hoC e1 e2 F' N' hDC hLD fun p hp => Nat.lt_trans (Heap.lt_size (N p hp).1) hsD) (fun y s₄ hq => ?_) fun _ _ e => e
    obtain ⟨h₄, tk₄, b, tb, rfl, rfl, F₄, N₄⟩ := hq
    exact ⟨h₄, tk₄, _, rfl, F₄, N₄, off, rfl, ⟨_, ints_snoc b tb hks⟩, by rw [List.length_append, List.length_singleton, hyl]⟩
  · rintro D C oC h tk ys news' F' N' hDC hsD off ⟨e0, ⟨ks, hks⟩, hyl⟩
    subst e0
    exact fin D C oC h tk ys ks hks hyl F' N' hDC fun p hp => Nat.lt_trans (Heap.lt_size (N p hp).1) hsD
end
section
variable {prog : Program} {w : World} {A : Around} {E : Value → Shared → Prop} {s : Shared} {h₀ : Heap} {L : Addr} {m : Str → Option Value} {news : List (Addr × Obj)}
theorem ints_all : ∀ (l : List Value), (∀ v ∈ l, ∃ a t, v = Value.int a t) → ∃ ns, IntsAre l ns
  | [], _ => ⟨[], .nil⟩
  | v :: r, h => by
    obtain ⟨a, t, rfl⟩ := h v (.head _)
    obtain ⟨ns, hn⟩ := ints_all r fun v hv => h v (.tail _ hv)
    exact ⟨_, .cons a t hn⟩
theorem ints_mem {vs : List Value} {ns : List Int} (h : IntsAre vs ns) : ∀ v ∈ vs, ∃ a t, v = Value.int a t := by
  induction h with
  | nil => intro v hv; cases hv
  | cons n t _ ih =>
    intro v hv
    rcases List.mem_cons.mp hv with rfl | hv
    · exact ⟨_, _, rfl⟩
    · exact ih v hv
theorem sum_pick {l : Addr} {a b c : Option Int} {vs : List Value} {ns : List Int} {n : Nat} {Q : Value → Shared → Prop} (hh : A.handled = none) (F : Fr h₀ L s.heap m) (N : News h₀ L s.heap news)
    (hm : (l, ({ cls := .type "list", data := .seq (slicePick vs.toArray a b c) n } : Obj)) ∈ news) (hi : IntsAre vs ns)
    (h : ∀ h' tk t' b, Fr h₀ L h' m → News h₀ L h' news → Q (.int b t') { s with heap := h', toks := tk }) : wpAny (model prog w) A (call (.builtin "sum") [.ref l]) Q E s := by
  have hsub : ∀ v ∈ (slicePick vs.toArray a b c).toList, ∃ a t, v = Value.int a t := by
    intro v hv
    refine ints_mem hi v ?_
    unfold slicePick at hv
    simp only [List.toList_toArray, List.mem_filterMap] at hv
    obtain ⟨i, _, hv⟩ := hv
    have := Array.mem_of_getElem? hv
    simpa using this
  obtain ⟨ks, hk⟩ := ints_all _ hsub
  refine PySem.W.sumK hh F N (vs := (slicePick vs.toArray a b c).toList) (ns := ks) ?_ hk fun h' tk t' F' N' => h h' tk t' _ F' N'
  exact ⟨_, (N _ hm).1, rfl, n, by simp⟩
end
section
variable {h₀ : Heap} {L : Addr}
theorem cmp_taken {s₂ : Shared} {C D : Addr} {oC oD : Obj} {h₂ : Heap} {tk₂ : Nat} {m₂ : Str → Option Value} {news : List (Addr × Obj)} {Q : Flow → Shared → Prop} (F : Fr h₀ L h₂ m₂) (N : News h₀ L h₂ ((C, oC) :: (D, oD) :: news)) (hDC : @LT.lt Nat _ D C) (off : ∀ p ∈ news, @LT.lt Nat _ p.1 D)
    (k : ∀ h₃, Fr h₀ L h₃ m₂ → News h₀ L h₃ ((D, oD) :: news) → Q .next { s₂ with heap := h₃, toks := tk₂ }) : CmpTaken h₀ L s₂ C oC Q { s₂ with heap := h₂, toks := tk₂ } :=
  ⟨h₂, tk₂, m₂, _, rfl, F, N, fun p hp => by
    rcases List.mem_cons.mp hp with rfl | hp
    · exact Nat.ne_of_lt hDC
    · exact Nat.ne_of_lt (Nat.lt_trans (off p hp) hDC), k⟩
theorem four_ints {ys : List Value} {ks : List Int} (h : IntsAre ys ks) (hl : ys.length = 4) : ∃ a b c d t u v x, ys = [.int a t, .int b u, .int c v, .int d x] := by
  cases h with
  | nil => simp at hl
  | cons a t h => cases h with
    | nil => simp at hl
    | cons b u h => cases h with
      | nil => simp at hl
      | cons c v h => cases h with
        | nil => simp at hl
        | cons d x h => cases h with
          | nil => exact ⟨a, b, c, d, t, u, v, x, rfl⟩
          | cons e z h => simp at hl
end
section
variable {prog : Program} {w : World} {A : Around} {E : Value → Shared → Prop} {s : Shared} {h₀ : Heap} {L : Addr} {news : List (Addr × Obj)}
theorem item_lst {value slice : PySem.Expr} {D : Addr} {vs : List Value} {n : Nat} {k : Int} {u : Tok} {v : Value} {Q : Value → Shared → Prop} (N : News h₀ L s.heap news) (hm : (D, ({ cls := .type "list", data := .seq vs.toArray n } : Obj)) ∈ news)
    (h0 : 0 ≤ k) (h1 : k < 2 ^ 63) (hx : vs[k.toNat]? = some v) (h : Q v s)
    (hs : subscripted slice false (.ref D) (.int k u) = operate [.ref D, .int k u] (getItem (.ref D) (.int k u)) := by with_unfolding_all rfl) :
    wpAny (model prog w) A (subscriptTail value slice (.ref D) (.int k u)) Q E s := by
  have hl : s.heap.IsList D vs.toArray := ⟨_, (N _ hm).1, rfl, n, rfl⟩
  exact tail_any hl.typeIs slot_list_getitem.lookup (wpAny_getItem_list hl h0 h1 (by simpa using hx) h) hs
end
section
variable {M : Model} {A : Around} {E : Value → Shared → Prop} {h₀ : Heap} {L : Addr}
/-- the law's end: it gave True, and the three tables of inner code are told -/
def LawEnd (h₀ : Heap) (L : Addr) (s : Shared) (f : Flow) (s' : Shared) : Prop :=
  f = .ret (.bool true) ∧ ∃ h' tk dr m' p1 p2 p3, s' = { s with heap := h', toks := tk, drawn := dr } ∧ Fr h₀ L h' m' ∧ News h₀ L h' [(59, tabObj p1), (52, tabObj p2), (24, tabObj p3)]
theorem law_split {t : Sem Flow} {s : Shared} {m : Str → Option Value} {Q : Flow → Shared → Prop} (F : Fr h₀ L s.heap m) (h1 : wpAny M A t (LawEnd h₀ L s) E s)
    (h2 : ∀ h' tk dr m' p1 p2 p3, Fr h₀ L h' m' → News h₀ L h' [(59, tabObj p1), (52, tabObj p2), (24, tabObj p3)] → Q (.ret (.bool true)) { s with heap := h', toks := tk, drawn := dr }) : wpAny M A t Q E s :=
  wpAny_mono h1 (fun f s' hq => by
    obtain ⟨rfl, h', tk, dr, m', p1, p2, p3, rfl, F', N'⟩ := hq
    exact h2 _ _ _ _ _ _ _ F' N') fun _ _ e => e
end
end
example {prog : Program} {w : World} {A : Around} {env : Env} {Q : Flow → Shared → Prop} {E : Value → Shared → Prop} {s : Shared} (h : wpAny (model prog w) A (execs [] env) Q E s) : wpAny (model prog w) A (execs [] env) Q E s := by ((k_with "now" => have kReset : True := trivial); (k_with "piece" => have kP_X4 : True := trivial); w_top off; first | (walk1; fail) | exact h)
section
open PyProof.Rows.LCg
section
variable {prog : Program} {w : World} {A : Around} {E : Value → Shared → Prop} {s : Shared} {h₀ : Heap} {L : Addr} {m : Str → Option Value} {env : Env}
/-- a comprehension over a range from nought -/
theorem fr_pin {h : Heap} (F : Fr h₀ L h m) {y : Str} {v : Value} (e : m y = some v) : Fr h₀ L h (fun z => if z = y then some v else m z) := by
  have : (fun z => if z = y then some v else m z) = m := by
    funext z
    by_cases q : z = y
    · rw [if_pos q, q, e]
    · rw [if_neg q]
  rw [this]; exact F
end
end
example {prog : Program} {w : World} {A : Around} {env : Env} {Q : Flow → Shared → Prop} {E : Value → Shared → Prop} {s : Shared} (h : wpAny (model prog w) A (execs [] env) Q E s) : wpAny (model prog w) A (execs [] env) Q E s := by ((k_with "now" => have kReset : True := trivial); (k_with "piece" => have kP_X5 : True := trivial); w_top off; first | (walk1; fail) | exact h)
section
open PyProof.Rows.LCg
section
variable {prog : Program} {w : World} {A : Around} {E : Value → Shared → Prop} {s : Shared} {h₀ : Heap} {L : Addr} {m : Str → Option Value} {env : Env}
/-- the iterator that a comprehension in an expression goes through -/
def CmpSrcE (prog : Program) (w : World) (A : Around) (h₀ : Heap) (L : Addr) (env : Env) (elt target : Expr) (scope : Scope) (cl : List (Str × Addr)) (Q : Value → Shared → Prop) (it : Value) (s₂ : Shared) : Prop :=
  ∃ (I : Addr) (fp wr : List Addr) (n : Nat) (P Md : Nat → Value → Heap → Prop) (St : Nat → Heap → Prop) (news : List (Addr × Obj)) (m : Str → Option Value) (G : Nat → (Str → Option Value) → Prop) (J : Nat → List Value → List (Addr × Obj) → Nat → Prop),
    it = .ref I ∧ KTurns prog w A target I fp wr n P Md St ∧ (∀ (sx : Shared) (Q : Value → Shared → Prop) (E : Value → Shared → Prop), St 0 sx.heap → Q (.ref I) sx → wpAny (model prog w) A (pyIter (.ref I)) Q E sx) ∧
    (∀ i v (sx : Shared) (C : Addr) (m' : Str → Option Value) (Qa : Unit → Shared → Prop) (Ea : Value → Shared → Prop), P i v sx.heap → sx.heap.Ns C m' →
      (∀ h' m₂ tk', h'.Ns C m₂ → G i m₂ → (∀ b o, b ≠ C → sx.heap.get? b = some o → h'.get? b = some o) → sx.toks ≤ tk' → Qa () { sx with heap := h', toks := tk' }) → wpAny (model prog w) A (assign target (compEnvC scope cl C env) v) Qa Ea sx) ∧
    (∀ i ys nw tk tk', J i ys nw tk → tk ≤ tk' → J i ys nw tk') ∧ n ≤ sizeLine ∧ St 0 s₂.heap ∧ (∀ b ∈ fp, b < s₂.heap.objs.size) ∧ Fr h₀ L s₂.heap m ∧ News h₀ L s₂.heap news ∧ L ∉ fp ∧ (∀ b ∈ wr, h₀.get? b = none) ∧ (∀ p ∈ news, p.1 ∉ wr) ∧ J 0 [] news s₂.toks ∧
    (∀ i ys news₁ h tk own C oC m₂ D (E' : Value → Shared → Prop), i < n → J i ys news₁ tk → ys.length = i → NsObj oC m₂ → G i m₂ → Fr h₀ L h m → News h₀ L h ((C, oC) :: (D, lst ys) :: (news₁ ++ own)) → (∀ p ∈ own, p.1 ∈ fp) → (∀ b ∈ fp, @LT.lt Nat _ b D) → @LT.lt Nat _ D C → @LT.lt Nat _ L D →
      (∀ p ∈ news₁, p.1 ∉ wr ∧ (@Ne Nat p.1 C) ∧ (@Ne Nat p.1 D)) → s₂.toks ≤ tk →
      wpAny (model prog w) A (eval elt (compEnvC scope cl C env)) (CmpEnd h₀ L m s₂ wr C oC D ys own (J (i + 1))) E' { s₂ with heap := h, toks := tk }) ∧
    (∀ D h tk ys news', Fr h₀ L h m → News h₀ L h ((D, lst ys) :: news') → (∀ b ∈ fp, @LT.lt Nat _ b D) → (∀ p ∈ news', @Ne Nat p.1 D) → J n ys news' tk → Q (.ref D) { s₂ with heap := h, toks := tk })
theorem ListComp_cmp {elt iter target : Expr} {scope : Scope} {cl : List (Str × Addr)} {pos : Pos} {Q : Value → Shared → Prop} (F₀ : Fr h₀ L s.heap m)
    (hclos : closureFor scope env = pure cl) (hcell : ∀ z ∈ scope.names, z.2 ≠ .cell) (hkind : scope.kind = .function)
    (hnames : ∀ z ∈ scope.names, z.2 = .local → scope.names.lookup z.1 = some .local)
    (h : wpAny (model prog w) A (eval iter env) (fun xv s₁ => wpAny (model prog w) A (pyIter xv) (fun it s₂ => CmpSrcE prog w A h₀ L env elt target scope cl Q it s₂) E s₁) E s)
    (hs : ∀ x, foldedSetIterable iter env x = pure x := by intro _; rfl) :
    wpAny (model prog w) A (eval (.ListComp elt [⟨target, iter, [], 0⟩] scope pos) env) Q E s := by
  rw [eval_ListComp]
  refine wpAny_comprehension_free (use := none) rfl hs hclos hkind hnames (wpAny_mono h (fun xv s₁ h₁ => ?_) fun _ _ e => e)
  refine wpAny_mono h₁ (fun it s₂ h₂ => ?_) fun _ _ e => e
  obtain ⟨I, fp, wr, n, P, Md, St, news, m, G, J, rfl, W, hself, asg, hJ, hsz, hst, hfp, F, N, hLf, hwr, off, h0, step, fin⟩ := h₂
  refine comp_blk W hself G asg J hJ hsz hcell hkind hst hfp F N hLf hwr off h0 step ?_
  intro D C oC h tk ys news' F' N' hDC hfD off' hoC hj
  obtain ⟨m', hoC⟩ := hoC
  have zC := N' (C, oC) List.mem_cons_self
  refine ⟨m', hoC.ns zC.1, fun h'' hs'' => fin D h'' tk ys news' (F'.change hs'' zC.2.1 zC.2.2) (fun p hp => ?_) hfD (fun p hp => (off' p hp).2) hj⟩
  have z := N' p (List.mem_cons_of_mem _ hp)
  refine ⟨hs''.extBut _ _ ?_ z.1, z.2⟩
  rcases List.mem_cons.mp hp with rfl | hp
  · exact Nat.ne_of_lt hDC
  · exact (off' p hp).1
/-- a comprehension over a range from nought -/
theorem cmp_rangeE {elt : Expr} {x : Str} {px : Pos} {scope : Scope} {cl : List (Str × Addr)} {r : Addr} {b : Int} {t u v : Tok} {n : Nat} {news : List (Addr × Obj)} {Q : Value → Shared → Prop}
    (hh : A.handled = none) (hkind : scope.kind = .function) (hx : scope.names.lookup x = some .local)
    (F : Fr h₀ L s.heap m) (N : News h₀ L s.heap news) (hr : IsRange s.heap r 0 b 1 t u v) (hsm : Builtin.Range.small 0 b 1 = true) (hn : Builtin.Range.rangeSize 0 b 1 = ((n : Nat) : Int)) (hz : n ≤ 1000)
    (J : Nat → List Value → List (Addr × Obj) → Nat → Prop) (hJ : ∀ i ys nw tk tk', J i ys nw tk → tk ≤ tk' → J i ys nw tk') (h0 : J 0 [] news s.toks)
    (step : ∀ I i ys news₁ h tk own C oC m₂ D t (E' : Value → Shared → Prop), i < n → J i ys news₁ tk → ys.length = i → NsObj oC m₂ → m₂ x = some (.int (i : Int) t) → Fr h₀ L h m → News h₀ L h ((C, oC) :: (D, lst ys) :: (news₁ ++ own)) → (∀ p ∈ own, p.1 = I) → @LT.lt Nat _ D C → @LT.lt Nat _ L D →
      (∀ p ∈ news₁, p.1 ∉ [I] ∧ (@Ne Nat p.1 C) ∧ (@Ne Nat p.1 D)) → @LT.lt Nat _ I D → @LE.le Nat _ s.heap.objs.size I → s.toks ≤ tk →
      wpAny (model prog w) A (eval elt (compEnvC scope cl C env)) (CmpEnd h₀ L m s [I] C oC D ys own (J (i + 1))) E' { s with heap := h, toks := tk })
    (fin : ∀ D h tk ys news', Fr h₀ L h m → News h₀ L h ((D, lst ys) :: news') → @LT.lt Nat _ s.heap.objs.size D → (∀ p ∈ news', @Ne Nat p.1 D) → J n ys news' tk → Q (.ref D) { s with heap := h, toks := tk }) :
    wpAny (model prog w) A (pyIter (.ref r)) (fun it s₂ => CmpSrcE prog w A h₀ L env elt (.Name x px) scope cl Q it s₂) E s := by
  refine wpAny_pyIter_range hr hsm ?_
  have KT := KTurns.ofWalks (target := .Name x px) (range_walks (prog := prog) (w := w) (I := s.heap.objs.size) hh 0 n) (fun i v s Q E _ hq => wpAny_of_eq rfl hq)
  have hLs : L < s.heap.objs.size := F.ns.lt
  have hps : ∀ o, (s.heap.push o).objs.size = s.heap.objs.size + 1 := fun o => Heap.size_push ..
  refine ⟨_, _, _, _, _, _, _, news, m, fun i m₂ => ∃ t, m₂ x = some (.int (i : Int) t), J, rfl, KT, ?_, ?_, hJ, ?_, ?_, ?_, F.keeps (fun _ _ e => Heap.get?_push_of_some _ e), N.grown (fun _ _ e => Heap.get?_push_of_some _ e), ?_, ?_, ?_, h0, ?_, ?_⟩
  · intro sx Q E hst hq
    exact (range_walks (prog := prog) (w := w) (A := A) (I := s.heap.objs.size) hh 0 n).self 0 sx Q E hst hq
  · rintro i v sx C m' Qa Ea ⟨t, rfl⟩ hn hq
    refine asg_name hkind hx hn fun h' m₂ tk' hn' e1 hk' hle => hq h' m₂ tk' hn' ⟨t, ?_⟩ hk' hle
    rw [e1, Int.zero_add]
  · rw [sizeLine_eq]; lia
  · show IsRangeIter _ _ _ _ _
    rw [hn]
    simpa using Heap.get?_push_size s.heap rfl
  · intro b hb
    rw [List.mem_singleton.mp hb]
    show s.heap.objs.size < (s.heap.push _).objs.size
    rw [hps]; exact Nat.lt_succ_self _
  · intro hm
    exact Nat.ne_of_lt hLs (List.mem_singleton.mp hm)
  · intro b hb
    rw [List.mem_singleton.mp hb]; exact ktu_new F (Nat.le_refl _)
  · intro p hp hI
    exact Nat.ne_of_lt (Heap.lt_size (N p hp).1) (List.mem_singleton.mp hI)
  · rintro i ys news₁ h tk own C oC m₂ D E' hlt' hj hyl hoC ⟨t, e1⟩ F' N' hown hfD hDC hLD off' htk
    exact step _ i ys news₁ h tk own C oC m₂ D t E' hlt' hj hyl hoC e1 F' N' (fun p hp => List.mem_singleton.mp (hown p hp)) hDC hLD off' (hfD _ (List.mem_singleton.mpr rfl)) (Nat.le_refl _) htk
  · rintro D h tk ys news' F' N' hfD off' hj
    exact fin D h tk ys news' F' N' (hfD _ (List.mem_singleton.mpr rfl)) off' hj
end
end
example {prog : Program} {w : World} {A : Around} {env : Env} {Q : Flow → Shared → Prop} {E : Value → Shared → Prop} {s : Shared} (h : wpAny (model prog w) A (execs [] env) Q E s) : wpAny (model prog w) A (execs [] env) Q E s := by ((k_with "now" => have kReset : True := trivial); (k_with "piece" => have kP_L0 : True := trivial); w_top off; first | (walk1; fail) | exact h)
section
def lawBody : List Stmt := match PySem.Challenge.pw_xi0020_01.main.body.getLast? with
  | some (.FunctionDef _ _ b _ _ _ _ _ _ _) => b
  | _ => []
def lawScope : Scope := match PySem.Challenge.pw_xi0020_01.main.body.getLast? with
  | some (.FunctionDef _ _ _ _ _ _ sc _ _ _) => sc
  | _ => default
abbrev lawEnv (L fa : Addr) (cd : Value) : Env := envOfC (Str.ofString "law") lawScope L fa cd
theorem stopL {P : Prop} (h : Stop P) : P := h
theorem n_bits {cn N : Nat} (hc9 : cn ≤ 9) (hN2 : N < 10 ^ cn) : BL N ≤ 37 := bl_le.mpr (Nat.lt_of_lt_of_le hN2 (Nat.le_of_lt (pow_lt 10 cn (by lia) (b := 37) (by lia))))
end
example {prog : Program} {w : World} {A : Around} {env : Env} {Q : Flow → Shared → Prop} {E : Value → Shared → Prop} {s : Shared} (h : wpAny (model prog w) A (execs [] env) Q E s) : wpAny (model prog w) A (execs [] env) Q E s := by ((k_with "now" => have kReset : True := trivial); (k_with "piece" => have kP_L5 : True := trivial); w_top off; first | (walk1; fail) | exact h)
section
open PyProof.Rows.LCg
/-- the tuples that the words are, the newest ahead -/
def WTu (U : Nat → Nat) (S f : Nat) : Nat → List (Addr × Obj) → List Value → Nat → Prop
  | 0, tups, ys, tk => tups = [] ∧ ys = [] ∧ 1 ≤ tk
  | k + 1, tups, ys, tk => ∃ tups' ys' tk' d t u, WTu U S f k tups' ys' tk' ∧ tups = (d, tupO (apW (lN (U k) S f)).toArray t (lE (U k) S f) u) :: tups' ∧ ys = ys' ++ [Value.ref d] ∧
      (@LE.le Nat _ tk' t) ∧ (@LT.lt Nat _ t tk) ∧ (@LE.le Nat _ tk' u) ∧ (@LT.lt Nat _ u tk) ∧ (∀ p ∈ tups', @LT.lt Nat _ p.1 d)
theorem WTu.mono {U : Nat → Nat} {S f : Nat} : ∀ {k : Nat} {tups : List (Addr × Obj)} {ys : List Value} {tk tk' : Nat}, WTu U S f k tups ys tk → tk ≤ tk' → WTu U S f k tups ys tk'
  | 0, _, _, _, _, ⟨h1, h2, h3⟩, h => ⟨h1, h2, Nat.le_trans h3 h⟩
  | k + 1, _, _, _, _, ⟨a, b, c, d, t, u, h1, h2, h3, h4, h5, h6, h7, h8⟩, h => ⟨a, b, c, d, t, u, h1, h2, h3, h4, Nat.lt_of_lt_of_le h5 h, h6, Nat.lt_of_lt_of_le h7 h, h8⟩
abbrev wLed (L : Addr) (oW o1 oF oL oP : Obj) (ps : Array Value) : List (Addr × Obj) := [(L + 1 + 1 + 1 + 1 + 1 + 1, oW), (L + 1 + 1 + 1 + 1 + 1, o1), (L + 1 + 1 + 1 + 1, oF), (L + 1 + 1 + 1, oL), (L + 1 + 1, oP), (24, tabObj ps)]
def WJ (L : Addr) (base tail : List (Addr × Obj)) (U : Nat → Nat) (S f : Nat) (i : Nat) (ys : List Value) (nw : List (Addr × Obj)) (tk : Nat) : Prop :=
  ∃ c1 oc1 c2 oc2 tups, secsOk (some ((c1, oc1), (c2, oc2))) ∧ nw = secs (some ((c1, oc1), (c2, oc2))) ++ (base ++ tups) ∧ WTu U S f i tups ys tk ∧ (@LT.lt Nat _ (L + 1 + 1 + 1 + 1 + 1 + 1) c1) ∧ (@LT.lt Nat _ (L + 1 + 1 + 1 + 1 + 1 + 1) c2) ∧ (∀ p ∈ tups, (@LT.lt Nat _ (L + 1 + 1 + 1 + 1 + 1 + 1) p.1) ∧ (@Ne Nat p.1 c1) ∧ (@Ne Nat p.1 c2))
abbrev Sec2 := Option ((Addr × Obj) × (Addr × Obj))
theorem mem_secs {c1 c2 : Addr} {oc1 oc2 : Obj} {p : Addr × Obj} (h : p ∈ secs (some ((c1, oc1), (c2, oc2)))) : p.1 = 52 ∨ p.1 = c1 ∨ p.1 = 59 ∨ p.1 = c2 := by
  simp only [secs, sec52, sec59, List.cons_append, List.nil_append, List.mem_cons, List.not_mem_nil, or_false] at h
  rcases h with h | h | h | h <;> rw [h]
  · exact .inl rfl
  · exact .inr (.inl rfl)
  · exact .inr (.inr (.inl rfl))
  · exact .inr (.inr (.inr rfl))
theorem mem_wled {L : Addr} {oW o1 oF oL oP : Obj} {ps : Array Value} {p : Addr × Obj} (h : p ∈ wLed L oW o1 oF oL oP ps) : p.1 = 24 ∨ ((@LT.lt Nat _ L p.1) ∧ @LE.le Nat _ p.1 (L + 1 + 1 + 1 + 1 + 1 + 1)) := by
  simp only [wLed, List.mem_cons, List.not_mem_nil, or_false] at h
  rcases h with h | h | h | h | h | h <;> rw [h]
  · exact .inr ⟨ltN (by dsimp only; lia), leN (by dsimp only; lia)⟩
  · exact .inr ⟨ltN (by dsimp only; lia), leN (by dsimp only; lia)⟩
  · exact .inr ⟨ltN (by dsimp only; lia), leN (by dsimp only; lia)⟩
  · exact .inr ⟨ltN (by dsimp only; lia), leN (by dsimp only; lia)⟩
  · exact .inr ⟨ltN (by dsimp only; lia), leN (by dsimp only; lia)⟩
  · exact .inl rfl
theorem news_mid {h₀ h : Heap} {L : Addr} {a b : Addr × Obj} {S R : List (Addr × Obj)} (N : News h₀ L h (a :: b :: (S ++ R))) : News h₀ L h (S ++ (a :: b :: R)) := fun p hp => N p (by
  simp only [List.mem_cons, List.mem_append] at hp ⊢
  rcases hp with hp | hp | hp | hp
  · exact .inr (.inr (.inl hp))
  · exact .inl hp
  · exact .inr (.inl hp)
  · exact .inr (.inr (.inr hp)))
theorem news_turn {h₀ h : Heap} {L : Addr} {a b d : Addr × Obj} {S Bs T O : List (Addr × Obj)} (N : News h₀ L h (d :: S ++ (a :: b :: (Bs ++ (T ++ O))))) : News h₀ L h (a :: b :: ((S ++ (Bs ++ (d :: T))) ++ O)) := fun p hp => N p (by
  simp only [List.mem_cons, List.mem_append, List.cons_append] at hp ⊢
  rcases hp with hp | hp | (hp | hp | hp | hp) | hp
  · exact .inr (.inr (.inl hp))
  · exact .inr (.inr (.inr (.inl hp)))
  · exact .inr (.inl hp)
  · exact .inr (.inr (.inr (.inr (.inl hp))))
  · exact .inl hp
  · exact .inr (.inr (.inr (.inr (.inr (.inl hp)))))
  · exact .inr (.inr (.inr (.inr (.inr (.inr hp))))))
section
variable {L I C D c1 c2 : Addr} {oc1 oc2 oW o1 oF oL oP oC oD : Obj} {ps : Array Value} {tups own : List (Addr × Obj)}
theorem w_apart (hL : @LT.lt Nat _ 59 L) (hc1 : @LT.lt Nat _ (L + 1 + 1 + 1 + 1 + 1 + 1) c1) (hc2 : @LT.lt Nat _ (L + 1 + 1 + 1 + 1 + 1 + 1) c2) (ht : ∀ p ∈ tups, (@LT.lt Nat _ (L + 1 + 1 + 1 + 1 + 1 + 1) p.1) ∧ (@Ne Nat p.1 c1) ∧ (@Ne Nat p.1 c2))
    (off : ∀ p ∈ secs (some ((c1, oc1), (c2, oc2))) ++ (wLed L oW o1 oF oL oP ps ++ tups), p.1 ∉ [I] ∧ (@Ne Nat p.1 C) ∧ (@Ne Nat p.1 D)) (ho : ∀ p ∈ own, p.1 = I) :
    ∀ q ∈ (C, oC) :: (D, oD) :: (wLed L oW o1 oF oL oP ps ++ (tups ++ own)), ∀ p ∈ secs (some ((c1, oc1), (c2, oc2))), q.1 ≠ p.1 := by
  intro q hq p hp
  have hpo := off p (List.mem_append_left _ hp)
  rcases List.mem_cons.mp hq with rfl | hq
  · exact fun e => hpo.2.1 e.symm
  rcases List.mem_cons.mp hq with rfl | hq
  · exact fun e => hpo.2.2 e.symm
  have hp' := mem_secs hp
  rcases List.mem_append.mp hq with hq | hq
  · have hq' := mem_wled hq
    refine neN ?_
    rcases hp' with e | e | e | e <;> rw [e] <;> (rcases hq' with hq' | hq') <;> (try rw [hq']) <;> lia
  rcases List.mem_append.mp hq with hq | hq
  · have hq' := ht q hq
    refine neN ?_
    rcases hp' with e | e | e | e <;> rw [e]
    · lia
    · exact hq'.2.1
    · lia
    · exact hq'.2.2
  · rw [ho q hq]
    exact fun e => hpo.1 (List.mem_singleton.mpr e.symm)
theorem w_next {c3 c4 : Addr} {oc3 oc4 : Obj} {Bn d : Addr} {od : Obj} (hL : @LT.lt Nat _ 59 L) (hc1 : @LT.lt Nat _ (L + 1 + 1 + 1 + 1 + 1 + 1) c1) (hc2 : @LT.lt Nat _ (L + 1 + 1 + 1 + 1 + 1 + 1) c2) (ht : ∀ p ∈ tups, (@LT.lt Nat _ (L + 1 + 1 + 1 + 1 + 1 + 1) p.1) ∧ (@Ne Nat p.1 c1) ∧ (@Ne Nat p.1 c2))
    (off : ∀ p ∈ secs (some ((c1, oc1), (c2, oc2))) ++ (wLed L oW o1 oF oL oP ps ++ tups), p.1 ∉ [I] ∧ (@Ne Nat p.1 C) ∧ (@Ne Nat p.1 D)) (hID : @LT.lt Nat _ I D) (hDC : @LT.lt Nat _ D C) (hCB : @LT.lt Nat _ C Bn) (hLB : @LT.lt Nat _ (L + 1 + 1 + 1 + 1 + 1 + 1) Bn)
    (htB : ∀ p ∈ tups, @LT.lt Nat _ p.1 Bn) (hd : @LE.le Nat _ Bn d) (hd3 : @Ne Nat c3 d) (hd4 : @Ne Nat c4 d) (g4 : @LE.le Nat _ Bn c3 ∨ c3 = c1) (g5 : @LE.le Nat _ Bn c4 ∨ c4 = c2) :
    (∀ p ∈ secs (some ((c3, oc3), (c4, oc4))) ++ (wLed L oW o1 oF oL oP ps ++ ((d, od) :: tups)), p.1 ∉ [I] ∧ (@Ne Nat p.1 C) ∧ (@Ne Nat p.1 D)) ∧ (@LT.lt Nat _ (L + 1 + 1 + 1 + 1 + 1 + 1) c3) ∧ (@LT.lt Nat _ (L + 1 + 1 + 1 + 1 + 1 + 1) c4) ∧
      (∀ p ∈ (d, od) :: tups, (@LT.lt Nat _ (L + 1 + 1 + 1 + 1 + 1 + 1) p.1) ∧ (@Ne Nat p.1 c3) ∧ (@Ne Nat p.1 c4)) := by
  have big : ∀ x : Addr, @LE.le Nat _ Bn x → x ∉ [I] ∧ (@Ne Nat x C) ∧ (@Ne Nat x D) := fun x hx => ⟨fun hm => by have := List.mem_singleton.mp hm; exact absurd this (neN (by lia)), neN (by lia), neN (by lia)⟩
  have o52 := off (52, tabObj #[rawInt (86 : Nat), rawInt (4 : Nat), .ref c1]) (by simp [secs, sec52, sec59])
  have o59 := off (59, tabObj #[rawInt (101 : Nat), rawInt (4 : Nat), .ref c2]) (by simp [secs, sec52, sec59])
  have oc1' := off (c1, oc1) (by simp [secs, sec52, sec59])
  have oc2' := off (c2, oc2) (by simp [secs, sec52, sec59])
  have h3 : c3 ∉ [I] ∧ (@Ne Nat c3 C) ∧ (@Ne Nat c3 D) := by rcases g4 with h | h; exact big _ h; rw [h]; exact oc1'
  have h4 : c4 ∉ [I] ∧ (@Ne Nat c4 C) ∧ (@Ne Nat c4 D) := by rcases g5 with h | h; exact big _ h; rw [h]; exact oc2'
  refine ⟨fun p hp => ?_, ?_, ?_, fun p hp => ?_⟩
  · rcases List.mem_append.mp hp with hp | hp
    · rcases mem_secs hp with e | e | e | e <;> rw [e]
      · exact o52
      · exact h3
      · exact o59
      · exact h4
    rcases List.mem_append.mp hp with hp | hp
    · exact off p (List.mem_append_right _ (List.mem_append_left _ hp))
    rcases List.mem_cons.mp hp with rfl | hp
    · exact big _ hd
    · exact off p (List.mem_append_right _ (List.mem_append_right _ hp))
  · rcases g4 with h | h
    · exact ltN (by lia)
    · rw [h]; exact hc1
  · rcases g5 with h | h
    · exact ltN (by lia)
    · rw [h]; exact hc2
  · rcases List.mem_cons.mp hp with rfl | hp
    · exact ⟨ltN (by dsimp only; lia), fun e => hd3 e.symm, fun e => hd4 e.symm⟩
    · have h1 := ht p hp
      have h2 := htB p hp
      refine ⟨h1.1, ?_, ?_⟩
      · rcases g4 with h | h
        · exact neN (by lia)
        · rw [h]; exact h1.2.1
      · rcases g5 with h | h
        · exact neN (by lia)
        · rw [h]; exact h1.2.2
end
end
example : True := by
  k_with "m forall" => (((with_reducible show (@LE.le Nat _ _ _ → _)); intro htk9ξ; (try dsimp only at htk9ξ); (try dsimp only)))
  k_with "m execs cons" => (k_extra "toks")
  k_with "m subscriptTail" => (k_extra "ov item")
  k_with "apart" => ((intro qξ hqξ pξ hpξ; (simp only [sec52, sec59, secs, List.mem_cons, List.not_mem_nil, or_false, List.cons_append, List.nil_append] at hqξ hpξ); (repeat' (rcases hqξ with hqξ | hqξ)); (all_goals (repeat' (rcases hpξ with hpξ | hpξ))); (all_goals ((try subst hqξ); (try subst hpξ); exact neN (by dsimp only; lia)))))
  k_with "tkom" => (((try dsimp only at *); lia))
  k_with "m exec While Compare cons nil" => (k_extra "ov WhileC")
  k_with "m call ref" => (first | refine stopAt 128 ?_ | refine stopAt 114 ?_ | refine stopAt 135 ?_)
  k_with "m binaryOp Mod int int" => (k_extra "ov Mod")
  trivial
example {prog : Program} {w : World} {A : Around} {env : Env} {Q : Flow → Shared → Prop} {E : Value → Shared → Prop} {s : Shared} (h : wpAny (model prog w) A (execs [] env) Q E s) : wpAny (model prog w) A (execs [] env) Q E s := by ((k_with "now" => have kReset : True := trivial); (k_with "piece" => have kP_LF : True := trivial); w_top off; first | (walk1; fail) | exact h)
section
example : True := by
  k_with "m subscriptTail Name Constant ref int" => ((fail_if_success (fail_if_success (k_extra "piece"; clear kP_LF))); k_extra "ov item")
  k_with "m compareOp NotIn none ref" => ((fail_if_success (fail_if_success (k_extra "piece"; clear kP_LF))); k_extra "ov notin")
  k_with "m compareOp Eq ref ref" => ((fail_if_success (fail_if_success (k_extra "piece"; clear kP_LF))); k_extra "ov eq")
  k_with "m call ref" => ((fail_if_success (fail_if_success (k_extra "piece"; clear kP_LF))); refine stopAt 92 ?_)
  k_with "m eval ListComp" => ((fail_if_success (fail_if_success (k_extra "piece"; clear kP_LF))); k_extra "ov lc")
  k_with "m CompEnd" => ((fail_if_success (fail_if_success (k_extra "piece"; clear kP_LF))); k_extra "ov cend")
  trivial
open PyProof.Rows.LCg
section
variable {prog : Program} {w : World} {A : Around} {E : Value → Shared → Prop} {s : Shared}
theorem notin3 {D d0 d1 d2 : Addr} {b0 b1 b2 : Array UInt8} {t0 t1 t2 u0 u1 u2 : Tok} {e0 e1 e2 : Int} {h₀ : Heap} {L : Addr} {news : List (Addr × Obj)} {ep : Nat} {Q : Value → Shared → Prop} (N : News h₀ L s.heap news)
    (hD : (D, listOf #[.ref d0, .ref d1, .ref d2] ep) ∈ news) (m0 : (d0, tupO b0 t0 e0 u0) ∈ news) (m1 : (d1, tupO b1 t1 e1 u1) ∈ news) (m2 : (d2, tupO b2 t2 e2 u2) ∈ news) (hu : A.in1.units < cLine) (h : Q (.bool true) s) :
    wpAny (model prog w) A (compareOp .NotIn .none (.ref D)) Q E s := by
  refine SeqAt.notIn_listAt (fun _ => false) ⟨_, (N _ hD).1, rfl, ep, rfl⟩ (fun y hy => ?_) (by rw [show (!(#[Value.ref d0, .ref d1, .ref d2] : Array Value).any fun _ => false) = true by simp]; exact h)
  have hy' : y = .ref d0 ∨ y = .ref d1 ∨ y = .ref d2 := by simpa using hy
  rcases hy' with rfl | rfl | rfl
  · exact SeqAt.EqAt.tuple_none (tupO_at N m0) hu
  · exact SeqAt.EqAt.tuple_none (tupO_at N m1) hu
  · exact SeqAt.EqAt.tuple_none (tupO_at N m2) hu
theorem eq_y {x y : Addr} {p q : Array UInt8} {i j : Int} {t u t' u' : Tok} {Q : Value → Shared → Prop} (hx : s.heap.IsTuple x #[.bytes p t, .int i u]) (hy : s.heap.IsTuple y #[.bytes q t', .int j u']) (hu : A.units < cLine) (e : p = q ∧ i = j)
    (h : Q (.bool true) s) : wpAny (model prog w) A (compareOp .Eq (.ref x) (.ref y)) Q E s := eq_tup2 hx hy hu (by rw [decide_eq_true e]; exact h)
theorem eq_n {x y : Addr} {p q : Array UInt8} {i j : Int} {t u t' u' : Tok} {Q : Value → Shared → Prop} (hx : s.heap.IsTuple x #[.bytes p t, .int i u]) (hy : s.heap.IsTuple y #[.bytes q t', .int j u']) (hu : A.units < cLine) (e : ¬ (p = q ∧ i = j))
    (h : Q (.bool false) s) : wpAny (model prog w) A (compareOp .Eq (.ref x) (.ref y)) Q E s := eq_tup2 hx hy hu (by rw [decide_eq_false e]; exact h)
end
section
variable {w : World} {p0 : Program} {loose : List Str} {mean : ExcName → Option Value} {mg mb : Str → Option Value}
end
namespace sk_law_F
abbrev skD : Type := (World) × (Program) × (List PySem.Str) × (ExcName → Option Value) × (PySem.Str → Option Value) × (PySem.Str → Option Value) × (Addr) × (Value) × (Heap) × (Addr) × (Shared) × (Str → Option Value) × (Value → Shared → Prop) × (Obj) × (Addr) × (Addr) × (Addr) × (Addr) × (Array UInt8) × (Array UInt8) × (Array UInt8) × (Tok) × (Tok) × (Tok) × (Tok) × (Tok) × (Tok) × (Int) × (Int) × (Int) × (Array Value) × (Array Value) × (Array Value)
def skP (w : World) (p0 : Program) (loose : List PySem.Str) (mean : ExcName → Option Value) (mg : PySem.Str → Option Value) (mb : PySem.Str → Option Value) (fa : Addr) (cd : Value) (g : Heap) (L : Addr) (s : Shared) (u9 : Str → Option Value) (E1 : Value → Shared → Prop) (oW : Obj) (D : Addr) (d0 : Addr) (d1 : Addr) (d2 : Addr) (b0 : Array UInt8) (b1 : Array UInt8) (b2 : Array UInt8) (t0 : Tok) (t1 : Tok) (t2 : Tok) (u0 : Tok) (u1 : Tok) (u2 : Tok) (e0 : Int) (e1 : Int) (e2 : Int) (p1 : Array Value) (p2 : Array Value) (p3 : Array Value) : Prop := ∀ (h01 : @Ne Nat d0 d1) (h21 : @Ne Nat d2 d1) (hdD0 : @Ne Nat d0 D) (hdD1 : @Ne Nat d1 D) (hdD2 : @Ne Nat d2 D) (z1 : t0 ≠ 0) (z2 : t1 ≠ 0) (z3 : t2 ≠ 0) (z4 : u0 ≠ 0) (z5 : u1 ≠ 0) (z6 : u2 ≠ 0) (y1 : @Ne Nat t0 t1) (y2 : @Ne Nat t2 t1) (y3 : @Ne Nat u0 u1) (y4 : @Ne Nat u2 u1) (hcore : (b0 = b1 ∧ e0 = e1) ∨ (b2 = b1 ∧ e2 = e1)) (F : Fr g L s.heap u9) (N0 : News g L s.heap [(D, listOf #[.ref d0, .ref d1, .ref d2] 3), (d0, tupO b0 t0 e0 u0), (d1, tupO b1 t1 e1 u1), (d2, tupO b2 t2 e2 u2), (L + 1 + 1 + 1 + 1 + 1 + 1, oW), (59, tabObj p1), (52, tabObj p2), (24, tabObj p3)]) (dW : oW.data = .cell (some (.ref D))) (hL : @LT.lt Nat _ 59 L) (hLD : @LT.lt Nat _ (L + 1 + 1 + 1 + 1 + 1 + 1) D) (hL0 : @LT.lt Nat _ (L + 1 + 1 + 1 + 1 + 1 + 1) d0) (hL1 : @LT.lt Nat _ (L + 1 + 1 + 1 + 1 + 1 + 1) d1) (hL2 : @LT.lt Nat _ (L + 1 + 1 + 1 + 1 + 1 + 1) d2) (B : Below callerA g [] g) (X : (Mine.hd.heap_1 w.params).In g) (T : Top p0 loose mean mg mb g),
    wpAny (model PySem.Challenge.rw_xi0020_01.prog w) (callerA.deeper (lawEnv L fa cd)) (execs (lawBody.drop 21) (lawEnv L fa cd)) (LawEnd g L s)
      (fun e s' => wpAny (model PySem.Challenge.rw_xi0020_01.prog w) (callerA.deeper (lawEnv L fa cd)) (leaving (lawEnv L fa cd) e) (fun _ s'' => E1 e s'') (fun e' s'' => E1 e' s'') s') s
theorem skN : Nonempty skD := ⟨(Classical.choice neWorld, default, default, default, default, default, default, default, default, default, ({} : Shared), default, default, default, default, default, default, default, default, default, default, default, default, default, default, default, default, default, default, default, default, default, default)⟩
@[irreducible] noncomputable def skK : skD := @Classical.epsilon skD skN fun d => ¬ skP d.1 d.2.1 d.2.2.1 d.2.2.2.1 d.2.2.2.2.1 d.2.2.2.2.2.1 d.2.2.2.2.2.2.1 d.2.2.2.2.2.2.2.1 d.2.2.2.2.2.2.2.2.1 d.2.2.2.2.2.2.2.2.2.1 d.2.2.2.2.2.2.2.2.2.2.1 d.2.2.2.2.2.2.2.2.2.2.2.1 d.2.2.2.2.2.2.2.2.2.2.2.2.1 d.2.2.2.2.2.2.2.2.2.2.2.2.2.1 d.2.2.2.2.2.2.2.2.2.2.2.2.2.2.1 d.2.2.2.2.2.2.2.2.2.2.2.2.2.2.2.1 d.2.2.2.2.2.2.2.2.2.2.2.2.2.2.2.2.1 d.2.2.2.2.2.2.2.2.2.2.2.2.2.2.2.2.2.1 d.2.2.2.2.2.2.2.2.2.2.2.2.2.2.2.2.2.2.1 d.2.2.2.2.2.2.2.2.2.2.2.2.2.2.2.2.2.2.2.1 d.2.2.2.2.2.2.2.2.2.2.2.2.2.2.2.2.2.2.2.2.1 d.2.2.2.2.2.2.2.2.2.2.2.2.2.2.2.2.2.2.2.2.2.1 d.2.2.2.2.2.2.2.2.2.2.2.2.2.2.2.2.2.2.2.2.2.2.1 d.2.2.2.2.2.2.2.2.2.2.2.2.2.2.2.2.2.2.2.2.2.2.2.1 d.2.2.2.2.2.2.2.2.2.2.2.2.2.2.2.2.2.2.2.2.2.2.2.2.1 d.2.2.2.2.2.2.2.2.2.2.2.2.2.2.2.2.2.2.2.2.2.2.2.2.2.1 d.2.2.2.2.2.2.2.2.2.2.2.2.2.2.2.2.2.2.2.2.2.2.2.2.2.2.1 d.2.2.2.2.2.2.2.2.2.2.2.2.2.2.2.2.2.2.2.2.2.2.2.2.2.2.2.1 d.2.2.2.2.2.2.2.2.2.2.2.2.2.2.2.2.2.2.2.2.2.2.2.2.2.2.2.2.1 d.2.2.2.2.2.2.2.2.2.2.2.2.2.2.2.2.2.2.2.2.2.2.2.2.2.2.2.2.2.1 d.2.2.2.2.2.2.2.2.2.2.2.2.2.2.2.2.2.2.2.2.2.2.2.2.2.2.2.2.2.2.1 d.2.2.2.2.2.2.2.2.2.2.2.2.2.2.2.2.2.2.2.2.2.2.2.2.2.2.2.2.2.2.2.1 d.2.2.2.2.2.2.2.2.2.2.2.2.2.2.2.2.2.2.2.2.2.2.2.2.2.2.2.2.2.2.2.2
@[irreducible] noncomputable def w : World := skK.1
@[irreducible] noncomputable def p0 : Program := skK.2.1
@[irreducible] noncomputable def loose : List PySem.Str := skK.2.2.1
@[irreducible] noncomputable def mean : ExcName → Option Value := skK.2.2.2.1
@[irreducible] noncomputable def mg : PySem.Str → Option Value := skK.2.2.2.2.1
@[irreducible] noncomputable def mb : PySem.Str → Option Value := skK.2.2.2.2.2.1
@[irreducible] noncomputable def fa : Addr := skK.2.2.2.2.2.2.1
@[irreducible] noncomputable def cd : Value := skK.2.2.2.2.2.2.2.1
@[irreducible] noncomputable def g : Heap := skK.2.2.2.2.2.2.2.2.1
@[irreducible] noncomputable def L : Addr := skK.2.2.2.2.2.2.2.2.2.1
@[irreducible] noncomputable def s : Shared := skK.2.2.2.2.2.2.2.2.2.2.1
@[irreducible] noncomputable def u9 : Str → Option Value := skK.2.2.2.2.2.2.2.2.2.2.2.1
@[irreducible] noncomputable def E1 : Value → Shared → Prop := skK.2.2.2.2.2.2.2.2.2.2.2.2.1
@[irreducible] noncomputable def oW : Obj := skK.2.2.2.2.2.2.2.2.2.2.2.2.2.1
@[irreducible] noncomputable def D : Addr := skK.2.2.2.2.2.2.2.2.2.2.2.2.2.2.1
@[irreducible] noncomputable def d0 : Addr := skK.2.2.2.2.2.2.2.2.2.2.2.2.2.2.2.1
@[irreducible] noncomputable def d1 : Addr := skK.2.2.2.2.2.2.2.2.2.2.2.2.2.2.2.2.1
@[irreducible] noncomputable def d2 : Addr := skK.2.2.2.2.2.2.2.2.2.2.2.2.2.2.2.2.2.1
@[irreducible] noncomputable def b0 : Array UInt8 := skK.2.2.2.2.2.2.2.2.2.2.2.2.2.2.2.2.2.2.1
@[irreducible] noncomputable def b1 : Array UInt8 := skK.2.2.2.2.2.2.2.2.2.2.2.2.2.2.2.2.2.2.2.1
@[irreducible] noncomputable def b2 : Array UInt8 := skK.2.2.2.2.2.2.2.2.2.2.2.2.2.2.2.2.2.2.2.2.1
@[irreducible] noncomputable def t0 : Tok := skK.2.2.2.2.2.2.2.2.2.2.2.2.2.2.2.2.2.2.2.2.2.1
@[irreducible] noncomputable def t1 : Tok := skK.2.2.2.2.2.2.2.2.2.2.2.2.2.2.2.2.2.2.2.2.2.2.1
@[irreducible] noncomputable def t2 : Tok := skK.2.2.2.2.2.2.2.2.2.2.2.2.2.2.2.2.2.2.2.2.2.2.2.1
@[irreducible] noncomputable def u0 : Tok := skK.2.2.2.2.2.2.2.2.2.2.2.2.2.2.2.2.2.2.2.2.2.2.2.2.1
@[irreducible] noncomputable def u1 : Tok := skK.2.2.2.2.2.2.2.2.2.2.2.2.2.2.2.2.2.2.2.2.2.2.2.2.2.1
@[irreducible] noncomputable def u2 : Tok := skK.2.2.2.2.2.2.2.2.2.2.2.2.2.2.2.2.2.2.2.2.2.2.2.2.2.2.1
@[irreducible] noncomputable def e0 : Int := skK.2.2.2.2.2.2.2.2.2.2.2.2.2.2.2.2.2.2.2.2.2.2.2.2.2.2.2.1
@[irreducible] noncomputable def e1 : Int := skK.2.2.2.2.2.2.2.2.2.2.2.2.2.2.2.2.2.2.2.2.2.2.2.2.2.2.2.2.1
@[irreducible] noncomputable def e2 : Int := skK.2.2.2.2.2.2.2.2.2.2.2.2.2.2.2.2.2.2.2.2.2.2.2.2.2.2.2.2.2.1
@[irreducible] noncomputable def p1 : Array Value := skK.2.2.2.2.2.2.2.2.2.2.2.2.2.2.2.2.2.2.2.2.2.2.2.2.2.2.2.2.2.2.1
@[irreducible] noncomputable def p2 : Array Value := skK.2.2.2.2.2.2.2.2.2.2.2.2.2.2.2.2.2.2.2.2.2.2.2.2.2.2.2.2.2.2.2.1
@[irreducible] noncomputable def p3 : Array Value := skK.2.2.2.2.2.2.2.2.2.2.2.2.2.2.2.2.2.2.2.2.2.2.2.2.2.2.2.2.2.2.2.2
theorem skAll (hb : skP w p0 loose mean mg mb fa cd g L s u9 E1 oW D d0 d1 d2 b0 b1 b2 t0 t1 t2 u0 u1 u2 e0 e1 e2 p1 p2 p3) : ∀ (y0 : World) (y1 : Program) (y2 : List PySem.Str) (y3 : ExcName → Option Value) (y4 : PySem.Str → Option Value) (y5 : PySem.Str → Option Value) (y6 : Addr) (y7 : Value) (y8 : Heap) (y9 : Addr) (y10 : Shared) (y11 : Str → Option Value) (y12 : Value → Shared → Prop) (y13 : Obj) (y14 : Addr) (y15 : Addr) (y16 : Addr) (y17 : Addr) (y18 : Array UInt8) (y19 : Array UInt8) (y20 : Array UInt8) (y21 : Tok) (y22 : Tok) (y23 : Tok) (y24 : Tok) (y25 : Tok) (y26 : Tok) (y27 : Int) (y28 : Int) (y29 : Int) (y30 : Array Value) (y31 : Array Value) (y32 : Array Value), skP y0 y1 y2 y3 y4 y5 y6 y7 y8 y9 y10 y11 y12 y13 y14 y15 y16 y17 y18 y19 y20 y21 y22 y23 y24 y25 y26 y27 y28 y29 y30 y31 y32 := by
  intro y0 y1 y2 y3 y4 y5 y6 y7 y8 y9 y10 y11 y12 y13 y14 y15 y16 y17 y18 y19 y20 y21 y22 y23 y24 y25 y26 y27 y28 y29 y30 y31 y32
  refine Classical.byContradiction fun hn => ?_
  have h1 := @Classical.epsilon_spec skD (fun d => ¬ skP d.1 d.2.1 d.2.2.1 d.2.2.2.1 d.2.2.2.2.1 d.2.2.2.2.2.1 d.2.2.2.2.2.2.1 d.2.2.2.2.2.2.2.1 d.2.2.2.2.2.2.2.2.1 d.2.2.2.2.2.2.2.2.2.1 d.2.2.2.2.2.2.2.2.2.2.1 d.2.2.2.2.2.2.2.2.2.2.2.1 d.2.2.2.2.2.2.2.2.2.2.2.2.1 d.2.2.2.2.2.2.2.2.2.2.2.2.2.1 d.2.2.2.2.2.2.2.2.2.2.2.2.2.2.1 d.2.2.2.2.2.2.2.2.2.2.2.2.2.2.2.1 d.2.2.2.2.2.2.2.2.2.2.2.2.2.2.2.2.1 d.2.2.2.2.2.2.2.2.2.2.2.2.2.2.2.2.2.1 d.2.2.2.2.2.2.2.2.2.2.2.2.2.2.2.2.2.2.1 d.2.2.2.2.2.2.2.2.2.2.2.2.2.2.2.2.2.2.2.1 d.2.2.2.2.2.2.2.2.2.2.2.2.2.2.2.2.2.2.2.2.1 d.2.2.2.2.2.2.2.2.2.2.2.2.2.2.2.2.2.2.2.2.2.1 d.2.2.2.2.2.2.2.2.2.2.2.2.2.2.2.2.2.2.2.2.2.2.1 d.2.2.2.2.2.2.2.2.2.2.2.2.2.2.2.2.2.2.2.2.2.2.2.1 d.2.2.2.2.2.2.2.2.2.2.2.2.2.2.2.2.2.2.2.2.2.2.2.2.1 d.2.2.2.2.2.2.2.2.2.2.2.2.2.2.2.2.2.2.2.2.2.2.2.2.2.1 d.2.2.2.2.2.2.2.2.2.2.2.2.2.2.2.2.2.2.2.2.2.2.2.2.2.2.1 d.2.2.2.2.2.2.2.2.2.2.2.2.2.2.2.2.2.2.2.2.2.2.2.2.2.2.2.1 d.2.2.2.2.2.2.2.2.2.2.2.2.2.2.2.2.2.2.2.2.2.2.2.2.2.2.2.2.1 d.2.2.2.2.2.2.2.2.2.2.2.2.2.2.2.2.2.2.2.2.2.2.2.2.2.2.2.2.2.1 d.2.2.2.2.2.2.2.2.2.2.2.2.2.2.2.2.2.2.2.2.2.2.2.2.2.2.2.2.2.2.1 d.2.2.2.2.2.2.2.2.2.2.2.2.2.2.2.2.2.2.2.2.2.2.2.2.2.2.2.2.2.2.2.1 d.2.2.2.2.2.2.2.2.2.2.2.2.2.2.2.2.2.2.2.2.2.2.2.2.2.2.2.2.2.2.2.2) ⟨(y0, y1, y2, y3, y4, y5, y6, y7, y8, y9, y10, y11, y12, y13, y14, y15, y16, y17, y18, y19, y20, y21, y22, y23, y24, y25, y26, y27, y28, y29, y30, y31, y32), hn⟩
  delta w p0 loose mean mg mb fa cd g L s u9 E1 oW D d0 d1 d2 b0 b1 b2 t0 t1 t2 u0 u1 u2 e0 e1 e2 p1 p2 p3 at hb
  delta skK at hb
  exact h1 hb
theorem skBody : skP w p0 loose mean mg mb fa cd g L s u9 E1 oW D d0 d1 d2 b0 b1 b2 t0 t1 t2 u0 u1 u2 e0 e1 e2 p1 p2 p3 := by
  unfold skP
  intro h01 h21 hdD0 hdD1 hdD2 z1 z2 z3 z4 z5 z6 y1 y2 y3 y4 hcore F N0 dW hL hLD hL0 hL1 hL2 B X T
  unfold lawEnv
  conv in (List.drop 21 lawBody) => whnf
  conv in (occs := *) lawScope => all_goals whnf
  revert X; k_fill; intro X
  k_with "now" => have kNow20 : True := trivial
  k_with "ov notin" => ((fail_if_success (fail_if_success (k_extra "now"; clear kNow20))); ((rename News _ _ _ _ => lN8); refine notin3 lN8 (by k_mem) (by k_mem) (by k_mem) (by k_mem) (by ktr_units) ?_))
  k_with "ov eq" => ((fail_if_success (fail_if_success (k_extra "now"; clear kNow20))); ((rename News _ _ _ _ => lN8); k_dflt (first | refine eq_y (tupO_at lN8 (by k_mem)) (tupO_at lN8 (by k_mem)) (by ktr_units) (by with_reducible assumption) ?_ | refine eq_n (tupO_at lN8 (by k_mem)) (tupO_at lN8 (by k_mem)) (by ktr_units) (by with_reducible assumption) ?_)))
  k_with "ov item" => ((fail_if_success (fail_if_success (k_extra "now"; clear kNow20))); ((rename News _ _ _ _ => lN8); (k_dflt (refine item_lst lN8 (by k_mem) (by decide) (by decide) (by with_unfolding_all rfl) ?_))))
  try k_fold
  k_steps
  refine Stop.go ?_
  k_dflt (refine' Ctr.use ?B1 ?F1 ?X1 ?N1 ?T1 ?k1 ?d1 ?u1 (c_count D d0 d1 d2 b0 b1 b2 t0 t1 t2 u0 u1 u2 e0 e1 e2 3 h01 h21 z1 z2 z3 z4 z5 z6 y1 y2 y3 y4 [(L + 1 + 1 + 1 + 1 + 1 + 1, oW), (59, tabObj p1), (52, tabObj p2), (24, tabObj p3)] (by walk_at "apart")) ?_)
  case B1 => k_asm
  case F1 => k_asm
  case X1 => k_asm
  case N1 => (refine news_sub (by k_asm) ?_; (try dsimp only [sec52, sec59, secs, List.cons_append, List.nil_append]); walk_at "allIn")
  case T1 => k_asm
  case k1 => first | exact rfl | assumption
  case d1 => ktr_room
  case u1 => ktr_units
  intro B1 v1 h1 tk1 n1 hB1 hL1 R1 F1 N1
  obtain ⟨e1', t9, e2'⟩ := R1
  subst e1'; subst e2'
  dsimp only [List.cons_append, List.nil_append] at N1
  clear hB1
  k_sweep
  k_with "ov lc" => ((fail_if_success (fail_if_success (k_extra "now"; clear kNow20))); refine stopL ?_)
  have hb11 : b1 = b1 ∧ e1 = e1 := ⟨rfl, rfl⟩
  have hc : ∃ n : Int, 1 < n ∧ n = 1 + (if b0 = b1 ∧ e0 = e1 then 1 else 0) + (if b2 = b1 ∧ e2 = e1 then 1 else 0) := ⟨_, by rcases hcore with h | h <;> rw [if_pos h] <;> split <;> lia, rfl⟩
  obtain ⟨n, hn1, hn2⟩ := hc
  rw [← hn2]
  try k_fold
  k_steps
  refine Stop.go ?_
  lcg_calm
  k_dflt (refine LCt.ListComp_T (F₀ := by k_asm) (by with_unfolding_all rfl) (by decide) (by rfl) (by decide) (by rfl) ?_)
  k_dflt lct_toSrc
  all_goals try k_fold
  k_with "ov cend" => ((fail_if_success (fail_if_success (k_extra "now"; clear kNow20))); ((rename News _ _ _ _ => lN8); (rename Fr _ _ _ _ => lF8); refine CompEnd.intro lF8 lN8 _ (fun _ h => h) (by simp only [LCg.Off3, and_true]; with_reducible assumption) (.inr ⟨_, List.mem_cons_self, rfl, _, rfl⟩) ?_; clear lN8 lF8; (rename (_ ∧ _) ∧ _ => zz; clear zz)))
  have hcases : ((b0 = b1 ∧ e0 = e1) ∧ (b2 = b1 ∧ e2 = e1)) ∨ ((b0 = b1 ∧ e0 = e1) ∧ ¬ (b2 = b1 ∧ e2 = e1)) ∨ (¬ (b0 = b1 ∧ e0 = e1) ∧ (b2 = b1 ∧ e2 = e1)) := by
    by_cases q0 : b0 = b1 ∧ e0 = e1
    · by_cases q2 : b2 = b1 ∧ e2 = e1
      · exact .inl ⟨q0, q2⟩
      · exact .inr (.inl ⟨q0, q2⟩)
    · exact .inr (.inr ⟨q0, hcore.resolve_left q0⟩)
  rcases hcases with ⟨q0, q2⟩ | ⟨q0, q2⟩ | ⟨q0, q2⟩
  all_goals first | rw [if_pos q0, if_pos q2] at hn2 | rw [if_pos q0, if_neg q2] at hn2 | rw [if_neg q0, if_pos q2] at hn2
  all_goals dsimp only
  all_goals k_steps
  all_goals (rename News _ _ _ (_ :: _) => hN9)
  all_goals refine ⟨?_, _, _, _, _, _, _, _, rfl, by assumption, news_sub hN9 (by walk_at "allIn")⟩
  all_goals rw [hn2]; rfl
end sk_law_F
section
variable {w : World} {p0 : Program} {loose : List Str} {mean : ExcName → Option Value} {mg mb : Str → Option Value}
theorem law_F {fa : Addr} {cd : Value} {g : Heap} {L : Addr} {s : Shared} {u9 : Str → Option Value} {E1 : Value → Shared → Prop} {oW : Obj} (D d0 d1 d2 : Addr) (b0 b1 b2 : Array UInt8) (t0 t1 t2 u0 u1 u2 : Tok) (e0 e1 e2 : Int) (p1 p2 p3 : Array Value)
    (h01 : @Ne Nat d0 d1) (h21 : @Ne Nat d2 d1) (hdD0 : @Ne Nat d0 D) (hdD1 : @Ne Nat d1 D) (hdD2 : @Ne Nat d2 D)
    (z1 : t0 ≠ 0) (z2 : t1 ≠ 0) (z3 : t2 ≠ 0) (z4 : u0 ≠ 0) (z5 : u1 ≠ 0) (z6 : u2 ≠ 0) (y1 : @Ne Nat t0 t1) (y2 : @Ne Nat t2 t1) (y3 : @Ne Nat u0 u1) (y4 : @Ne Nat u2 u1)
    (hcore : (b0 = b1 ∧ e0 = e1) ∨ (b2 = b1 ∧ e2 = e1))
    (F : Fr g L s.heap u9)
    (N0 : News g L s.heap [(D, listOf #[.ref d0, .ref d1, .ref d2] 3), (d0, tupO b0 t0 e0 u0), (d1, tupO b1 t1 e1 u1), (d2, tupO b2 t2 e2 u2), (L + 1 + 1 + 1 + 1 + 1 + 1, oW), (59, tabObj p1), (52, tabObj p2), (24, tabObj p3)])
    (dW : oW.data = .cell (some (.ref D))) (hL : @LT.lt Nat _ 59 L) (hLD : @LT.lt Nat _ (L + 1 + 1 + 1 + 1 + 1 + 1) D) (hL0 : @LT.lt Nat _ (L + 1 + 1 + 1 + 1 + 1 + 1) d0) (hL1 : @LT.lt Nat _ (L + 1 + 1 + 1 + 1 + 1 + 1) d1) (hL2 : @LT.lt Nat _ (L + 1 + 1 + 1 + 1 + 1 + 1) d2)
    (B : Below callerA g [] g) (X : (Mine.hd.heap_1 w.params).In g) (T : Top p0 loose mean mg mb g) :
    wpAny (model PySem.Challenge.rw_xi0020_01.prog w) (callerA.deeper (lawEnv L fa cd)) (execs (lawBody.drop 21) (lawEnv L fa cd)) (LawEnd g L s)
      (fun e s' => wpAny (model PySem.Challenge.rw_xi0020_01.prog w) (callerA.deeper (lawEnv L fa cd)) (leaving (lawEnv L fa cd) e) (fun _ s'' => E1 e s'') (fun e' s'' => E1 e' s'') s') s :=
  sk_law_F.skAll sk_law_F.skBody w p0 loose mean mg mb fa cd g L s u9 E1 oW D d0 d1 d2 b0 b1 b2 t0 t1 t2 u0 u1 u2 e0 e1 e2 p1 p2 p3 h01 h21 hdD0 hdD1 hdD2 z1 z2 z3 z4 z5 z6 y1 y2 y3 y4 hcore F N0 dW hL hLD hL0 hL1 hL2 B X T

end
end
example {prog : Program} {w : World} {A : Around} {env : Env} {Q : Flow → Shared → Prop} {E : Value → Shared → Prop} {s : Shared} (h : wpAny (model prog w) A (execs [] env) Q E s) : wpAny (model prog w) A (execs [] env) Q E s := by ((k_with "now" => have kReset : True := trivial); (k_with "piece" => have kP_L4 : True := trivial); w_top off; first | (walk1; fail) | exact h)
section
example : True := by
  k_with "m call ref" => ((fail_if_success (fail_if_success (k_extra "piece"; clear kP_L4))); first | refine stopAt 149 ?_ | refine stopAt 128 ?_ | refine stopAt 114 ?_ | refine stopAt 135 ?_)
  k_with "m exec Assign cons ListComp" => ((fail_if_success (fail_if_success (k_extra "piece"; clear kP_L4))); k_extra "ov comp")
  k_with "m call builtin:max" => ((fail_if_success (fail_if_success (k_extra "piece"; clear kP_L4))); k_extra "ov max")
  k_with "m eval ListComp" => ((fail_if_success (fail_if_success (k_extra "piece"; clear kP_L4))); k_extra "ov lc")
  trivial
open PyProof.Rows.LCg
section
variable {w : World} {p0 : Program} {loose : List Str} {mean : ExcName → Option Value} {mg mb : Str → Option Value}
end
namespace sk_law_E
abbrev skD : Type := (World) × (Program) × (List PySem.Str) × (ExcName → Option Value) × (PySem.Str → Option Value) × (PySem.Str → Option Value) × (Addr) × (Value) × (Heap) × (Addr) × (Shared) × (Str → Option Value) × (Value → Shared → Prop) × (Obj) × (Obj) × (Obj) × (Obj) × (Obj) × (Array Value) × (Nat) × (Nat) × (Int) × (Nat) × (Addr) × (Obj) × (Addr) × (Obj) × (Tok) × (Tok) × (Tok) × (Tok)
def skP (w : World) (p0 : Program) (loose : List PySem.Str) (mean : ExcName → Option Value) (mg : PySem.Str → Option Value) (mb : PySem.Str → Option Value) (fa : Addr) (cd : Value) (g : Heap) (L : Addr) (s : Shared) (u9 : Str → Option Value) (E1 : Value → Shared → Prop) (oP : Obj) (oL : Obj) (oF : Obj) (o1 : Obj) (oW : Obj) (ps : Array Value) (cn : Nat) (M : Nat) (p : Int) (f : Nat) (c4 : Addr) (oc4 : Obj) (c5 : Addr) (oc5 : Obj) (tp : Tok) (tw : Tok) (tf : Tok) (t1 : Tok) : Prop := ∀ (hc1 : 1 ≤ cn) (hc9 : cn ≤ 9) (hM1 : 10 ^ (cn - 1) ≤ M) (hM2 : M ≤ 10 ^ cn) (hp1 : -4500 ≤ p) (hp2 : p ≤ 4500) (hf1 : 1 ≤ f) (hf2 : 2 * 16 ^ f ≤ 10 ^ (cn - 1)) (hs2 : secsOk (some ((c4, oc4), (c5, oc5)))) (F : Fr g L s.heap u9) (N0 : News g L s.heap [(52, tabObj #[rawInt (86 : Nat), rawInt (4 : Nat), .ref c4]), (c4, oc4), (59, tabObj #[rawInt (101 : Nat), rawInt (4 : Nat), .ref c5]), (c5, oc5), (L + 1 + 1 + 1 + 1 + 1 + 1, oW), (L + 1 + 1 + 1 + 1 + 1, o1), (L + 1 + 1 + 1 + 1, oF), (L + 1 + 1 + 1, oL), (L + 1 + 1, oP), (24, tabObj ps)]) (dP : oP.data = .cell (some (.int p tp))) (dL : oL.data = .cell (some (.int ((10 ^ (-p).toNat : Nat) : Int) tw))) (dF : oF.data = .cell (some (.int (f : Int) tf))) (d1 : o1.data = .cell (some (.int (M : Int) t1))) (dW : oW.data = .cell none) (hL : @LT.lt Nat _ 59 L) (hc4 : @LT.lt Nat _ (L + 1 + 1 + 1 + 1 + 1 + 1) c4) (hc5 : @LT.lt Nat _ (L + 1 + 1 + 1 + 1 + 1 + 1) c5) (htk : 1 ≤ s.toks) (B : Below callerA g [] g) (X : (Mine.hd.heap_1 w.params).In g) (T : Top p0 loose mean mg mb g) (CH1 : CodeHd g 28 24) (CH2 : CodeHd g 56 52) (CH3 : CodeHd g 63 59),
    wpAny (model PySem.Challenge.rw_xi0020_01.prog w) (callerA.deeper (lawEnv L fa cd)) (execs (lawBody.drop 20) (lawEnv L fa cd)) (LawEnd g L s)
      (fun e s' => wpAny (model PySem.Challenge.rw_xi0020_01.prog w) (callerA.deeper (lawEnv L fa cd)) (leaving (lawEnv L fa cd) e) (fun _ s'' => E1 e s'') (fun e' s'' => E1 e' s'') s') s
theorem skN : Nonempty skD := ⟨(Classical.choice neWorld, default, default, default, default, default, default, default, default, default, ({} : Shared), default, default, default, default, default, default, default, default, default, default, default, default, default, default, default, default, default, default, default, default)⟩
@[irreducible] noncomputable def skK : skD := @Classical.epsilon skD skN fun d => ¬ skP d.1 d.2.1 d.2.2.1 d.2.2.2.1 d.2.2.2.2.1 d.2.2.2.2.2.1 d.2.2.2.2.2.2.1 d.2.2.2.2.2.2.2.1 d.2.2.2.2.2.2.2.2.1 d.2.2.2.2.2.2.2.2.2.1 d.2.2.2.2.2.2.2.2.2.2.1 d.2.2.2.2.2.2.2.2.2.2.2.1 d.2.2.2.2.2.2.2.2.2.2.2.2.1 d.2.2.2.2.2.2.2.2.2.2.2.2.2.1 d.2.2.2.2.2.2.2.2.2.2.2.2.2.2.1 d.2.2.2.2.2.2.2.2.2.2.2.2.2.2.2.1 d.2.2.2.2.2.2.2.2.2.2.2.2.2.2.2.2.1 d.2.2.2.2.2.2.2.2.2.2.2.2.2.2.2.2.2.1 d.2.2.2.2.2.2.2.2.2.2.2.2.2.2.2.2.2.2.1 d.2.2.2.2.2.2.2.2.2.2.2.2.2.2.2.2.2.2.2.1 d.2.2.2.2.2.2.2.2.2.2.2.2.2.2.2.2.2.2.2.2.1 d.2.2.2.2.2.2.2.2.2.2.2.2.2.2.2.2.2.2.2.2.2.1 d.2.2.2.2.2.2.2.2.2.2.2.2.2.2.2.2.2.2.2.2.2.2.1 d.2.2.2.2.2.2.2.2.2.2.2.2.2.2.2.2.2.2.2.2.2.2.2.1 d.2.2.2.2.2.2.2.2.2.2.2.2.2.2.2.2.2.2.2.2.2.2.2.2.1 d.2.2.2.2.2.2.2.2.2.2.2.2.2.2.2.2.2.2.2.2.2.2.2.2.2.1 d.2.2.2.2.2.2.2.2.2.2.2.2.2.2.2.2.2.2.2.2.2.2.2.2.2.2.1 d.2.2.2.2.2.2.2.2.2.2.2.2.2.2.2.2.2.2.2.2.2.2.2.2.2.2.2.1 d.2.2.2.2.2.2.2.2.2.2.2.2.2.2.2.2.2.2.2.2.2.2.2.2.2.2.2.2.1 d.2.2.2.2.2.2.2.2.2.2.2.2.2.2.2.2.2.2.2.2.2.2.2.2.2.2.2.2.2.1 d.2.2.2.2.2.2.2.2.2.2.2.2.2.2.2.2.2.2.2.2.2.2.2.2.2.2.2.2.2.2
@[irreducible] noncomputable def w : World := skK.1
@[irreducible] noncomputable def p0 : Program := skK.2.1
@[irreducible] noncomputable def loose : List PySem.Str := skK.2.2.1
@[irreducible] noncomputable def mean : ExcName → Option Value := skK.2.2.2.1
@[irreducible] noncomputable def mg : PySem.Str → Option Value := skK.2.2.2.2.1
@[irreducible] noncomputable def mb : PySem.Str → Option Value := skK.2.2.2.2.2.1
@[irreducible] noncomputable def fa : Addr := skK.2.2.2.2.2.2.1
@[irreducible] noncomputable def cd : Value := skK.2.2.2.2.2.2.2.1
@[irreducible] noncomputable def g : Heap := skK.2.2.2.2.2.2.2.2.1
@[irreducible] noncomputable def L : Addr := skK.2.2.2.2.2.2.2.2.2.1
@[irreducible] noncomputable def s : Shared := skK.2.2.2.2.2.2.2.2.2.2.1
@[irreducible] noncomputable def u9 : Str → Option Value := skK.2.2.2.2.2.2.2.2.2.2.2.1
@[irreducible] noncomputable def E1 : Value → Shared → Prop := skK.2.2.2.2.2.2.2.2.2.2.2.2.1
@[irreducible] noncomputable def oP : Obj := skK.2.2.2.2.2.2.2.2.2.2.2.2.2.1
@[irreducible] noncomputable def oL : Obj := skK.2.2.2.2.2.2.2.2.2.2.2.2.2.2.1
@[irreducible] noncomputable def oF : Obj := skK.2.2.2.2.2.2.2.2.2.2.2.2.2.2.2.1
@[irreducible] noncomputable def o1 : Obj := skK.2.2.2.2.2.2.2.2.2.2.2.2.2.2.2.2.1
@[irreducible] noncomputable def oW : Obj := skK.2.2.2.2.2.2.2.2.2.2.2.2.2.2.2.2.2.1
@[irreducible] noncomputable def ps : Array Value := skK.2.2.2.2.2.2.2.2.2.2.2.2.2.2.2.2.2.2.1
@[irreducible] noncomputable def cn : Nat := skK.2.2.2.2.2.2.2.2.2.2.2.2.2.2.2.2.2.2.2.1
@[irreducible] noncomputable def M : Nat := skK.2.2.2.2.2.2.2.2.2.2.2.2.2.2.2.2.2.2.2.2.1
@[irreducible] noncomputable def p : Int := skK.2.2.2.2.2.2.2.2.2.2.2.2.2.2.2.2.2.2.2.2.2.1
@[irreducible] noncomputable def f : Nat := skK.2.2.2.2.2.2.2.2.2.2.2.2.2.2.2.2.2.2.2.2.2.2.1
@[irreducible] noncomputable def c4 : Addr := skK.2.2.2.2.2.2.2.2.2.2.2.2.2.2.2.2.2.2.2.2.2.2.2.1
@[irreducible] noncomputable def oc4 : Obj := skK.2.2.2.2.2.2.2.2.2.2.2.2.2.2.2.2.2.2.2.2.2.2.2.2.1
@[irreducible] noncomputable def c5 : Addr := skK.2.2.2.2.2.2.2.2.2.2.2.2.2.2.2.2.2.2.2.2.2.2.2.2.2.1
@[irreducible] noncomputable def oc5 : Obj := skK.2.2.2.2.2.2.2.2.2.2.2.2.2.2.2.2.2.2.2.2.2.2.2.2.2.2.1
@[irreducible] noncomputable def tp : Tok := skK.2.2.2.2.2.2.2.2.2.2.2.2.2.2.2.2.2.2.2.2.2.2.2.2.2.2.2.1
@[irreducible] noncomputable def tw : Tok := skK.2.2.2.2.2.2.2.2.2.2.2.2.2.2.2.2.2.2.2.2.2.2.2.2.2.2.2.2.1
@[irreducible] noncomputable def tf : Tok := skK.2.2.2.2.2.2.2.2.2.2.2.2.2.2.2.2.2.2.2.2.2.2.2.2.2.2.2.2.2.1
@[irreducible] noncomputable def t1 : Tok := skK.2.2.2.2.2.2.2.2.2.2.2.2.2.2.2.2.2.2.2.2.2.2.2.2.2.2.2.2.2.2
theorem skAll (hb : skP w p0 loose mean mg mb fa cd g L s u9 E1 oP oL oF o1 oW ps cn M p f c4 oc4 c5 oc5 tp tw tf t1) : ∀ (y0 : World) (y1 : Program) (y2 : List PySem.Str) (y3 : ExcName → Option Value) (y4 : PySem.Str → Option Value) (y5 : PySem.Str → Option Value) (y6 : Addr) (y7 : Value) (y8 : Heap) (y9 : Addr) (y10 : Shared) (y11 : Str → Option Value) (y12 : Value → Shared → Prop) (y13 : Obj) (y14 : Obj) (y15 : Obj) (y16 : Obj) (y17 : Obj) (y18 : Array Value) (y19 : Nat) (y20 : Nat) (y21 : Int) (y22 : Nat) (y23 : Addr) (y24 : Obj) (y25 : Addr) (y26 : Obj) (y27 : Tok) (y28 : Tok) (y29 : Tok) (y30 : Tok), skP y0 y1 y2 y3 y4 y5 y6 y7 y8 y9 y10 y11 y12 y13 y14 y15 y16 y17 y18 y19 y20 y21 y22 y23 y24 y25 y26 y27 y28 y29 y30 := by
  intro y0 y1 y2 y3 y4 y5 y6 y7 y8 y9 y10 y11 y12 y13 y14 y15 y16 y17 y18 y19 y20 y21 y22 y23 y24 y25 y26 y27 y28 y29 y30
  refine Classical.byContradiction fun hn => ?_
  have h1 := @Classical.epsilon_spec skD (fun d => ¬ skP d.1 d.2.1 d.2.2.1 d.2.2.2.1 d.2.2.2.2.1 d.2.2.2.2.2.1 d.2.2.2.2.2.2.1 d.2.2.2.2.2.2.2.1 d.2.2.2.2.2.2.2.2.1 d.2.2.2.2.2.2.2.2.2.1 d.2.2.2.2.2.2.2.2.2.2.1 d.2.2.2.2.2.2.2.2.2.2.2.1 d.2.2.2.2.2.2.2.2.2.2.2.2.1 d.2.2.2.2.2.2.2.2.2.2.2.2.2.1 d.2.2.2.2.2.2.2.2.2.2.2.2.2.2.1 d.2.2.2.2.2.2.2.2.2.2.2.2.2.2.2.1 d.2.2.2.2.2.2.2.2.2.2.2.2.2.2.2.2.1 d.2.2.2.2.2.2.2.2.2.2.2.2.2.2.2.2.2.1 d.2.2.2.2.2.2.2.2.2.2.2.2.2.2.2.2.2.2.1 d.2.2.2.2.2.2.2.2.2.2.2.2.2.2.2.2.2.2.2.1 d.2.2.2.2.2.2.2.2.2.2.2.2.2.2.2.2.2.2.2.2.1 d.2.2.2.2.2.2.2.2.2.2.2.2.2.2.2.2.2.2.2.2.2.1 d.2.2.2.2.2.2.2.2.2.2.2.2.2.2.2.2.2.2.2.2.2.2.1 d.2.2.2.2.2.2.2.2.2.2.2.2.2.2.2.2.2.2.2.2.2.2.2.1 d.2.2.2.2.2.2.2.2.2.2.2.2.2.2.2.2.2.2.2.2.2.2.2.2.1 d.2.2.2.2.2.2.2.2.2.2.2.2.2.2.2.2.2.2.2.2.2.2.2.2.2.1 d.2.2.2.2.2.2.2.2.2.2.2.2.2.2.2.2.2.2.2.2.2.2.2.2.2.2.1 d.2.2.2.2.2.2.2.2.2.2.2.2.2.2.2.2.2.2.2.2.2.2.2.2.2.2.2.1 d.2.2.2.2.2.2.2.2.2.2.2.2.2.2.2.2.2.2.2.2.2.2.2.2.2.2.2.2.1 d.2.2.2.2.2.2.2.2.2.2.2.2.2.2.2.2.2.2.2.2.2.2.2.2.2.2.2.2.2.1 d.2.2.2.2.2.2.2.2.2.2.2.2.2.2.2.2.2.2.2.2.2.2.2.2.2.2.2.2.2.2) ⟨(y0, y1, y2, y3, y4, y5, y6, y7, y8, y9, y10, y11, y12, y13, y14, y15, y16, y17, y18, y19, y20, y21, y22, y23, y24, y25, y26, y27, y28, y29, y30), hn⟩
  delta w p0 loose mean mg mb fa cd g L s u9 E1 oP oL oF o1 oW ps cn M p f c4 oc4 c5 oc5 tp tw tf t1 at hb
  delta skK at hb
  exact h1 hb
theorem skBody : skP w p0 loose mean mg mb fa cd g L s u9 E1 oP oL oF o1 oW ps cn M p f c4 oc4 c5 oc5 tp tw tf t1 := by
  unfold skP
  intro hc1 hc9 hM1 hM2 hp1 hp2 hf1 hf2 hs2 F N0 dP dL dF d1 dW hL hc4 hc5 htk B X T CH1 CH2 CH3
  unfold lawEnv
  conv in (List.drop 20 lawBody) => whnf
  conv in (occs := *) lawScope => all_goals whnf
  revert X; k_fill; intro X
  obtain ⟨_, _, z1, z2, z3, z4, z5⟩ := id hs2
  dsimp only at z1 z2 z3 z4 z5
  k_with "now" => have kNow21 : True := trivial
  have htk9 := htk
  k_with "ov lc" => ((fail_if_success (fail_if_success (k_extra "now"; clear kNow21))); k_dflt (refine ListComp_cmp (F₀ := by k_asm) (by with_unfolding_all rfl) (by decide) (by rfl) (by decide) ?_); refine toksQ (Nat.le_refl _) ?_)
  k_with "ov pyIter" => ((fail_if_success (fail_if_success (k_extra "now"; clear kNow21))); refine stopL ?_)
  k_with "toks" => ((fail_if_success (fail_if_success (k_extra "now"; clear kNow21))); first | ((with_reducible show wpAny _ _ (execs (Stmt.Return _ _ :: _) _) _ _ _); refine stopL ?_) | (refine genToks ?_; intro tk9 htk9; (try dsimp only at htk9)) | ((with_reducible refine execsT ?_); (try dsimp only)))
  try k_fold
  k_steps
  refine Stop.go ?_
  have hT0 : 0 < 10 ^ p.toNat := Nat.pow_pos (by decide)
  have hS0 : 0 < 10 ^ (-p).toNat := Nat.pow_pos (by decide)
  have h16 : 16 ^ 1 ≤ 16 ^ f := Nat.pow_le_pow_right (by decide) hf1
  have hM3 : 10 ^ cn ≤ 10 ^ 9 := Nat.pow_le_pow_right (by decide) hc9
  refine' cmp_rangeE (n := 3) (b := 3) rfl (by rfl) (by rfl) ?F ?N ?hr ?hsm ?hn ?hz (WJ L (wLed L oW o1 oF oL oP ps) [] (fun k => (M + k) * 10 ^ p.toNat) (10 ^ (-p).toNat) f) ?hJ ?h0 ?step ?fin
  case F => k_asm
  case N => k_asm
  case hr => k_asm
  case hsm => rfl
  case hn => rfl
  case hz => decide
  case hJ => exact fun i ys nw tk tk' ⟨a, b, c, d, e, h1, h2, h3, h4, h5, h6⟩ hle => ⟨a, b, c, d, e, h1, h2, h3.mono hle, h4, h5, h6⟩
  case h0 => exact ⟨c4, oc4, c5, oc5, [], hs2, rfl, ⟨rfl, rfl, Nat.le_trans htk (by assumption)⟩, hc4, hc5, fun _ h => nomatch h⟩
  case fin =>
    rintro D h tk ys news' F9 N9 hsD off ⟨c1, oc1, c2, oc2, tups, hsx, rfl, hW, hq1, hq2, hq3⟩
    obtain ⟨tu2, ys2, k2, d2, t2, u2, hW2, rfl, rfl, a1, a2, a3, a4, a5⟩ := hW
    obtain ⟨tu1, ys1, k1, d1', t1', u1, hW1, rfl, rfl, b1, b2, b3, b4, b5⟩ := hW2
    obtain ⟨tu0, ys0, k0, d0, t0, u0, ⟨rfl, rfl, hk0⟩, rfl, rfl, e1, e2, e3, e4, e5⟩ := hW1
    clear hs2 z1 z2 z3 z4 z5 htk9
    (rename News g L s.heap _ => zz; clear zz)
    (rename Fr g L s.heap _ => zz; clear zz)
    have hLD9 : @LT.lt Nat _ (L + 1 + 1 + 1 + 1 + 1 + 1) D := by
      (rename News _ _ _ ((52, _) :: _) => hN7)
      exact Nat.lt_trans (Heap.lt_size (hN7 (L + 1 + 1 + 1 + 1 + 1 + 1, oW) (by k_mem)).1) hsD
    simp only [secs, sec52, sec59, wLed, List.cons_append, List.nil_append] at N9
    have l2 := hq3 (d2, _) List.mem_cons_self
    have l1 := hq3 (d1', _) (List.mem_cons_of_mem _ List.mem_cons_self)
    have l0 := hq3 (d0, _) (List.mem_cons_of_mem _ (List.mem_cons_of_mem _ List.mem_cons_self))
    have m01 := b5 (d0, _) List.mem_cons_self
    have m12 := a5 (d1', _) List.mem_cons_self
    have o2 := off (d2, _) (List.mem_append_right _ (List.mem_append_right _ List.mem_cons_self))
    have o1' := off (d1', _) (List.mem_append_right _ (List.mem_append_right _ (List.mem_cons_of_mem _ List.mem_cons_self)))
    have o0 := off (d0, _) (List.mem_append_right _ (List.mem_append_right _ (List.mem_cons_of_mem _ (List.mem_cons_of_mem _ List.mem_cons_self))))
    have oWD : @Ne Nat (L + 1 + 1 + 1 + 1 + 1 + 1) D := off (L + 1 + 1 + 1 + 1 + 1 + 1, oW) (List.mem_append_right _ (List.mem_append_left _ List.mem_cons_self))
    dsimp only at l0 l1 l2 m01 m12 o0 o1' o2
    obtain ⟨l2a, l2b, l2c⟩ := l2
    obtain ⟨l1a, l1b, l1c⟩ := l1
    obtain ⟨l0a, l0b, l0c⟩ := l0
    dsimp only
    try k_fold
    k_steps
    refine Stop.go ?_
    have hcr := few_core (M := M) (T := 10 ^ p.toNat) (S := 10 ^ (-p).toNat) (f := f) (Nat.le_trans hf2 hM1) hf1 hT0 hS0
    (rename News _ _ _ _ => hN9)
    refine law_F D d0 d1' d2 _ _ _ t0 t1' t2 u0 u1 u2 _ _ _ _ _ _ (neN (by lia)) (neN (by lia)) o0 o1' o2 (neN ?_) (neN ?_) (neN ?_) (neN ?_) (neN ?_) (neN ?_) (neN ?_) (neN ?_) (neN ?_) (neN ?_) ?hcr (by assumption) (news_sub hN9 (List.forall_mem_cons.mpr ⟨List.Mem.head _, by walk_at "allIn"⟩)) (by assumption) hL ?hLD l0a l1a l2a B X T
    case hcr => exact hcr.imp (fun h => ⟨by rw [Nat.add_zero, h.1], by rw [Nat.add_zero, h.2]⟩) (fun h => ⟨by rw [h.1], by rw [h.2]⟩)
    case hLD => exact hLD9
    all_goals lia
  rintro I i ys news₁ h tk own C oC m₂ D t E' hi ⟨c1, oc1, c2, oc2, tups, hsx, rfl, hW, hq1, hq2, hq3⟩ hyl hoC hk F9 N9 hown hDC hLD off hID hsI htk2
  clear hs2 z1 z2 z3 z4 z5 htk9
  (rename News g L s.heap _ => zz; clear zz)
  (rename Fr g L s.heap _ => zz; clear zz)
  simp only [secs, sec52, sec59, wLed, List.cons_append, List.nil_append] at N9
  have hMi : BL (M + i) ≤ 40 := bl_le.mpr (by lia)
  have hU0 : 0 < (M + i) * 10 ^ p.toNat := Nat.mul_pos (by lia) hT0
  have hU1 : 1 < (M + i) * 10 ^ p.toNat := Nat.lt_of_lt_of_le (show 1 < M + i by lia) (Nat.le_mul_of_pos_right _ hT0)
  have hbU := num_bl hMi (show p.toNat ≤ 4500 by lia)
  have hbW : BL (10 ^ (-p).toNat) ≤ 16000 := Nat.le_trans (ten_bl (by lia)) (by decide)
  have hf12 : f ≤ 12 := by
    rcases Nat.lt_or_ge 12 f with hh | hh
    · exfalso
      have h7 : 16 ^ 12 ≤ 16 ^ f := Nat.pow_le_pow_right (by decide) (by lia)
      have h8 : 10 ^ (cn - 1) ≤ 10 ^ 9 := Nat.pow_le_pow_right (by decide) (by lia)
      lia
    · exact hh
  k_with "ov max" => ((fail_if_success (fail_if_success (k_extra "now"; clear kNow21))); (refine toksQ (Nat.le_refl _) ?_; refine max0_N rfl (by k_asm) (by k_asm) ?_; intro h7 t7 tk7 F7 N7 hle7; k_sweep))
  k_with "ov Add" => ((fail_if_success (fail_if_success (k_extra "now"; clear kNow21))); (refine toksQ (Nat.le_refl _) ?_; refine add_to ((M + i : Nat) : Int) (by lia) ?_; intro _ _ hle6))
  k_with "ov Pow" => ((fail_if_success (fail_if_success (k_extra "now"; clear kNow21))); (refine toksQ (Nat.le_refl _) ?_; refine pow_nat 10 p.toNat rfl rfl (by decide) (by lia) ?_; intro _ _ hle8))
  k_with "ov Mult" => ((fail_if_success (fail_if_success (k_extra "now"; clear kNow21))); (refine toksQ (Nat.le_refl _) ?_; refine mul_natB (M + i) (10 ^ p.toNat) rfl rfl (Nat.le_trans hMi (by decide)) (Nat.le_trans (ten_bl (by lia)) (by decide)) ?_; intro _ _ hle9))
  try k_fold
  k_steps
  refine Stop.go ?_
  dsimp only at hle6 hle7 hle8 hle9 htk2
  have N8 := news_mid (S := secs (some ((c1, oc1), (c2, oc2)))) (R := wLed L oW o1 oF oL oP ps ++ (tups ++ own)) N7
  k_dflt (refine' CtrT.use ?B1 ?F1 ?X1 N8 ?T1 ?k1 ?d1 ?u1 (c_lettered ((M + i) * 10 ^ p.toNat) (10 ^ (-p).toNat) f _ _ _ (some ((c1, oc1), (c2, oc2))) ((C, oC) :: (D, lst ys) :: (wLed L oW o1 oF oL oP ps ++ (tups ++ own))) hsx hU0 hS0 hf1 hf12 hbU hbW (.inr hU1) ?ap1) ?_)
  case B1 => k_asm
  case F1 => k_asm
  case X1 => k_asm
  case T1 => k_asm
  case k1 => first | exact rfl | assumption
  case d1 => ktr_room
  case u1 => ktr_units
  case ap1 => exact w_apart hL hq1 hq2 hq3 off hown
  rintro Bn v h9 tk9 n9 hB9 hL9 ⟨D9, c3, oc3, c4', oc4', ta, ua, rfl, rfl, hs3, g1, g2, g3, g4, g5, y1, y2, y3, y4⟩ hle5 F9 N9
  have g4' : @LE.le Nat _ Bn c3 ∨ c3 = c1 := g4.imp id fun ⟨y', e⟩ => by injection e with e; injection e with e1 e2; injection e1 with e3; exact e3.symm
  have g5' : @LE.le Nat _ Bn c4' ∨ c4' = c2 := g5.imp id fun ⟨y', e⟩ => by injection e with e; injection e with e1 e2; injection e2 with e3; exact e3.symm
  have htB : ∀ p ∈ tups, @LT.lt Nat _ p.1 Bn := fun p hp => hB9 p (List.mem_append_right _ (List.mem_cons_of_mem _ (List.mem_cons_of_mem _ (List.mem_append_right _ (List.mem_append_left _ hp)))))
  have hCB : @LT.lt Nat _ C Bn := hB9 (C, oC) (List.mem_append_right _ List.mem_cons_self)
  have hLB : @LT.lt Nat _ (L + 1 + 1 + 1 + 1 + 1 + 1) Bn := hB9 (L + 1 + 1 + 1 + 1 + 1 + 1, oW) (List.mem_append_right _ (List.mem_cons_of_mem _ (List.mem_cons_of_mem _ (List.mem_append_left _ List.mem_cons_self))))
  obtain ⟨w1, w2, w3, w4⟩ := w_next (od := { cls := .type "tuple", data := .seq #[.bytes (apW (lN ((M + i) * 10 ^ p.toNat) (10 ^ (-p).toNat) f)).toArray ta, .int (lE ((M + i) * 10 ^ p.toNat) (10 ^ (-p).toNat) f) ua] }) (oc3 := oc3) (oc4 := oc4') hL hq1 hq2 hq3 off hID hDC hCB hLB htB g1 g2 g3 g4' g5'
  exact ⟨_, _, secs (some ((c3, oc3), (c4', oc4'))) ++ (wLed L oW o1 oF oL oP ps ++ ((D9, tupO (apW (lN ((M + i) * 10 ^ p.toNat) (10 ^ (-p).toNat) f)).toArray ta (lE ((M + i) * 10 ^ p.toNat) (10 ^ (-p).toNat) f) ua) :: tups)), rfl, F9, news_turn N9, w1, c3, oc3, c4', oc4', (D9, tupO (apW (lN ((M + i) * 10 ^ p.toNat) (10 ^ (-p).toNat) f)).toArray ta (lE ((M + i) * 10 ^ p.toNat) (10 ^ (-p).toNat) f) ua) :: tups, hs3, rfl, ⟨tups, ys, tk, D9, ta, ua, hW, rfl, rfl, Nat.le_trans (by dsimp only; lia) y1, y2, Nat.le_trans (by dsimp only; lia) y3, y4, fun p hp => Nat.lt_of_lt_of_le (htB p hp) g1⟩, w2, w3, w4⟩
end sk_law_E
section
variable {w : World} {p0 : Program} {loose : List Str} {mean : ExcName → Option Value} {mg mb : Str → Option Value}
theorem law_E {fa : Addr} {cd : Value} {g : Heap} {L : Addr} {s : Shared} {u9 : Str → Option Value} {E1 : Value → Shared → Prop} {oP oL oF o1 oW : Obj} {ps : Array Value} (cn M : Nat) (p : Int) (f : Nat) (c4 : Addr) (oc4 : Obj) (c5 : Addr) (oc5 : Obj) (tp tw tf t1 : Tok)
    (hc1 : 1 ≤ cn) (hc9 : cn ≤ 9) (hM1 : 10 ^ (cn - 1) ≤ M) (hM2 : M ≤ 10 ^ cn) (hp1 : -4500 ≤ p) (hp2 : p ≤ 4500) (hf1 : 1 ≤ f) (hf2 : 2 * 16 ^ f ≤ 10 ^ (cn - 1)) (hs2 : secsOk (some ((c4, oc4), (c5, oc5))))
    (F : Fr g L s.heap u9)
    (N0 : News g L s.heap [(52, tabObj #[rawInt (86 : Nat), rawInt (4 : Nat), .ref c4]), (c4, oc4), (59, tabObj #[rawInt (101 : Nat), rawInt (4 : Nat), .ref c5]), (c5, oc5), (L + 1 + 1 + 1 + 1 + 1 + 1, oW), (L + 1 + 1 + 1 + 1 + 1, o1), (L + 1 + 1 + 1 + 1, oF), (L + 1 + 1 + 1, oL), (L + 1 + 1, oP), (24, tabObj ps)])
    (dP : oP.data = .cell (some (.int p tp))) (dL : oL.data = .cell (some (.int ((10 ^ (-p).toNat : Nat) : Int) tw))) (dF : oF.data = .cell (some (.int (f : Int) tf))) (d1 : o1.data = .cell (some (.int (M : Int) t1))) (dW : oW.data = .cell none)
    (hL : @LT.lt Nat _ 59 L) (hc4 : @LT.lt Nat _ (L + 1 + 1 + 1 + 1 + 1 + 1) c4) (hc5 : @LT.lt Nat _ (L + 1 + 1 + 1 + 1 + 1 + 1) c5) (htk : 1 ≤ s.toks) (B : Below callerA g [] g) (X : (Mine.hd.heap_1 w.params).In g) (T : Top p0 loose mean mg mb g)
    (CH1 : CodeHd g 28 24) (CH2 : CodeHd g 56 52) (CH3 : CodeHd g 63 59) :
    wpAny (model PySem.Challenge.rw_xi0020_01.prog w) (callerA.deeper (lawEnv L fa cd)) (execs (lawBody.drop 20) (lawEnv L fa cd)) (LawEnd g L s)
      (fun e s' => wpAny (model PySem.Challenge.rw_xi0020_01.prog w) (callerA.deeper (lawEnv L fa cd)) (leaving (lawEnv L fa cd) e) (fun _ s'' => E1 e s'') (fun e' s'' => E1 e' s'') s') s :=
  sk_law_E.skAll sk_law_E.skBody w p0 loose mean mg mb fa cd g L s u9 E1 oP oL oF o1 oW ps cn M p f c4 oc4 c5 oc5 tp tw tf t1 hc1 hc9 hM1 hM2 hp1 hp2 hf1 hf2 hs2 F N0 dP dL dF d1 dW hL hc4 hc5 htk B X T CH1 CH2 CH3

end
end
example {prog : Program} {w : World} {A : Around} {env : Env} {Q : Flow → Shared → Prop} {E : Value → Shared → Prop} {s : Shared} (h : wpAny (model prog w) A (execs [] env) Q E s) : wpAny (model prog w) A (execs [] env) Q E s := by ((k_with "now" => have kReset : True := trivial); (k_with "piece" => have kP_L3 : True := trivial); w_top off; first | (walk1; fail) | exact h)
section
example : True := by
  k_with "m exec Assign cons ListComp" => ((fail_if_success (fail_if_success (k_extra "piece"; clear kP_L3))); k_extra "ov comp")
  k_with "m call builtin:max" => ((fail_if_success (fail_if_success (k_extra "piece"; clear kP_L3))); k_extra "ov max")
  trivial
/-- the letters that are few enough -/
structure FwS where
  f : Nat
  t : Tok
  o : Obj
def FwI (cn f : Nat) : Prop := f = 0 ∨ 2 * 16 ^ f ≤ 10 ^ (cn - 1)
theorem fw_small {cn f : Nat} (hc9 : cn ≤ 9) (h : FwI cn f) : f ≤ 8 := by
  rcases h with h | h
  · lia
  · rcases Nat.lt_or_ge 8 f with h1 | h1
    · exfalso
      have h2 : 16 ^ 9 ≤ 16 ^ f := Nat.pow_le_pow_right (by lia) h1
      have h3 : 10 ^ (cn - 1) ≤ 10 ^ 8 := Nat.pow_le_pow_right (by lia) (by lia)
      lia
    · exact h1
section
variable {prog : Program} {w : World} {A : Around} {E : Value → Shared → Prop} {s : Shared} {h₀ : Heap} {L : Addr} {m : Str → Option Value} {news : List (Addr × Obj)} {X Y : Int} {t u : Tok} {Q : Value → Shared → Prop}
theorem max_nat (a b : Nat) (eX : X = (a : Int)) (eY : Y = (b : Int)) (hh : A.handled = none) (F : Fr h₀ L s.heap m) (N : News h₀ L s.heap news)
    (h : ∀ h' t tk, Fr h₀ L h' m → News h₀ L h' news → Q (.int ((max a b : Nat) : Int) t) { s with heap := h', toks := tk }) :
    wpAny (model prog w) A (call (.builtin "max") [.int X t, .int Y u]) Q E s := by
  subst eX; subst eY
  refine PyProof.Rows.max_two_N hh F N fun h' tk F' N' => ?_
  have e : (if (b : Int) > (a : Int) then (b : Int) else (a : Int)) = ((max a b : Nat) : Int) := by split <;> lia
  rw [e]; exact h h' _ tk F' N'
end
section
variable {w : World} {p0 : Program} {loose : List Str} {mean : ExcName → Option Value} {mg mb : Str → Option Value}
end
namespace sk_law_D
abbrev skD : Type := (World) × (Program) × (List PySem.Str) × (ExcName → Option Value) × (PySem.Str → Option Value) × (PySem.Str → Option Value) × (Addr) × (Value) × (Heap) × (Addr) × (Shared) × (Str → Option Value) × (Value → Shared → Prop) × (Obj) × (Obj) × (Obj) × (Obj) × (Obj) × (Array Value) × (Nat) × (Nat) × (Int) × (Addr) × (Obj) × (Addr) × (Obj) × (Tok) × (Tok) × (Tok) × (Tok) × (Tok)
def skP (w : World) (p0 : Program) (loose : List PySem.Str) (mean : ExcName → Option Value) (mg : PySem.Str → Option Value) (mb : PySem.Str → Option Value) (fa : Addr) (cd : Value) (g : Heap) (L : Addr) (s : Shared) (u9 : Str → Option Value) (E1 : Value → Shared → Prop) (oP : Obj) (oL : Obj) (oF : Obj) (o1 : Obj) (oW : Obj) (ps : Array Value) (cn : Nat) (N : Nat) (p : Int) (c4 : Addr) (oc4 : Obj) (c5 : Addr) (oc5 : Obj) (tc : Tok) (tn : Tok) (tp : Tok) (tw : Tok) (tf : Tok) : Prop := ∀ (hc1 : 1 ≤ cn) (hc9 : cn ≤ 9) (hN1 : 10 ^ (cn - 1) ≤ N) (hN2 : N < 10 ^ cn) (hp1 : -4500 ≤ p) (hp2 : p ≤ 4500) (hs2 : secsOk (some ((c4, oc4), (c5, oc5)))) (F : Fr g L s.heap (fun y => if y = "count" then some (.int cn tc) else if y = "number" then some (.int N tn) else u9 y)) (N0 : News g L s.heap [(52, tabObj #[rawInt (86 : Nat), rawInt (4 : Nat), .ref c4]), (c4, oc4), (59, tabObj #[rawInt (101 : Nat), rawInt (4 : Nat), .ref c5]), (c5, oc5), (L + 1 + 1 + 1 + 1 + 1 + 1, oW), (L + 1 + 1 + 1 + 1 + 1, o1), (L + 1 + 1 + 1 + 1, oF), (L + 1 + 1 + 1, oL), (L + 1 + 1, oP), (24, tabObj ps)]) (dP : oP.data = .cell (some (.int p tp))) (dL : oL.data = .cell (some (.int ((10 ^ (-p).toNat : Nat) : Int) tw))) (dF : oF.data = .cell (some (.int 0 tf))) (d1 : o1.data = .cell none) (dW : oW.data = .cell none) (hL : @LT.lt Nat _ 59 L) (hc4 : @LT.lt Nat _ (L + 1 + 1 + 1 + 1 + 1 + 1) c4) (hc5 : @LT.lt Nat _ (L + 1 + 1 + 1 + 1 + 1 + 1) c5) (htk : 1 ≤ s.toks) (B : Below callerA g [] g) (X : (Mine.hd.heap_1 w.params).In g) (T : Top p0 loose mean mg mb g) (CH1 : CodeHd g 28 24) (CH2 : CodeHd g 56 52) (CH3 : CodeHd g 63 59),
    wpAny (model PySem.Challenge.rw_xi0020_01.prog w) (callerA.deeper (lawEnv L fa cd)) (execs (lawBody.drop 17) (lawEnv L fa cd)) (LawEnd g L s)
      (fun e s' => wpAny (model PySem.Challenge.rw_xi0020_01.prog w) (callerA.deeper (lawEnv L fa cd)) (leaving (lawEnv L fa cd) e) (fun _ s'' => E1 e s'') (fun e' s'' => E1 e' s'') s') s
theorem skN : Nonempty skD := ⟨(Classical.choice neWorld, default, default, default, default, default, default, default, default, default, ({} : Shared), default, default, default, default, default, default, default, default, default, default, default, default, default, default, default, default, default, default, default, default)⟩
@[irreducible] noncomputable def skK : skD := @Classical.epsilon skD skN fun d => ¬ skP d.1 d.2.1 d.2.2.1 d.2.2.2.1 d.2.2.2.2.1 d.2.2.2.2.2.1 d.2.2.2.2.2.2.1 d.2.2.2.2.2.2.2.1 d.2.2.2.2.2.2.2.2.1 d.2.2.2.2.2.2.2.2.2.1 d.2.2.2.2.2.2.2.2.2.2.1 d.2.2.2.2.2.2.2.2.2.2.2.1 d.2.2.2.2.2.2.2.2.2.2.2.2.1 d.2.2.2.2.2.2.2.2.2.2.2.2.2.1 d.2.2.2.2.2.2.2.2.2.2.2.2.2.2.1 d.2.2.2.2.2.2.2.2.2.2.2.2.2.2.2.1 d.2.2.2.2.2.2.2.2.2.2.2.2.2.2.2.2.1 d.2.2.2.2.2.2.2.2.2.2.2.2.2.2.2.2.2.1 d.2.2.2.2.2.2.2.2.2.2.2.2.2.2.2.2.2.2.1 d.2.2.2.2.2.2.2.2.2.2.2.2.2.2.2.2.2.2.2.1 d.2.2.2.2.2.2.2.2.2.2.2.2.2.2.2.2.2.2.2.2.1 d.2.2.2.2.2.2.2.2.2.2.2.2.2.2.2.2.2.2.2.2.2.1 d.2.2.2.2.2.2.2.2.2.2.2.2.2.2.2.2.2.2.2.2.2.2.1 d.2.2.2.2.2.2.2.2.2.2.2.2.2.2.2.2.2.2.2.2.2.2.2.1 d.2.2.2.2.2.2.2.2.2.2.2.2.2.2.2.2.2.2.2.2.2.2.2.2.1 d.2.2.2.2.2.2.2.2.2.2.2.2.2.2.2.2.2.2.2.2.2.2.2.2.2.1 d.2.2.2.2.2.2.2.2.2.2.2.2.2.2.2.2.2.2.2.2.2.2.2.2.2.2.1 d.2.2.2.2.2.2.2.2.2.2.2.2.2.2.2.2.2.2.2.2.2.2.2.2.2.2.2.1 d.2.2.2.2.2.2.2.2.2.2.2.2.2.2.2.2.2.2.2.2.2.2.2.2.2.2.2.2.1 d.2.2.2.2.2.2.2.2.2.2.2.2.2.2.2.2.2.2.2.2.2.2.2.2.2.2.2.2.2.1 d.2.2.2.2.2.2.2.2.2.2.2.2.2.2.2.2.2.2.2.2.2.2.2.2.2.2.2.2.2.2
@[irreducible] noncomputable def w : World := skK.1
@[irreducible] noncomputable def p0 : Program := skK.2.1
@[irreducible] noncomputable def loose : List PySem.Str := skK.2.2.1
@[irreducible] noncomputable def mean : ExcName → Option Value := skK.2.2.2.1
@[irreducible] noncomputable def mg : PySem.Str → Option Value := skK.2.2.2.2.1
@[irreducible] noncomputable def mb : PySem.Str → Option Value := skK.2.2.2.2.2.1
@[irreducible] noncomputable def fa : Addr := skK.2.2.2.2.2.2.1
@[irreducible] noncomputable def cd : Value := skK.2.2.2.2.2.2.2.1
@[irreducible] noncomputable def g : Heap := skK.2.2.2.2.2.2.2.2.1
@[irreducible] noncomputable def L : Addr := skK.2.2.2.2.2.2.2.2.2.1
@[irreducible] noncomputable def s : Shared := skK.2.2.2.2.2.2.2.2.2.2.1
@[irreducible] noncomputable def u9 : Str → Option Value := skK.2.2.2.2.2.2.2.2.2.2.2.1
@[irreducible] noncomputable def E1 : Value → Shared → Prop := skK.2.2.2.2.2.2.2.2.2.2.2.2.1
@[irreducible] noncomputable def oP : Obj := skK.2.2.2.2.2.2.2.2.2.2.2.2.2.1
@[irreducible] noncomputable def oL : Obj := skK.2.2.2.2.2.2.2.2.2.2.2.2.2.2.1
@[irreducible] noncomputable def oF : Obj := skK.2.2.2.2.2.2.2.2.2.2.2.2.2.2.2.1
@[irreducible] noncomputable def o1 : Obj := skK.2.2.2.2.2.2.2.2.2.2.2.2.2.2.2.2.1
@[irreducible] noncomputable def oW : Obj := skK.2.2.2.2.2.2.2.2.2.2.2.2.2.2.2.2.2.1
@[irreducible] noncomputable def ps : Array Value := skK.2.2.2.2.2.2.2.2.2.2.2.2.2.2.2.2.2.2.1
@[irreducible] noncomputable def cn : Nat := skK.2.2.2.2.2.2.2.2.2.2.2.2.2.2.2.2.2.2.2.1
@[irreducible] noncomputable def N : Nat := skK.2.2.2.2.2.2.2.2.2.2.2.2.2.2.2.2.2.2.2.2.1
@[irreducible] noncomputable def p : Int := skK.2.2.2.2.2.2.2.2.2.2.2.2.2.2.2.2.2.2.2.2.2.1
@[irreducible] noncomputable def c4 : Addr := skK.2.2.2.2.2.2.2.2.2.2.2.2.2.2.2.2.2.2.2.2.2.2.1
@[irreducible] noncomputable def oc4 : Obj := skK.2.2.2.2.2.2.2.2.2.2.2.2.2.2.2.2.2.2.2.2.2.2.2.1
@[irreducible] noncomputable def c5 : Addr := skK.2.2.2.2.2.2.2.2.2.2.2.2.2.2.2.2.2.2.2.2.2.2.2.2.1
@[irreducible] noncomputable def oc5 : Obj := skK.2.2.2.2.2.2.2.2.2.2.2.2.2.2.2.2.2.2.2.2.2.2.2.2.2.1
@[irreducible] noncomputable def tc : Tok := skK.2.2.2.2.2.2.2.2.2.2.2.2.2.2.2.2.2.2.2.2.2.2.2.2.2.2.1
@[irreducible] noncomputable def tn : Tok := skK.2.2.2.2.2.2.2.2.2.2.2.2.2.2.2.2.2.2.2.2.2.2.2.2.2.2.2.1
@[irreducible] noncomputable def tp : Tok := skK.2.2.2.2.2.2.2.2.2.2.2.2.2.2.2.2.2.2.2.2.2.2.2.2.2.2.2.2.1
@[irreducible] noncomputable def tw : Tok := skK.2.2.2.2.2.2.2.2.2.2.2.2.2.2.2.2.2.2.2.2.2.2.2.2.2.2.2.2.2.1
@[irreducible] noncomputable def tf : Tok := skK.2.2.2.2.2.2.2.2.2.2.2.2.2.2.2.2.2.2.2.2.2.2.2.2.2.2.2.2.2.2
theorem skAll (hb : skP w p0 loose mean mg mb fa cd g L s u9 E1 oP oL oF o1 oW ps cn N p c4 oc4 c5 oc5 tc tn tp tw tf) : ∀ (y0 : World) (y1 : Program) (y2 : List PySem.Str) (y3 : ExcName → Option Value) (y4 : PySem.Str → Option Value) (y5 : PySem.Str → Option Value) (y6 : Addr) (y7 : Value) (y8 : Heap) (y9 : Addr) (y10 : Shared) (y11 : Str → Option Value) (y12 : Value → Shared → Prop) (y13 : Obj) (y14 : Obj) (y15 : Obj) (y16 : Obj) (y17 : Obj) (y18 : Array Value) (y19 : Nat) (y20 : Nat) (y21 : Int) (y22 : Addr) (y23 : Obj) (y24 : Addr) (y25 : Obj) (y26 : Tok) (y27 : Tok) (y28 : Tok) (y29 : Tok) (y30 : Tok), skP y0 y1 y2 y3 y4 y5 y6 y7 y8 y9 y10 y11 y12 y13 y14 y15 y16 y17 y18 y19 y20 y21 y22 y23 y24 y25 y26 y27 y28 y29 y30 := by
  intro y0 y1 y2 y3 y4 y5 y6 y7 y8 y9 y10 y11 y12 y13 y14 y15 y16 y17 y18 y19 y20 y21 y22 y23 y24 y25 y26 y27 y28 y29 y30
  refine Classical.byContradiction fun hn => ?_
  have h1 := @Classical.epsilon_spec skD (fun d => ¬ skP d.1 d.2.1 d.2.2.1 d.2.2.2.1 d.2.2.2.2.1 d.2.2.2.2.2.1 d.2.2.2.2.2.2.1 d.2.2.2.2.2.2.2.1 d.2.2.2.2.2.2.2.2.1 d.2.2.2.2.2.2.2.2.2.1 d.2.2.2.2.2.2.2.2.2.2.1 d.2.2.2.2.2.2.2.2.2.2.2.1 d.2.2.2.2.2.2.2.2.2.2.2.2.1 d.2.2.2.2.2.2.2.2.2.2.2.2.2.1 d.2.2.2.2.2.2.2.2.2.2.2.2.2.2.1 d.2.2.2.2.2.2.2.2.2.2.2.2.2.2.2.1 d.2.2.2.2.2.2.2.2.2.2.2.2.2.2.2.2.1 d.2.2.2.2.2.2.2.2.2.2.2.2.2.2.2.2.2.1 d.2.2.2.2.2.2.2.2.2.2.2.2.2.2.2.2.2.2.1 d.2.2.2.2.2.2.2.2.2.2.2.2.2.2.2.2.2.2.2.1 d.2.2.2.2.2.2.2.2.2.2.2.2.2.2.2.2.2.2.2.2.1 d.2.2.2.2.2.2.2.2.2.2.2.2.2.2.2.2.2.2.2.2.2.1 d.2.2.2.2.2.2.2.2.2.2.2.2.2.2.2.2.2.2.2.2.2.2.1 d.2.2.2.2.2.2.2.2.2.2.2.2.2.2.2.2.2.2.2.2.2.2.2.1 d.2.2.2.2.2.2.2.2.2.2.2.2.2.2.2.2.2.2.2.2.2.2.2.2.1 d.2.2.2.2.2.2.2.2.2.2.2.2.2.2.2.2.2.2.2.2.2.2.2.2.2.1 d.2.2.2.2.2.2.2.2.2.2.2.2.2.2.2.2.2.2.2.2.2.2.2.2.2.2.1 d.2.2.2.2.2.2.2.2.2.2.2.2.2.2.2.2.2.2.2.2.2.2.2.2.2.2.2.1 d.2.2.2.2.2.2.2.2.2.2.2.2.2.2.2.2.2.2.2.2.2.2.2.2.2.2.2.2.1 d.2.2.2.2.2.2.2.2.2.2.2.2.2.2.2.2.2.2.2.2.2.2.2.2.2.2.2.2.2.1 d.2.2.2.2.2.2.2.2.2.2.2.2.2.2.2.2.2.2.2.2.2.2.2.2.2.2.2.2.2.2) ⟨(y0, y1, y2, y3, y4, y5, y6, y7, y8, y9, y10, y11, y12, y13, y14, y15, y16, y17, y18, y19, y20, y21, y22, y23, y24, y25, y26, y27, y28, y29, y30), hn⟩
  delta w p0 loose mean mg mb fa cd g L s u9 E1 oP oL oF o1 oW ps cn N p c4 oc4 c5 oc5 tc tn tp tw tf at hb
  delta skK at hb
  exact h1 hb
theorem skBody : skP w p0 loose mean mg mb fa cd g L s u9 E1 oP oL oF o1 oW ps cn N p c4 oc4 c5 oc5 tc tn tp tw tf := by
  unfold skP
  intro hc1 hc9 hN1 hN2 hp1 hp2 hs2 F N0 dP dL dF d1 dW hL hc4 hc5 htk B X T CH1 CH2 CH3
  unfold lawEnv
  conv in (List.drop 17 lawBody) => whnf
  conv in (occs := *) lawScope => all_goals whnf
  revert X; k_fill; intro X
  obtain ⟨_, _, z1, z2, z3, z4, z5⟩ := id hs2
  dsimp only at z1
  clear z2 z3 z4 z5
  k_with "now" => have kNow22 : True := trivial
  k_with "ov WhileC" => ((fail_if_success (fail_if_success (k_extra "now"; clear kNow22))); refine stopL ?_)
  k_with "toks" => ((fail_if_success (fail_if_success (k_extra "now"; clear kNow22))); first | ((with_reducible show wpAny _ _ (execs (Stmt.Assign _ (Expr.ListComp _ _ _ _) _ :: _) _) _ _ _); refine stopL ?_) | (refine genToks ?_; intro tk9 htk9; (try dsimp only at htk9)) | ((with_reducible refine execsT ?_); (try dsimp only)))
  try k_fold
  k_steps
  refine Stop.go ?_
  refine' sl_while (fun c : FwS => [(52, tabObj #[rawInt (86 : Nat), rawInt (4 : Nat), .ref c4]), (c4, oc4), (59, tabObj #[rawInt (101 : Nat), rawInt (4 : Nat), .ref c5]), (c5, oc5), (L + 1 + 1 + 1 + 1 + 1 + 1, oW), (L + 1 + 1 + 1 + 1 + 1, o1), (L + 1 + 1 + 1 + 1, c.o), (L + 1 + 1 + 1, oL), (L + 1 + 1, oP), (24, tabObj ps)]) [] (fun c => c.o.data = .cell (some (.int (c.f : Int) c.t)) ∧ FwI cn c.f) (fun c => 10 - c.f) ⟨0, _, oF⟩ F N0 ⟨dF, .inl rfl⟩ ?_
  rintro ⟨f, tf9, oF9⟩ uu h9 tk9 dr9 ⟨dF9, hfw⟩ F9 N9
  clear F N0
  dsimp only at dF9 hfw N9
  have hf8 := fw_small hc9 hfw
  k_with "ov comp" => ((fail_if_success (fail_if_success (k_extra "now"; clear kNow22))); refine stopL ?_)
  k_with "ov max" => ((fail_if_success (fail_if_success (k_extra "now"; clear kNow22))); refine stopL ?_)
  k_with "ov Sub" => ((fail_if_success (fail_if_success (k_extra "now"; clear kNow22))); first | (refine sub_to ((cn - 1 : Nat) : Int) (by lia) ?_; intro _ _))
  k_with "ov Pow" => ((fail_if_success (fail_if_success (k_extra "now"; clear kNow22))); first | (refine pow_nat 16 (f + 1) rfl rfl (by decide) (by lia) ?_; intro _ _) | (refine pow_nat 10 (cn - 1) rfl rfl (by decide) (by lia) ?_; intro _ _))
  k_with "ov Mult" => ((fail_if_success (fail_if_success (k_extra "now"; clear kNow22))); (refine mul_natB 2 (16 ^ (f + 1)) rfl rfl (Nat.le_trans (bl_le.mpr (show 2 < 2 ^ 4 by decide)) (by decide)) (by have := bl_pow 16 (f + 1) (by lia); lia) ?_; intro _ _))
  k_with "ov Add" => ((fail_if_success (fail_if_success (k_extra "now"; clear kNow22))); (refine add_to ((f + 1 : Nat) : Int) (by lia) ?_; intro _ _))
  try k_fold
  k_steps
  · (rename Fr _ _ _ _ => lF8)
    (rename News _ _ _ _ => lN8)
    (rename (((2 * 16 ^ (f + 1) : Nat) : Int) ≤ _) => hcnd)
    exact sl_end ⟨f + 1, _, _⟩ lF8 lN8 (by walk_at "allIn") (fun z _ => rfl) ⟨by assumption, .inr (Int.ofNat_le.mp hcnd)⟩ (by dsimp only; lia)
  · show LawEnd g L s (.ret (.bool true)) _
    exact ⟨rfl, _, _, _, _, _, _, _, rfl, F9, news_sub N9 (by walk_at "allIn")⟩
  refine Stop.go ?_
  have hN0 : 0 < N := Nat.lt_of_lt_of_le (Nat.pow_pos (by lia)) hN1
  refine max_nat (N - 1) (10 ^ (cn - 1)) (by lia) rfl rfl (by k_asm) (by k_asm) ?_
  intro h7 t7 tk7 F7 N7
  k_sweep
  try k_fold
  k_steps
  refine Stop.go ?_
  have hM1 : 10 ^ (cn - 1) ≤ max (N - 1) (10 ^ (cn - 1)) := Nat.le_max_right _ _
  have hM2 : max (N - 1) (10 ^ (cn - 1)) ≤ 10 ^ cn := Nat.max_le.mpr ⟨by lia, Nat.pow_le_pow_right (by decide) (by lia)⟩
  (rename (¬ ((f : Int) = 0)) => hf0)
  have hf1 : 1 ≤ f := by lia
  exact law_E cn (max (N - 1) (10 ^ (cn - 1))) p f c4 oc4 c5 oc5 _ _ _ _ hc1 hc9 hM1 hM2 hp1 hp2 hf1 (hfw.resolve_left (by lia)) hs2 (by assumption) (by assumption) dP dL (by assumption) (by assumption) dW hL hc4 hc5 (by walk_at "tkom") B X T CH1 CH2 CH3
end sk_law_D
section
variable {w : World} {p0 : Program} {loose : List Str} {mean : ExcName → Option Value} {mg mb : Str → Option Value}
theorem law_D {fa : Addr} {cd : Value} {g : Heap} {L : Addr} {s : Shared} {u9 : Str → Option Value} {E1 : Value → Shared → Prop} {oP oL oF o1 oW : Obj} {ps : Array Value} (cn N : Nat) (p : Int) (c4 : Addr) (oc4 : Obj) (c5 : Addr) (oc5 : Obj) (tc tn tp tw tf : Tok)
    (hc1 : 1 ≤ cn) (hc9 : cn ≤ 9) (hN1 : 10 ^ (cn - 1) ≤ N) (hN2 : N < 10 ^ cn) (hp1 : -4500 ≤ p) (hp2 : p ≤ 4500) (hs2 : secsOk (some ((c4, oc4), (c5, oc5))))
    (F : Fr g L s.heap (fun y => if y = "count" then some (.int cn tc) else if y = "number" then some (.int N tn) else u9 y))
    (N0 : News g L s.heap [(52, tabObj #[rawInt (86 : Nat), rawInt (4 : Nat), .ref c4]), (c4, oc4), (59, tabObj #[rawInt (101 : Nat), rawInt (4 : Nat), .ref c5]), (c5, oc5), (L + 1 + 1 + 1 + 1 + 1 + 1, oW), (L + 1 + 1 + 1 + 1 + 1, o1), (L + 1 + 1 + 1 + 1, oF), (L + 1 + 1 + 1, oL), (L + 1 + 1, oP), (24, tabObj ps)])
    (dP : oP.data = .cell (some (.int p tp))) (dL : oL.data = .cell (some (.int ((10 ^ (-p).toNat : Nat) : Int) tw))) (dF : oF.data = .cell (some (.int 0 tf))) (d1 : o1.data = .cell none) (dW : oW.data = .cell none)
    (hL : @LT.lt Nat _ 59 L) (hc4 : @LT.lt Nat _ (L + 1 + 1 + 1 + 1 + 1 + 1) c4) (hc5 : @LT.lt Nat _ (L + 1 + 1 + 1 + 1 + 1 + 1) c5) (htk : 1 ≤ s.toks) (B : Below callerA g [] g) (X : (Mine.hd.heap_1 w.params).In g) (T : Top p0 loose mean mg mb g)
    (CH1 : CodeHd g 28 24) (CH2 : CodeHd g 56 52) (CH3 : CodeHd g 63 59) :
    wpAny (model PySem.Challenge.rw_xi0020_01.prog w) (callerA.deeper (lawEnv L fa cd)) (execs (lawBody.drop 17) (lawEnv L fa cd)) (LawEnd g L s)
      (fun e s' => wpAny (model PySem.Challenge.rw_xi0020_01.prog w) (callerA.deeper (lawEnv L fa cd)) (leaving (lawEnv L fa cd) e) (fun _ s'' => E1 e s'') (fun e' s'' => E1 e' s'') s') s :=
  sk_law_D.skAll sk_law_D.skBody w p0 loose mean mg mb fa cd g L s u9 E1 oP oL oF o1 oW ps cn N p c4 oc4 c5 oc5 tc tn tp tw tf hc1 hc9 hN1 hN2 hp1 hp2 hs2 F N0 dP dL dF d1 dW hL hc4 hc5 htk B X T CH1 CH2 CH3

end
end
example {prog : Program} {w : World} {A : Around} {env : Env} {Q : Flow → Shared → Prop} {E : Value → Shared → Prop} {s : Shared} (h : wpAny (model prog w) A (execs [] env) Q E s) : wpAny (model prog w) A (execs [] env) Q E s := by ((k_with "now" => have kReset : True := trivial); (k_with "piece" => have kP_L2 : True := trivial); w_top off; first | (walk1; fail) | exact h)
section
/-- the letters counted so far -/
structure LtS where
  n : Nat
  t : Tok
def ltM (m₁ : Str → Option Value) (c : LtS) : Str → Option Value := fun y => if y = "letters" then some (.int (c.n : Int) c.t) else m₁ y
theorem ltM_start {m₁ : Str → Option Value} {t : Tok} (h : m₁ "letters" = some (.int 1 t)) : ∀ y, m₁ y = ltM m₁ ⟨1, t⟩ y := by
  intro y
  unfold ltM
  by_cases e : y = "letters"
  · rw [if_pos e, e, h]; rfl
  · rw [if_neg e]
theorem ltM_next {m₁ : Str → Option Value} {n : Nat} {t : Tok} {v : Int} {a : Option Value} (e : v = (n : Int)) : ∀ y : Str, (if y = "letters" then some (Value.int v t) else if y = "letters" then a else m₁ y) = ltM m₁ ⟨n, t⟩ y := by
  intro y
  subst e
  unfold ltM
  by_cases e : y = "letters"
  · rw [if_pos e, if_pos e]
  · rw [if_neg e, if_neg e, if_neg e]
def LtI (cn n : Nat) : Prop := 1 ≤ n ∧ 16 ^ (n - 1) ≤ 16 * 10 ^ cn
theorem lt_turn {cn n : Nat} (hn1 : 1 ≤ n) (h : 16 ^ (n - 1) ≤ 10 ^ cn) : LtI cn (n + 1) := by
  refine ⟨by lia, ?_⟩
  have e : 16 ^ (n + 1 - 1) = 16 * 16 ^ (n - 1) := by rw [Nat.mul_comm, ← Nat.pow_succ]; congr 1; lia
  rw [e]; exact Nat.mul_le_mul_left _ h
theorem lt_first (cn : Nat) : LtI cn 1 := ⟨Nat.le_refl _, by
  have : 0 < 10 ^ cn := Nat.pow_pos (by lia)
  show 16 ^ 0 ≤ _
  lia⟩
theorem law_r (x : Int) : ∃ r : Nat, x.fmod 3 = (r : Int) ∧ r < 3 := by
  have h1 := Int.fmod_nonneg_of_pos x (show (0 : Int) < 3 by lia)
  have h2 := Int.fmod_lt_of_pos x (show (0 : Int) < 3 by lia)
  exact ⟨(x.fmod 3).toNat, by lia, by lia⟩
theorem lt_small {cn n : Nat} (hc9 : cn ≤ 9) (h : LtI cn n) : n ≤ 10 := by
  rcases Nat.lt_or_ge 10 n with h1 | h1
  · exfalso
    have h2 : 16 ^ 10 ≤ 16 ^ (n - 1) := Nat.pow_le_pow_right (by lia) (by lia)
    have h3 : 10 ^ cn ≤ 10 ^ 9 := Nat.pow_le_pow_right (by lia) hc9
    have h4 := h.2
    have h5 : 16 * 10 ^ cn ≤ 16 * 10 ^ 9 := Nat.mul_le_mul_left _ h3
    lia
  · exact h1
section
variable {w : World} {p0 : Program} {loose : List Str} {mean : ExcName → Option Value} {mg mb : Str → Option Value}
end
namespace sk_law_C
abbrev skD : Type := (World) × (Program) × (List PySem.Str) × (ExcName → Option Value) × (PySem.Str → Option Value) × (PySem.Str → Option Value) × (Addr) × (Value) × (Heap) × (Addr) × (Shared) × (Str → Option Value) × (Value → Shared → Prop) × (Obj) × (Obj) × (Obj) × (Obj) × (Obj) × (Option Value) × (Array Value) × (Nat) × (Nat) × (Int) × (Int) × (Tok) × (Tok) × (Tok) × (Tok) × (Tok) × (Tok) × (Tok)
def skP (w : World) (p0 : Program) (loose : List PySem.Str) (mean : ExcName → Option Value) (mg : PySem.Str → Option Value) (mb : PySem.Str → Option Value) (fa : Addr) (cd : Value) (g : Heap) (L : Addr) (s : Shared) (u9 : Str → Option Value) (E1 : Value → Shared → Prop) (oP : Obj) (oL : Obj) (oF : Obj) (o1 : Obj) (oW : Obj) (xt : Option Value) (ps : Array Value) (cn : Nat) (N : Nat) (p : Int) (c3 : Int) (tl : Tok) (tr : Tok) (tc : Tok) (tn : Tok) (tp : Tok) (td : Tok) (tw : Tok) : Prop := ∀ (hc1 : 1 ≤ cn) (hc9 : cn ≤ 9) (hN1 : 10 ^ (cn - 1) ≤ N) (hN2 : N < 10 ^ cn) (hp1 : -4500 ≤ p) (hp2 : p ≤ 4500) (F : Fr g L s.heap (fun y => if y = "letters" then some (.int 1 tl) else if y = "read" then some (.int ((N * 10 ^ p.toNat : Nat) : Int) tr) else if y = "text" then xt else if y = "count" then some (.int cn tc) else if y = "number" then some (.int N tn) else if y = "dress" then some (.int c3 td) else u9 y)) (N0 : News g L s.heap [(L + 1 + 1 + 1 + 1 + 1 + 1, oW), (L + 1 + 1 + 1 + 1 + 1, o1), (L + 1 + 1 + 1 + 1, oF), (L + 1 + 1 + 1, oL), (L + 1 + 1, oP), (59, tabObj #[]), (52, tabObj #[]), (24, tabObj ps)]) (dP : oP.data = .cell (some (.int p tp))) (dL : oL.data = .cell (some (.int ((10 ^ (-p).toNat : Nat) : Int) tw))) (dF : oF.data = .cell none) (d1 : o1.data = .cell none) (dW : oW.data = .cell none) (hL : @LT.lt Nat _ 59 L) (htk : 1 ≤ s.toks) (B : Below callerA g [] g) (X : (Mine.hd.heap_1 w.params).In g) (T : Top p0 loose mean mg mb g) (CH1 : CodeHd g 28 24) (CH2 : CodeHd g 56 52) (CH3 : CodeHd g 63 59),
    wpAny (model PySem.Challenge.rw_xi0020_01.prog w) (callerA.deeper (lawEnv L fa cd)) (execs (lawBody.drop 11) (lawEnv L fa cd)) (LawEnd g L s)
      (fun e s' => wpAny (model PySem.Challenge.rw_xi0020_01.prog w) (callerA.deeper (lawEnv L fa cd)) (leaving (lawEnv L fa cd) e) (fun _ s'' => E1 e s'') (fun e' s'' => E1 e' s'') s') s
theorem skN : Nonempty skD := ⟨(Classical.choice neWorld, default, default, default, default, default, default, default, default, default, ({} : Shared), default, default, default, default, default, default, default, default, default, default, default, default, default, default, default, default, default, default, default, default)⟩
@[irreducible] noncomputable def skK : skD := @Classical.epsilon skD skN fun d => ¬ skP d.1 d.2.1 d.2.2.1 d.2.2.2.1 d.2.2.2.2.1 d.2.2.2.2.2.1 d.2.2.2.2.2.2.1 d.2.2.2.2.2.2.2.1 d.2.2.2.2.2.2.2.2.1 d.2.2.2.2.2.2.2.2.2.1 d.2.2.2.2.2.2.2.2.2.2.1 d.2.2.2.2.2.2.2.2.2.2.2.1 d.2.2.2.2.2.2.2.2.2.2.2.2.1 d.2.2.2.2.2.2.2.2.2.2.2.2.2.1 d.2.2.2.2.2.2.2.2.2.2.2.2.2.2.1 d.2.2.2.2.2.2.2.2.2.2.2.2.2.2.2.1 d.2.2.2.2.2.2.2.2.2.2.2.2.2.2.2.2.1 d.2.2.2.2.2.2.2.2.2.2.2.2.2.2.2.2.2.1 d.2.2.2.2.2.2.2.2.2.2.2.2.2.2.2.2.2.2.1 d.2.2.2.2.2.2.2.2.2.2.2.2.2.2.2.2.2.2.2.1 d.2.2.2.2.2.2.2.2.2.2.2.2.2.2.2.2.2.2.2.2.1 d.2.2.2.2.2.2.2.2.2.2.2.2.2.2.2.2.2.2.2.2.2.1 d.2.2.2.2.2.2.2.2.2.2.2.2.2.2.2.2.2.2.2.2.2.2.1 d.2.2.2.2.2.2.2.2.2.2.2.2.2.2.2.2.2.2.2.2.2.2.2.1 d.2.2.2.2.2.2.2.2.2.2.2.2.2.2.2.2.2.2.2.2.2.2.2.2.1 d.2.2.2.2.2.2.2.2.2.2.2.2.2.2.2.2.2.2.2.2.2.2.2.2.2.1 d.2.2.2.2.2.2.2.2.2.2.2.2.2.2.2.2.2.2.2.2.2.2.2.2.2.2.1 d.2.2.2.2.2.2.2.2.2.2.2.2.2.2.2.2.2.2.2.2.2.2.2.2.2.2.2.1 d.2.2.2.2.2.2.2.2.2.2.2.2.2.2.2.2.2.2.2.2.2.2.2.2.2.2.2.2.1 d.2.2.2.2.2.2.2.2.2.2.2.2.2.2.2.2.2.2.2.2.2.2.2.2.2.2.2.2.2.1 d.2.2.2.2.2.2.2.2.2.2.2.2.2.2.2.2.2.2.2.2.2.2.2.2.2.2.2.2.2.2
@[irreducible] noncomputable def w : World := skK.1
@[irreducible] noncomputable def p0 : Program := skK.2.1
@[irreducible] noncomputable def loose : List PySem.Str := skK.2.2.1
@[irreducible] noncomputable def mean : ExcName → Option Value := skK.2.2.2.1
@[irreducible] noncomputable def mg : PySem.Str → Option Value := skK.2.2.2.2.1
@[irreducible] noncomputable def mb : PySem.Str → Option Value := skK.2.2.2.2.2.1
@[irreducible] noncomputable def fa : Addr := skK.2.2.2.2.2.2.1
@[irreducible] noncomputable def cd : Value := skK.2.2.2.2.2.2.2.1
@[irreducible] noncomputable def g : Heap := skK.2.2.2.2.2.2.2.2.1
@[irreducible] noncomputable def L : Addr := skK.2.2.2.2.2.2.2.2.2.1
@[irreducible] noncomputable def s : Shared := skK.2.2.2.2.2.2.2.2.2.2.1
@[irreducible] noncomputable def u9 : Str → Option Value := skK.2.2.2.2.2.2.2.2.2.2.2.1
@[irreducible] noncomputable def E1 : Value → Shared → Prop := skK.2.2.2.2.2.2.2.2.2.2.2.2.1
@[irreducible] noncomputable def oP : Obj := skK.2.2.2.2.2.2.2.2.2.2.2.2.2.1
@[irreducible] noncomputable def oL : Obj := skK.2.2.2.2.2.2.2.2.2.2.2.2.2.2.1
@[irreducible] noncomputable def oF : Obj := skK.2.2.2.2.2.2.2.2.2.2.2.2.2.2.2.1
@[irreducible] noncomputable def o1 : Obj := skK.2.2.2.2.2.2.2.2.2.2.2.2.2.2.2.2.1
@[irreducible] noncomputable def oW : Obj := skK.2.2.2.2.2.2.2.2.2.2.2.2.2.2.2.2.2.1
@[irreducible] noncomputable def xt : Option Value := skK.2.2.2.2.2.2.2.2.2.2.2.2.2.2.2.2.2.2.1
@[irreducible] noncomputable def ps : Array Value := skK.2.2.2.2.2.2.2.2.2.2.2.2.2.2.2.2.2.2.2.1
@[irreducible] noncomputable def cn : Nat := skK.2.2.2.2.2.2.2.2.2.2.2.2.2.2.2.2.2.2.2.2.1
@[irreducible] noncomputable def N : Nat := skK.2.2.2.2.2.2.2.2.2.2.2.2.2.2.2.2.2.2.2.2.2.1
@[irreducible] noncomputable def p : Int := skK.2.2.2.2.2.2.2.2.2.2.2.2.2.2.2.2.2.2.2.2.2.2.1
@[irreducible] noncomputable def c3 : Int := skK.2.2.2.2.2.2.2.2.2.2.2.2.2.2.2.2.2.2.2.2.2.2.2.1
@[irreducible] noncomputable def tl : Tok := skK.2.2.2.2.2.2.2.2.2.2.2.2.2.2.2.2.2.2.2.2.2.2.2.2.1
@[irreducible] noncomputable def tr : Tok := skK.2.2.2.2.2.2.2.2.2.2.2.2.2.2.2.2.2.2.2.2.2.2.2.2.2.1
@[irreducible] noncomputable def tc : Tok := skK.2.2.2.2.2.2.2.2.2.2.2.2.2.2.2.2.2.2.2.2.2.2.2.2.2.2.1
@[irreducible] noncomputable def tn : Tok := skK.2.2.2.2.2.2.2.2.2.2.2.2.2.2.2.2.2.2.2.2.2.2.2.2.2.2.2.1
@[irreducible] noncomputable def tp : Tok := skK.2.2.2.2.2.2.2.2.2.2.2.2.2.2.2.2.2.2.2.2.2.2.2.2.2.2.2.2.1
@[irreducible] noncomputable def td : Tok := skK.2.2.2.2.2.2.2.2.2.2.2.2.2.2.2.2.2.2.2.2.2.2.2.2.2.2.2.2.2.1
@[irreducible] noncomputable def tw : Tok := skK.2.2.2.2.2.2.2.2.2.2.2.2.2.2.2.2.2.2.2.2.2.2.2.2.2.2.2.2.2.2
theorem skAll (hb : skP w p0 loose mean mg mb fa cd g L s u9 E1 oP oL oF o1 oW xt ps cn N p c3 tl tr tc tn tp td tw) : ∀ (y0 : World) (y1 : Program) (y2 : List PySem.Str) (y3 : ExcName → Option Value) (y4 : PySem.Str → Option Value) (y5 : PySem.Str → Option Value) (y6 : Addr) (y7 : Value) (y8 : Heap) (y9 : Addr) (y10 : Shared) (y11 : Str → Option Value) (y12 : Value → Shared → Prop) (y13 : Obj) (y14 : Obj) (y15 : Obj) (y16 : Obj) (y17 : Obj) (y18 : Option Value) (y19 : Array Value) (y20 : Nat) (y21 : Nat) (y22 : Int) (y23 : Int) (y24 : Tok) (y25 : Tok) (y26 : Tok) (y27 : Tok) (y28 : Tok) (y29 : Tok) (y30 : Tok), skP y0 y1 y2 y3 y4 y5 y6 y7 y8 y9 y10 y11 y12 y13 y14 y15 y16 y17 y18 y19 y20 y21 y22 y23 y24 y25 y26 y27 y28 y29 y30 := by
  intro y0 y1 y2 y3 y4 y5 y6 y7 y8 y9 y10 y11 y12 y13 y14 y15 y16 y17 y18 y19 y20 y21 y22 y23 y24 y25 y26 y27 y28 y29 y30
  refine Classical.byContradiction fun hn => ?_
  have h1 := @Classical.epsilon_spec skD (fun d => ¬ skP d.1 d.2.1 d.2.2.1 d.2.2.2.1 d.2.2.2.2.1 d.2.2.2.2.2.1 d.2.2.2.2.2.2.1 d.2.2.2.2.2.2.2.1 d.2.2.2.2.2.2.2.2.1 d.2.2.2.2.2.2.2.2.2.1 d.2.2.2.2.2.2.2.2.2.2.1 d.2.2.2.2.2.2.2.2.2.2.2.1 d.2.2.2.2.2.2.2.2.2.2.2.2.1 d.2.2.2.2.2.2.2.2.2.2.2.2.2.1 d.2.2.2.2.2.2.2.2.2.2.2.2.2.2.1 d.2.2.2.2.2.2.2.2.2.2.2.2.2.2.2.1 d.2.2.2.2.2.2.2.2.2.2.2.2.2.2.2.2.1 d.2.2.2.2.2.2.2.2.2.2.2.2.2.2.2.2.2.1 d.2.2.2.2.2.2.2.2.2.2.2.2.2.2.2.2.2.2.1 d.2.2.2.2.2.2.2.2.2.2.2.2.2.2.2.2.2.2.2.1 d.2.2.2.2.2.2.2.2.2.2.2.2.2.2.2.2.2.2.2.2.1 d.2.2.2.2.2.2.2.2.2.2.2.2.2.2.2.2.2.2.2.2.2.1 d.2.2.2.2.2.2.2.2.2.2.2.2.2.2.2.2.2.2.2.2.2.2.1 d.2.2.2.2.2.2.2.2.2.2.2.2.2.2.2.2.2.2.2.2.2.2.2.1 d.2.2.2.2.2.2.2.2.2.2.2.2.2.2.2.2.2.2.2.2.2.2.2.2.1 d.2.2.2.2.2.2.2.2.2.2.2.2.2.2.2.2.2.2.2.2.2.2.2.2.2.1 d.2.2.2.2.2.2.2.2.2.2.2.2.2.2.2.2.2.2.2.2.2.2.2.2.2.2.1 d.2.2.2.2.2.2.2.2.2.2.2.2.2.2.2.2.2.2.2.2.2.2.2.2.2.2.2.1 d.2.2.2.2.2.2.2.2.2.2.2.2.2.2.2.2.2.2.2.2.2.2.2.2.2.2.2.2.1 d.2.2.2.2.2.2.2.2.2.2.2.2.2.2.2.2.2.2.2.2.2.2.2.2.2.2.2.2.2.1 d.2.2.2.2.2.2.2.2.2.2.2.2.2.2.2.2.2.2.2.2.2.2.2.2.2.2.2.2.2.2) ⟨(y0, y1, y2, y3, y4, y5, y6, y7, y8, y9, y10, y11, y12, y13, y14, y15, y16, y17, y18, y19, y20, y21, y22, y23, y24, y25, y26, y27, y28, y29, y30), hn⟩
  delta w p0 loose mean mg mb fa cd g L s u9 E1 oP oL oF o1 oW xt ps cn N p c3 tl tr tc tn tp td tw at hb
  delta skK at hb
  exact h1 hb
theorem skBody : skP w p0 loose mean mg mb fa cd g L s u9 E1 oP oL oF o1 oW xt ps cn N p c3 tl tr tc tn tp td tw := by
  unfold skP
  intro hc1 hc9 hN1 hN2 hp1 hp2 F N0 dP dL dF d1 dW hL htk B X T CH1 CH2 CH3
  unfold lawEnv
  conv in (List.drop 11 lawBody) => whnf
  conv in (occs := *) lawScope => all_goals whnf
  revert X; k_fill; intro X
  k_with "now" => have kNow23 : True := trivial
  k_with "ov WhileC" => ((fail_if_success (fail_if_success (k_extra "now"; clear kNow23))); refine stopL ?_)
  k_with "toks" => ((fail_if_success (fail_if_success (k_extra "now"; clear kNow23))); first | k_fold | (refine genToks ?_; intro tk9 htk9; (try dsimp only at htk9)) | ((with_reducible refine execsT ?_); (try dsimp only)))
  try k_fold
  k_steps
  refine Stop.go ?_
  refine' wm_while (ltM _) (fun c _ => LtI cn c.1) (fun c => 12 - c.1) ⟨1, _⟩ F N0 (ltM_start rfl) (lt_first cn) ?_
  rintro ⟨n, tn9⟩ h9 tk9 ⟨hn1, hn2⟩ F9 N9
  clear F N0
  unfold ltM at F9
  dsimp only at F9 hn1 hn2
  have hn10 := lt_small hc9 ⟨hn1, hn2⟩
  obtain ⟨r, hr, hr3⟩ := law_r (c3.fdiv (2 ^ (11 : Int).toNat))
  k_with "ov Sub" => ((fail_if_success (fail_if_success (k_extra "now"; clear kNow23))); (refine sub_to ((n - 1 : Nat) : Int) (by lia) ?_; intro _ _))
  k_with "ov Pow" => ((fail_if_success (fail_if_success (k_extra "now"; clear kNow23))); first | (refine pow_nat 16 (n - 1) rfl rfl (by decide) (by lia) ?_; intro _ _) | (refine pow_nat 10 cn rfl rfl (by decide) (by lia) ?_; intro _ _))
  k_with "ov Mod" => ((fail_if_success (fail_if_success (k_extra "now"; clear kNow23))); (refine mod_to (r : Int) (by decide) hr ?_; intro _ _))
  k_with "ov Add" => ((fail_if_success (fail_if_success (k_extra "now"; clear kNow23))); (refine add_to ((n + r : Nat) : Int) (by lia) ?_; intro _ _))
  try k_fold
  k_steps
  · (rename Fr _ _ _ _ => lF8)
    (rename News _ _ _ _ => lN8)
    (rename (((16 ^ (n - 1) : Nat) : Int) ≤ _) => hcnd)
    exact wm_end ⟨n + 1, _⟩ lF8 lN8 (by walk_at "allIn") (ltM_next (by lia)) (lt_turn hn1 (Int.ofNat_le.mp hcnd)) (by dsimp only; lia)
  (rename (¬ ((16 ^ (n - 1) : Nat) : Int) ≤ _) => hcnd)
  obtain ⟨hlt, hn2'⟩ := two_letters hc1 hcnd
  have hK := more_letters (r := r) hlt
  have hc12 : n + r ≤ 12 := by lia
  have hc2' : 2 ≤ n + r := by lia
  clear hcnd hlt hn2 hr
  generalize n + r = c at *
  have hNb : BL N ≤ 40 := Nat.le_trans (n_bits hc9 hN2) (by decide)
  have hN0 : 0 < N := Nat.lt_of_lt_of_le (Nat.pow_pos (by lia)) hN1
  have hbU := num_bl (e := p.toNat) hNb (by lia)
  have hbW : BL (10 ^ (-p).toNat) ≤ 16000 := Nat.le_trans (ten_bl (by lia)) (by decide)
  have hU0 : 0 < N * 10 ^ p.toNat := Nat.mul_pos hN0 (Nat.pow_pos (by lia))
  have hW0 : 0 < 10 ^ (-p).toNat := Nat.pow_pos (by lia)
  have hback := back (p := p) hc1 hN1 hN2 hK rfl rfl rfl rfl
  have hE := lE_in hbU hbW (show 1 ≤ c by lia) hc12
  have hwb := w_bits hU0 hW0 (show 1 ≤ c by lia) hc12
  have hw2 : 2 ≤ lN (N * 10 ^ p.toNat) (10 ^ (-p).toNat) c := by
    have := (lN_in hU0 hW0 (show 1 ≤ c by lia)).1
    have h3 : 16 ^ 1 ≤ 16 ^ (c - 1) := Nat.pow_le_pow_right (by lia) (by lia)
    lia
  refine Stop.go ?_
  generalize hUe : N * 10 ^ p.toNat = U at *
  generalize hWe : 10 ^ (-p).toNat = W at *
  k_dflt (refine' CtrT.use ?B1 ?F1 ?X1 ?N1 ?T1 ?k1 ?d1 ?u1 (c_lettered U W c _ _ _ none [(L + 1 + 1 + 1 + 1 + 1 + 1, oW), (L + 1 + 1 + 1 + 1 + 1, o1), (L + 1 + 1 + 1 + 1, oF), (L + 1 + 1 + 1, oL), (L + 1 + 1, oP), (24, tabObj ps)] True.intro hU0 hW0 (by lia) hc12 hbU hbW (.inl hc2') (by walk_at "apart")) ?_)
  case B1 => k_asm
  case F1 => k_asm
  case X1 => k_asm
  case N1 => (refine news_sub (by k_asm) ?_; (try dsimp only [sec52, sec59, secs, List.cons_append, List.nil_append]); walk_at "allIn")
  case T1 => k_asm
  case k1 => first | exact rfl | assumption
  case d1 => ktr_room
  case u1 => ktr_units
  intro B1 v1 h1 tk1 n1 hB1 hL1 R1 hle1 F1 N1
  obtain ⟨D1, c1, oc1, c2, oc2, t1, u1, e1, e2, hs1, g1, g2, g3, g4, g5, g6, g7, g8, g9⟩ := R1
  subst e1; subst e2
  dsimp only [secs, sec52, sec59, List.cons_append, List.nil_append] at N1 hB1
  k_lt hB1
  have g4 := g4.resolve_right (by rintro ⟨_, h⟩; cases h)
  have g5 := g5.resolve_right (by rintro ⟨_, h⟩; cases h)
  k_sweep
  try k_fold
  k_steps
  refine Stop.go ?_
  k_dflt (refine' Ctr.use ?B2 ?F2 ?X2 ?N2 ?T2 ?k2 ?d2 ?u2 (c_worthW U W c _ _ hU0 hW0 (by lia) hc12) ?_)
  case B2 => k_asm
  case F2 => k_asm
  case X2 => k_asm
  case N2 => k_asm
  case T2 => k_asm
  case k2 => first | exact rfl | assumption
  case d2 => ktr_room
  case u2 => ktr_units
  walk_at "retInt"
  k_with "ov Add" => ((fail_if_success (fail_if_success (k_extra "now"; clear kNow23))); (refine add_to (p + 1) rfl ?_; intro _ _))
  k_steps
  refine Stop.go ?_
  k_dflt (refine' Ctr.use ?B3 ?F3 ?X3 ?N3 ?T3 ?k3 ?d3 ?u3 (c_ipowN 16 (lE U W c).toNat _ _ _ (by lia) (by decide)) ?_)
  case B3 => k_asm
  case F3 => k_asm
  case X3 => k_asm
  case N3 => k_asm
  case T3 => k_asm
  case k3 => first | exact rfl | assumption
  case d3 => ktr_room
  case u3 => ktr_units
  walk_at "retInt"
  k_steps
  have hup := up_bl (n := lN U W c) (e := (lE U W c).toNat) hwb (by lia)
  have hup2 := up_bl (n := lN U W c) (e := (-lE U W c).toNat) hwb (by lia)
  refine Stop.go ?_
  k_dflt (refine' Ctr.use ?B4 ?F4 ?X4 ?N4 ?T4 ?k4 ?d4 ?u4 (c_imulB (lN U W c) (16 ^ (lE U W c).toNat) _ _ _ (Nat.le_trans (bl_le.mpr hwb) (by decide)) (Nat.le_trans hup.2 (by decide))) ?_)
  case B4 => k_asm
  case F4 => k_asm
  case X4 => k_asm
  case N4 => k_asm
  case T4 => k_asm
  case k4 => first | exact rfl | assumption
  case d4 => ktr_room
  case u4 => ktr_units
  walk_at "retInt"
  k_steps
  refine Stop.go ?_
  k_dflt (refine' Ctr.use ?B5 ?F5 ?X5 ?N5 ?T5 ?k5 ?d5 ?u5 (c_ipowN 16 (-lE U W c).toNat _ _ _ (by lia) (by decide)) ?_)
  case B5 => k_asm
  case F5 => k_asm
  case X5 => k_asm
  case N5 => k_asm
  case T5 => k_asm
  case k5 => first | exact rfl | assumption
  case d5 => ktr_room
  case u5 => ktr_units
  walk_at "retInt"
  k_steps
  obtain ⟨l, hl12, y1, y2, y3, y4, y5⟩ := hback
  have hl4 : l < 4 := by rcases hl12 with e | e <;> rw [e] <;> decide
  have hp10 : p + 1 ≤ 4501 := by lia
  have hU'0 : 2 ≤ lN U W c * 16 ^ (lE U W c).toNat := Nat.le_trans hw2 (Nat.le_mul_of_pos_right _ (Nat.pow_pos (by decide)))
  have hW'0 : 0 < 16 ^ (-lE U W c).toNat := Nat.pow_pos (by decide)
  refine Stop.go ?_
  k_dflt (refine' CtrT.use ?B6 ?F6 ?X6 ?N6 ?T6 ?k6 ?d6 ?u6 (c_rounded (lN U W c * 16 ^ (lE U W c).toNat) (16 ^ (-lE U W c).toNat) 10 cn (p + 1) l _ _ _ _ _ (some ((c1, oc1), (c2, oc2))) [(L + 1 + 1 + 1 + 1 + 1 + 1, oW), (L + 1 + 1 + 1 + 1 + 1, o1), (L + 1 + 1 + 1 + 1, oF), (L + 1 + 1 + 1, oL), (L + 1 + 1, oP), (24, tabObj ps)] hs1 (Nat.lt_of_lt_of_le (by decide) hU'0) hW'0 (by decide) (by decide) hc1 (Nat.le_trans hc9 (by decide)) (by lia) (by lia) (Nat.le_trans hup.1 (by decide)) (Nat.le_trans hup2.2 (by decide)) hl4 y1 y2 (abv_big hU'0 (by decide)) (ten_up hc9 y3) (blw_bl hp10 hup2.2) (by walk_at "apart")) ?_)
  case B6 => k_asm
  case F6 => k_asm
  case X6 => k_asm
  case N6 => (refine news_sub (by k_asm) ?_; (try dsimp only [sec52, sec59, secs, List.cons_append, List.nil_append]); walk_at "allIn")
  case T6 => k_asm
  case k6 => first | exact rfl | assumption
  case d6 => ktr_room
  case u6 => ktr_units
  intro B2 v2 h2 tk2 n2 hB2 hL2 R2 hle2 F2 N2
  obtain ⟨D2, c4, oc4, c5, oc5, t2, u2, e1, e2, hs2, f1, f2, f3, f4, f5, f6, f7⟩ := R2
  subst e1; subst e2
  rw [y4, y5] at N2
  dsimp only [secs, sec52, sec59, List.cons_append, List.nil_append] at N2 hB2
  k_lt hB2
  k_sweep
  try k_fold
  have hc4 : @LT.lt Nat _ (L + 1 + 1 + 1 + 1 + 1 + 1) c4 := by rcases f4 with h | ⟨_, h⟩; exact ltN (by lia); cases h; exact ltN (by lia)
  have hc5 : @LT.lt Nat _ (L + 1 + 1 + 1 + 1 + 1 + 1) c5 := by rcases f5 with h | ⟨_, h⟩; exact ltN (by lia); cases h; exact ltN (by lia)
  obtain ⟨_, _, z1, z2, z3, z4, z5⟩ := id hs2
  dsimp only at z1 z2 z3 z4 z5
  k_with "toks" => ((fail_if_success (fail_if_success (k_extra "now"; clear kNow23))); first | ((with_reducible show wpAny _ _ (execs (Stmt.While _ _ _ _ :: _) _) _ _ _); refine stopL ?_) | (refine genToks ?_; intro tk9 htk9; (try dsimp only at htk9)) | ((with_reducible refine execsT ?_); (try dsimp only)))
  k_steps
  refine Stop.go ?_
  (rename Fr _ _ _ _ => hF9)
  (rename News _ _ _ (_ :: _) => hN9)
  exact law_D cn N p c4 oc4 c5 oc5 _ _ _ _ _ hc1 hc9 hN1 hN2 hp1 hp2 hs2 (fr_pin (fr_pin hF9 rfl) rfl) (news_sub hN9 (by walk_at "allIn")) dP (hWe.symm ▸ dL) (by assumption) d1 dW hL hc4 hc5 (by walk_at "tkom") B X T CH1 CH2 CH3
end sk_law_C
section
variable {w : World} {p0 : Program} {loose : List Str} {mean : ExcName → Option Value} {mg mb : Str → Option Value}
theorem law_C {fa : Addr} {cd : Value} {g : Heap} {L : Addr} {s : Shared} {u9 : Str → Option Value} {E1 : Value → Shared → Prop} {oP oL oF o1 oW : Obj} {xt : Option Value} {ps : Array Value} (cn N : Nat) (p c3 : Int) (tl tr tc tn tp td tw : Tok)
    (hc1 : 1 ≤ cn) (hc9 : cn ≤ 9) (hN1 : 10 ^ (cn - 1) ≤ N) (hN2 : N < 10 ^ cn) (hp1 : -4500 ≤ p) (hp2 : p ≤ 4500)
    (F : Fr g L s.heap (fun y => if y = "letters" then some (.int 1 tl) else if y = "read" then some (.int ((N * 10 ^ p.toNat : Nat) : Int) tr) else if y = "text" then xt else if y = "count" then some (.int cn tc) else if y = "number" then some (.int N tn) else if y = "dress" then some (.int c3 td) else u9 y))
    (N0 : News g L s.heap [(L + 1 + 1 + 1 + 1 + 1 + 1, oW), (L + 1 + 1 + 1 + 1 + 1, o1), (L + 1 + 1 + 1 + 1, oF), (L + 1 + 1 + 1, oL), (L + 1 + 1, oP), (59, tabObj #[]), (52, tabObj #[]), (24, tabObj ps)])
    (dP : oP.data = .cell (some (.int p tp))) (dL : oL.data = .cell (some (.int ((10 ^ (-p).toNat : Nat) : Int) tw))) (dF : oF.data = .cell none) (d1 : o1.data = .cell none) (dW : oW.data = .cell none)
    (hL : @LT.lt Nat _ 59 L) (htk : 1 ≤ s.toks) (B : Below callerA g [] g) (X : (Mine.hd.heap_1 w.params).In g) (T : Top p0 loose mean mg mb g)
    (CH1 : CodeHd g 28 24) (CH2 : CodeHd g 56 52) (CH3 : CodeHd g 63 59) :
    wpAny (model PySem.Challenge.rw_xi0020_01.prog w) (callerA.deeper (lawEnv L fa cd)) (execs (lawBody.drop 11) (lawEnv L fa cd)) (LawEnd g L s)
      (fun e s' => wpAny (model PySem.Challenge.rw_xi0020_01.prog w) (callerA.deeper (lawEnv L fa cd)) (leaving (lawEnv L fa cd) e) (fun _ s'' => E1 e s'') (fun e' s'' => E1 e' s'') s') s :=
  sk_law_C.skAll sk_law_C.skBody w p0 loose mean mg mb fa cd g L s u9 E1 oP oL oF o1 oW xt ps cn N p c3 tl tr tc tn tp td tw hc1 hc9 hN1 hN2 hp1 hp2 F N0 dP dL dF d1 dW hL htk B X T CH1 CH2 CH3

end
end
example {prog : Program} {w : World} {A : Around} {env : Env} {Q : Flow → Shared → Prop} {E : Value → Shared → Prop} {s : Shared} (h : wpAny (model prog w) A (execs [] env) Q E s) : wpAny (model prog w) A (execs [] env) Q E s := by ((k_with "now" => have kReset : True := trivial); (k_with "piece" => have kP_L2b : True := trivial); w_top off; first | (walk1; fail) | exact h)
section
section
variable {w : World} {p0 : Program} {loose : List Str} {mean : ExcName → Option Value} {mg mb : Str → Option Value}
end
namespace sk_law_B
abbrev skD : Type := (World) × (Program) × (List PySem.Str) × (ExcName → Option Value) × (PySem.Str → Option Value) × (PySem.Str → Option Value) × (Addr) × (Value) × (Heap) × (Addr) × (Shared) × (Str → Option Value) × (Value → Shared → Prop) × (Obj) × (Obj) × (Obj) × (Obj) × (Obj) × (Nat) × (Nat) × (Int) × (Int) × (PySem.Str) × (Tok) × (Tok) × (Tok) × (Tok) × (Tok) × (List Nat) × (List Nat) × (List Nat) × (Nat)
def skP (w : World) (p0 : Program) (loose : List PySem.Str) (mean : ExcName → Option Value) (mg : PySem.Str → Option Value) (mb : PySem.Str → Option Value) (fa : Addr) (cd : Value) (g : Heap) (L : Addr) (s : Shared) (u9 : Str → Option Value) (E1 : Value → Shared → Prop) (oP : Obj) (oL : Obj) (oF : Obj) (o1 : Obj) (oW : Obj) (cn : Nat) (N : Nat) (p : Int) (c3 : Int) (x : PySem.Str) (tx : Tok) (tc : Tok) (tn : Tok) (tp : Tok) (td : Tok) (body : List Nat) (tail : List Nat) (ini : List Nat) (dg : Nat) : Prop := ∀ (hc1 : 1 ≤ cn) (hc9 : cn ≤ 9) (hN1 : 10 ^ (cn - 1) ≤ N) (hN2 : N < 10 ^ cn) (hp1 : -4500 ≤ p) (hp2 : p ≤ 4500) (hx : x.cps.toList = body ++ tail) (hb : ∀ c ∈ body, (48 ≤ c ∧ c ≤ 57) ∨ c = 95) (ht : ∀ c ∈ tail, c = 32 ∨ c = 9 ∨ c = 10) (hl : body = ini ++ [dg]) (hdg : 48 ≤ dg ∧ dg ≤ 57) (hn : (body.filter (· != 95)).length ≤ 8000) (hxl : x.length ≤ 20000) (hval : PySem.NumText.digitsVal (body.filter (· != 95)) = N * 10 ^ p.toNat) (F : Fr g L s.heap (fun y => if y = "text" then some (.str x tx) else if y = "count" then some (.int cn tc) else if y = "number" then some (.int N tn) else if y = "dress" then some (.int c3 td) else u9 y)) (N0 : News g L s.heap [(L + 1 + 1 + 1 + 1 + 1 + 1, oW), (L + 1 + 1 + 1 + 1 + 1, o1), (L + 1 + 1 + 1 + 1, oF), (L + 1 + 1 + 1, oL), (L + 1 + 1, oP), (59, tabObj #[]), (52, tabObj #[]), (24, tabObj #[])]) (dP : oP.data = .cell (some (.int p tp))) (dL : oL.data = .cell none) (dF : oF.data = .cell none) (d1 : o1.data = .cell none) (dW : oW.data = .cell none) (hL : @LT.lt Nat _ 59 L) (htk : 1 ≤ s.toks) (B : Below callerA g [] g) (X : (Mine.hd.heap_1 w.params).In g) (T : Top p0 loose mean mg mb g) (CH1 : CodeHd g 28 24) (CH2 : CodeHd g 56 52) (CH3 : CodeHd g 63 59),
    wpAny (model PySem.Challenge.rw_xi0020_01.prog w) (callerA.deeper (lawEnv L fa cd)) (execs (lawBody.drop 8) (lawEnv L fa cd)) (LawEnd g L s)
      (fun e s' => wpAny (model PySem.Challenge.rw_xi0020_01.prog w) (callerA.deeper (lawEnv L fa cd)) (leaving (lawEnv L fa cd) e) (fun _ s'' => E1 e s'') (fun e' s'' => E1 e' s'') s') s
theorem skN : Nonempty skD := ⟨(Classical.choice neWorld, default, default, default, default, default, default, default, default, default, ({} : Shared), default, default, default, default, default, default, default, default, default, default, default, default, default, default, default, default, default, default, default, default, default)⟩
@[irreducible] noncomputable def skK : skD := @Classical.epsilon skD skN fun d => ¬ skP d.1 d.2.1 d.2.2.1 d.2.2.2.1 d.2.2.2.2.1 d.2.2.2.2.2.1 d.2.2.2.2.2.2.1 d.2.2.2.2.2.2.2.1 d.2.2.2.2.2.2.2.2.1 d.2.2.2.2.2.2.2.2.2.1 d.2.2.2.2.2.2.2.2.2.2.1 d.2.2.2.2.2.2.2.2.2.2.2.1 d.2.2.2.2.2.2.2.2.2.2.2.2.1 d.2.2.2.2.2.2.2.2.2.2.2.2.2.1 d.2.2.2.2.2.2.2.2.2.2.2.2.2.2.1 d.2.2.2.2.2.2.2.2.2.2.2.2.2.2.2.1 d.2.2.2.2.2.2.2.2.2.2.2.2.2.2.2.2.1 d.2.2.2.2.2.2.2.2.2.2.2.2.2.2.2.2.2.1 d.2.2.2.2.2.2.2.2.2.2.2.2.2.2.2.2.2.2.1 d.2.2.2.2.2.2.2.2.2.2.2.2.2.2.2.2.2.2.2.1 d.2.2.2.2.2.2.2.2.2.2.2.2.2.2.2.2.2.2.2.2.1 d.2.2.2.2.2.2.2.2.2.2.2.2.2.2.2.2.2.2.2.2.2.1 d.2.2.2.2.2.2.2.2.2.2.2.2.2.2.2.2.2.2.2.2.2.2.1 d.2.2.2.2.2.2.2.2.2.2.2.2.2.2.2.2.2.2.2.2.2.2.2.1 d.2.2.2.2.2.2.2.2.2.2.2.2.2.2.2.2.2.2.2.2.2.2.2.2.1 d.2.2.2.2.2.2.2.2.2.2.2.2.2.2.2.2.2.2.2.2.2.2.2.2.2.1 d.2.2.2.2.2.2.2.2.2.2.2.2.2.2.2.2.2.2.2.2.2.2.2.2.2.2.1 d.2.2.2.2.2.2.2.2.2.2.2.2.2.2.2.2.2.2.2.2.2.2.2.2.2.2.2.1 d.2.2.2.2.2.2.2.2.2.2.2.2.2.2.2.2.2.2.2.2.2.2.2.2.2.2.2.2.1 d.2.2.2.2.2.2.2.2.2.2.2.2.2.2.2.2.2.2.2.2.2.2.2.2.2.2.2.2.2.1 d.2.2.2.2.2.2.2.2.2.2.2.2.2.2.2.2.2.2.2.2.2.2.2.2.2.2.2.2.2.2.1 d.2.2.2.2.2.2.2.2.2.2.2.2.2.2.2.2.2.2.2.2.2.2.2.2.2.2.2.2.2.2.2
@[irreducible] noncomputable def w : World := skK.1
@[irreducible] noncomputable def p0 : Program := skK.2.1
@[irreducible] noncomputable def loose : List PySem.Str := skK.2.2.1
@[irreducible] noncomputable def mean : ExcName → Option Value := skK.2.2.2.1
@[irreducible] noncomputable def mg : PySem.Str → Option Value := skK.2.2.2.2.1
@[irreducible] noncomputable def mb : PySem.Str → Option Value := skK.2.2.2.2.2.1
@[irreducible] noncomputable def fa : Addr := skK.2.2.2.2.2.2.1
@[irreducible] noncomputable def cd : Value := skK.2.2.2.2.2.2.2.1
@[irreducible] noncomputable def g : Heap := skK.2.2.2.2.2.2.2.2.1
@[irreducible] noncomputable def L : Addr := skK.2.2.2.2.2.2.2.2.2.1
@[irreducible] noncomputable def s : Shared := skK.2.2.2.2.2.2.2.2.2.2.1
@[irreducible] noncomputable def u9 : Str → Option Value := skK.2.2.2.2.2.2.2.2.2.2.2.1
@[irreducible] noncomputable def E1 : Value → Shared → Prop := skK.2.2.2.2.2.2.2.2.2.2.2.2.1
@[irreducible] noncomputable def oP : Obj := skK.2.2.2.2.2.2.2.2.2.2.2.2.2.1
@[irreducible] noncomputable def oL : Obj := skK.2.2.2.2.2.2.2.2.2.2.2.2.2.2.1
@[irreducible] noncomputable def oF : Obj := skK.2.2.2.2.2.2.2.2.2.2.2.2.2.2.2.1
@[irreducible] noncomputable def o1 : Obj := skK.2.2.2.2.2.2.2.2.2.2.2.2.2.2.2.2.1
@[irreducible] noncomputable def oW : Obj := skK.2.2.2.2.2.2.2.2.2.2.2.2.2.2.2.2.2.1
@[irreducible] noncomputable def cn : Nat := skK.2.2.2.2.2.2.2.2.2.2.2.2.2.2.2.2.2.2.1
@[irreducible] noncomputable def N : Nat := skK.2.2.2.2.2.2.2.2.2.2.2.2.2.2.2.2.2.2.2.1
@[irreducible] noncomputable def p : Int := skK.2.2.2.2.2.2.2.2.2.2.2.2.2.2.2.2.2.2.2.2.1
@[irreducible] noncomputable def c3 : Int := skK.2.2.2.2.2.2.2.2.2.2.2.2.2.2.2.2.2.2.2.2.2.1
@[irreducible] noncomputable def x : PySem.Str := skK.2.2.2.2.2.2.2.2.2.2.2.2.2.2.2.2.2.2.2.2.2.2.1
@[irreducible] noncomputable def tx : Tok := skK.2.2.2.2.2.2.2.2.2.2.2.2.2.2.2.2.2.2.2.2.2.2.2.1
@[irreducible] noncomputable def tc : Tok := skK.2.2.2.2.2.2.2.2.2.2.2.2.2.2.2.2.2.2.2.2.2.2.2.2.1
@[irreducible] noncomputable def tn : Tok := skK.2.2.2.2.2.2.2.2.2.2.2.2.2.2.2.2.2.2.2.2.2.2.2.2.2.1
@[irreducible] noncomputable def tp : Tok := skK.2.2.2.2.2.2.2.2.2.2.2.2.2.2.2.2.2.2.2.2.2.2.2.2.2.2.1
@[irreducible] noncomputable def td : Tok := skK.2.2.2.2.2.2.2.2.2.2.2.2.2.2.2.2.2.2.2.2.2.2.2.2.2.2.2.1
@[irreducible] noncomputable def body : List Nat := skK.2.2.2.2.2.2.2.2.2.2.2.2.2.2.2.2.2.2.2.2.2.2.2.2.2.2.2.2.1
@[irreducible] noncomputable def tail : List Nat := skK.2.2.2.2.2.2.2.2.2.2.2.2.2.2.2.2.2.2.2.2.2.2.2.2.2.2.2.2.2.1
@[irreducible] noncomputable def ini : List Nat := skK.2.2.2.2.2.2.2.2.2.2.2.2.2.2.2.2.2.2.2.2.2.2.2.2.2.2.2.2.2.2.1
@[irreducible] noncomputable def dg : Nat := skK.2.2.2.2.2.2.2.2.2.2.2.2.2.2.2.2.2.2.2.2.2.2.2.2.2.2.2.2.2.2.2
theorem skAll (hb : skP w p0 loose mean mg mb fa cd g L s u9 E1 oP oL oF o1 oW cn N p c3 x tx tc tn tp td body tail ini dg) : ∀ (y0 : World) (y1 : Program) (y2 : List PySem.Str) (y3 : ExcName → Option Value) (y4 : PySem.Str → Option Value) (y5 : PySem.Str → Option Value) (y6 : Addr) (y7 : Value) (y8 : Heap) (y9 : Addr) (y10 : Shared) (y11 : Str → Option Value) (y12 : Value → Shared → Prop) (y13 : Obj) (y14 : Obj) (y15 : Obj) (y16 : Obj) (y17 : Obj) (y18 : Nat) (y19 : Nat) (y20 : Int) (y21 : Int) (y22 : PySem.Str) (y23 : Tok) (y24 : Tok) (y25 : Tok) (y26 : Tok) (y27 : Tok) (y28 : List Nat) (y29 : List Nat) (y30 : List Nat) (y31 : Nat), skP y0 y1 y2 y3 y4 y5 y6 y7 y8 y9 y10 y11 y12 y13 y14 y15 y16 y17 y18 y19 y20 y21 y22 y23 y24 y25 y26 y27 y28 y29 y30 y31 := by
  intro y0 y1 y2 y3 y4 y5 y6 y7 y8 y9 y10 y11 y12 y13 y14 y15 y16 y17 y18 y19 y20 y21 y22 y23 y24 y25 y26 y27 y28 y29 y30 y31
  refine Classical.byContradiction fun hn => ?_
  have h1 := @Classical.epsilon_spec skD (fun d => ¬ skP d.1 d.2.1 d.2.2.1 d.2.2.2.1 d.2.2.2.2.1 d.2.2.2.2.2.1 d.2.2.2.2.2.2.1 d.2.2.2.2.2.2.2.1 d.2.2.2.2.2.2.2.2.1 d.2.2.2.2.2.2.2.2.2.1 d.2.2.2.2.2.2.2.2.2.2.1 d.2.2.2.2.2.2.2.2.2.2.2.1 d.2.2.2.2.2.2.2.2.2.2.2.2.1 d.2.2.2.2.2.2.2.2.2.2.2.2.2.1 d.2.2.2.2.2.2.2.2.2.2.2.2.2.2.1 d.2.2.2.2.2.2.2.2.2.2.2.2.2.2.2.1 d.2.2.2.2.2.2.2.2.2.2.2.2.2.2.2.2.1 d.2.2.2.2.2.2.2.2.2.2.2.2.2.2.2.2.2.1 d.2.2.2.2.2.2.2.2.2.2.2.2.2.2.2.2.2.2.1 d.2.2.2.2.2.2.2.2.2.2.2.2.2.2.2.2.2.2.2.1 d.2.2.2.2.2.2.2.2.2.2.2.2.2.2.2.2.2.2.2.2.1 d.2.2.2.2.2.2.2.2.2.2.2.2.2.2.2.2.2.2.2.2.2.1 d.2.2.2.2.2.2.2.2.2.2.2.2.2.2.2.2.2.2.2.2.2.2.1 d.2.2.2.2.2.2.2.2.2.2.2.2.2.2.2.2.2.2.2.2.2.2.2.1 d.2.2.2.2.2.2.2.2.2.2.2.2.2.2.2.2.2.2.2.2.2.2.2.2.1 d.2.2.2.2.2.2.2.2.2.2.2.2.2.2.2.2.2.2.2.2.2.2.2.2.2.1 d.2.2.2.2.2.2.2.2.2.2.2.2.2.2.2.2.2.2.2.2.2.2.2.2.2.2.1 d.2.2.2.2.2.2.2.2.2.2.2.2.2.2.2.2.2.2.2.2.2.2.2.2.2.2.2.1 d.2.2.2.2.2.2.2.2.2.2.2.2.2.2.2.2.2.2.2.2.2.2.2.2.2.2.2.2.1 d.2.2.2.2.2.2.2.2.2.2.2.2.2.2.2.2.2.2.2.2.2.2.2.2.2.2.2.2.2.1 d.2.2.2.2.2.2.2.2.2.2.2.2.2.2.2.2.2.2.2.2.2.2.2.2.2.2.2.2.2.2.1 d.2.2.2.2.2.2.2.2.2.2.2.2.2.2.2.2.2.2.2.2.2.2.2.2.2.2.2.2.2.2.2) ⟨(y0, y1, y2, y3, y4, y5, y6, y7, y8, y9, y10, y11, y12, y13, y14, y15, y16, y17, y18, y19, y20, y21, y22, y23, y24, y25, y26, y27, y28, y29, y30, y31), hn⟩
  delta w p0 loose mean mg mb fa cd g L s u9 E1 oP oL oF o1 oW cn N p c3 x tx tc tn tp td body tail ini dg at hb
  delta skK at hb
  exact h1 hb
theorem skBody : skP w p0 loose mean mg mb fa cd g L s u9 E1 oP oL oF o1 oW cn N p c3 x tx tc tn tp td body tail ini dg := by
  unfold skP
  intro hc1 hc9 hN1 hN2 hp1 hp2 hx hb ht hl hdg hn hxl hval F N0 dP dL dF d1 dW hL htk B X T CH1 CH2 CH3
  unfold lawEnv
  conv in (List.drop 8 lawBody) => whnf
  conv in (occs := *) lawScope => all_goals whnf
  revert X; k_fill; intro X
  k_with "now" => have kNow24 : True := trivial
  k_with "toks" => ((fail_if_success (fail_if_success (k_extra "now"; clear kNow24))); first | ((with_reducible show wpAny _ _ (execs (Stmt.While _ _ _ _ :: _) _) _ _ _); refine stopL ?_) | (refine genToks ?_; intro tk9 htk9; (try dsimp only at htk9)) | ((with_reducible refine execsT ?_); (try dsimp only)))
  try k_fold
  k_steps
  refine Stop.go ?_
  k_dflt (refine' CtrD.use ?B1 ?F1 ?X1 ?N1 ?T1 ?k1 ?d1 ?u1 (c_ifs x _ body tail ini dg hx hb ht hl hdg hn hxl [(L + 1 + 1 + 1 + 1 + 1 + 1, oW), (L + 1 + 1 + 1 + 1 + 1, o1), (L + 1 + 1 + 1 + 1, oF), (L + 1 + 1 + 1, oL), (L + 1 + 1, oP), (59, tabObj #[]), (52, tabObj #[])] (by walk_at "apart")) ?_)
  case B1 => k_asm
  case F1 => k_asm
  case X1 => k_asm
  case N1 => (refine news_sub (by k_asm) ?_; (try dsimp only [sec52, sec59, secs, List.cons_append, List.nil_append]); walk_at "allIn")
  case T1 => k_asm
  case k1 => first | exact rfl | assumption
  case d1 => ktr_room
  case u1 => ktr_units
  intro B1 v1 h1 tk1 dr1 n1 hB1 hL1 R1 F1 N1
  obtain ⟨ps, e1, t1, e2⟩ := R1
  subst e1; subst e2
  rw [hval]
  clear hB1
  k_sweep
  try k_fold
  k_with "ov Pow" => ((fail_if_success (fail_if_success (k_extra "now"; clear kNow24))); first | (refine pow_nat 10 p.toNat rfl rfl (by decide) (by lia) ?_; intro _ _) | (refine pow_nat 10 (-p).toNat rfl rfl (by decide) (by lia) ?_; intro _ _))
  k_with "ov Mult" => ((fail_if_success (fail_if_success (k_extra "now"; clear kNow24))); (refine mul_natB N (10 ^ p.toNat) rfl rfl (Nat.le_trans (n_bits hc9 hN2) (by decide)) (by have := bl_pow 10 p.toNat (by lia); lia) ?_; intro _ _))
  k_steps
  refine Stop.go ?_
  k_dflt (refine' Ctr.use ?B2 ?F2 ?X2 ?N2 ?T2 ?k2 ?d2 ?u2 (c_ipowN 10 (-p).toNat _ _ _ (by lia) (by decide)) ?_)
  case B2 => k_asm
  case F2 => k_asm
  case X2 => k_asm
  case N2 => k_asm
  case T2 => k_asm
  case k2 => first | exact rfl | assumption
  case d2 => ktr_room
  case u2 => ktr_units
  walk_at "retInt"
  k_steps
  all_goals try (rename (_ ≠ _) => hf; exact absurd rfl hf)
  refine Stop.go ?_
  (rename News _ _ _ (_ :: _) => hN9)
  exact law_C cn N p c3 _ _ _ _ _ _ _ hc1 hc9 hN1 hN2 hp1 hp2 (by assumption) (news_sub hN9 (by walk_at "allIn")) dP (by assumption) dF d1 dW hL (by walk_at "tkom") B X T CH1 CH2 CH3
end sk_law_B
section
variable {w : World} {p0 : Program} {loose : List Str} {mean : ExcName → Option Value} {mg mb : Str → Option Value}
theorem law_B {fa : Addr} {cd : Value} {g : Heap} {L : Addr} {s : Shared} {u9 : Str → Option Value} {E1 : Value → Shared → Prop} {oP oL oF o1 oW : Obj} (cn N : Nat) (p c3 : Int) (x : PySem.Str) (tx tc tn tp td : Tok) (body tail ini : List Nat) (dg : Nat)
    (hc1 : 1 ≤ cn) (hc9 : cn ≤ 9) (hN1 : 10 ^ (cn - 1) ≤ N) (hN2 : N < 10 ^ cn) (hp1 : -4500 ≤ p) (hp2 : p ≤ 4500)
    (hx : x.cps.toList = body ++ tail) (hb : ∀ c ∈ body, (48 ≤ c ∧ c ≤ 57) ∨ c = 95) (ht : ∀ c ∈ tail, c = 32 ∨ c = 9 ∨ c = 10) (hl : body = ini ++ [dg]) (hdg : 48 ≤ dg ∧ dg ≤ 57)
    (hn : (body.filter (· != 95)).length ≤ 8000) (hxl : x.length ≤ 20000) (hval : PySem.NumText.digitsVal (body.filter (· != 95)) = N * 10 ^ p.toNat)
    (F : Fr g L s.heap (fun y => if y = "text" then some (.str x tx) else if y = "count" then some (.int cn tc) else if y = "number" then some (.int N tn) else if y = "dress" then some (.int c3 td) else u9 y))
    (N0 : News g L s.heap [(L + 1 + 1 + 1 + 1 + 1 + 1, oW), (L + 1 + 1 + 1 + 1 + 1, o1), (L + 1 + 1 + 1 + 1, oF), (L + 1 + 1 + 1, oL), (L + 1 + 1, oP), (59, tabObj #[]), (52, tabObj #[]), (24, tabObj #[])])
    (dP : oP.data = .cell (some (.int p tp))) (dL : oL.data = .cell none) (dF : oF.data = .cell none) (d1 : o1.data = .cell none) (dW : oW.data = .cell none)
    (hL : @LT.lt Nat _ 59 L) (htk : 1 ≤ s.toks) (B : Below callerA g [] g) (X : (Mine.hd.heap_1 w.params).In g) (T : Top p0 loose mean mg mb g)
    (CH1 : CodeHd g 28 24) (CH2 : CodeHd g 56 52) (CH3 : CodeHd g 63 59) :
    wpAny (model PySem.Challenge.rw_xi0020_01.prog w) (callerA.deeper (lawEnv L fa cd)) (execs (lawBody.drop 8) (lawEnv L fa cd)) (LawEnd g L s)
      (fun e s' => wpAny (model PySem.Challenge.rw_xi0020_01.prog w) (callerA.deeper (lawEnv L fa cd)) (leaving (lawEnv L fa cd) e) (fun _ s'' => E1 e s'') (fun e' s'' => E1 e' s'') s') s :=
  sk_law_B.skAll sk_law_B.skBody w p0 loose mean mg mb fa cd g L s u9 E1 oP oL oF o1 oW cn N p c3 x tx tc tn tp td body tail ini dg hc1 hc9 hN1 hN2 hp1 hp2 hx hb ht hl hdg hn hxl hval F N0 dP dL dF d1 dW hL htk B X T CH1 CH2 CH3

end
end
section
open PySem
theorem foldl_app (l : List (Array Nat)) : ∀ a : Array Nat, (l.foldl (· ++ ·) a).toList = a.toList ++ (l.map Array.toList).flatten := by
  induction l with
  | nil => intro a; simp
  | cons b r ih => intro a; rw [List.foldl_cons, ih]; simp [List.append_assoc]
theorem mul_list (x : Str) (n : Nat) : (Txt.mul x (n : Int)).cps.toList = (List.replicate n x.cps.toList).flatten := by
  unfold Txt.mul
  split
  · rename_i h
    have : n = 0 := by lia
    subst this; rfl
  · split
    · rename_i h1 h2
      rw [Bool.or_eq_true] at h2
      rcases h2 with h2 | h2
      · have : n = 1 := by have := beq_iff_eq.mp h2; lia
        subst this; simp
      · have h3 : x.cps.toList = [] := by
          have h4 : x.cps.size = 0 := beq_iff_eq.mp h2
          exact List.length_eq_zero_iff.mp (by rw [Array.length_toList]; exact h4)
        rw [h3]
        have : ∀ k, (List.replicate k ([] : List Nat)).flatten = [] := by
          intro k; induction k with
          | zero => rfl
          | succ k ih => rw [List.replicate_succ, List.flatten_cons, ih]; rfl
        exact (this n).symm
    · rw [foldl_app, List.map_replicate]
      simp
theorem rep_filter (l : List Nat) (n d : Nat) (h : l.filter (· != 95) = [d]) : ((List.replicate n l).flatten).filter (· != 95) = List.replicate n d := by
  induction n with
  | zero => rfl
  | succ n ih => rw [List.replicate_succ, List.flatten_cons, List.filter_append, ih, h]; rfl
theorem rep_mem {l : List Nat} {n c : Nat} (h : c ∈ (List.replicate n l).flatten) : c ∈ l := by
  obtain ⟨a, ha, hc⟩ := List.mem_flatten.mp h
  rw [List.eq_of_mem_replicate ha] at hc; exact hc
theorem rep_len (l : List Nat) (n : Nat) : ((List.replicate n l).flatten).length = n * l.length := by
  induction n with
  | zero => simp
  | succ n ih => rw [List.replicate_succ, List.flatten_cons, List.length_append, ih, Nat.add_mul]; lia
end
section
open PySem PySem.NumText
theorem num_signs {N cn : Nat} (hc1 : 1 ≤ cn) (hN1 : 10 ^ (cn - 1) ≤ N) (hN2 : N < 10 ^ cn) :
    (PySem.Str.ofString (toString ((N : Nat) : Int))).cps.toList.length = cn ∧ (∀ c ∈ (PySem.Str.ofString (toString ((N : Nat) : Int))).cps.toList, 48 ≤ c ∧ c ≤ 57) ∧
      digitsVal (PySem.Str.ofString (toString ((N : Nat) : Int))).cps.toList = N := by
  rw [PySem.W.KIN.signs_num]
  have hd : AllDigits ((Nat.toDigits 10 N).map Char.toNat) := by
    intro c hc
    obtain ⟨ch, hch, e⟩ := List.mem_map.mp hc
    rw [← e]
    exact PyProof.Rows.digit_range (Nat.isDigit_of_mem_toDigits (by decide) (by decide) hch)
  refine ⟨?_, hd, PySem.W.KIN.val_back N⟩
  have h1 := PyProof.Rows.digits10_le hc1 hN2
  rw [List.length_map]
  rcases Nat.lt_or_ge (Nat.toDigits 10 N).length cn with h | h
  · exfalso
    have h2 := digits_lt _ hd
    rw [PySem.W.KIN.val_back, List.length_map] at h2
    have h3 : 10 ^ (Nat.toDigits 10 N).length ≤ 10 ^ (cn - 1) := Nat.pow_le_pow_right (by decide) (by lia)
    lia
  · lia
/-- what the loop over the number's signs has written after i turns -/
def MidI (ds : List Nat) (i : Nat) (m : List Nat) : Prop :=
  (∀ c ∈ m, (48 ≤ c ∧ c ≤ 57) ∨ c = 95) ∧ m.filter (· != 95) = ds.take i ∧ m.length ≤ 2 * i ∧ (i = ds.length → 1 ≤ i → ∃ ini dg, m = ini ++ [dg] ∧ 48 ≤ dg ∧ dg ≤ 57)
theorem MidI.start (ds : List Nat) : MidI ds 0 [] := ⟨(fun _ h => nomatch h), rfl, Nat.le_refl _, fun _ h => absurd h (by decide)⟩
theorem MidI.sign {ds m : List Nat} {i d : Nat} (h : MidI ds i m) (hd : ds[i]? = some d) (h1 : 48 ≤ d) (h2 : d ≤ 57) : MidI ds (i + 1) (m ++ [d]) := by
  obtain ⟨a, b, c, e⟩ := h
  refine ⟨fun x hx => ?_, ?_, ?_, fun _ _ => ⟨m, d, rfl, h1, h2⟩⟩
  · rcases List.mem_append.mp hx with hx | hx
    · exact a x hx
    · rw [List.mem_singleton.mp hx]; exact .inl ⟨h1, h2⟩
  · have hne : (d != 95) = true := by simp; lia
    rw [List.filter_append, b, List.take_add_one, hd]
    simp [hne]
  · rw [List.length_append, List.length_singleton]; lia
theorem MidI.under {ds m : List Nat} {i d : Nat} (h : MidI ds i m) (hd : ds[i]? = some d) (h1 : 48 ≤ d) (h2 : d ≤ 57) (hi : i + 1 < ds.length) : MidI ds (i + 1) (m ++ [d] ++ [95]) := by
  obtain ⟨a, b, c, e⟩ := h.sign hd h1 h2
  obtain ⟨_, _, c', _⟩ := h
  refine ⟨fun x hx => ?_, ?_, ?_, fun h' _ => absurd h' (by lia)⟩
  · rcases List.mem_append.mp hx with hx | hx
    · exact a x hx
    · rw [List.mem_singleton.mp hx]; exact .inr rfl
  · rw [List.filter_append, b]; simp
  · simp only [List.length_append, List.length_singleton]; lia
theorem zeros_val (n : Nat) : digitsVal (List.replicate n 48) = 0 := by
  induction n with
  | zero => rfl
  | succ n ih => rw [List.replicate_succ]; exact ih
/-- the whole text's facts -/
theorem text_facts {ds m wa wb : List Nat} {z pt N : Nat} (hm : MidI ds ds.length m) (hlen : 1 ≤ ds.length) (hlen9 : ds.length ≤ 9) (hv : digitsVal ds = N) (hd : ∀ c ∈ ds, 48 ≤ c ∧ c ≤ 57)
    (hab : (wa = [48, 95] ∧ wb = [95, 48]) ∨ (wa = [48] ∧ wb = [48])) (hz : z < 2200) (hp : pt ≤ 4500) :
    ∃ body ini dg, (List.replicate z wa).flatten ++ m ++ (List.replicate pt wb).flatten = body ∧ (∀ c ∈ body, (48 ≤ c ∧ c ≤ 57) ∨ c = 95) ∧ body = ini ++ [dg] ∧ (48 ≤ dg ∧ dg ≤ 57) ∧
      (body.filter (· != 95)).length ≤ 8000 ∧ body.length ≤ 15000 ∧ digitsVal (body.filter (· != 95)) = N * 10 ^ pt := by
  obtain ⟨a, b, c, e⟩ := hm
  obtain ⟨ini, dg, e1, e2, e3⟩ := e rfl hlen
  rw [List.take_length] at b
  have fa : wa.filter (· != 95) = [48] := by rcases hab with ⟨h, _⟩ | ⟨h, _⟩ <;> rw [h] <;> rfl
  have fb : wb.filter (· != 95) = [48] := by rcases hab with ⟨_, h⟩ | ⟨_, h⟩ <;> rw [h] <;> rfl
  have la : wa.length ≤ 2 := by rcases hab with ⟨h, _⟩ | ⟨h, _⟩ <;> rw [h] <;> decide
  have lb : wb.length ≤ 2 := by rcases hab with ⟨_, h⟩ | ⟨_, h⟩ <;> rw [h] <;> decide
  have ma : ∀ c ∈ wa, (48 ≤ c ∧ c ≤ 57) ∨ c = 95 := by rcases hab with ⟨h, _⟩ | ⟨h, _⟩ <;> rw [h] <;> decide
  have mb : ∀ c ∈ wb, (48 ≤ c ∧ c ≤ 57) ∨ c = 95 := by rcases hab with ⟨_, h⟩ | ⟨_, h⟩ <;> rw [h] <;> decide
  have hff : ((List.replicate z wa).flatten ++ m ++ (List.replicate pt wb).flatten).filter (· != 95) = List.replicate z 48 ++ ds ++ List.replicate pt 48 := by
    rw [List.filter_append, List.filter_append, rep_filter _ _ _ fa, rep_filter _ _ _ fb, b]
  have hl1 : z * wa.length ≤ 2200 * 2 := Nat.mul_le_mul (by lia) la
  have hl2 : pt * wb.length ≤ 4500 * 2 := Nat.mul_le_mul hp lb
  have hend : ∃ ini dg, (List.replicate z wa).flatten ++ m ++ (List.replicate pt wb).flatten = ini ++ [dg] ∧ 48 ≤ dg ∧ dg ≤ 57 := by
    cases pt with
    | zero => exact ⟨(List.replicate z wa).flatten ++ ini, dg, by rw [e1]; simp [List.append_assoc], e2, e3⟩
    | succ k =>
      have hw : ∃ i, wb = i ++ [48] := by rcases hab with ⟨_, h⟩ | ⟨_, h⟩ <;> rw [h]; exact ⟨[95], rfl⟩; exact ⟨[], rfl⟩
      obtain ⟨i, hi⟩ := hw
      refine ⟨(List.replicate z wa).flatten ++ m ++ (List.replicate k wb).flatten ++ i, 48, ?_, by decide, by decide⟩
      rw [List.replicate_succ', List.flatten_append]
      simp only [List.flatten_cons, List.flatten_nil, List.append_nil]
      simp only [List.append_assoc]
      rw [← hi]
  obtain ⟨ini', dg', h1, h2, h3⟩ := hend
  refine ⟨_, ini', dg', rfl, fun x hx => ?_, h1, ⟨h2, h3⟩, ?_, ?_, ?_⟩
  · rcases List.mem_append.mp hx with hx | hx
    · rcases List.mem_append.mp hx with hx | hx
      · exact ma x (rep_mem hx)
      · exact a x hx
    · exact mb x (rep_mem hx)
  · rw [hff]; simp only [List.length_append, List.length_replicate]; lia
  · simp only [List.length_append, rep_len]; lia
  · rw [hff, digits_app, digits_app, zeros_val, zeros_val, hv, List.length_replicate, Nat.zero_mul, Nat.zero_add, Nat.add_zero]
end
section
open PySem PySem.NumText
theorem slice_sub (x : PySem.Str) (l u : Option Int) : ∀ c ∈ (PySem.Txt.slice x l u).cps.toList, c ∈ x.cps.toList := by
  intro c hc
  unfold PySem.Txt.slice at hc
  split at hc
  · exact hc
  · simp only [List.toList_toArray, List.mem_filterMap] at hc
    obtain ⟨i, _, hi⟩ := hc
    have := Array.mem_of_getElem? hi
    simpa using this
theorem blanks_tail (j : Int) : ∀ c ∈ (PySem.Txt.slice (PySem.Str.ofString " \t\n") none (some j)).cps.toList, c = 32 ∨ c = 9 ∨ c = 10 := by
  intro c hc
  have h := slice_sub _ _ _ c hc
  have e : (PySem.Str.ofString " \t\n").cps.toList = [32, 9, 10] := by decide +kernel
  rw [e] at h
  simpa using h
theorem blanks_len (j : Int) : (PySem.Txt.slice (PySem.Str.ofString " \t\n") none (some j)).length ≤ 3 :=
  Nat.le_trans (PyProof.Txt.length_slice_le _ _ _) (by decide +kernel)
theorem app_list (x y : PySem.Str) : (x ++ y).cps.toList = x.cps.toList ++ y.cps.toList := by
  rw [PySem.Str.cps_append]; simp
theorem len_list (x : PySem.Str) : x.length = x.cps.toList.length := by
  show x.cps.size = _
  simp
def AB (wa wb : PySem.Str) : Prop := (wa = "0_" ∧ wb = "_0") ∨ (wa = "0" ∧ wb = "0")
theorem ab_lists {wa wb : PySem.Str} (h : AB wa wb) : (wa.cps.toList = [48, 95] ∧ wb.cps.toList = [95, 48]) ∨ (wa.cps.toList = [48] ∧ wb.cps.toList = [48]) := by
  have e1 : (PySem.Str.ofString "0_").cps.toList = [48, 95] := by decide +kernel
  have e2 : (PySem.Str.ofString "_0").cps.toList = [95, 48] := by decide +kernel
  have e3 : (PySem.Str.ofString "0").cps.toList = [48] := by decide +kernel
  rcases h with ⟨rfl, rfl⟩ | ⟨rfl, rfl⟩
  · exact .inl ⟨e1, e2⟩
  · exact .inr ⟨e3, e3⟩
theorem ab_len {wa wb : PySem.Str} (h : AB wa wb) : wa.length ≤ 2 ∧ wb.length ≤ 2 := by
  rw [len_list, len_list]
  rcases ab_lists h with ⟨e1, e2⟩ | ⟨e1, e2⟩ <;> rw [e1, e2] <;> decide
theorem mul_len2 {x : PySem.Str} {n : Nat} (h : x.length ≤ 2) : (PySem.Txt.mul x (n : Int)).length ≤ 2 * n := by
  rw [len_list, mul_list, rep_len, ← len_list, Nat.mul_comm]
  exact Nat.mul_le_mul_right _ h
/-- the whole numeral -/
theorem text_all {N cn z : Nat} {x wa wb : PySem.Str} {mid : List Nat} {p j : Int} (hab : AB wa wb) (hc1 : 1 ≤ cn) (hc9 : cn ≤ 9) (hN1 : 10 ^ (cn - 1) ≤ N) (hN2 : N < 10 ^ cn) (hz : z < 2200) (hp : p ≤ 4500)
    (hm : MidI (PySem.Str.ofString (toString ((N : Nat) : Int))).cps.toList (PySem.Str.ofString (toString ((N : Nat) : Int))).cps.size mid) (hx : x.cps.toList = (PySem.Txt.mul wa (z : Int)).cps.toList ++ mid) :
    ∃ body tail ini dg, (x ++ (PySem.Txt.mul wb ((p.toNat : Nat) : Int) ++ PySem.Txt.slice (PySem.Str.ofString " \t\n") none (some j))).cps.toList = body ++ tail ∧ (∀ c ∈ body, (48 ≤ c ∧ c ≤ 57) ∨ c = 95) ∧ (∀ c ∈ tail, c = 32 ∨ c = 9 ∨ c = 10) ∧ body = ini ++ [dg] ∧ (48 ≤ dg ∧ dg ≤ 57) ∧
      (body.filter (· != 95)).length ≤ 8000 ∧ (x ++ (PySem.Txt.mul wb ((p.toNat : Nat) : Int) ++ PySem.Txt.slice (PySem.Str.ofString " \t\n") none (some j))).length ≤ 20000 ∧ digitsVal (body.filter (· != 95)) = N * 10 ^ p.toNat := by
  obtain ⟨hl, hd, hv⟩ := num_signs hc1 hN1 hN2
  have hsz : (PySem.Str.ofString (toString ((N : Nat) : Int))).cps.size = (PySem.Str.ofString (toString ((N : Nat) : Int))).cps.toList.length := by simp
  rw [hsz] at hm
  obtain ⟨body, ini, dg, e, hb, hi, hg, hn, hbl, hval⟩ := text_facts (pt := p.toNat) hm (by lia) (by lia) hv hd (ab_lists hab) hz (by lia)
  have hall : (x ++ (PySem.Txt.mul wb ((p.toNat : Nat) : Int) ++ PySem.Txt.slice (PySem.Str.ofString " \t\n") none (some j))).cps.toList = body ++ (PySem.Txt.slice (PySem.Str.ofString " \t\n") none (some j)).cps.toList := by
    rw [app_list, app_list, hx, mul_list, mul_list, ← e]
    simp only [List.append_assoc]
  refine ⟨body, _, ini, dg, hall, hb, blanks_tail j, hi, hg, hn, ?_, hval⟩
  rw [len_list, hall, List.length_append, ← len_list]
  have := blanks_len j
  lia
theorem mid_len {ds mid : List Nat} {i : Nat} {x pre : PySem.Str} (h : MidI ds i mid) (hx : x.cps.toList = pre.cps.toList ++ mid) : x.length ≤ pre.length + 2 * i := by
  obtain ⟨_, _, h3, _⟩ := h
  rw [len_list, hx, List.length_append, ← len_list]
  lia
theorem tx_sign {x : PySem.Str} {pre mid : List Nat} {c : Nat} (h : x.cps.toList = pre ++ mid) : (x ++ PySem.Str.mk #[c]).cps.toList = pre ++ (mid ++ [c]) := by
  rw [app_list, h, List.append_assoc]
theorem tx_under {x : PySem.Str} {pre mid : List Nat} {c : Nat} (h : x.cps.toList = pre ++ mid) : (x ++ PySem.Str.mk #[c] ++ PySem.Str.ofString "_").cps.toList = pre ++ (mid ++ [c] ++ [95]) := by
  have e : (PySem.Str.ofString "_").cps.toList = [95] := by decide +kernel
  rw [app_list, tx_sign h, e, List.append_assoc]
theorem one_len (c : Nat) : (PySem.Str.mk #[c]).length ≤ 20000 := show 1 ≤ 20000 by decide
theorem signed_len {x : PySem.Str} {c n : Nat} (h : x.length ≤ n) : (x ++ PySem.Str.mk #[c]).length ≤ n + 1 := by
  rw [PySem.Str.length_append]
  exact Nat.add_le_add_right h _
theorem under_len : (PySem.Str.ofString "_").length ≤ 20000 := by decide +kernel
end
example {prog : Program} {w : World} {A : Around} {env : Env} {Q : Flow → Shared → Prop} {E : Value → Shared → Prop} {s : Shared} (h : wpAny (model prog w) A (execs [] env) Q E s) : wpAny (model prog w) A (execs [] env) Q E s := by ((k_with "now" => have kReset : True := trivial); (k_with "piece" => have kP_X6 : True := trivial); w_top off; first | (walk1; fail) | exact h)
section
open PyProof.Rows.LCg
section
variable {prog : Program} {w : World} {A : Around} {E : Value → Shared → Prop} {s : Shared} {env : Env} {h₀ : Heap} {body : List Stmt} {Q : Flow → Shared → Prop}
/-- what a turn of the loop over a text's signs hands on -/
def EsPost (h₀ : Heap) (L : Addr) (J : (PySem.Str → Option Value) → Prop) (own news : List (Addr × Obj)) (s₁ : Shared) (f : Flow) (s₂ : Shared) : Prop :=
  f = .next ∧ ∃ h' tk m', s₂ = { s₁ with heap := h', toks := tk } ∧ Fr h₀ L h' m' ∧ News h₀ L h' (news ++ own) ∧ J m'
theorem es_swap {a b : List (Addr × Obj)} : ∀ p ∈ a ++ b, p ∈ b ++ a := fun p hp => List.mem_append.mpr (List.mem_append.mp hp).symm
/-- a for over enumerate of a text, by what holds of the frame -/
theorem for_estr {x : PySem.Str} {tx : Tok} {y z : PySem.Str} {py pz tp : Pos} {k : Nat} {m₀ : PySem.Str → Option Value} {news : List (Addr × Obj)} (J : Nat → (PySem.Str → Option Value) → Prop)
    (hh : A.handled = none) (hy : env.kindOf y = some .local) (hz : env.kindOf z = some .local) (hp : (env.scope.kind == .class || (env.scope.kind == .module && env.locals != env.globals)) = false)
    (ha : x.cps.all (· < 128) = true) (F : Fr h₀ env.locals s.heap m₀) (N : News h₀ env.locals s.heap news) (hj : J 0 m₀)
    (turn : ∀ i c t u m₁ h tk own, x.cps[i]? = some c → J i m₁ → (∀ p ∈ own, ∀ q ∈ news, p.1 ≠ q.1) → Fr h₀ env.locals h (fun v => if v = z then some (.str ⟨#[c]⟩ u) else if v = y then some (.int ((i : Nat) : Int) t) else m₁ v) → News h₀ env.locals h (news ++ own) →
      wpAny (model prog w) A (execs body env) (EsPost h₀ env.locals (J (i + 1)) own news { s with heap := h, toks := tk }) E { s with heap := h, toks := tk })
    (done : ∀ m₁ h tk, J x.cps.size m₁ → Fr h₀ env.locals h m₁ → News h₀ env.locals h news → Q .next { s with heap := h, toks := tk }) :
    wpAny (model prog w) A (call (.type "enumerate") [.str x tx]) (fun xv s₁ => wpAny (model prog w) A (pyIter xv) (fun it s₂ => TurnsAt prog w A h₀ env (.Tuple [.Name y py, .Name z pz] k tp) body Q E it s₂) E s₁) E s := by
  have hLs : env.locals < s.heap.objs.size := F.ns.lt
  refine call_enumerate_str fun h' hE hI hsz hk => ?_
  refine wpAny_pyIter_enum hE ?_
  have hT : strIterType x = "str_ascii_iterator" := by unfold strIterType; rw [ha]; rfl
  rw [hT] at hI
  have D := Draws.strAscii (prog := prog) (w := w) (A := A.in1) hh s.heap.objs.size x tx
  have W := WalksT.enumerateD (A := A) D (s.heap.objs.size + 1) (Nat.succ_ne_self _) (by simp) (by simp)
  have KT := KTurns.ofWalksU (elts := [.Name y py, .Name z pz]) (k := k) (pos := tp) W.toU
  have hwr : ∀ b ∈ [s.heap.objs.size + 1, s.heap.objs.size], h₀.get? b = none := by
    intro b hb
    have hb' : b = s.heap.objs.size + 1 ∨ b = s.heap.objs.size := by simpa using hb
    rcases hb' with rfl | rfl
    · exact ktu_new F (Nat.le_add_right _ _)
    · exact ktu_new F (Nat.le_refl _)
  have hoff : ∀ p ∈ news, p.1 ∉ [s.heap.objs.size + 1, s.heap.objs.size] := by
    intro p hp' hI'
    have hb' : p.1 = s.heap.objs.size + 1 ∨ p.1 = s.heap.objs.size := by simpa using hI'
    have hlp := Heap.lt_size (N p hp').1
    rcases hb' with e | e
    · exact ktu_ne 1 hlp e
    · exact Nat.ne_of_lt hlp e
  have hL₀ : h₀.get? env.locals = none := Heap.get?_none_of_le F.above
  refine ⟨_, _, _, _, _, _, _, m₀, news, fun i m nw => nw = news ∧ J i m, rfl, KT, ?_, hwr, hoff, ?_, F.keeps hk, N.grown hk, ⟨rfl, hj⟩, ?_, ?_⟩
  · intro hI'
    have hb' : env.locals = s.heap.objs.size + 1 ∨ env.locals = s.heap.objs.size := by simpa using hI'
    rcases hb' with e | e
    · exact ktu_ne 1 hLs e
    · exact Nat.ne_of_lt hLs e
  · exact ⟨⟨.none, hE⟩, hI⟩
  · rintro i v m₁ news₁ h₁ tk₁ own hlt ⟨T, vals, rfl, ⟨t, xv, ⟨c, u, hc, rfl⟩, rfl⟩, hTu⟩ ⟨rfl, hJ⟩ hnw hown hown2 hown3 hst F₁ N₁
    have hsep : ∀ p ∈ own, ∀ q ∈ news₁, p.1 ≠ q.1 := by
      intro p hp' q hq e
      have h1 := hown p hp'
      have h2 := hoff q hq
      rw [← e] at h2
      exact h2 h1
    refine assign_Tuple_tuple hh hTu rfl rfl fun h₅ he => ?_
    have F₅ := F₁.extBut he (Nat.le_refl _)
    have N₅ := N₁.extBut he (Nat.le_refl _)
    refine assignInOrder_cons (wpAny_assign_Name (wpAny_storeName_local hy F₅.ns (fun h₆ hn₆ hs₆ => ?_) hp))
    have F₆ := F₅.set hn₆ hs₆
    have N₆ : News h₀ env.locals h₆ (own ++ news₁) := N₅.set hs₆
    refine assignInOrder_cons (wpAny_assign_Name (wpAny_storeName_local hz F₆.ns (fun h₇ hn₇ hs₇ => ?_) hp))
    have F₇ := F₆.set hn₇ hs₇
    have N₇ : News h₀ env.locals h₇ (own ++ news₁) := N₆.set hs₇
    refine assignInOrder_nil ?_
    refine wpAny_mono (turn i c t u m₁ h₇ _ own hc hJ hsep F₇ (news_sub N₇ es_swap)) (fun f s₂ hq => ?_) fun _ _ e => e
    obtain ⟨rfl, h₈, tk₈, m₈, rfl, F₈, N₈, hJ₈⟩ := hq
    exact .next ⟨rfl, h₈, tk₈, m₈, news₁, rfl, F₈, news_sub N₈ es_swap, hnw, rfl, hJ₈⟩
  · rintro h₁ tk m' news' F₁ N₁ _ ⟨rfl, hJ⟩
    exact done m' h₁ tk hJ F₁ N₁
theorem EsPost.intro {L : Addr} {J : (PySem.Str → Option Value) → Prop} {own news : List (Addr × Obj)} {s₁ : Shared} {h' : Heap} {tk : Nat} {m' : PySem.Str → Option Value} (F : Fr h₀ L h' m') (N : News h₀ L h' (news ++ own)) (hj : J m') :
    EsPost h₀ L J own news s₁ .next { s₁ with heap := h', toks := tk } := ⟨rfl, h', tk, m', rfl, F, N, hj⟩
end
/-- the text that the loop grows, and the two names that it turns -/
structure TxS where
  x : PySem.Str
  t : Tok
  u : Option Value
  v : Option Value
def txM (m₀ : PySem.Str → Option Value) (c : TxS) : PySem.Str → Option Value := fun y => if y = "text" then some (.str c.x c.t) else if y = "sign" then c.u else if y = "k" then c.v else m₀ y
theorem txM_start {m : PySem.Str → Option Value} {x : PySem.Str} {t : Tok} {u v : Option Value} (h : m "text" = some (.str x t)) (hu : m "sign" = u) (hv : m "k" = v) : m = txM m ⟨x, t, u, v⟩ := by
  funext y
  unfold txM
  by_cases e1 : y = "text"
  · rw [if_pos e1, e1, h]
  · rw [if_neg e1]
    by_cases e2 : y = "sign"
    · rw [if_pos e2, e2, hu]
    · rw [if_neg e2]
      by_cases e3 : y = "k"
      · rw [if_pos e3, e3, hv]
      · rw [if_neg e3]
theorem tx_names : ¬ ((Str.ofString "text") = Str.ofString "sign") ∧ ¬ ((Str.ofString "text") = Str.ofString "k") ∧ ¬ ((Str.ofString "sign") = Str.ofString "k") := by decide +kernel
theorem txM_one {m : PySem.Str → Option Value} {x' : PySem.Str} {t' : Tok} {u v a b d : Option Value} : (fun y : PySem.Str => if y = "text" then some (Value.str x' t') else if y = "sign" then u else if y = "k" then v else if y = "text" then a else if y = "sign" then b else if y = "k" then d else m y) = txM m ⟨x', t', u, v⟩ := by
  funext y
  unfold txM
  by_cases e1 : y = "text"
  · simp only [if_pos e1]
  · by_cases e2 : y = "sign"
    · simp only [if_neg e1, if_pos e2]
    · by_cases e3 : y = "k"
      · simp only [if_neg e1, if_neg e2, if_pos e3]
      · simp only [if_neg e1, if_neg e2, if_neg e3]
theorem txM_two {m : PySem.Str → Option Value} {x' : PySem.Str} {t' : Tok} {u v a a2 b d : Option Value} : (fun y : PySem.Str => if y = "text" then some (Value.str x' t') else if y = "text" then a2 else if y = "sign" then u else if y = "k" then v else if y = "text" then a else if y = "sign" then b else if y = "k" then d else m y) = txM m ⟨x', t', u, v⟩ := by
  funext y
  unfold txM
  by_cases e1 : y = "text"
  · simp only [if_pos e1]
  · by_cases e2 : y = "sign"
    · simp only [if_neg e1, if_pos e2]
    · by_cases e3 : y = "k"
      · simp only [if_neg e1, if_neg e2, if_pos e3]
      · simp only [if_neg e1, if_neg e2, if_neg e3]
section
variable {prog : Program} {w : World} {A : Around} {E : Value → Shared → Prop} {s : Shared} {x y : PySem.Str} {t u : Tok} {X : Int} {Q : Value → Shared → Prop}
theorem mul_to (n : Nat) (e : X = (n : Int)) (hx : x.length ≤ 2) (hn : n ≤ 4500) (h : ∀ t' k, Q (.str (Txt.mul x (n : Int)) t') { s with toks := k }) : wpAny (model prog w) A (binaryOp .Mult (.str x t) (.int X u)) Q E s := by
  subst e
  exact SB.mul (mulOk_of 16 1048576 (by lia) (by lia) (by lia) (by decide) (by decide)) h
theorem str_num {N cn : Nat} (hc9 : cn ≤ 9) (hN2 : N < 10 ^ cn) (h : Q (.str (toString ((N : Nat) : Int)) s.toks) { s with toks := s.toks + 1 }) : wpAny (model prog w) A (call (.type "str") [.int (N : Int) t]) Q E s := by
  have h1 : (10 : Nat) ^ cn ≤ 10 ^ 9 := Nat.pow_le_pow_right (by lia) hc9
  exact P.str_of_int (shown (N := 2 ^ 1920) (by lia) (by lia) (Int.le_refl _)) h
theorem iadd_to (hx : x.length ≤ 20000) (hy : y.length ≤ 20000) (h : ∀ t' k, Q (.str (x ++ y) t') { s with toks := k }) : wpAny (model prog w) A (inplaceOp .Add (.str x t) (.str y u)) Q E s :=
  SB.iadd h (by rw [sizeLine_eq]; lia)
theorem add_to' (hx : x.length ≤ 10000) (hy : y.length ≤ 10000) (h : ∀ t' k, Q (.str (x ++ y) t') { s with toks := k }) : wpAny (model prog w) A (binaryOp .Add (.str x t) (.str y u)) Q E s :=
  KXadd.add hx hy (by decide) fun t' k _ => h t' k
end
end
example {prog : Program} {w : World} {A : Around} {env : Env} {Q : Flow → Shared → Prop} {E : Value → Shared → Prop} {s : Shared} (h : wpAny (model prog w) A (execs [] env) Q E s) : wpAny (model prog w) A (execs [] env) Q E s := by ((k_with "now" => have kReset : True := trivial); (k_with "piece" => have kP_LT3 : True := trivial); w_top off; first | (walk1; fail) | exact h)
section
example : True := by
  k_with "m binaryOp Mult str int" => ((fail_if_success (fail_if_success (k_extra "piece"; clear kP_LT3))); k_extra "ov MultS")
  k_with "m call type:str" => ((fail_if_success (fail_if_success (k_extra "piece"; clear kP_LT3))); k_extra "ov str")
  k_with "m call type:enumerate" => ((fail_if_success (fail_if_success (k_extra "piece"; clear kP_LT3))); k_extra "ov enum")
  k_with "m inplaceOp Add str str" => ((fail_if_success (fail_if_success (k_extra "piece"; clear kP_LT3))); k_extra "ov iaddS")
  k_with "m binaryOp Add str str" => ((fail_if_success (fail_if_success (k_extra "piece"; clear kP_LT3))); k_extra "ov addS")
  trivial
section
variable {w : World} {p0 : Program} {loose : List Str} {mean : ExcName → Option Value} {mg mb : Str → Option Value}
end
namespace sk_law_T3
abbrev skD : Type := (World) × (Program) × (List PySem.Str) × (ExcName → Option Value) × (PySem.Str → Option Value) × (PySem.Str → Option Value) × (Addr) × (Value) × (Heap) × (Addr) × (Shared) × (Str → Option Value) × (Value → Shared → Prop) × (Obj) × (Obj) × (Obj) × (Obj) × (Obj) × (Nat) × (Nat) × (Int) × (Int) × (PySem.Str) × (PySem.Str) × (Tok) × (Tok) × (Tok) × (Tok) × (Tok) × (Tok)
def skP (w : World) (p0 : Program) (loose : List PySem.Str) (mean : ExcName → Option Value) (mg : PySem.Str → Option Value) (mb : PySem.Str → Option Value) (fa : Addr) (cd : Value) (g : Heap) (L : Addr) (s : Shared) (u9 : Str → Option Value) (E1 : Value → Shared → Prop) (oP : Obj) (oL : Obj) (oF : Obj) (o1 : Obj) (oW : Obj) (cn : Nat) (N : Nat) (p : Int) (c3 : Int) (wa : PySem.Str) (wb : PySem.Str) (ta : Tok) (tb : Tok) (tn : Tok) (td : Tok) (tc : Tok) (tp : Tok) : Prop := ∀ (hc1 : 1 ≤ cn) (hc9 : cn ≤ 9) (hN1 : 10 ^ (cn - 1) ≤ N) (hN2 : N < 10 ^ cn) (hp1 : -4500 ≤ p) (hp2 : p ≤ 4500) (hab : (wa = "0_" ∧ wb = "_0") ∨ (wa = "0" ∧ wb = "0")) (F : Fr g L s.heap (fun y => if y = "behind" then some (.str wb tb) else if y = "ahead" then some (.str wa ta) else if y = "number" then some (.int N tn) else if y = "count" then some (.int cn tc) else if y = "dress" then some (.int c3 td) else u9 y)) (N0 : News g L s.heap [(L + 1 + 1 + 1 + 1 + 1 + 1, oW), (L + 1 + 1 + 1 + 1 + 1, o1), (L + 1 + 1 + 1 + 1, oF), (L + 1 + 1 + 1, oL), (L + 1 + 1, oP), (59, tabObj #[]), (52, tabObj #[]), (24, tabObj #[])]) (dP : oP.data = .cell (some (.int p tp))) (dL : oL.data = .cell none) (dF : oF.data = .cell none) (d1 : o1.data = .cell none) (dW : oW.data = .cell none) (hL : @LT.lt Nat _ 59 L) (htk : 1 ≤ s.toks) (B : Below callerA g [] g) (X : (Mine.hd.heap_1 w.params).In g) (T : Top p0 loose mean mg mb g) (CH1 : CodeHd g 28 24) (CH2 : CodeHd g 56 52) (CH3 : CodeHd g 63 59),
    wpAny (model PySem.Challenge.rw_xi0020_01.prog w) (callerA.deeper (lawEnv L fa cd)) (execs (lawBody.drop 5) (lawEnv L fa cd)) (LawEnd g L s)
      (fun e s' => wpAny (model PySem.Challenge.rw_xi0020_01.prog w) (callerA.deeper (lawEnv L fa cd)) (leaving (lawEnv L fa cd) e) (fun _ s'' => E1 e s'') (fun e' s'' => E1 e' s'') s') s
theorem skN : Nonempty skD := ⟨(Classical.choice neWorld, default, default, default, default, default, default, default, default, default, ({} : Shared), default, default, default, default, default, default, default, default, default, default, default, default, default, default, default, default, default, default, default)⟩
@[irreducible] noncomputable def skK : skD := @Classical.epsilon skD skN fun d => ¬ skP d.1 d.2.1 d.2.2.1 d.2.2.2.1 d.2.2.2.2.1 d.2.2.2.2.2.1 d.2.2.2.2.2.2.1 d.2.2.2.2.2.2.2.1 d.2.2.2.2.2.2.2.2.1 d.2.2.2.2.2.2.2.2.2.1 d.2.2.2.2.2.2.2.2.2.2.1 d.2.2.2.2.2.2.2.2.2.2.2.1 d.2.2.2.2.2.2.2.2.2.2.2.2.1 d.2.2.2.2.2.2.2.2.2.2.2.2.2.1 d.2.2.2.2.2.2.2.2.2.2.2.2.2.2.1 d.2.2.2.2.2.2.2.2.2.2.2.2.2.2.2.1 d.2.2.2.2.2.2.2.2.2.2.2.2.2.2.2.2.1 d.2.2.2.2.2.2.2.2.2.2.2.2.2.2.2.2.2.1 d.2.2.2.2.2.2.2.2.2.2.2.2.2.2.2.2.2.2.1 d.2.2.2.2.2.2.2.2.2.2.2.2.2.2.2.2.2.2.2.1 d.2.2.2.2.2.2.2.2.2.2.2.2.2.2.2.2.2.2.2.2.1 d.2.2.2.2.2.2.2.2.2.2.2.2.2.2.2.2.2.2.2.2.2.1 d.2.2.2.2.2.2.2.2.2.2.2.2.2.2.2.2.2.2.2.2.2.2.1 d.2.2.2.2.2.2.2.2.2.2.2.2.2.2.2.2.2.2.2.2.2.2.2.1 d.2.2.2.2.2.2.2.2.2.2.2.2.2.2.2.2.2.2.2.2.2.2.2.2.1 d.2.2.2.2.2.2.2.2.2.2.2.2.2.2.2.2.2.2.2.2.2.2.2.2.2.1 d.2.2.2.2.2.2.2.2.2.2.2.2.2.2.2.2.2.2.2.2.2.2.2.2.2.2.1 d.2.2.2.2.2.2.2.2.2.2.2.2.2.2.2.2.2.2.2.2.2.2.2.2.2.2.2.1 d.2.2.2.2.2.2.2.2.2.2.2.2.2.2.2.2.2.2.2.2.2.2.2.2.2.2.2.2.1 d.2.2.2.2.2.2.2.2.2.2.2.2.2.2.2.2.2.2.2.2.2.2.2.2.2.2.2.2.2
@[irreducible] noncomputable def w : World := skK.1
@[irreducible] noncomputable def p0 : Program := skK.2.1
@[irreducible] noncomputable def loose : List PySem.Str := skK.2.2.1
@[irreducible] noncomputable def mean : ExcName → Option Value := skK.2.2.2.1
@[irreducible] noncomputable def mg : PySem.Str → Option Value := skK.2.2.2.2.1
@[irreducible] noncomputable def mb : PySem.Str → Option Value := skK.2.2.2.2.2.1
@[irreducible] noncomputable def fa : Addr := skK.2.2.2.2.2.2.1
@[irreducible] noncomputable def cd : Value := skK.2.2.2.2.2.2.2.1
@[irreducible] noncomputable def g : Heap := skK.2.2.2.2.2.2.2.2.1
@[irreducible] noncomputable def L : Addr := skK.2.2.2.2.2.2.2.2.2.1
@[irreducible] noncomputable def s : Shared := skK.2.2.2.2.2.2.2.2.2.2.1
@[irreducible] noncomputable def u9 : Str → Option Value := skK.2.2.2.2.2.2.2.2.2.2.2.1
@[irreducible] noncomputable def E1 : Value → Shared → Prop := skK.2.2.2.2.2.2.2.2.2.2.2.2.1
@[irreducible] noncomputable def oP : Obj := skK.2.2.2.2.2.2.2.2.2.2.2.2.2.1
@[irreducible] noncomputable def oL : Obj := skK.2.2.2.2.2.2.2.2.2.2.2.2.2.2.1
@[irreducible] noncomputable def oF : Obj := skK.2.2.2.2.2.2.2.2.2.2.2.2.2.2.2.1
@[irreducible] noncomputable def o1 : Obj := skK.2.2.2.2.2.2.2.2.2.2.2.2.2.2.2.2.1
@[irreducible] noncomputable def oW : Obj := skK.2.2.2.2.2.2.2.2.2.2.2.2.2.2.2.2.2.1
@[irreducible] noncomputable def cn : Nat := skK.2.2.2.2.2.2.2.2.2.2.2.2.2.2.2.2.2.2.1
@[irreducible] noncomputable def N : Nat := skK.2.2.2.2.2.2.2.2.2.2.2.2.2.2.2.2.2.2.2.1
@[irreducible] noncomputable def p : Int := skK.2.2.2.2.2.2.2.2.2.2.2.2.2.2.2.2.2.2.2.2.1
@[irreducible] noncomputable def c3 : Int := skK.2.2.2.2.2.2.2.2.2.2.2.2.2.2.2.2.2.2.2.2.2.1
@[irreducible] noncomputable def wa : PySem.Str := skK.2.2.2.2.2.2.2.2.2.2.2.2.2.2.2.2.2.2.2.2.2.2.1
@[irreducible] noncomputable def wb : PySem.Str := skK.2.2.2.2.2.2.2.2.2.2.2.2.2.2.2.2.2.2.2.2.2.2.2.1
@[irreducible] noncomputable def ta : Tok := skK.2.2.2.2.2.2.2.2.2.2.2.2.2.2.2.2.2.2.2.2.2.2.2.2.1
@[irreducible] noncomputable def tb : Tok := skK.2.2.2.2.2.2.2.2.2.2.2.2.2.2.2.2.2.2.2.2.2.2.2.2.2.1
@[irreducible] noncomputable def tn : Tok := skK.2.2.2.2.2.2.2.2.2.2.2.2.2.2.2.2.2.2.2.2.2.2.2.2.2.2.1
@[irreducible] noncomputable def td : Tok := skK.2.2.2.2.2.2.2.2.2.2.2.2.2.2.2.2.2.2.2.2.2.2.2.2.2.2.2.1
@[irreducible] noncomputable def tc : Tok := skK.2.2.2.2.2.2.2.2.2.2.2.2.2.2.2.2.2.2.2.2.2.2.2.2.2.2.2.2.1
@[irreducible] noncomputable def tp : Tok := skK.2.2.2.2.2.2.2.2.2.2.2.2.2.2.2.2.2.2.2.2.2.2.2.2.2.2.2.2.2
theorem skAll (hb : skP w p0 loose mean mg mb fa cd g L s u9 E1 oP oL oF o1 oW cn N p c3 wa wb ta tb tn td tc tp) : ∀ (y0 : World) (y1 : Program) (y2 : List PySem.Str) (y3 : ExcName → Option Value) (y4 : PySem.Str → Option Value) (y5 : PySem.Str → Option Value) (y6 : Addr) (y7 : Value) (y8 : Heap) (y9 : Addr) (y10 : Shared) (y11 : Str → Option Value) (y12 : Value → Shared → Prop) (y13 : Obj) (y14 : Obj) (y15 : Obj) (y16 : Obj) (y17 : Obj) (y18 : Nat) (y19 : Nat) (y20 : Int) (y21 : Int) (y22 : PySem.Str) (y23 : PySem.Str) (y24 : Tok) (y25 : Tok) (y26 : Tok) (y27 : Tok) (y28 : Tok) (y29 : Tok), skP y0 y1 y2 y3 y4 y5 y6 y7 y8 y9 y10 y11 y12 y13 y14 y15 y16 y17 y18 y19 y20 y21 y22 y23 y24 y25 y26 y27 y28 y29 := by
  intro y0 y1 y2 y3 y4 y5 y6 y7 y8 y9 y10 y11 y12 y13 y14 y15 y16 y17 y18 y19 y20 y21 y22 y23 y24 y25 y26 y27 y28 y29
  refine Classical.byContradiction fun hn => ?_
  have h1 := @Classical.epsilon_spec skD (fun d => ¬ skP d.1 d.2.1 d.2.2.1 d.2.2.2.1 d.2.2.2.2.1 d.2.2.2.2.2.1 d.2.2.2.2.2.2.1 d.2.2.2.2.2.2.2.1 d.2.2.2.2.2.2.2.2.1 d.2.2.2.2.2.2.2.2.2.1 d.2.2.2.2.2.2.2.2.2.2.1 d.2.2.2.2.2.2.2.2.2.2.2.1 d.2.2.2.2.2.2.2.2.2.2.2.2.1 d.2.2.2.2.2.2.2.2.2.2.2.2.2.1 d.2.2.2.2.2.2.2.2.2.2.2.2.2.2.1 d.2.2.2.2.2.2.2.2.2.2.2.2.2.2.2.1 d.2.2.2.2.2.2.2.2.2.2.2.2.2.2.2.2.1 d.2.2.2.2.2.2.2.2.2.2.2.2.2.2.2.2.2.1 d.2.2.2.2.2.2.2.2.2.2.2.2.2.2.2.2.2.2.1 d.2.2.2.2.2.2.2.2.2.2.2.2.2.2.2.2.2.2.2.1 d.2.2.2.2.2.2.2.2.2.2.2.2.2.2.2.2.2.2.2.2.1 d.2.2.2.2.2.2.2.2.2.2.2.2.2.2.2.2.2.2.2.2.2.1 d.2.2.2.2.2.2.2.2.2.2.2.2.2.2.2.2.2.2.2.2.2.2.1 d.2.2.2.2.2.2.2.2.2.2.2.2.2.2.2.2.2.2.2.2.2.2.2.1 d.2.2.2.2.2.2.2.2.2.2.2.2.2.2.2.2.2.2.2.2.2.2.2.2.1 d.2.2.2.2.2.2.2.2.2.2.2.2.2.2.2.2.2.2.2.2.2.2.2.2.2.1 d.2.2.2.2.2.2.2.2.2.2.2.2.2.2.2.2.2.2.2.2.2.2.2.2.2.2.1 d.2.2.2.2.2.2.2.2.2.2.2.2.2.2.2.2.2.2.2.2.2.2.2.2.2.2.2.1 d.2.2.2.2.2.2.2.2.2.2.2.2.2.2.2.2.2.2.2.2.2.2.2.2.2.2.2.2.1 d.2.2.2.2.2.2.2.2.2.2.2.2.2.2.2.2.2.2.2.2.2.2.2.2.2.2.2.2.2) ⟨(y0, y1, y2, y3, y4, y5, y6, y7, y8, y9, y10, y11, y12, y13, y14, y15, y16, y17, y18, y19, y20, y21, y22, y23, y24, y25, y26, y27, y28, y29), hn⟩
  delta w p0 loose mean mg mb fa cd g L s u9 E1 oP oL oF o1 oW cn N p c3 wa wb ta tb tn td tc tp at hb
  delta skK at hb
  exact h1 hb
theorem skBody : skP w p0 loose mean mg mb fa cd g L s u9 E1 oP oL oF o1 oW cn N p c3 wa wb ta tb tn td tc tp := by
  unfold skP
  intro hc1 hc9 hN1 hN2 hp1 hp2 hab F N0 dP dL dF d1 dW hL htk B X T CH1 CH2 CH3
  unfold lawEnv
  conv in (List.drop 5 lawBody) => whnf
  conv in (occs := *) lawScope => all_goals whnf
  revert X; k_fill; intro X
  k_with "now" => have kNow25 : True := trivial
  obtain ⟨z, hz, hz9⟩ := law_z (c3.fdiv (2 ^ (13 : Int).toNat))
  k_with "ov Mod" => ((fail_if_success (fail_if_success (k_extra "now"; clear kNow25))); (refine mod_to (z : Int) (by decide) hz ?_; intro _ _; (try dsimp only)))
  have hAB : AB wa wb := hab
  obtain ⟨hwa, hwb⟩ := ab_len hAB
  obtain ⟨hdl, hdd, hdv⟩ := num_signs hc1 hN1 hN2
  k_with "ov MultS" => ((fail_if_success (fail_if_success (k_extra "now"; clear kNow25))); first | (refine mul_to z rfl hwa (by lia) ?_; intro _ _; (try dsimp only)) | (refine mul_to p.toNat rfl hwb (by lia) ?_; intro _ _; (try dsimp only)))
  k_with "ov str" => ((fail_if_success (fail_if_success (k_extra "now"; clear kNow25))); (refine str_num hc9 hN2 ?_; (try dsimp only)))
  k_with "ov item" => ((fail_if_success (fail_if_success (k_extra "now"; clear kNow25))); ((rename Fr _ _ _ _ => lF8); (rename News _ _ _ _ => lN8); (refine slice_strN_ns (hsz := ?hsz) (s := ⟨_, _, _, _, _⟩) lF8 lN8 ?_); (case hsz => exact Nat.le_of_ble_eq_true rfl); intro h8 t8 k8 F8 N8; clear lF8 lN8; (try dsimp only)))
  k_with "ov enum" => ((fail_if_success (fail_if_success (k_extra "now"; clear kNow25))); refine stopL ?_)
  k_with "toks" => ((fail_if_success (fail_if_success (k_extra "now"; clear kNow25))); first | ((with_reducible show wpAny _ _ (execs (Stmt.For _ _ _ _ _ :: _) _) _ _ _); refine stopL ?_) | (refine genToks ?_; intro tk9 htk9; (try dsimp only at htk9)) | ((with_reducible refine execsT ?_); (try dsimp only)))
  try k_fold
  k_steps
  refine Stop.go ?_
  refine execsT ?_
  (rename Fr _ _ _ _ => lF9)
  refine For_turns lF9 ?_
  try k_fold
  k_steps
  refine Stop.go ?_
  (rename Fr _ _ _ _ => lF9)
  (rename News _ _ _ _ => lN9)
  have hall : (PySem.Str.ofString (toString ((N : Nat) : Int))).cps.all (· < 128) = true := by
    rw [Array.all_eq_true']
    intro c hc
    have := hdd c (by simpa using hc)
    simp; lia
  refine for_estr (fun i m => ∃ c mid, m = txM _ c ∧ MidI (PySem.Str.ofString (toString ((N : Nat) : Int))).cps.toList i mid ∧ c.x.cps.toList = (PySem.Txt.mul wa (z : Int)).cps.toList ++ mid) rfl rfl rfl rfl hall lF9 lN9 ⟨⟨_, _, _, _⟩, [], txM_start rfl rfl rfl, MidI.start _, (List.append_nil _).symm⟩ ?_ ?_
  · rintro i c t u m₁ h9 tk9 own hc ⟨⟨x9, tx9, u8, v8⟩, mid, rfl, hmid, hx9⟩ hsep F9 N9
    clear lF9 lN9
    simp only [List.cons_append, List.nil_append] at N9
    unfold txM at F9
    dsimp only at F9 hx9
    have hdc := hdd c (Array.mem_toList_iff.mpr (Array.mem_of_getElem? hc))
    have hcl : (PySem.Str.ofString (toString ((N : Nat) : Int))).cps.toList[i]? = some c := by simpa using hc
    have hil : i < cn := by
      have := (List.getElem?_eq_some_iff.mp hcl).1
      lia
    have hxl := mid_len hmid hx9
    have hml := mul_len2 (n := z) hwa
    have h20 : x9.length ≤ 5000 := by lia
    k_with "now" => have kNow26 : True := trivial
    k_with "ov iaddS" => ((fail_if_success (fail_if_success (k_extra "now"; clear kNow26))); first | (refine iadd_to (Nat.le_trans h20 (by decide)) (one_len _) ?_; intro _ _; (try dsimp only)) | (refine iadd_to (Nat.le_trans (signed_len h20) (by decide)) under_len ?_; intro _ _; (try dsimp only)))
    try k_fold
    k_steps
    all_goals (rename Fr _ _ _ _ => lF8)
    all_goals (rename News _ _ _ _ => lN8)
    · exact EsPost.intro lF8 lN8 ⟨⟨_, _, _, _⟩, _, txM_two, hmid.under hcl hdc.1 hdc.2 (by lia), tx_under hx9⟩
    · exact EsPost.intro lF8 lN8 ⟨⟨_, _, _, _⟩, _, txM_one, hmid.sign hcl hdc.1 hdc.2, tx_sign hx9⟩
    · exact EsPost.intro lF8 lN8 ⟨⟨_, _, _, _⟩, _, txM_one, hmid.sign hcl hdc.1 hdc.2, tx_sign hx9⟩
  · rintro m₁ h9 tk9 ⟨⟨x9, tx9, u8, v8⟩, mid, rfl, hmid, hx9⟩ F9 N9
    clear lF9 lN9
    unfold txM at F9
    dsimp only at F9 hx9 ⊢
    intro htk9
    have hxl := mid_len hmid hx9
    have hml := mul_len2 (n := z) hwa
    have hml2 := mul_len2 (n := p.toNat) hwb
    have hsz : (PySem.Str.ofString (toString ((N : Nat) : Int))).cps.size = cn := by rw [← hdl]; simp
    rw [hsz] at hxl
    k_with "now" => have kNow27 : True := trivial
    k_with "ov MultS" => ((fail_if_success (fail_if_success (k_extra "now"; clear kNow27))); (refine mul_to p.toNat rfl hwb (by lia) ?_; intro _ _; (try dsimp only)))
    k_with "ov item" => ((fail_if_success (fail_if_success (k_extra "now"; clear kNow27))); ((rename Fr _ _ _ _ => lF8); (rename News _ _ _ _ => lN8); (refine slice_strN_ns (hsz := ?hsz) (s := ⟨_, _, _, _, _⟩) lF8 lN8 ?_); (case hsz => exact Nat.le_of_ble_eq_true rfl); intro h8 t8 k8 F8 N8; clear lF8 lN8; (try dsimp only)))
    k_with "ov addS" => ((fail_if_success (fail_if_success (k_extra "now"; clear kNow27))); (refine add_to' (by lia) (Nat.le_trans (blanks_len _) (by decide)) ?_; intro _ _; (try dsimp only)))
    k_with "ov iaddS" => ((fail_if_success (fail_if_success (k_extra "now"; clear kNow27))); (refine iadd_to (by lia) (by rw [PySem.Str.length_append]; exact Nat.le_trans (Nat.add_le_add_left (blanks_len _) _) (by lia)) ?_; intro _ _; (try dsimp only)))
    k_with "toks" => ((fail_if_success (fail_if_success (k_extra "now"; clear kNow27))); first | ((with_reducible show wpAny _ _ (execs (Stmt.Assign [Expr.Tuple _ _ _] _ _ :: _) _) _ _ _); refine stopL ?_) | (refine genToks ?_; intro tk9 htk9; (try dsimp only at htk9)) | ((with_reducible refine execsT ?_); (try dsimp only)))
    try k_fold
    k_steps
    refine Stop.go ?_
    (rename Fr _ _ _ _ => lF8)
    (rename News _ _ _ _ => lN8)
    obtain ⟨body, tail, ini, dg, a1, a2, a3, a4, a5, a6, a7, a8⟩ := text_all (j := Builtin.bitAnd (c3.fdiv (2 ^ (9 : Int).toNat)) 3) hAB hc1 hc9 hN1 hN2 hz9 hp2 hmid hx9
    exact law_B cn N p c3 _ _ _ _ _ _ body tail ini dg hc1 hc9 hN1 hN2 hp1 hp2 a1 a2 a3 a4 a5 a6 a7 a8
      (fr_pin (fr_pin (fr_pin (fr_pin lF8 (y := "dress") rfl) (y := "number") rfl) (y := "count") rfl) (y := "text") rfl) lN8 dP dL dF d1 dW hL (by walk_at "tkom") B X T CH1 CH2 CH3
end sk_law_T3
section
variable {w : World} {p0 : Program} {loose : List Str} {mean : ExcName → Option Value} {mg mb : Str → Option Value}
theorem law_T3 {fa : Addr} {cd : Value} {g : Heap} {L : Addr} {s : Shared} {u9 : Str → Option Value} {E1 : Value → Shared → Prop} {oP oL oF o1 oW : Obj} (cn N : Nat) (p c3 : Int) (wa wb : PySem.Str) (ta tb tn td tc tp : Tok)
    (hc1 : 1 ≤ cn) (hc9 : cn ≤ 9) (hN1 : 10 ^ (cn - 1) ≤ N) (hN2 : N < 10 ^ cn) (hp1 : -4500 ≤ p) (hp2 : p ≤ 4500) (hab : (wa = "0_" ∧ wb = "_0") ∨ (wa = "0" ∧ wb = "0"))
    (F : Fr g L s.heap (fun y => if y = "behind" then some (.str wb tb) else if y = "ahead" then some (.str wa ta) else if y = "number" then some (.int N tn) else if y = "count" then some (.int cn tc) else if y = "dress" then some (.int c3 td) else u9 y))
    (N0 : News g L s.heap [(L + 1 + 1 + 1 + 1 + 1 + 1, oW), (L + 1 + 1 + 1 + 1 + 1, o1), (L + 1 + 1 + 1 + 1, oF), (L + 1 + 1 + 1, oL), (L + 1 + 1, oP), (59, tabObj #[]), (52, tabObj #[]), (24, tabObj #[])])
    (dP : oP.data = .cell (some (.int p tp))) (dL : oL.data = .cell none) (dF : oF.data = .cell none) (d1 : o1.data = .cell none) (dW : oW.data = .cell none)
    (hL : @LT.lt Nat _ 59 L) (htk : 1 ≤ s.toks) (B : Below callerA g [] g) (X : (Mine.hd.heap_1 w.params).In g) (T : Top p0 loose mean mg mb g)
    (CH1 : CodeHd g 28 24) (CH2 : CodeHd g 56 52) (CH3 : CodeHd g 63 59) :
    wpAny (model PySem.Challenge.rw_xi0020_01.prog w) (callerA.deeper (lawEnv L fa cd)) (execs (lawBody.drop 5) (lawEnv L fa cd)) (LawEnd g L s)
      (fun e s' => wpAny (model PySem.Challenge.rw_xi0020_01.prog w) (callerA.deeper (lawEnv L fa cd)) (leaving (lawEnv L fa cd) e) (fun _ s'' => E1 e s'') (fun e' s'' => E1 e' s'') s') s :=
  sk_law_T3.skAll sk_law_T3.skBody w p0 loose mean mg mb fa cd g L s u9 E1 oP oL oF o1 oW cn N p c3 wa wb ta tb tn td tc tp hc1 hc9 hN1 hN2 hp1 hp2 hab F N0 dP dL dF d1 dW hL htk B X T CH1 CH2 CH3

end
end
example {prog : Program} {w : World} {A : Around} {env : Env} {Q : Flow → Shared → Prop} {E : Value → Shared → Prop} {s : Shared} (h : wpAny (model prog w) A (execs [] env) Q E s) : wpAny (model prog w) A (execs [] env) Q E s := by ((k_with "now" => have kReset : True := trivial); (k_with "piece" => have kP_LT2 : True := trivial); w_top off; first | (walk1; fail) | exact h)
section
section
variable {w : World} {p0 : Program} {loose : List Str} {mean : ExcName → Option Value} {mg mb : Str → Option Value}
end
namespace sk_law_T2
abbrev skD : Type := (World) × (Program) × (List PySem.Str) × (ExcName → Option Value) × (PySem.Str → Option Value) × (PySem.Str → Option Value) × (Addr) × (Value) × (Heap) × (Addr) × (Shared) × (Str → Option Value) × (Value → Shared → Prop) × (Obj) × (Obj) × (Obj) × (Obj) × (Obj) × (Nat) × (Nat) × (Int) × (Int) × (Tok) × (Tok) × (Tok) × (Tok)
def skP (w : World) (p0 : Program) (loose : List PySem.Str) (mean : ExcName → Option Value) (mg : PySem.Str → Option Value) (mb : PySem.Str → Option Value) (fa : Addr) (cd : Value) (g : Heap) (L : Addr) (s : Shared) (u9 : Str → Option Value) (E1 : Value → Shared → Prop) (oP : Obj) (oL : Obj) (oF : Obj) (o1 : Obj) (oW : Obj) (cn : Nat) (N : Nat) (p : Int) (c3 : Int) (tn : Tok) (td : Tok) (tc : Tok) (tp : Tok) : Prop := ∀ (hc1 : 1 ≤ cn) (hc9 : cn ≤ 9) (hN1 : 10 ^ (cn - 1) ≤ N) (hN2 : N < 10 ^ cn) (hp1 : -4500 ≤ p) (hp2 : p ≤ 4500) (F : Fr g L s.heap (fun y => if y = "number" then some (.int N tn) else if y = "count" then some (.int cn tc) else if y = "dress" then some (.int c3 td) else u9 y)) (N0 : News g L s.heap [(L + 1 + 1 + 1 + 1 + 1 + 1, oW), (L + 1 + 1 + 1 + 1 + 1, o1), (L + 1 + 1 + 1 + 1, oF), (L + 1 + 1 + 1, oL), (L + 1 + 1, oP), (59, tabObj #[]), (52, tabObj #[]), (24, tabObj #[])]) (dP : oP.data = .cell (some (.int p tp))) (dL : oL.data = .cell none) (dF : oF.data = .cell none) (d1 : o1.data = .cell none) (dW : oW.data = .cell none) (hL : @LT.lt Nat _ 59 L) (htk : 1 ≤ s.toks) (B : Below callerA g [] g) (X : (Mine.hd.heap_1 w.params).In g) (T : Top p0 loose mean mg mb g) (CH1 : CodeHd g 28 24) (CH2 : CodeHd g 56 52) (CH3 : CodeHd g 63 59),
    wpAny (model PySem.Challenge.rw_xi0020_01.prog w) (callerA.deeper (lawEnv L fa cd)) (execs (lawBody.drop 4) (lawEnv L fa cd)) (LawEnd g L s)
      (fun e s' => wpAny (model PySem.Challenge.rw_xi0020_01.prog w) (callerA.deeper (lawEnv L fa cd)) (leaving (lawEnv L fa cd) e) (fun _ s'' => E1 e s'') (fun e' s'' => E1 e' s'') s') s
theorem skN : Nonempty skD := ⟨(Classical.choice neWorld, default, default, default, default, default, default, default, default, default, ({} : Shared), default, default, default, default, default, default, default, default, default, default, default, default, default, default, default)⟩
@[irreducible] noncomputable def skK : skD := @Classical.epsilon skD skN fun d => ¬ skP d.1 d.2.1 d.2.2.1 d.2.2.2.1 d.2.2.2.2.1 d.2.2.2.2.2.1 d.2.2.2.2.2.2.1 d.2.2.2.2.2.2.2.1 d.2.2.2.2.2.2.2.2.1 d.2.2.2.2.2.2.2.2.2.1 d.2.2.2.2.2.2.2.2.2.2.1 d.2.2.2.2.2.2.2.2.2.2.2.1 d.2.2.2.2.2.2.2.2.2.2.2.2.1 d.2.2.2.2.2.2.2.2.2.2.2.2.2.1 d.2.2.2.2.2.2.2.2.2.2.2.2.2.2.1 d.2.2.2.2.2.2.2.2.2.2.2.2.2.2.2.1 d.2.2.2.2.2.2.2.2.2.2.2.2.2.2.2.2.1 d.2.2.2.2.2.2.2.2.2.2.2.2.2.2.2.2.2.1 d.2.2.2.2.2.2.2.2.2.2.2.2.2.2.2.2.2.2.1 d.2.2.2.2.2.2.2.2.2.2.2.2.2.2.2.2.2.2.2.1 d.2.2.2.2.2.2.2.2.2.2.2.2.2.2.2.2.2.2.2.2.1 d.2.2.2.2.2.2.2.2.2.2.2.2.2.2.2.2.2.2.2.2.2.1 d.2.2.2.2.2.2.2.2.2.2.2.2.2.2.2.2.2.2.2.2.2.2.1 d.2.2.2.2.2.2.2.2.2.2.2.2.2.2.2.2.2.2.2.2.2.2.2.1 d.2.2.2.2.2.2.2.2.2.2.2.2.2.2.2.2.2.2.2.2.2.2.2.2.1 d.2.2.2.2.2.2.2.2.2.2.2.2.2.2.2.2.2.2.2.2.2.2.2.2.2
@[irreducible] noncomputable def w : World := skK.1
@[irreducible] noncomputable def p0 : Program := skK.2.1
@[irreducible] noncomputable def loose : List PySem.Str := skK.2.2.1
@[irreducible] noncomputable def mean : ExcName → Option Value := skK.2.2.2.1
@[irreducible] noncomputable def mg : PySem.Str → Option Value := skK.2.2.2.2.1
@[irreducible] noncomputable def mb : PySem.Str → Option Value := skK.2.2.2.2.2.1
@[irreducible] noncomputable def fa : Addr := skK.2.2.2.2.2.2.1
@[irreducible] noncomputable def cd : Value := skK.2.2.2.2.2.2.2.1
@[irreducible] noncomputable def g : Heap := skK.2.2.2.2.2.2.2.2.1
@[irreducible] noncomputable def L : Addr := skK.2.2.2.2.2.2.2.2.2.1
@[irreducible] noncomputable def s : Shared := skK.2.2.2.2.2.2.2.2.2.2.1
@[irreducible] noncomputable def u9 : Str → Option Value := skK.2.2.2.2.2.2.2.2.2.2.2.1
@[irreducible] noncomputable def E1 : Value → Shared → Prop := skK.2.2.2.2.2.2.2.2.2.2.2.2.1
@[irreducible] noncomputable def oP : Obj := skK.2.2.2.2.2.2.2.2.2.2.2.2.2.1
@[irreducible] noncomputable def oL : Obj := skK.2.2.2.2.2.2.2.2.2.2.2.2.2.2.1
@[irreducible] noncomputable def oF : Obj := skK.2.2.2.2.2.2.2.2.2.2.2.2.2.2.2.1
@[irreducible] noncomputable def o1 : Obj := skK.2.2.2.2.2.2.2.2.2.2.2.2.2.2.2.2.1
@[irreducible] noncomputable def oW : Obj := skK.2.2.2.2.2.2.2.2.2.2.2.2.2.2.2.2.2.1
@[irreducible] noncomputable def cn : Nat := skK.2.2.2.2.2.2.2.2.2.2.2.2.2.2.2.2.2.2.1
@[irreducible] noncomputable def N : Nat := skK.2.2.2.2.2.2.2.2.2.2.2.2.2.2.2.2.2.2.2.1
@[irreducible] noncomputable def p : Int := skK.2.2.2.2.2.2.2.2.2.2.2.2.2.2.2.2.2.2.2.2.1
@[irreducible] noncomputable def c3 : Int := skK.2.2.2.2.2.2.2.2.2.2.2.2.2.2.2.2.2.2.2.2.2.1
@[irreducible] noncomputable def tn : Tok := skK.2.2.2.2.2.2.2.2.2.2.2.2.2.2.2.2.2.2.2.2.2.2.1
@[irreducible] noncomputable def td : Tok := skK.2.2.2.2.2.2.2.2.2.2.2.2.2.2.2.2.2.2.2.2.2.2.2.1
@[irreducible] noncomputable def tc : Tok := skK.2.2.2.2.2.2.2.2.2.2.2.2.2.2.2.2.2.2.2.2.2.2.2.2.1
@[irreducible] noncomputable def tp : Tok := skK.2.2.2.2.2.2.2.2.2.2.2.2.2.2.2.2.2.2.2.2.2.2.2.2.2
theorem skAll (hb : skP w p0 loose mean mg mb fa cd g L s u9 E1 oP oL oF o1 oW cn N p c3 tn td tc tp) : ∀ (y0 : World) (y1 : Program) (y2 : List PySem.Str) (y3 : ExcName → Option Value) (y4 : PySem.Str → Option Value) (y5 : PySem.Str → Option Value) (y6 : Addr) (y7 : Value) (y8 : Heap) (y9 : Addr) (y10 : Shared) (y11 : Str → Option Value) (y12 : Value → Shared → Prop) (y13 : Obj) (y14 : Obj) (y15 : Obj) (y16 : Obj) (y17 : Obj) (y18 : Nat) (y19 : Nat) (y20 : Int) (y21 : Int) (y22 : Tok) (y23 : Tok) (y24 : Tok) (y25 : Tok), skP y0 y1 y2 y3 y4 y5 y6 y7 y8 y9 y10 y11 y12 y13 y14 y15 y16 y17 y18 y19 y20 y21 y22 y23 y24 y25 := by
  intro y0 y1 y2 y3 y4 y5 y6 y7 y8 y9 y10 y11 y12 y13 y14 y15 y16 y17 y18 y19 y20 y21 y22 y23 y24 y25
  refine Classical.byContradiction fun hn => ?_
  have h1 := @Classical.epsilon_spec skD (fun d => ¬ skP d.1 d.2.1 d.2.2.1 d.2.2.2.1 d.2.2.2.2.1 d.2.2.2.2.2.1 d.2.2.2.2.2.2.1 d.2.2.2.2.2.2.2.1 d.2.2.2.2.2.2.2.2.1 d.2.2.2.2.2.2.2.2.2.1 d.2.2.2.2.2.2.2.2.2.2.1 d.2.2.2.2.2.2.2.2.2.2.2.1 d.2.2.2.2.2.2.2.2.2.2.2.2.1 d.2.2.2.2.2.2.2.2.2.2.2.2.2.1 d.2.2.2.2.2.2.2.2.2.2.2.2.2.2.1 d.2.2.2.2.2.2.2.2.2.2.2.2.2.2.2.1 d.2.2.2.2.2.2.2.2.2.2.2.2.2.2.2.2.1 d.2.2.2.2.2.2.2.2.2.2.2.2.2.2.2.2.2.1 d.2.2.2.2.2.2.2.2.2.2.2.2.2.2.2.2.2.2.1 d.2.2.2.2.2.2.2.2.2.2.2.2.2.2.2.2.2.2.2.1 d.2.2.2.2.2.2.2.2.2.2.2.2.2.2.2.2.2.2.2.2.1 d.2.2.2.2.2.2.2.2.2.2.2.2.2.2.2.2.2.2.2.2.2.1 d.2.2.2.2.2.2.2.2.2.2.2.2.2.2.2.2.2.2.2.2.2.2.1 d.2.2.2.2.2.2.2.2.2.2.2.2.2.2.2.2.2.2.2.2.2.2.2.1 d.2.2.2.2.2.2.2.2.2.2.2.2.2.2.2.2.2.2.2.2.2.2.2.2.1 d.2.2.2.2.2.2.2.2.2.2.2.2.2.2.2.2.2.2.2.2.2.2.2.2.2) ⟨(y0, y1, y2, y3, y4, y5, y6, y7, y8, y9, y10, y11, y12, y13, y14, y15, y16, y17, y18, y19, y20, y21, y22, y23, y24, y25), hn⟩
  delta w p0 loose mean mg mb fa cd g L s u9 E1 oP oL oF o1 oW cn N p c3 tn td tc tp at hb
  delta skK at hb
  exact h1 hb
theorem skBody : skP w p0 loose mean mg mb fa cd g L s u9 E1 oP oL oF o1 oW cn N p c3 tn td tc tp := by
  unfold skP
  intro hc1 hc9 hN1 hN2 hp1 hp2 F N0 dP dL dF d1 dW hL htk B X T CH1 CH2 CH3
  unfold lawEnv
  conv in (List.drop 4 lawBody) => whnf
  conv in (occs := *) lawScope => all_goals whnf
  revert X; k_fill; intro X
  k_with "now" => have kNow28 : True := trivial
  k_with "toks" => ((fail_if_success (fail_if_success (k_extra "now"; clear kNow28))); first | ((with_reducible show wpAny _ _ (execs (Stmt.Assign [Expr.Name _ _] _ _ :: _) _) _ _ _); refine stopL ?_) | (refine genToks ?_; intro tk9 htk9; (try dsimp only at htk9)) | ((with_reducible refine execsT ?_); (try dsimp only)))
  try k_fold
  k_steps
  · refine Stop.go ?_
    (rename News _ _ _ (_ :: _) => hN9)
    exact law_T3 cn N p c3 "0_" "_0" _ _ _ _ _ _ hc1 hc9 hN1 hN2 hp1 hp2 (.inl ⟨rfl, rfl⟩) (by assumption) (news_sub hN9 (by walk_at "allIn")) dP dL dF d1 dW hL (by walk_at "tkom") B X T CH1 CH2 CH3
  · refine Stop.go ?_
    (rename News _ _ _ (_ :: _) => hN9)
    exact law_T3 cn N p c3 "0" "0" _ _ _ _ _ _ hc1 hc9 hN1 hN2 hp1 hp2 (.inr ⟨rfl, rfl⟩) (by assumption) (news_sub hN9 (by walk_at "allIn")) dP dL dF d1 dW hL (by walk_at "tkom") B X T CH1 CH2 CH3
end sk_law_T2
section
variable {w : World} {p0 : Program} {loose : List Str} {mean : ExcName → Option Value} {mg mb : Str → Option Value}
theorem law_T2 {fa : Addr} {cd : Value} {g : Heap} {L : Addr} {s : Shared} {u9 : Str → Option Value} {E1 : Value → Shared → Prop} {oP oL oF o1 oW : Obj} (cn N : Nat) (p c3 : Int) (tn td tc tp : Tok)
    (hc1 : 1 ≤ cn) (hc9 : cn ≤ 9) (hN1 : 10 ^ (cn - 1) ≤ N) (hN2 : N < 10 ^ cn) (hp1 : -4500 ≤ p) (hp2 : p ≤ 4500)
    (F : Fr g L s.heap (fun y => if y = "number" then some (.int N tn) else if y = "count" then some (.int cn tc) else if y = "dress" then some (.int c3 td) else u9 y))
    (N0 : News g L s.heap [(L + 1 + 1 + 1 + 1 + 1 + 1, oW), (L + 1 + 1 + 1 + 1 + 1, o1), (L + 1 + 1 + 1 + 1, oF), (L + 1 + 1 + 1, oL), (L + 1 + 1, oP), (59, tabObj #[]), (52, tabObj #[]), (24, tabObj #[])])
    (dP : oP.data = .cell (some (.int p tp))) (dL : oL.data = .cell none) (dF : oF.data = .cell none) (d1 : o1.data = .cell none) (dW : oW.data = .cell none)
    (hL : @LT.lt Nat _ 59 L) (htk : 1 ≤ s.toks) (B : Below callerA g [] g) (X : (Mine.hd.heap_1 w.params).In g) (T : Top p0 loose mean mg mb g)
    (CH1 : CodeHd g 28 24) (CH2 : CodeHd g 56 52) (CH3 : CodeHd g 63 59) :
    wpAny (model PySem.Challenge.rw_xi0020_01.prog w) (callerA.deeper (lawEnv L fa cd)) (execs (lawBody.drop 4) (lawEnv L fa cd)) (LawEnd g L s)
      (fun e s' => wpAny (model PySem.Challenge.rw_xi0020_01.prog w) (callerA.deeper (lawEnv L fa cd)) (leaving (lawEnv L fa cd) e) (fun _ s'' => E1 e s'') (fun e' s'' => E1 e' s'') s') s :=
  sk_law_T2.skAll sk_law_T2.skBody w p0 loose mean mg mb fa cd g L s u9 E1 oP oL oF o1 oW cn N p c3 tn td tc tp hc1 hc9 hN1 hN2 hp1 hp2 F N0 dP dL dF d1 dW hL htk B X T CH1 CH2 CH3

end
end
example {prog : Program} {w : World} {A : Around} {env : Env} {Q : Flow → Shared → Prop} {E : Value → Shared → Prop} {s : Shared} (h : wpAny (model prog w) A (execs [] env) Q E s) : wpAny (model prog w) A (execs [] env) Q E s := by ((k_with "now" => have kReset : True := trivial); (k_with "piece" => have kP_LT1 : True := trivial); w_top off; first | (walk1; fail) | exact h)
section
example : True := by
  k_with "m subscriptTail Name Constant ref int" => ((fail_if_success (fail_if_success (k_extra "piece"; clear kP_LT1))); k_extra "ov item")
  trivial
open PyProof.Rows.LCg
section
variable {w : World} {p0 : Program} {loose : List Str} {mean : ExcName → Option Value} {mg mb : Str → Option Value}
end
namespace sk_law_T
abbrev skD : Type := (World) × (Program) × (List PySem.Str) × (ExcName → Option Value) × (PySem.Str → Option Value) × (PySem.Str → Option Value) × (Addr) × (Value) × (Heap) × (Addr) × (Shared) × (Str → Option Value) × (Value → Shared → Prop) × (Obj) × (Obj) × (Obj) × (Obj) × (Obj) × (Addr) × (Int) × (Int) × (Int) × (Int) × (Tok) × (Tok) × (Tok) × (Tok)
def skP (w : World) (p0 : Program) (loose : List PySem.Str) (mean : ExcName → Option Value) (mg : PySem.Str → Option Value) (mb : PySem.Str → Option Value) (fa : Addr) (cd : Value) (g : Heap) (L : Addr) (s : Shared) (u9 : Str → Option Value) (E1 : Value → Shared → Prop) (oP : Obj) (oL : Obj) (oF : Obj) (o1 : Obj) (oW : Obj) (D : Addr) (c0 : Int) (c1 : Int) (c2 : Int) (c3 : Int) (t0 : Tok) (t1 : Tok) (t2 : Tok) (t3 : Tok) : Prop := ∀ (hD : @LT.lt Nat _ (L + 1 + 1 + 1 + 1 + 1 + 1) D) (F : Fr g L s.heap (fun y => if y = "cells" then some (.ref D) else u9 y)) (N0 : News g L s.heap [(D, lst [.int c0 t0, .int c1 t1, .int c2 t2, .int c3 t3]), (L + 1 + 1 + 1 + 1 + 1 + 1, oW), (L + 1 + 1 + 1 + 1 + 1, o1), (L + 1 + 1 + 1 + 1, oF), (L + 1 + 1 + 1, oL), (L + 1 + 1, oP), (59, tabObj #[]), (52, tabObj #[]), (24, tabObj #[])]) (dP : oP.data = .cell none) (dL : oL.data = .cell none) (dF : oF.data = .cell none) (d1 : o1.data = .cell none) (dW : oW.data = .cell none) (hL : @LT.lt Nat _ 59 L) (htk : 1 ≤ s.toks) (B : Below callerA g [] g) (X : (Mine.hd.heap_1 w.params).In g) (T : Top p0 loose mean mg mb g) (CH1 : CodeHd g 28 24) (CH2 : CodeHd g 56 52) (CH3 : CodeHd g 63 59),
    wpAny (model PySem.Challenge.rw_xi0020_01.prog w) (callerA.deeper (lawEnv L fa cd)) (execs (lawBody.drop 1) (lawEnv L fa cd)) (LawEnd g L s)
      (fun e s' => wpAny (model PySem.Challenge.rw_xi0020_01.prog w) (callerA.deeper (lawEnv L fa cd)) (leaving (lawEnv L fa cd) e) (fun _ s'' => E1 e s'') (fun e' s'' => E1 e' s'') s') s
theorem skN : Nonempty skD := ⟨(Classical.choice neWorld, default, default, default, default, default, default, default, default, default, ({} : Shared), default, default, default, default, default, default, default, default, default, default, default, default, default, default, default, default)⟩
@[irreducible] noncomputable def skK : skD := @Classical.epsilon skD skN fun d => ¬ skP d.1 d.2.1 d.2.2.1 d.2.2.2.1 d.2.2.2.2.1 d.2.2.2.2.2.1 d.2.2.2.2.2.2.1 d.2.2.2.2.2.2.2.1 d.2.2.2.2.2.2.2.2.1 d.2.2.2.2.2.2.2.2.2.1 d.2.2.2.2.2.2.2.2.2.2.1 d.2.2.2.2.2.2.2.2.2.2.2.1 d.2.2.2.2.2.2.2.2.2.2.2.2.1 d.2.2.2.2.2.2.2.2.2.2.2.2.2.1 d.2.2.2.2.2.2.2.2.2.2.2.2.2.2.1 d.2.2.2.2.2.2.2.2.2.2.2.2.2.2.2.1 d.2.2.2.2.2.2.2.2.2.2.2.2.2.2.2.2.1 d.2.2.2.2.2.2.2.2.2.2.2.2.2.2.2.2.2.1 d.2.2.2.2.2.2.2.2.2.2.2.2.2.2.2.2.2.2.1 d.2.2.2.2.2.2.2.2.2.2.2.2.2.2.2.2.2.2.2.1 d.2.2.2.2.2.2.2.2.2.2.2.2.2.2.2.2.2.2.2.2.1 d.2.2.2.2.2.2.2.2.2.2.2.2.2.2.2.2.2.2.2.2.2.1 d.2.2.2.2.2.2.2.2.2.2.2.2.2.2.2.2.2.2.2.2.2.2.1 d.2.2.2.2.2.2.2.2.2.2.2.2.2.2.2.2.2.2.2.2.2.2.2.1 d.2.2.2.2.2.2.2.2.2.2.2.2.2.2.2.2.2.2.2.2.2.2.2.2.1 d.2.2.2.2.2.2.2.2.2.2.2.2.2.2.2.2.2.2.2.2.2.2.2.2.2.1 d.2.2.2.2.2.2.2.2.2.2.2.2.2.2.2.2.2.2.2.2.2.2.2.2.2.2
@[irreducible] noncomputable def w : World := skK.1
@[irreducible] noncomputable def p0 : Program := skK.2.1
@[irreducible] noncomputable def loose : List PySem.Str := skK.2.2.1
@[irreducible] noncomputable def mean : ExcName → Option Value := skK.2.2.2.1
@[irreducible] noncomputable def mg : PySem.Str → Option Value := skK.2.2.2.2.1
@[irreducible] noncomputable def mb : PySem.Str → Option Value := skK.2.2.2.2.2.1
@[irreducible] noncomputable def fa : Addr := skK.2.2.2.2.2.2.1
@[irreducible] noncomputable def cd : Value := skK.2.2.2.2.2.2.2.1
@[irreducible] noncomputable def g : Heap := skK.2.2.2.2.2.2.2.2.1
@[irreducible] noncomputable def L : Addr := skK.2.2.2.2.2.2.2.2.2.1
@[irreducible] noncomputable def s : Shared := skK.2.2.2.2.2.2.2.2.2.2.1
@[irreducible] noncomputable def u9 : Str → Option Value := skK.2.2.2.2.2.2.2.2.2.2.2.1
@[irreducible] noncomputable def E1 : Value → Shared → Prop := skK.2.2.2.2.2.2.2.2.2.2.2.2.1
@[irreducible] noncomputable def oP : Obj := skK.2.2.2.2.2.2.2.2.2.2.2.2.2.1
@[irreducible] noncomputable def oL : Obj := skK.2.2.2.2.2.2.2.2.2.2.2.2.2.2.1
@[irreducible] noncomputable def oF : Obj := skK.2.2.2.2.2.2.2.2.2.2.2.2.2.2.2.1
@[irreducible] noncomputable def o1 : Obj := skK.2.2.2.2.2.2.2.2.2.2.2.2.2.2.2.2.1
@[irreducible] noncomputable def oW : Obj := skK.2.2.2.2.2.2.2.2.2.2.2.2.2.2.2.2.2.1
@[irreducible] noncomputable def D : Addr := skK.2.2.2.2.2.2.2.2.2.2.2.2.2.2.2.2.2.2.1
@[irreducible] noncomputable def c0 : Int := skK.2.2.2.2.2.2.2.2.2.2.2.2.2.2.2.2.2.2.2.1
@[irreducible] noncomputable def c1 : Int := skK.2.2.2.2.2.2.2.2.2.2.2.2.2.2.2.2.2.2.2.2.1
@[irreducible] noncomputable def c2 : Int := skK.2.2.2.2.2.2.2.2.2.2.2.2.2.2.2.2.2.2.2.2.2.1
@[irreducible] noncomputable def c3 : Int := skK.2.2.2.2.2.2.2.2.2.2.2.2.2.2.2.2.2.2.2.2.2.2.1
@[irreducible] noncomputable def t0 : Tok := skK.2.2.2.2.2.2.2.2.2.2.2.2.2.2.2.2.2.2.2.2.2.2.2.1
@[irreducible] noncomputable def t1 : Tok := skK.2.2.2.2.2.2.2.2.2.2.2.2.2.2.2.2.2.2.2.2.2.2.2.2.1
@[irreducible] noncomputable def t2 : Tok := skK.2.2.2.2.2.2.2.2.2.2.2.2.2.2.2.2.2.2.2.2.2.2.2.2.2.1
@[irreducible] noncomputable def t3 : Tok := skK.2.2.2.2.2.2.2.2.2.2.2.2.2.2.2.2.2.2.2.2.2.2.2.2.2.2
theorem skAll (hb : skP w p0 loose mean mg mb fa cd g L s u9 E1 oP oL oF o1 oW D c0 c1 c2 c3 t0 t1 t2 t3) : ∀ (y0 : World) (y1 : Program) (y2 : List PySem.Str) (y3 : ExcName → Option Value) (y4 : PySem.Str → Option Value) (y5 : PySem.Str → Option Value) (y6 : Addr) (y7 : Value) (y8 : Heap) (y9 : Addr) (y10 : Shared) (y11 : Str → Option Value) (y12 : Value → Shared → Prop) (y13 : Obj) (y14 : Obj) (y15 : Obj) (y16 : Obj) (y17 : Obj) (y18 : Addr) (y19 : Int) (y20 : Int) (y21 : Int) (y22 : Int) (y23 : Tok) (y24 : Tok) (y25 : Tok) (y26 : Tok), skP y0 y1 y2 y3 y4 y5 y6 y7 y8 y9 y10 y11 y12 y13 y14 y15 y16 y17 y18 y19 y20 y21 y22 y23 y24 y25 y26 := by
  intro y0 y1 y2 y3 y4 y5 y6 y7 y8 y9 y10 y11 y12 y13 y14 y15 y16 y17 y18 y19 y20 y21 y22 y23 y24 y25 y26
  refine Classical.byContradiction fun hn => ?_
  have h1 := @Classical.epsilon_spec skD (fun d => ¬ skP d.1 d.2.1 d.2.2.1 d.2.2.2.1 d.2.2.2.2.1 d.2.2.2.2.2.1 d.2.2.2.2.2.2.1 d.2.2.2.2.2.2.2.1 d.2.2.2.2.2.2.2.2.1 d.2.2.2.2.2.2.2.2.2.1 d.2.2.2.2.2.2.2.2.2.2.1 d.2.2.2.2.2.2.2.2.2.2.2.1 d.2.2.2.2.2.2.2.2.2.2.2.2.1 d.2.2.2.2.2.2.2.2.2.2.2.2.2.1 d.2.2.2.2.2.2.2.2.2.2.2.2.2.2.1 d.2.2.2.2.2.2.2.2.2.2.2.2.2.2.2.1 d.2.2.2.2.2.2.2.2.2.2.2.2.2.2.2.2.1 d.2.2.2.2.2.2.2.2.2.2.2.2.2.2.2.2.2.1 d.2.2.2.2.2.2.2.2.2.2.2.2.2.2.2.2.2.2.1 d.2.2.2.2.2.2.2.2.2.2.2.2.2.2.2.2.2.2.2.1 d.2.2.2.2.2.2.2.2.2.2.2.2.2.2.2.2.2.2.2.2.1 d.2.2.2.2.2.2.2.2.2.2.2.2.2.2.2.2.2.2.2.2.2.1 d.2.2.2.2.2.2.2.2.2.2.2.2.2.2.2.2.2.2.2.2.2.2.1 d.2.2.2.2.2.2.2.2.2.2.2.2.2.2.2.2.2.2.2.2.2.2.2.1 d.2.2.2.2.2.2.2.2.2.2.2.2.2.2.2.2.2.2.2.2.2.2.2.2.1 d.2.2.2.2.2.2.2.2.2.2.2.2.2.2.2.2.2.2.2.2.2.2.2.2.2.1 d.2.2.2.2.2.2.2.2.2.2.2.2.2.2.2.2.2.2.2.2.2.2.2.2.2.2) ⟨(y0, y1, y2, y3, y4, y5, y6, y7, y8, y9, y10, y11, y12, y13, y14, y15, y16, y17, y18, y19, y20, y21, y22, y23, y24, y25, y26), hn⟩
  delta w p0 loose mean mg mb fa cd g L s u9 E1 oP oL oF o1 oW D c0 c1 c2 c3 t0 t1 t2 t3 at hb
  delta skK at hb
  exact h1 hb
theorem skBody : skP w p0 loose mean mg mb fa cd g L s u9 E1 oP oL oF o1 oW D c0 c1 c2 c3 t0 t1 t2 t3 := by
  unfold skP
  intro hD F N0 dP dL dF d1 dW hL htk B X T CH1 CH2 CH3
  unfold lawEnv
  conv in (List.drop 1 lawBody) => whnf
  conv in (occs := *) lawScope => all_goals whnf
  revert X; k_fill; intro X
  k_with "now" => have kNow29 : True := trivial
  obtain ⟨cn, hcn, hc1, hc9⟩ := law_cn c0
  obtain ⟨N, hN, hN1, hN2⟩ := law_N c1 hc1
  obtain ⟨p, hp, hp1, hp2⟩ := law_p c2
  have hD0 : 0 < 10 ^ (cn - 1) := Nat.pow_pos (by lia)
  k_with "ov item" => ((fail_if_success (fail_if_success (k_extra "now"; clear kNow29))); ((rename News _ _ _ _ => lN8); (k_dflt (refine item_lst lN8 (by k_mem) (by decide) (by decide) (by with_unfolding_all rfl) ?_)); (try dsimp only)))
  k_with "ov Mod" => ((fail_if_success (fail_if_success (k_extra "now"; clear kNow29))); (refine mod_to _ (by first | decide | lia) rfl ?_; intro _ _; (try dsimp only)))
  k_with "ov Add" => ((fail_if_success (fail_if_success (k_extra "now"; clear kNow29))); first | (with_reducible refine add_to (cn : Int) hcn ?_; intro _ _; (try dsimp only)) | (with_reducible refine add_to (N : Int) hN ?_; intro _ _; (try dsimp only)))
  k_with "ov Sub" => ((fail_if_success (fail_if_success (k_extra "now"; clear kNow29))); first | (with_reducible refine sub_to p hp ?_; intro _ _; (try dsimp only)) | (refine sub_to ((cn - 1 : Nat) : Int) (by lia) ?_; intro _ _; (try dsimp only)))
  k_with "ov Pow" => ((fail_if_success (fail_if_success (k_extra "now"; clear kNow29))); (refine pow_nat 10 (cn - 1) rfl rfl (by decide) (by lia) ?_; intro _ _; (try dsimp only)))
  k_with "ov Mult" => ((fail_if_success (fail_if_success (k_extra "now"; clear kNow29))); (refine mul_natB 9 (10 ^ (cn - 1)) rfl rfl (Nat.le_trans (bl_le.mpr (show 9 < 2 ^ 4 by decide)) (by decide)) (by have := bl_pow 10 (cn - 1) (by lia); lia) ?_; intro _ _; (try dsimp only)))
  k_with "toks" => ((fail_if_success (fail_if_success (k_extra "now"; clear kNow29))); first | ((with_reducible show wpAny _ _ (execs (Stmt.Assign [Expr.Tuple [Expr.Name _ _, Expr.Name _ _] _ _] (Expr.IfExp _ _ _ _) _ :: _) _) _ _ _); refine stopL ?_) | (refine genToks ?_; intro tk9 htk9; (try dsimp only at htk9)) | ((with_reducible refine execsT ?_); (try dsimp only)))
  try k_fold
  k_steps
  refine Stop.go ?_
  (rename News _ _ _ (_ :: _) => hN9)
  exact law_T2 cn N p c3 _ _ _ _ hc1 hc9 hN1 hN2 hp1 hp2 (by assumption) (news_sub hN9 (by walk_at "allIn")) (by assumption) dL dF d1 dW hL (by walk_at "tkom") B X T CH1 CH2 CH3
end sk_law_T
section
variable {w : World} {p0 : Program} {loose : List Str} {mean : ExcName → Option Value} {mg mb : Str → Option Value}
theorem law_T {fa : Addr} {cd : Value} {g : Heap} {L : Addr} {s : Shared} {u9 : Str → Option Value} {E1 : Value → Shared → Prop} {oP oL oF o1 oW : Obj} {D : Addr} (c0 c1 c2 c3 : Int) (t0 t1 t2 t3 : Tok)
    (hD : @LT.lt Nat _ (L + 1 + 1 + 1 + 1 + 1 + 1) D)
    (F : Fr g L s.heap (fun y => if y = "cells" then some (.ref D) else u9 y))
    (N0 : News g L s.heap [(D, lst [.int c0 t0, .int c1 t1, .int c2 t2, .int c3 t3]), (L + 1 + 1 + 1 + 1 + 1 + 1, oW), (L + 1 + 1 + 1 + 1 + 1, o1), (L + 1 + 1 + 1 + 1, oF), (L + 1 + 1 + 1, oL), (L + 1 + 1, oP), (59, tabObj #[]), (52, tabObj #[]), (24, tabObj #[])])
    (dP : oP.data = .cell none) (dL : oL.data = .cell none) (dF : oF.data = .cell none) (d1 : o1.data = .cell none) (dW : oW.data = .cell none)
    (hL : @LT.lt Nat _ 59 L) (htk : 1 ≤ s.toks) (B : Below callerA g [] g) (X : (Mine.hd.heap_1 w.params).In g) (T : Top p0 loose mean mg mb g)
    (CH1 : CodeHd g 28 24) (CH2 : CodeHd g 56 52) (CH3 : CodeHd g 63 59) :
    wpAny (model PySem.Challenge.rw_xi0020_01.prog w) (callerA.deeper (lawEnv L fa cd)) (execs (lawBody.drop 1) (lawEnv L fa cd)) (LawEnd g L s)
      (fun e s' => wpAny (model PySem.Challenge.rw_xi0020_01.prog w) (callerA.deeper (lawEnv L fa cd)) (leaving (lawEnv L fa cd) e) (fun _ s'' => E1 e s'') (fun e' s'' => E1 e' s'') s') s :=
  sk_law_T.skAll sk_law_T.skBody w p0 loose mean mg mb fa cd g L s u9 E1 oP oL oF o1 oW D c0 c1 c2 c3 t0 t1 t2 t3 hD F N0 dP dL dF d1 dW hL htk B X T CH1 CH2 CH3

end
end
example {prog : Program} {w : World} {A : Around} {env : Env} {Q : Flow → Shared → Prop} {E : Value → Shared → Prop} {s : Shared} (h : wpAny (model prog w) A (execs [] env) Q E s) : wpAny (model prog w) A (execs [] env) Q E s := by ((k_with "now" => have kReset : True := trivial); (k_with "piece" => have kP_L1 : True := trivial); w_top off; first | (walk1; fail) | exact h)
section
example : True := by
  k_with "m exec Assign cons ListComp" => ((fail_if_success (fail_if_success (k_extra "piece"; clear kP_L1))); k_extra "ov comp")
  k_with "m call type:enumerate" => ((fail_if_success (fail_if_success (k_extra "piece"; clear kP_L1))); k_extra "ov enum")
  k_with "m call builtin:sum" => ((fail_if_success (fail_if_success (k_extra "piece"; clear kP_L1))); k_extra "ov sum")
  k_with "m eval IfExp" => ((fail_if_success (fail_if_success (k_extra "piece"; clear kP_L1))); k_extra "ov ifexp")
  k_with "m subscriptTail Name Constant ref int" => ((fail_if_success (fail_if_success (k_extra "piece"; clear kP_L1))); k_extra "ov item")
  trivial
theorem law_holds : PySem.Challenge.rw_xi0020_01.Holds := Mine.hd (by
  k_with "ov comp" => k_dflt (refine Assign_cmp (F₀ := by k_asm) (by with_unfolding_all rfl) (by with_unfolding_all rfl) (by decide) (by rfl) (by decide) ?_)
  k_with "ov enum" => refine stopL ?_
  k_with "ov sum" => ((rename News _ _ _ _ => lN8); (rename Fr _ _ _ _ => lF8); refine sum_pick rfl lF8 lN8 (by k_mem) (by assumption) ?_; intro h8 tk8 t8 b8 F8 N8; clear lN8 lF8)
  k_with "toks" => first | k_fold | (refine genToks ?_; intro tk9 htk9; (try dsimp only at htk9)) | ((with_reducible refine execsT ?_); (try dsimp only))
  w_strict (k_go0; (all_goals try k_fold); k_steps; skip)
  · refine Stop.go ?_
    (rename News _ _ _ _ => lN9)
    (rename Fr _ _ _ _ => lF9)
    refine' cmp_ints ?hh9 ?hk9 ?hx9 ?hy9 ?hxy9 lF9 lN9 ?hm9 ?hc9 ?hd9 ?hi9 ?hz9 ?step9 ?fin9
    case hh9 => rfl
    case hk9 => rfl
    case hx9 => rfl
    case hy9 => rfl
    case hxy9 => decide +kernel
    case hm9 => k_mem
    case hc9 => rfl
    case hd9 => rfl
    case hi9 => exact .cons _ _ (.cons _ _ (.cons _ _ (.cons _ _ .nil)))
    case hz9 => exact Nat.le_of_ble_eq_true rfl
    case step9 =>
      intro k9 ys h tk own C oC m₂ D t a u E' hi hoC hmx hmx2 F9 N9 hDC hLD off9
      clear lF9 lN9
      simp only [List.cons_append, List.nil_append] at N9
      try k_fold
      k_steps
      (rename News _ _ _ (_ :: _) => hN9)
      exact ⟨_, _, _, _, rfl, rfl, by assumption, fun p hp => hN9 p (.tail _ hp)⟩
    case fin9 =>
      intro D C oC h tk ys ks hks hyl F9 N9 hDC off9
      clear lF9 lN9
      try k_fold
      obtain ⟨c0, c1, c2, c3, t0, t1, t2, t3, rfl⟩ := four_ints hks hyl
      k_steps
      (rename News _ _ _ (_ :: _) => hN9)
      refine cmp_taken (by assumption) hN9 hDC off9 ?_
      intro h₃ F₃ N₃
      k_lt off9
      clear hN9
      k_sweep
      dsimp only
      intro htk1
      refine' law_split ?F9 ?main9 ?end9
      case F9 => exact F₃
      case main9 =>
        (try (rename Flt.MathXP _ _ _ => zz; clear zz))
        (try (rename LooseAre _ _ _ => zz; clear zz))
        (try (rename Top Mine.hdView _ _ _ _ _ => zz; clear zz))
        (try (rename Tables _ _ _ _ => zz; clear zz))
        (try (rename TopE _ _ _ _ => zz; clear zz))
        (try (rename TopW _ _ _ => zz; clear zz))
        (try (rename TabsAt _ _ => zz; clear zz))
        (try (rename Well _ _ _ _ => zz; clear zz))
        (try (rename Reads _ _ _ _ => zz; clear zz))
        (try (rename ReadsAll _ _ _ _ => zz; clear zz))
        (try (rename ReadsAllW _ _ _ _ _ _ => zz; clear zz))
        (try (rename Dflts _ _ _ _ _ _ => zz; clear zz))
        (try (rename Ground _ _ _ _ _ _ _ _ => zz; clear zz))
        (try (rename Heap.CodeRec _ _ _ => zz; clear zz))
        (try (rename Spec.Shape.has _ _ = true => zz; clear zz))
        (try (rename IntsAre _ ks => zz; clear zz))
        (try (rename List.length _ = List.length _ => zz; clear zz))
        (try clear hks hyl)
        refine' law_T _ _ _ _ _ _ _ _ ?hD F₃ (news_sub N₃ ?n) ?dP ?dL ?dF ?d1 ?dW ?hL ?htk ?B ?X ?T ?CH1 ?CH2 ?CH3
        case n => walk_at "allIn"
        case hD => exact off9.2.1
        case htk => exact Nat.le_add_left 1 tk
        case B => assumption
        case X => assumption
        case T => assumption
        case CH1 => assumption
        case CH2 => assumption
        case CH3 => assumption
        case hL => (rename (_ ∧ @LT.lt Nat _ 52 _ ∧ _) => h3; exact h3.1)
        case dP => assumption
        case dL => assumption
        case dF => assumption
        case d1 => assumption
        case dW => assumption
      case end9 =>
        intro h4 tk4 dr4 m4 p1 p2 p3 F4 N4
        clear F₃ N₃
        try dsimp only
        k_steps)
end
end Mine
theorem PySem.Challenge.cw_xi0020_01_holds : PySem.Challenge.rw_xi0020_01.Holds :=
  Mine.law_holds
