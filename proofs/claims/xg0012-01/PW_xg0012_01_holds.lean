import PyProof.Rows.All
import Wide.All
import OpenK.AllK
import Wide.FinOn
import Lean
import PySem.Challenge.RW_xg0012_01
set_option Elab.async false
set_option compiler.extract_closed false
section
open PySem PySem.W PyProof.Rows
namespace Mine
set_option maxRecDepth 100000
set_option maxHeartbeats 8000000
open_top hd for PySem.Challenge.rw_xg0012_01
end Mine

end
section
open PySem PySem.W PySem.Calls PyProof.Rows
namespace Mine
def LeaveP (g : Heap) (R : Result → Shared → Prop) (v : Value) (s' : Shared) : Prop :=
  ∃ L' m' news', Fr g L' s'.heap m' ∧ News g L' s'.heap news' ∧ (g.StaysIn s'.heap → (∀ q ∈ news', s'.heap.get? q.1 = some q.2 ∧ g.get? q.1 = none) → R (.ok (.ret v)) s')
theorem leaveP_ {g : Heap} {L' : Addr} {m' : Str → Option Value} {news' : List (Addr × Obj)} {R : Result → Shared → Prop} {v : Value} {s' : Shared} (F' : Fr g L' s'.heap m') (N' : News g L' s'.heap news')
    (k : g.StaysIn s'.heap → (∀ q ∈ news', s'.heap.get? q.1 = some q.2 ∧ g.get? q.1 = none) → R (.ok (.ret v)) s') : LeaveP g R v s' := ⟨L', m', news', F', N', k⟩
theorem leaveP_out {g : Heap} {R : Result → Shared → Prop} {v : Value} {s' : Shared} (h : LeaveP g R v s') : R (.ok (.ret v)) s' := by
  obtain ⟨L', m', news', F', N', k⟩ := h
  exact k F'.keep fun q hq => ⟨(N' q hq).1, (N' q hq).2.2⟩
section
variable {prog : Program} {w : World} {A A₀ : Around} {s : Shared} {K : Frag} {L : Addr} {h₀ base : Heap} {m mg mb : Str → Option Value} {p : Program} {loose : List Str} {mean : ExcName → Option Value}
theorem below_here {env : Env} {outer : List Env} (B : Below A₀ base outer h₀) (F : Fr h₀ L s.heap m) (hA : A.frames = some (env :: outer)) (hf : env.frame = some L) (hke : env.scope.kind = .function) : Below A base (env :: outer) s.heap :=
  ⟨hA, fun b o e => F.keep b o (B.stays b o e), (pushX B F hf hke).frames⟩
theorem code_defP {env : Env} {outer : List Env} {R : Result → Shared → Prop} {name qual : Str} {params : Arguments} {body : List Stmt} {scope : Scope} {dV kV doc pm cdv ct oc : Value} {an od : Option Addr} {osl : Array (Option Value)} {f : Addr} {args : Args} {binds : List (Str × Value)}
    (B : Below A₀ base outer h₀) (F : Fr h₀ L s.heap m) (X₀ : K.In h₀) (T : Top p loose mean mg mb h₀) (hA : A.frames = some (env :: outer)) (hf : env.frame = some L) (hke : env.scope.kind = .function)
    (ho : K.lookup f = some ⟨oc, od, .func (fnOf name qual params body scope dV kV doc pm an cdv ct), osl⟩) (hcd : codeIn K cdv qual = true) (hroom : A.depth < recursionLimit)
    (hbind : BindsTo s (fnOf name qual params body scope dV kV doc pm an cdv ct) args binds) (hloc : ∀ y ∈ binds, scope.names.lookup y.1 = some .local)
    (h : ∀ g L' h₁, s.heap.StaysIn g → Fr g L' h₁ (fun y => binds.reverse.lookup y) → News g L' h₁ [] → Below A base (env :: outer) g → K.In g → Top p loose mean mg mb g →
      wpAny (model prog w) (A.deeper (envOf qual scope L' f cdv)) (execs body (envOf qual scope L' f cdv))
        (fun fl s' => LeaveP g R (match fl with | .ret v => v | _ => .none) s')
        (fun e s' => wpAny (model prog w) (A.deeper (envOf qual scope L' f cdv)) (leaving (envOf qual scope L' f cdv) e) (fun _ s'' => R (.error e) s'') (fun e' s'' => R (.error e') s'') s')
        { s with heap := h₁, toks := s.toks + binds.length })
    (hco : scope.isCoroutine = false) (hgen : scope.isGenerator = false) (hk : scope.kind = .function)
    (hcell : ∀ x ∈ scope.names, x.2 ≠ .cell) : codeAny (model prog w) A (.call (.ref f) args) R s := by
  refine codeAny_call_def (fd := fnOf name qual params body scope dV kV doc pm an cdv ct) (body := body) (binds := binds) hroom ((X₀.keeps F.keep) _ _ ho) rfl (T.nolimit.keeps F.keep) (codeRec_of (X₀.keeps F.keep) hcd) rfl hbind hcell hloc (fun h₁ hns hk₁ => ?_) hco hgen hk
  exact wpAny_mono (h s.heap s.heap.objs.size h₁ (fun _ _ e => e) ⟨hns, hk₁, Nat.le_refl _⟩ (fun p hp => nomatch hp) (below_here B F hA hf hke) (X₀.keeps F.keep) (T.keeps F.keep)) (fun fl s' hl => leaveP_out hl) fun _ _ y => y
theorem code_defPC {env : Env} {outer : List Env} {R : Result → Shared → Prop} {name qual : Str} {params : Arguments} {body : List Stmt} {scope : Scope} {dV kV doc pm cdv ct oc : Value} {an od : Option Addr} {osl : Array (Option Value)} {f : Addr} {args : Args} {binds : List (Str × Value)}
    (B : Below A₀ base outer h₀) (F : Fr h₀ L s.heap m) (X₀ : K.In h₀) (T : Top p loose mean mg mb h₀) (hA : A.frames = some (env :: outer)) (hf : env.frame = some L) (hke : env.scope.kind = .function)
    (ho : K.lookup f = some ⟨oc, od, .func (fnOf name qual params body scope dV kV doc pm an cdv ct), osl⟩) (hcd : codeIn K cdv qual = true) (hroom : A.depth < recursionLimit)
    (hbind : BindsTo s (fnOf name qual params body scope dV kV doc pm an cdv ct) args binds) (hkind : (binds.all fun y => scope.names.lookup y.1 == some .local || scope.names.lookup y.1 == some .cell) = true)
    (hnd : ((cellsFrom 0 scope.names []).map (·.1)).Nodup)
    (h : ∀ g L' h₁ tk cells, s.heap.StaysIn g → Fr g L' h₁ (bindL (envOfC qual scope L' f cdv).kindOf binds fun _ => none) → News g L' h₁ cells →
      CellsAre (bindC (envOfC qual scope L' f cdv).kindOf binds fun _ => none) (cellsFrom (L' + 1) scope.names []) cells → Below A base (env :: outer) g → K.In g → Top p loose mean mg mb g →
      wpAny (model prog w) (A.deeper (envOfC qual scope L' f cdv)) (execs body (envOfC qual scope L' f cdv))
        (fun fl s' => LeaveP g R (match fl with | .ret v => v | _ => .none) s')
        (fun e s' => wpAny (model prog w) (A.deeper (envOfC qual scope L' f cdv)) (leaving (envOfC qual scope L' f cdv) e) (fun _ s'' => R (.error e) s'') (fun e' s'' => R (.error e') s'') s')
        { s with heap := h₁, toks := tk })
    (hco : scope.isCoroutine = false) (hgen : scope.isGenerator = false) (hk : scope.kind = .function) : codeAny (model prog w) A (.call (.ref f) args) R s := by
  have X := X₀.keeps F.keep
  have hlim := T.nolimit.keeps F.keep
  refine codeAny_call_function hroom (X _ _ ho) rfl hco hgen rfl (codeRec_of X hcd) (hbind _ _ _ _ ?_)
  refine wpAny_newFunctionEnv_cells hk (kindsX hkind _) fun env' he s' x => ?_
  subst he
  refine ⟨hlim.keeps x.toInCall.keep, codeAny_func ?_⟩
  obtain ⟨h₁, tk, rfl, _⟩ := x.done
  have hk₁ := x.toInCall.keep
  obtain ⟨cells, NC, Y⟩ := Cl.news (h₀ := s.heap) (Nat.le_refl _) fun n c hm => ⟨x.cell n c (lookup_of_mem_nodup (cellsFrom_names scope.names 0 (s.heap.objs.size + 1) [] [] rfl ▸ hnd) hm), x.above n c hm⟩
  exact wpAny_mono (h s.heap s.heap.objs.size h₁ tk cells (fun _ _ e => e) ⟨x.toInCall.ns, hk₁, Nat.le_refl _⟩ (fun p hp => ⟨(NC p hp).1, (NC p hp).2.1, (NC p hp).2.2⟩) Y (below_here B F hA hf hke) X (T.keeps F.keep)) (fun fl s' hl => leaveP_out hl) fun _ _ y => y
end
/-- what a caller has at a call; `Pre` speaks of the heap, `Ret` of what comes back -/
def CtrP (k : Nat) (w : World) (mean : ExcName → Option Value) (mg mb : Str → Option Value) (f : Addr) (vs : List Value) (Pre : Heap → Prop) (Ret : Shared → (Value → Shared → Prop) → Prop) : Prop :=
  ∀ (dp un : Nat) (gd : Option (List Code)) (cn : Str) (cs : Scope) (a : Addr) (ccd : Value) (cl : List (Str × Addr)) (outer : List Env) (A₀ : Around) (base h₀ : Heap) (L : Addr) (m : Str → Option Value) (s : Shared) (Q E : Value → Shared → Prop),
    Below A₀ base outer h₀ → Fr h₀ L s.heap m → (hd.heap_39 w.params).In h₀ → Top hd.view_39 (looseW hd.view_39 [Str.ofString "_twin_re_1"]) mean mg mb h₀ → cs.kind = .function →
    dp + k < recursionLimit → un + 8 * k < cLine → Pre s.heap → Ret s Q →
      wpAny (model PySem.Challenge.rw_xg0012_01.row.prog w) (ktrTop dp un gd cn cs L a ccd cl outer) (call (.ref f) vs) Q E s
theorem stay2 {a b c : Heap} (h1 : a.StaysIn b) (h2 : b.StaysIn c) : a.StaysIn c := fun x o e => h2 x o (h1 x o e)
/-- it hands back a text; all that stood stands -/
def RetS (x : Str) (s : Shared) (Q : Value → Shared → Prop) : Prop :=
  ∀ (t : Tok) (h' : Heap) (tk' : Nat), s.heap.StaysIn h' → Q (.str x t) { s with heap := h', toks := tk' }
theorem none_of {a b : Heap} {x : Addr} (h : a.StaysIn b) (e : b.get? x = none) : a.get? x = none := by
  cases q : a.get? x with
  | none => rfl
  | some o => rw [h x o q] at e; cases e
/-- it hands back a new list -/
def RetA (P : Array Value → Prop) (s : Shared) (Q : Value → Shared → Prop) : Prop :=
  ∀ (a : Addr) (arr : Array Value) (n : Nat) (h' : Heap) (tk' : Nat), P arr → s.heap.StaysIn h' → h'.get? a = some (listOf arr n) → s.heap.get? a = none → Q (.ref a) { s with heap := h', toks := tk' }
def RetB (b : Array UInt8) (s : Shared) (Q : Value → Shared → Prop) : Prop :=
  ∀ (t : Tok) (h' : Heap) (tk' : Nat), s.heap.StaysIn h' → Q (.bytes b t) { s with heap := h', toks := tk' }
theorem RetB.use {b c : Array UInt8} {s : Shared} {Q : Value → Shared → Prop} {t : Tok} {h' : Heap} {tk' : Nat} (h : RetB b s Q) (e : c = b) (k : s.heap.StaysIn h') : Q (.bytes c t) { s with heap := h', toks := tk' } := by
  subst e; exact h t h' tk' k
def orders : List (List Int) := [[0,1,2,3],[0,1,3,2],[0,2,1,3],[0,2,3,1],[0,3,1,2],[0,3,2,1],[1,0,2,3],[1,0,3,2],[1,2,0,3],[1,2,3,0],[1,3,0,2],[1,3,2,0],[2,0,1,3],[2,0,3,1],[2,1,0,3],[2,1,3,0],[2,3,0,1],[2,3,1,0],[3,0,1,2],[3,0,2,1],[3,1,0,2],[3,1,2,0],[3,2,0,1],[3,2,1,0]]
def OrdA (arr : Array Value) : Prop := ∃ o ∈ orders, IntsAre arr.toList o
theorem OrdA.mk4 {a b c d : Int} {t u v w : Tok} (h : [a, b, c, d] ∈ orders) : OrdA #[.int a t, .int b u, .int c v, .int d w] := ⟨_, h, .cons _ _ (.cons _ _ (.cons _ _ (.cons _ _ .nil)))⟩
abbrev ThreeA (arr : Array Value) : Prop := ∃ (a b c : Int) (ta tb tc : Tok), arr = #[.int a ta, .int b tb, .int c tc] ∧ (0 ≤ a ∧ a ≤ 100000000) ∧ (0 ≤ b ∧ b ≤ 100000000) ∧ (0 ≤ c ∧ c ≤ 100000000)
def NeAll (a : Nat) : List (Addr × Obj) → Prop
  | [] => True
  | p :: r => @Ne Nat a p.1 ∧ NeAll a r
theorem neAll_of {a : Addr} : ∀ {l : List (Addr × Obj)}, (∀ p ∈ l, a ≠ p.1) → NeAll a l
  | [], _ => trivial
  | p :: _, h => ⟨h p (.head _), neAll_of fun q hq => h q (.tail _ hq)⟩
/-- behind a call: the caller's frame and ledger stand -/
theorem back_fr {h₀ h h' : Heap} {L : Addr} {m : Str → Option Value} (F : Fr h₀ L h m) (k : h.StaysIn h') : Fr h₀ L h' m := ⟨F.ns.keeps k, fun b o e => k b o (F.keep b o e), F.above⟩
theorem back_news {h₀ h h' : Heap} {L : Addr} {news : List (Addr × Obj)} (N : News h₀ L h news) (k : h.StaysIn h') : News h₀ L h' news := fun p hp => ⟨k _ _ (N p hp).1, (N p hp).2⟩
theorem back_new {h₀ h h' : Heap} {L a : Addr} {m : Str → Option Value} {news : List (Addr × Obj)} {o : Obj} (F : Fr h₀ L h m) (N : News h₀ L h news) (k : h.StaysIn h') (e : h'.get? a = some o) (n : h.get? a = none) :
    News h₀ L h' ((a, o) :: news) ∧ NeAll a news := by
  refine ⟨fun p hp => ?_, neAll_of fun p hp q => ?_⟩
  · rcases List.mem_cons.mp hp with rfl | hp
    · refine ⟨e, fun q => ?_, ?_⟩
      · obtain ⟨oL, es, ep, hL, _⟩ := F.ns
        have q' : a = L := q
        rw [q', hL] at n; cases n
      · cases q : h₀.get? a with
        | none => rfl
        | some x => rw [F.keep a x q] at n; cases n
    · exact ⟨k _ _ (N p hp).1, (N p hp).2⟩
  · have := (N p hp).1
    rw [← q, n] at this; cases this
end Mine

end
section
open PySem PySem.W PyProof.Rows
namespace Mine
theorem item_led {prog : Program} {w : World} {A E s} {h₀ : Heap} {L a : Addr} {n : Nat} {news : List (Addr × Obj)} {vs : List Value} {ns : List Int} {k lo hi' : Int} {u : Tok} {value slice : PySem.Expr} {Q : Value → Shared → Prop}
    (N : News h₀ L s.heap news) (hm : (a, listOf vs.toArray n) ∈ news) (hi : IntsAre vs ns) (hB : ∀ i : Nat, lo ≤ ns.getD i 0 ∧ ns.getD i 0 ≤ hi') (h0 : 0 ≤ k) (hk : k < (ns.length : Int)) (hz : ns.length < 1000) (h : ∀ t v, v = ns.getD k.toNat 0 → lo ≤ v → v ≤ hi' → Q (.int v t) s)
    (hs : subscripted slice false (.ref a) (.int k u) = operate [.ref a, .int k u] (getItem (.ref a) (.int k u)) := by with_unfolding_all rfl) :
    wpAny (model prog w) A (subscriptTail value slice (.ref a) (.int k u)) Q E s := by
  have hl : s.heap.IsList a vs.toArray := ⟨_, (N _ hm).1, rfl, n, rfl⟩
  have hlt : k.toNat < ns.length := by omega
  obtain ⟨t, hx⟩ := hi.get k.toNat ns[k.toNat] (by simp [hlt])
  have e : ns.getD k.toNat 0 = ns[k.toNat] := by simp [List.getD, hlt]
  refine tail_any hl.typeIs slot_list_getitem.lookup (wpAny_getItem_list hl h0 (by omega) (by simpa using hx) ?_) hs
  rw [← e]; exact h t _ rfl (hB _).1 (hB _).2
theorem item_base {prog : Program} {w : World} {A E s} {h₀ : Heap} {L a : Addr} {m : Str → Option Value} {vs : List Value} {ns : List Int} {k lo hi' : Int} {u : Tok} {value slice : PySem.Expr} {Q : Value → Shared → Prop}
    (F : Fr h₀ L s.heap m) (hl₀ : h₀.IsList a vs.toArray) (hi : IntsAre vs ns) (hB : ∀ i : Nat, lo ≤ ns.getD i 0 ∧ ns.getD i 0 ≤ hi') (h0 : 0 ≤ k) (hk : k < (ns.length : Int)) (hz : ns.length < 1000) (h : ∀ t v, v = ns.getD k.toNat 0 → lo ≤ v → v ≤ hi' → Q (.int v t) s)
    (hs : subscripted slice false (.ref a) (.int k u) = operate [.ref a, .int k u] (getItem (.ref a) (.int k u)) := by with_unfolding_all rfl) :
    wpAny (model prog w) A (subscriptTail value slice (.ref a) (.int k u)) Q E s := by
  have hl : s.heap.IsList a vs.toArray := hl₀.at fun o e => F.keep a o e
  have hlt : k.toNat < ns.length := by omega
  obtain ⟨t, hx⟩ := hi.get k.toNat ns[k.toNat] (by simp [hlt])
  have e : ns.getD k.toNat 0 = ns[k.toNat] := by simp [List.getD, hlt]
  refine tail_any hl.typeIs slot_list_getitem.lookup (wpAny_getItem_list hl h0 (by omega) (by simpa using hx) ?_) hs
  rw [← e]; exact h t _ rfl (hB _).1 (hB _).2
theorem ite_cn {M : Model} {A : Around} {E : Value → Shared → Prop} {s : Shared} {Q : Value → Shared → Prop} {name x n : Str} {scope : Scope} {L a : Addr} {cd : Value} {h₀ : Heap} {m : Str → Option Value} {c : Bool} {k : Nat} {p p' : Pos} {y : Str} {ty : Tok}
    (F : Fr h₀ L s.heap m) (hv : m n = some (.str y ty)) (hk : scope.kind = .function) (hl : (envOf name scope L a cd).kindOf n = some .local) (hd : (n == ("__debug__" : Str)) = false)
    (h : ∀ t tk, Q (.str (if c = true then x else y) t) { s with toks := tk }) :
    if c = true then wpAny M A (eval (.Constant (.str x) k p) (envOf name scope L a cd)) Q E s else wpAny M A (eval (.Name n p') (envOf name scope L a cd)) Q E s := by
  cases c
  · exact ld F hv (by simpa using h ty s.toks) hk hl hd
  · exact Calls.Constant_str (by simpa using h s.toks (s.toks + 1))
theorem all_lt {news : List (Addr × Obj)} {d : Addr} (h : AllLt d news) : ∀ p ∈ news, p.1 ≠ d := fun p hp => Nat.ne_of_lt (kst_ltOf h p hp)
theorem mul01 {prog : Program} {w : World} {A : Around} {E : Value → Shared → Prop} {s : Shared} {a b : Int} {t u : Tok} {Q : Value → Shared → Prop} (ha : 0 ≤ a) (ha1 : a ≤ 1) (hb : 0 ≤ b) (hb1 : b ≤ 1)
    (h : ∀ t' v, v = a * b → 0 ≤ v → v ≤ 1 → Q (.int v t') { s with toks := s.toks + 1 }) : wpAny (model prog w) A (binaryOp .Mult (.int a t) (.int b u)) Q E s := by
  have h1 : a = 0 ∨ a = 1 := by omega
  refine mul_int (h _ _ rfl ?_ ?_) (PySem.IntMulOk.of_left (PySem.intBits_le_64 (by omega) (by omega)))
  · rcases h1 with rfl | rfl <;> omega
  · rcases h1 with rfl | rfl <;> omega
theorem mulS {prog : Program} {w : World} {A : Around} {E : Value → Shared → Prop} {s : Shared} {x : Str} {n : Nat} {i : Int} {t u : Tok} {Q : Value → Shared → Prop} (hx : x.length ≤ n) (hn : n ≤ 2) (h0 : 0 ≤ i) (h1 : i ≤ 8)
    (h : ∀ t' k y, y = Txt.mul x i → y.length ≤ 16 → Q (.str y t') { s with toks := k }) : wpAny (model prog w) A (binaryOp .Mult (.str x t) (.int i u)) Q E s := by
  refine KXi.mul (n := x.length) rfl (by omega) (by omega) (by omega) fun t' k _ hp => h t' k _ rfl ?_
  have e := hp h0
  have h2 : (x.length : Int) * i ≤ 2 * 8 := Int.mul_le_mul (by omega) h1 h0 (by omega)
  omega
theorem addS {prog : Program} {w : World} {A : Around} {E : Value → Shared → Prop} {s : Shared} {x y : Str} {m n : Nat} {t u : Tok} {Q : Value → Shared → Prop} (hx : x.length ≤ m) (hy : y.length ≤ n) (hz : m + n ≤ 1000000)
    (h : ∀ t' k z, z = x ++ y → z.length ≤ m + n → Q (.str z t') { s with toks := k }) : wpAny (model prog w) A (binaryOp .Add (.str x t) (.str y u)) Q E s := by
  have e := Str.length_append x y
  exact add_str (fun t' k => h t' k _ rfl (by omega)) (by rw [sizeLine_eq]; omega)
theorem iaddS {prog : Program} {w : World} {A : Around} {E : Value → Shared → Prop} {s : Shared} {x y : Str} {m n : Nat} {t u : Tok} {Q : Value → Shared → Prop} (hx : x.length ≤ m) (hy : y.length ≤ n) (hz : m + n ≤ 1000000)
    (h : ∀ t' k z, z = x ++ y → z.length ≤ m + n → Q (.str z t') { s with toks := k }) : wpAny (model prog w) A (inplaceOp .Add (.str x t) (.str y u)) Q E s := by
  have e := Str.length_append x y
  exact iadd_str (fun t' k => h t' k _ rfl (by omega)) (by rw [sizeLine_eq]; omega)
theorem mul_getD {prog : Program} {w : World} {A : Around} {E : Value → Shared → Prop} {s : Shared} {xs ys : List Int} {i j : Nat} {t u : Tok} {Q : Value → Shared → Prop}
    (hx : ∀ i : Nat, (0:Int) ≤ xs.getD i 0 ∧ xs.getD i 0 ≤ 1) (hy : ∀ i : Nat, (0:Int) ≤ ys.getD i 0 ∧ ys.getD i 0 ≤ 1)
    (h : Q (.int (xs.getD i 0 * ys.getD j 0) s.toks) { s with toks := s.toks + 1 }) : wpAny (model prog w) A (binaryOp .Mult (.int (xs.getD i 0) t) (.int (ys.getD j 0) u)) Q E s := by
  have := hx i
  exact mul_int h (PySem.IntMulOk.of_left (PySem.intBits_le_64 (by omega) (by omega)))
theorem mul01_le {a b : Int} (ha : 0 ≤ a ∧ a ≤ 1) (hb : 0 ≤ b ∧ b ≤ 1) : 0 ≤ a * b ∧ a * b ≤ 1 := by
  have h1 : a = 0 ∨ a = 1 := by omega
  rcases h1 with rfl | rfl <;> omega
theorem sum4 {on own : List Int} (hx : ∀ i : Nat, (0:Int) ≤ on.getD i 0 ∧ on.getD i 0 ≤ 1) (hy : ∀ i : Nat, (0:Int) ≤ own.getD i 0 ∧ own.getD i 0 ≤ 1) :
    0 ≤ (List.map (fun k' : Int => on.getD k'.toNat 0 * own.getD k'.toNat 0) (rangeKs 0 (4 - 0 : Int).toNat)).sum ∧ (List.map (fun k' : Int => on.getD k'.toNat 0 * own.getD k'.toNat 0) (rangeKs 0 (4 - 0 : Int).toNat)).sum ≤ 4 := by
  have e : rangeKs 0 (4 - 0 : Int).toNat = [0, 1, 2, 3] := by decide
  rw [e]
  have h0 := mul01_le (hx 0) (hy 0)
  have h1 := mul01_le (hx 1) (hy 1)
  have h2 := mul01_le (hx 2) (hy 2)
  have h3 := mul01_le (hx 3) (hy 3)
  simp only [List.map_cons, List.map_nil, List.sum_cons, List.sum_nil]
  have e0 : (0 : Int).toNat = 0 := rfl
  have e1 : (1 : Int).toNat = 1 := rfl
  have e2 : (2 : Int).toNat = 2 := rfl
  have e3 : (3 : Int).toNat = 3 := rfl
  rw [e0, e1, e2, e3]
  omega
section
variable {prog : Program} {w : World} {A : Around} {E : Value → Shared → Prop} {s : Shared} {a : Int} {t u : Tok} {Q : Value → Shared → Prop}
theorem mod_c4 (h0 : a.fmod 4 = 0 → Q (.int 0 s.toks) { s with toks := s.toks + 1 }) (h1 : a.fmod 4 = 1 → Q (.int 1 s.toks) { s with toks := s.toks + 1 }) (h2 : a.fmod 4 = 2 → Q (.int 2 s.toks) { s with toks := s.toks + 1 }) (h3 : a.fmod 4 = 3 → Q (.int 3 s.toks) { s with toks := s.toks + 1 }) :
    wpAny (model prog w) A (binaryOp .Mod (.int a t) (.int 4 u)) Q E s := by
  refine mod_int (by decide) ?_
  have l := fmod_lo a (show (0:Int) < 4 by decide)
  have m := fmod_hi a (show (0:Int) < 4 by decide)
  have c : a.fmod 4 = 0 ∨ a.fmod 4 = 1 ∨ a.fmod 4 = 2 ∨ a.fmod 4 = 3 := by omega
  rcases c with e | e | e | e <;> rw [e]
  · exact h0 e
  · exact h1 e
  · exact h2 e
  · exact h3 e
theorem mod_c3 (h0 : a.fmod 3 = 0 → Q (.int 0 s.toks) { s with toks := s.toks + 1 }) (h1 : a.fmod 3 = 1 → Q (.int 1 s.toks) { s with toks := s.toks + 1 }) (h2 : a.fmod 3 = 2 → Q (.int 2 s.toks) { s with toks := s.toks + 1 }) :
    wpAny (model prog w) A (binaryOp .Mod (.int a t) (.int 3 u)) Q E s := by
  refine mod_int (by decide) ?_
  have l := fmod_lo a (show (0:Int) < 3 by decide)
  have m := fmod_hi a (show (0:Int) < 3 by decide)
  have c : a.fmod 3 = 0 ∨ a.fmod 3 = 1 ∨ a.fmod 3 = 2 := by omega
  rcases c with e | e | e <;> rw [e]
  · exact h0 e
  · exact h1 e
  · exact h2 e
theorem mod_c2 (h0 : a.fmod 2 = 0 → Q (.int 0 s.toks) { s with toks := s.toks + 1 }) (h1 : a.fmod 2 = 1 → Q (.int 1 s.toks) { s with toks := s.toks + 1 }) :
    wpAny (model prog w) A (binaryOp .Mod (.int a t) (.int 2 u)) Q E s := by
  refine mod_int (by decide) ?_
  have l := fmod_lo a (show (0:Int) < 2 by decide)
  have m := fmod_hi a (show (0:Int) < 2 by decide)
  have c : a.fmod 2 = 0 ∨ a.fmod 2 = 1 := by omega
  rcases c with e | e <;> rw [e]
  · exact h0 e
  · exact h1 e
theorem mod_c1 (h0 : Q (.int 0 s.toks) { s with toks := s.toks + 1 }) :
    wpAny (model prog w) A (binaryOp .Mod (.int a t) (.int 1 u)) Q E s := by
  refine mod_int (by decide) ?_
  have l := fmod_lo a (show (0:Int) < 1 by decide)
  have m := fmod_hi a (show (0:Int) < 1 by decide)
  have e : a.fmod 1 = 0 := by omega
  rw [e]; exact h0
end
theorem strs_of {vs : List Value} {xs : List Str} (h : StrsAre vs xs) : ∃ l : List (Str × Tok), vs = strValues l ∧ l.map (·.1) = xs := by
  induction h with
  | nil => exact ⟨[], rfl, rfl⟩
  | cons x t _ ih => obtain ⟨l, rfl, rfl⟩ := ih; exact ⟨(x, t) :: l, rfl, rfl⟩
def LenLe (B : Nat) : List Str → Prop
  | [] => True
  | x :: r => x.length ≤ B ∧ LenLe B r
theorem LenLe.all {B : Nat} : ∀ {l : List Str}, LenLe B l → ∀ y ∈ l, y.length ≤ B
  | _ :: _, ⟨h, _⟩, _, .head _ => h
  | _ :: _, ⟨_, r⟩, _, .tail _ m => r.all _ m
theorem len_if {B : Nat} {c : Bool} {x y : Str} (hx : x.length ≤ B) (hy : y.length ≤ B) : (if c = true then x else y).length ≤ B := by split <;> assumption
theorem join_led {prog : Program} {w : World} {A : Around} {E : Value → Shared → Prop} {s : Shared} {h₀ : Heap} {L a : Addr} {n B : Nat} {news : List (Addr × Obj)} {vs : List Value} {xs : List Str} {sep : Str} {t : Tok} {Q : Value → Shared → Prop}
    (N : News h₀ L s.heap news) (hm : (a, listOf vs.toArray n) ∈ news) (hi : StrsAre vs xs) (hB : LenLe B xs) (hz : xs.length * B + xs.length * sep.length ≤ 1000000)
    (h : ∀ t' k, (Txt.join sep xs).length ≤ 1000000 → Q (.str (Txt.join sep xs) t') { s with toks := k }) :
    wpAny (model prog w) A (call (.builtin "str.join") [.str sep t, .ref a]) Q E s := by
  obtain ⟨l, rfl, rfl⟩ := strs_of hi
  have hl : s.heap.IsList a (strValues l).toArray := ⟨_, (N _ hm).1, rfl, n, rfl⟩
  have hlen : (Txt.join sep (l.map (·.1))).length ≤ 1000000 := by
    show (Builtin.Str.glued sep (l.map (·.1))).length ≤ _
    rw [StrLaws.glued_eq_join]
    refine Nat.le_trans (StrLaws.join_length_le sep _) ?_
    have := StrLaws.sumLen_le _ hB.all
    omega
  refine SC.join hl rfl ?_ fun t' k => h t' k hlen
  unfold JoinOk
  rw [Bool.not_eq_true']
  exact StrLaws.joinFits hB.all (by omega)
end Mine

end
section
open PySem PySem.W PySem.Calls PyProof.Rows
namespace Mine
/-- a turn's end: the frame, what is carried on (at whatever addresses), what the loop's own iterator holds -/
def TurnEnd (h₀ : Heap) (L : Addr) (own : List (Addr × Obj)) (J : (Str → Option Value) → List (Addr × Obj) → Prop) (s : Shared) (s₂ : Shared) : Prop :=
  ∃ h' tk' m₂ news₂, s₂ = { s with heap := h', toks := tk' } ∧ Fr h₀ L h' m₂ ∧ News h₀ L h' (news₂ ++ own) ∧ OwnOff own (news₂.map (·.1)) ∧ J m₂ news₂
def TurnPost (h₀ : Heap) (L : Addr) (own : List (Addr × Obj)) (J : (Str → Option Value) → List (Addr × Obj) → Prop) (s : Shared) (Q : Flow → Shared → Prop) (f : Flow) (s₂ : Shared) : Prop :=
  match f with
  | .ret v => Q (.ret v) s₂
  | .brk => Q .next s₂
  | _ => TurnEnd h₀ L own J s s₂
/-- what stands behind «for» once its iterator is made -/
def ForAt (prog : Program) (w : World) (A : Around) (env : Env) (target : Expr) (body : List Stmt) (Q : Flow → Shared → Prop) (E : Value → Shared → Prop) (it : Value) (s₂ : Shared) : Prop :=
  codeAny (model prog w) A (.forLoop target it body [] env) (fun r s' => match r with | .ok f => Q f s' | .error e => cameBackBy (model prog w) A env E e s') s₂
section
variable {prog : Program} {w : World} {A : Around} {E : Value → Shared → Prop} {s : Shared} {env : Env} {h₀ : Heap}
theorem For_at {target iter : Expr} {body : List Stmt} {pos : Pos} {Q : Flow → Shared → Prop}
    (h : wpAny (model prog w) A (eval iter env) (fun xv s₁ => wpAny (model prog w) A (pyIter xv) (fun it s₂ => ForAt prog w A env target body Q E it s₂) E s₁) E s)
    (hs : ∀ x, foldedSetIterable iter env x = pure x) : wpAny (model prog w) A (exec (.For target iter body [] pos) env) Q E s := wpAny_For h hs
theorem off_swap {own news : List (Addr × Obj)} (h : OwnOff own (news.map (·.1))) : ∀ p ∈ news, ∀ q ∈ own, p.1 ≠ q.1 := fun p hp q hq e => h q hq p.1 (List.mem_map_of_mem hp) e.symm

theorem pair_loop {xi xc : Str} {pk pv pt : Pos} {x1 : Nat} {body : List Stmt} {I : Addr} {fp wr : List Addr} {n : Nat} {Pt : Nat → Array Value → Prop} {St : Nat → Heap → Prop} {Mid : Nat → Addr → Heap → Prop}
    {P2 : Nat → Value → Value → Prop} {m : Str → Option Value} {news : List (Addr × Obj)} {Q : Flow → Shared → Prop} (hh : A.handled = none) (W : WalksT prog w A I fp wr n Pt St Mid) (h2 : ∀ i vals, Pt i vals → ∃ v0 v1, vals = #[v0, v1] ∧ P2 i v0 v1)
    (hlive : ∀ i h, St i h → ∀ b ∈ fp, ∃ o, h.get? b = some o)
    (hxi : env.kindOf xi = some .local) (hxc : env.kindOf xc = some .local)
    (hp : (env.scope.kind == .class || (env.scope.kind == .module && env.locals != env.globals)) = false) (hE : PassesOwn (model prog w) A env E)
    (hLf : env.locals ∉ fp) (hwr : ∀ b ∈ wr, h₀.get? b = none) (hnw : ∀ p ∈ news, p.1 ∉ fp)
    (hst : St 0 s.heap) (F : Fr h₀ env.locals s.heap m) (N : News h₀ env.locals s.heap news)
    (J : Nat → (Str → Option Value) → List (Addr × Obj) → Prop) (h0 : J 0 m news)
    (step : ∀ i v0 v1 m₁ news₁ h tk own, i < n → P2 i v0 v1 → J i m₁ news₁ → OwnOff own (news₁.map (·.1)) →
      Fr h₀ env.locals h (fun y => if y = xc then some v1 else if y = xi then some v0 else m₁ y) → News h₀ env.locals h (news₁ ++ own) →
      wpAny (model prog w) A (execs body env) (TurnPost h₀ env.locals own (J (i + 1)) { s with heap := h, toks := tk } Q) E { s with heap := h, toks := tk })
    (done : ∀ h' tk m' news', Fr h₀ env.locals h' m' → News h₀ env.locals h' news' → J n m' news' → Q .next { s with heap := h', toks := tk }) :
    ForAt prog w A env (.Tuple [.Name xi pk, .Name xc pv] x1 pt) body Q E (.ref I) s := by
  have hLw : env.locals ∉ wr := fun h => hLf (W.sub _ h)
  have old : ∀ b o, h₀.get? b = some o → b ∉ wr := fun b o e hb => by rw [hwr b hb] at e; cases e
  unfold ForAt
  refine codeAny_forLoop_any
    (fun k s' => ∃ h' tk m' news' i, s' = { s with heap := h', toks := tk } ∧ St i h' ∧ Fr h₀ env.locals h' m' ∧ News h₀ env.locals h' news' ∧ (∀ p ∈ news', p.1 ∉ fp) ∧ J i m' news' ∧ i ≤ n ∧ k = n + 1 - i) ?_ (n + 1)
    ⟨s.heap, s.toks, m, news, 0, rfl, hst, F, N, hnw, h0, Nat.zero_le _, rfl⟩
  rintro k s' ⟨H, tk, m', news', i, rfl, hst', F', N', hnf, hJ, hi, rfl⟩
  have hn' : ∀ p ∈ news', p.1 ∉ wr := fun p hp hb => hnf p hp (W.sub _ hb)
  by_cases hlt : i < n
  · refine W.item i _ _ _ hlt hst' fun T vals h₁ tk₁ hPt _ hT hMid hk₁ => ?_
    obtain ⟨v0, v1, rfl, hP2⟩ := h2 i vals hPt
    refine W.go _ x1 pt i T _ _ _ hMid fun h₂ hst₂ hk₂ => ?_
    have ht₂ : h₂.IsTuple T #[v0, v1] := hT.at fun o e => hk₂ T o (W.apart i T h₁ hMid) e
    refine wpAny_assign_Tuple hh ht₂ rfl rfl fun h₃ hx₃ => ?_
    have up₃ : ∀ b o, h₂.get? b = some o → h₃.get? b = some o := fun b o x => hx₃ b o (Nat.ne_of_lt (Heap.lt_size x)) x
    have all : ∀ b o, b ∉ wr → H.get? b = some o → h₃.get? b = some o := fun b o hb x => up₃ b o (hk₂ b o hb (hk₁ b o hb x))
    have F₃ : Fr h₀ env.locals h₃ m' := ⟨F'.ns.at' fun o e => all _ o hLw e, fun b o e => all b o (old b o e) (F'.keep b o e), F'.above⟩
    have N₃ : News h₀ env.locals h₃ news' := fun p hp => ⟨all _ _ (hn' p hp) (N' p hp).1, (N' p hp).2⟩
    show wpAny _ A (do holding [v1] (assign (.Name xi pk) env v0); do holding [] (assign (.Name xc pv) env v1); pure ()) _ _ _
    refine wpAny_bind (wpAny_holding (wpAny_assign_Name (wpAny_storeName_local hxi F₃.ns (fun h₄ hn₄ hs₄ => ?_) hp)))
    have F₄ := F₃.set hn₄ hs₄
    refine wpAny_bind (wpAny_holding (wpAny_assign_Name (wpAny_storeName_local hxc F₄.ns (fun h₅ hn₅ hs₅ => wpAny_pure ?_) hp)))
    have F₅ := F₄.set hn₅ hs₅
    have N₅ : News h₀ env.locals h₅ news' := (N₃.set hs₄).set hs₅
    have up₅ : ∀ b o, b ≠ env.locals → h₂.get? b = some o → h₅.get? b = some o := fun b o hb x => (hs₅.2 b hb).trans ((hs₄.2 b hb).trans (up₃ b o x))
    have hst₅ : St (i + 1) h₅ := W.frame _ _ _ hst₂ fun b hb o e => up₅ b o (fun q => hLf (q ▸ hb)) e
    have hoff : OwnOff (ownOf h₀ fp h₅) (news'.map (·.1)) := fun p hp b hb e => by
      obtain ⟨q, hq, rfl⟩ := List.mem_map.mp hb
      exact hnf q hq (e ▸ ownOf_sub p hp)
    refine wpAny_mono (wpAny_passesOwn hE (step i v0 v1 m' news' h₅ _ (ownOf h₀ fp h₅) hlt hP2 hJ hoff F₅ (N₅.append (news_ownOf hLf)))) (fun f s₃ h₆ => ?_) fun _ _ e => e
    have fin : TurnEnd h₀ env.locals (ownOf h₀ fp h₅) (J (i + 1)) { s with heap := h₅, toks := tk₁ } s₃ → ∃ k', k' < n + 1 - i ∧ ∃ h' tk m' news' i, s₃ = { s with heap := h', toks := tk } ∧ St i h' ∧ Fr h₀ env.locals h' m' ∧ News h₀ env.locals h' news' ∧ (∀ p ∈ news', p.1 ∉ fp) ∧ J i m' news' ∧ i ≤ n ∧ k' = n + 1 - i := by
      rintro ⟨h₆', tk₆, m₂, news₂, rfl, F₆, N₆, ho₆, hJ₆⟩
      refine ⟨n + 1 - (i + 1), by omega, h₆', tk₆, m₂, news₂, i + 1, rfl, ?_, F₆, fun p hp => N₆ p (List.mem_append_left _ hp), ?_, hJ₆, hlt, rfl⟩
      · refine W.frame _ _ _ hst₅ fun b hb o e => ?_
        cases hn : h₀.get? b with
        | some o₀ =>
          have q := F₅.keep b o₀ hn
          rw [e] at q
          rw [Option.some.inj q]
          exact F₆.keep b o₀ hn
        | none => exact (N₆ (b, o) (List.mem_append_right _ (mem_ownOf hb hn e))).1
      · intro p hp hb
        obtain ⟨o, ho⟩ := hlive _ _ hst₅ _ hb
        exact off_swap ho₆ p hp (p.1, o) (mem_ownOf hb (N₆ p (List.mem_append_left _ hp)).2.2 ho) rfl
    cases f with
    | ret v => exact h₆
    | brk => exact h₆
    | cont => exact fin h₆
    | next => exact fin h₆
  · have hin : i = n := by omega
    subst hin
    refine W.done _ _ _ hst' fun h₁ tk₁ hk₁ => wpAny_execs_nil ?_
    exact done h₁ tk₁ m' news' ⟨F'.ns.at' fun o e => hk₁ _ o hLw e, fun b o e => hk₁ b o (old b o e) (F'.keep b o e), F'.above⟩ (fun p hp => ⟨hk₁ _ _ (hn' p hp) (N' p hp).1, (N' p hp).2⟩) hJ
theorem enum_loop {xi xc : Str} {pk pv pt : Pos} {x1 : Nat} {body : List Stmt} {l : Addr} {items : Array Value} {m : Str → Option Value} {news : List (Addr × Obj)} {Q : Flow → Shared → Prop}
    (hh : A.handled = none) (hl : s.heap.IsList l items) (hlL : l ≠ env.locals) (hln : ∀ q ∈ news, q.1 ≠ l) (F : Fr h₀ env.locals s.heap m) (N : News h₀ env.locals s.heap news)
    (hxi : env.kindOf xi = some .local) (hxc : env.kindOf xc = some .local)
    (hp : (env.scope.kind == .class || (env.scope.kind == .module && env.locals != env.globals)) = false) (hE : PassesOwn (model prog w) A env E)
    (J : Nat → (Str → Option Value) → List (Addr × Obj) → Prop) (h0 : J 0 m news)
    (step : ∀ (i : Nat) v t m₁ news₁ h tk own, items[i]? = some v → J i m₁ news₁ → OwnOff own (news₁.map (·.1)) →
      Fr h₀ env.locals h (fun y => if y = xc then some v else if y = xi then some (.int i t) else m₁ y) → News h₀ env.locals h (news₁ ++ own) →
      wpAny (model prog w) A (execs body env) (TurnPost h₀ env.locals own (J (i + 1)) { s with heap := h, toks := tk } Q) E { s with heap := h, toks := tk })
    (done : ∀ h' tk m' news', Fr h₀ env.locals h' m' → News h₀ env.locals h' news' → J items.size m' news' → Q .next { s with heap := h', toks := tk }) :
    wpAny (model prog w) A (call (.type "enumerate") [.ref l]) (fun xv s₁ => wpAny (model prog w) A (pyIter xv) (fun it s₂ => ForAt prog w A env (.Tuple [.Name xi pk, .Name xc pv] x1 pt) body Q E it s₂) E s₁) E s := by
  obtain ⟨ol, hol, _⟩ := id hl
  have hl2 : l < s.heap.objs.size := Heap.lt_size hol
  have hLs : env.locals < s.heap.objs.size := F.ns.lt
  have hab : h₀.objs.size ≤ env.locals := F.above
  refine call_enumerate_list hl fun h' he hit hsz hk => wpAny_pyIter_enum he ?_
  have F' : Fr h₀ env.locals h' m := ⟨F.ns.keeps hk, fun b o e => hk b o (F.keep b o e), F.above⟩
  have N' : News h₀ env.locals h' news := fun p hp => ⟨hk _ _ (N p hp).1, (N p hp).2⟩
  have W := WalksT.enumerate (prog := prog) (w := w) hh (s.heap.objs.size + 1) s.heap.objs.size l (Nat.succ_ne_self _) (Nat.ne_of_lt (Nat.lt_succ_of_lt hl2)) (Nat.ne_of_lt hl2) items
  refine pair_loop (s := { s with heap := h' }) hh W (P2 := fun i v0 v1 => ∃ t, v0 = .int i t ∧ items[i]? = some v1) ?_ ?_ hxi hxc hp hE ?_ ?_ ?_ ⟨⟨_, by simpa using he⟩, hit, hl.at fun o e => hk l o e⟩ F' N' J h0 ?_ done
  · rintro i vals ⟨t, x, hx, rfl⟩
    exact ⟨_, _, rfl, t, rfl, hx⟩
  · rintro i h ⟨⟨old, h1⟩, ⟨o2, h2, _⟩, ⟨o3, h3, _⟩⟩ b hb
    rcases List.mem_cons.mp hb with rfl | hb
    · exact ⟨_, h1⟩
    · rcases List.mem_cons.mp hb with rfl | hb
      · exact ⟨_, h2⟩
      · rw [List.mem_singleton.mp hb]; exact ⟨_, h3⟩
  · intro hm
    rcases List.mem_cons.mp hm with e | hm
    · exact Nat.ne_of_lt (Nat.lt_succ_of_lt hLs) e
    · rcases List.mem_cons.mp hm with e | hm
      · exact Nat.ne_of_lt hLs e
      · exact hlL (List.mem_singleton.mp hm).symm
  · intro b hb
    rcases List.mem_cons.mp hb with rfl | hb
    · exact Heap.get?_none_of_le (Nat.le_trans hab (Nat.le_of_lt (Nat.lt_succ_of_lt hLs)))
    · rw [List.mem_singleton.mp hb]; exact Heap.get?_none_of_le (Nat.le_trans hab (Nat.le_of_lt hLs))
  · intro p hp hm
    have hq1 : p.1 < s.heap.objs.size := Heap.lt_size (N p hp).1
    rcases List.mem_cons.mp hm with e | hm
    · exact Nat.ne_of_lt (Nat.lt_succ_of_lt hq1) e
    · rcases List.mem_cons.mp hm with e | hm
      · exact Nat.ne_of_lt hq1 e
      · exact hln p hp (List.mem_singleton.mp hm)
  · rintro i v0 v1 m₁ news₁ h tk own hi ⟨t, rfl, hx⟩ hJ ho F₁ N₁
    exact step i v1 t m₁ news₁ h tk own hx hJ ho F₁ N₁
end
theorem fr_put {h₀ h : Heap} {L : Addr} {m₁ : Str → Option Value} {x : Str} {v : Value} (e : m₁ x = some v) (F : Fr h₀ L h m₁) : Fr h₀ L h (fun y => if y = x then some v else m₁ y) := by
  have : (fun y => if y = x then some v else m₁ y) = m₁ := by
    funext y
    by_cases h : y = x
    · rw [if_pos h, h, e]
    · rw [if_neg h]
  rw [this]; exact F
theorem fr_put2 {h₀ h : Heap} {L : Addr} {m₁ : Str → Option Value} {x c : Str} {v : Value} {p : Option Value} (e : m₁ x = some v) (F : Fr h₀ L h (fun y => if y = c then p else m₁ y)) :
    Fr h₀ L h (fun y => if y = c then p else if y = x then some v else m₁ y) := by
  have this : (fun y => if y = c then p else if y = x then some v else m₁ y) = fun y => if y = c then p else m₁ y := by
    funext y
    by_cases h : y = x
    · rw [if_pos h, h, e]
    · rw [if_neg h]
  rw [this]; exact F
theorem fr_put3 {h₀ h : Heap} {L : Addr} {m₁ : Str → Option Value} {x c d : Str} {v : Value} {p q : Option Value} (e : m₁ x = some v) (F : Fr h₀ L h (fun y => if y = c then p else if y = d then q else m₁ y)) :
    Fr h₀ L h (fun y => if y = c then p else if y = d then q else if y = x then some v else m₁ y) := by
  have : (fun y => if y = x then some v else m₁ y) = m₁ := by
    funext y
    by_cases h : y = x
    · rw [if_pos h, h, e]
    · rw [if_neg h]
  have e2 : (fun y => if y = c then p else if y = d then q else if y = x then some v else m₁ y) = fun y => if y = c then p else if y = d then q else m₁ y := by
    funext y
    rw [show (if y = x then some v else m₁ y) = m₁ y from congrFun this y]
  rw [e2]; exact F
theorem turn_end {h₀ h' : Heap} {L : Addr} {own news₂ : List (Addr × Obj)} {J : (Str → Option Value) → List (Addr × Obj) → Prop} {s : Shared} {tk' : Nat} {m₂ : Str → Option Value}
    (F : Fr h₀ L h' m₂) (N : News h₀ L h' (news₂ ++ own)) (ho : OwnOff own (news₂.map (·.1))) (hJ : J m₂ news₂) : TurnEnd h₀ L own J s { s with heap := h', toks := tk' } := ⟨h', tk', m₂, news₂, rfl, F, N, ho, hJ⟩
section
variable {prog : Program} {w : World} {A : Around} {E : Value → Shared → Prop} {s : Shared} {env : Env} {h₀ : Heap}
theorem name_loop {x : Str} {px : Pos} {body : List Stmt} {I : Addr} {fp wr : List Addr} {n : Nat} {P : Nat → Value → Prop} {St : Nat → Heap → Prop} {m : Str → Option Value} {news : List (Addr × Obj)} {Q : Flow → Shared → Prop}
    (W : Walks prog w A I fp wr n P St) (hlive : ∀ i h, St i h → ∀ b ∈ fp, ∃ o, h.get? b = some o) (hx : env.kindOf x = some .local)
    (hp : (env.scope.kind == .class || (env.scope.kind == .module && env.locals != env.globals)) = false) (hE : PassesOwn (model prog w) A env E)
    (hLf : env.locals ∉ fp) (hwr : ∀ b ∈ wr, h₀.get? b = none) (hnw : ∀ p ∈ news, p.1 ∉ fp)
    (hst : St 0 s.heap) (F : Fr h₀ env.locals s.heap m) (N : News h₀ env.locals s.heap news)
    (J : Nat → (Str → Option Value) → List (Addr × Obj) → Prop) (h0 : J 0 m news)
    (step : ∀ i v m₁ news₁ h tk own, i < n → P i v → J i m₁ news₁ → OwnOff own (news₁.map (·.1)) →
      Fr h₀ env.locals h (fun y => if y = x then some v else m₁ y) → News h₀ env.locals h (news₁ ++ own) →
      wpAny (model prog w) A (execs body env) (TurnPost h₀ env.locals own (J (i + 1)) { s with heap := h, toks := tk } Q) E { s with heap := h, toks := tk })
    (done : ∀ h' tk m' news', Fr h₀ env.locals h' m' → News h₀ env.locals h' news' → J n m' news' → Q .next { s with heap := h', toks := tk }) :
    ForAt prog w A env (.Name x px) body Q E (.ref I) s := by
  have hLw : env.locals ∉ wr := fun h => hLf (W.sub _ h)
  have old : ∀ b o, h₀.get? b = some o → b ∉ wr := fun b o e hb => by rw [hwr b hb] at e; cases e
  unfold ForAt
  refine codeAny_forLoop_any
    (fun k s' => ∃ h' tk m' news' i, s' = { s with heap := h', toks := tk } ∧ St i h' ∧ Fr h₀ env.locals h' m' ∧ News h₀ env.locals h' news' ∧ (∀ p ∈ news', p.1 ∉ fp) ∧ J i m' news' ∧ i ≤ n ∧ k = n + 1 - i) ?_ (n + 1)
    ⟨s.heap, s.toks, m, news, 0, rfl, hst, F, N, hnw, h0, Nat.zero_le _, rfl⟩
  rintro k s' ⟨H, tk, m', news', i, rfl, hst', F', N', hnf, hJ, hi, rfl⟩
  have hn' : ∀ p ∈ news', p.1 ∉ wr := fun p hp hb => hnf p hp (W.sub _ hb)
  by_cases hlt : i < n
  · refine W.item i _ _ _ hlt hst' fun v h₁ tk₁ hP hst₁ hk₁ => wpAny_of_eq (rfl : letOwnedTupleGo (.Name x px) (.ref I) v = pure ()) ?_
    have F₁ : Fr h₀ env.locals h₁ m' := ⟨F'.ns.at' fun o e => hk₁ _ o hLw e, fun b o e => hk₁ b o (old b o e) (F'.keep b o e), F'.above⟩
    have N₁ : News h₀ env.locals h₁ news' := fun p hp => ⟨hk₁ _ _ (hn' p hp) (N' p hp).1, (N' p hp).2⟩
    refine wpAny_assign_Name (wpAny_storeName_local hx F₁.ns (fun h₅ hn₅ hs₅ => ?_) hp)
    have F₅ := F₁.set hn₅ hs₅
    have N₅ : News h₀ env.locals h₅ news' := N₁.set hs₅
    have hst₅ : St (i + 1) h₅ := W.frame _ _ _ hst₁ fun b hb o e => (hs₅.2 b fun q => hLf (q ▸ hb)).trans e
    have hoff : OwnOff (ownOf h₀ fp h₅) (news'.map (·.1)) := fun p hp b hb e => by
      obtain ⟨q, hq, rfl⟩ := List.mem_map.mp hb
      exact hnf q hq (e ▸ ownOf_sub p hp)
    refine wpAny_mono (wpAny_passesOwn hE (step i v m' news' h₅ _ (ownOf h₀ fp h₅) hlt hP hJ hoff F₅ (N₅.append (news_ownOf hLf)))) (fun f s₃ h₆ => ?_) fun _ _ e => e
    have fin : ∀ tk₀, TurnEnd h₀ env.locals (ownOf h₀ fp h₅) (J (i + 1)) { s with heap := h₅, toks := tk₀ } s₃ → ∃ k', k' < n + 1 - i ∧ ∃ h' tk m' news' i, s₃ = { s with heap := h', toks := tk } ∧ St i h' ∧ Fr h₀ env.locals h' m' ∧ News h₀ env.locals h' news' ∧ (∀ p ∈ news', p.1 ∉ fp) ∧ J i m' news' ∧ i ≤ n ∧ k' = n + 1 - i := by
      rintro tk₀ ⟨h₆', tk₆, m₂, news₂, rfl, F₆, N₆, ho₆, hJ₆⟩
      refine ⟨n + 1 - (i + 1), by omega, h₆', tk₆, m₂, news₂, i + 1, rfl, ?_, F₆, fun p hp => N₆ p (List.mem_append_left _ hp), ?_, hJ₆, hlt, rfl⟩
      · refine W.frame _ _ _ hst₅ fun b hb o e => ?_
        cases hn : h₀.get? b with
        | some o₀ =>
          have q := F₅.keep b o₀ hn
          rw [e] at q
          rw [Option.some.inj q]
          exact F₆.keep b o₀ hn
        | none => exact (N₆ (b, o) (List.mem_append_right _ (mem_ownOf hb hn e))).1
      · intro p hp hb
        obtain ⟨o, ho⟩ := hlive _ _ hst₅ _ hb
        exact off_swap ho₆ p hp (p.1, o) (mem_ownOf hb (N₆ p (List.mem_append_left _ hp)).2.2 ho) rfl
    cases f with
    | ret v => exact h₆
    | brk => exact h₆
    | cont => exact fin _ h₆
    | next => exact fin _ h₆
  · have hin : i = n := by omega
    subst hin
    refine W.done _ _ _ hst' fun h₁ tk₁ hk₁ => wpAny_execs_nil ?_
    exact done h₁ tk₁ m' news' ⟨F'.ns.at' fun o e => hk₁ _ o hLw e, fun b o e => hk₁ b o (old b o e) (F'.keep b o e), F'.above⟩ (fun p hp => ⟨hk₁ _ _ (hn' p hp) (N' p hp).1, (N' p hp).2⟩) hJ
theorem list_loop {x : Str} {px : Pos} {body : List Stmt} {l : Addr} {items : Array Value} {m : Str → Option Value} {news : List (Addr × Obj)} {Q : Flow → Shared → Prop}
    (hh : A.handled = none) (hl : s.heap.IsList l items) (hlL : l ≠ env.locals) (hln : ∀ q ∈ news, q.1 ≠ l) (F : Fr h₀ env.locals s.heap m) (N : News h₀ env.locals s.heap news)
    (hx : env.kindOf x = some .local)
    (hp : (env.scope.kind == .class || (env.scope.kind == .module && env.locals != env.globals)) = false) (hE : PassesOwn (model prog w) A env E)
    (J : Nat → (Str → Option Value) → List (Addr × Obj) → Prop) (h0 : J 0 m news)
    (step : ∀ (i : Nat) v m₁ news₁ h tk own, items[i]? = some v → J i m₁ news₁ → OwnOff own (news₁.map (·.1)) →
      Fr h₀ env.locals h (fun y => if y = x then some v else m₁ y) → News h₀ env.locals h (news₁ ++ own) →
      wpAny (model prog w) A (execs body env) (TurnPost h₀ env.locals own (J (i + 1)) { s with heap := h, toks := tk } Q) E { s with heap := h, toks := tk })
    (done : ∀ h' tk m' news', Fr h₀ env.locals h' m' → News h₀ env.locals h' news' → J items.size m' news' → Q .next { s with heap := h', toks := tk }) :
    wpAny (model prog w) A (pyIter (.ref l)) (fun it s₂ => ForAt prog w A env (.Name x px) body Q E it s₂) E s := by
  obtain ⟨ol, hol, _⟩ := id hl
  have hl2 : l < s.heap.objs.size := Heap.lt_size hol
  have hLs : env.locals < s.heap.objs.size := F.ns.lt
  have hab : h₀.objs.size ≤ env.locals := F.above
  refine wpAny_pyIter_list hl ?_
  have W := Walks.list (prog := prog) (w := w) hh s.heap.objs.size l (Nat.ne_of_lt hl2) items
  refine name_loop (s := { s with heap := s.heap.push _ }) W ?_ hx hp hE ?_ ?_ ?_ ⟨⟨_, Heap.get?_push_size _ rfl, rfl, rfl⟩, hl.at fun _ e => Heap.get?_push_of_some _ e⟩ (F.push _) (fun p hp => ⟨Heap.get?_push_of_some _ (N p hp).1, (N p hp).2⟩) J h0 (fun i v m₁ news₁ h tk own _ hv hJ => step i v m₁ news₁ h tk own hv hJ) done
  · rintro i h ⟨⟨o2, h2, _⟩, ⟨o3, h3, _⟩⟩ b hb
    rcases List.mem_cons.mp hb with rfl | hb
    · exact ⟨_, h2⟩
    · rw [List.mem_singleton.mp hb]; exact ⟨_, h3⟩
  · intro hm
    rcases List.mem_cons.mp hm with e | hm
    · exact Nat.ne_of_lt hLs e
    · exact hlL (List.mem_singleton.mp hm).symm
  · intro b hb
    rw [List.mem_singleton.mp hb]; exact Heap.get?_none_of_le (Nat.le_trans hab (Nat.le_of_lt hLs))
  · intro p hp hm
    have hq1 : p.1 < s.heap.objs.size := Heap.lt_size (N p hp).1
    rcases List.mem_cons.mp hm with e | hm
    · exact Nat.ne_of_lt hq1 e
    · exact hln p hp (List.mem_singleton.mp hm)
end
theorem base_ne {h₀ h : Heap} {L l : Addr} {m : Str → Option Value} {items : Array Value} (F : Fr h₀ L h m) (hl : h₀.IsList l items) : l ≠ L := by
  obtain ⟨o, ho, _⟩ := hl
  exact Nat.ne_of_lt (Nat.lt_of_lt_of_le (Heap.lt_size ho) F.above)
theorem base_off {h₀ h : Heap} {L l : Addr} {news : List (Addr × Obj)} {items : Array Value} {p : Addr × Obj} (N : News h₀ L h news) (hl : h₀.IsList l items) (hp : p ∈ news) : p.1 ≠ l := by
  obtain ⟨o, ho, _⟩ := hl
  intro e
  have := (N p hp).2.2
  rw [e, ho] at this
  cases this
theorem strs_get {vs : List Value} {xs : List Str} (h : StrsAre vs xs) : ∀ {i : Nat} {v : Value}, vs[i]? = some v → ∃ y t, v = .str y t ∧ xs[i]? = some y := by
  induction h with
  | nil => intro i v e; simp at e
  | cons x t _ ih =>
    intro i v e
    cases i with
    | zero => simp at e; exact ⟨x, t, e.symm, by simp⟩
    | succ i => simp at e; simpa using ih e
theorem take_foldl {α β : Type} {xs : List α} {i : Nat} {y : α} (f : β → α → β) (b : β) (h : xs[i]? = some y) : (xs.take (i + 1)).foldl f b = f ((xs.take i).foldl f b) y := by
  rw [List.take_add_one, h]; simp
def AllB (m : Str → Option Value) : List (Str × Value) → Prop
  | [] => True
  | p :: r => m p.1 = some p.2 ∧ AllB m r
theorem AllB.all {m : Str → Option Value} : ∀ {l : List (Str × Value)}, AllB m l → ∀ p ∈ l, m p.1 = some p.2
  | _ :: _, ⟨h, _⟩, _, .head _ => h
  | _ :: _, ⟨_, r⟩, _, .tail _ m => r.all _ m
theorem kst_self {m₁ : Str → Option Value} (ps : List (Str × Value)) (h : AllB m₁ ps) : kstB m₁ ps = m₁ := funext fun _ => kstB_eq h.all fun _ => rfl
end Mine

end
section
open PySem PySem.W PySem.Calls PyProof.Rows PyProof.V
namespace Mine
theorem flat_get {kvs : List (Str × Value)} {c : List (Str × Int)} (p : FlatPairs PyData.str kvs (kdpD c)) {i : Nat} {k : Str} {v : Value} (h : kvs[i]? = some (k, v)) : ∃ x t, v = .int x t ∧ c[i]? = some (k, x) := by
  obtain ⟨dv, hd, hf⟩ := FlatPairs.at p h
  unfold kdpD at hd
  rw [List.getElem?_map] at hd
  cases hc : c[i]? with
  | none => rw [hc] at hd; cases hd
  | some q =>
    rw [hc] at hd
    obtain ⟨k', x⟩ := q
    have e : (PyData.str k', PyData.int x) = (PyData.str k, dv) := Option.some.inj hd
    have e1 : k' = k := PyData.str.inj (Prod.mk.inj e).1
    have e2 : PyData.int x = dv := (Prod.mk.inj e).2
    subst e1 e2
    obtain ⟨t, rfl⟩ := Flat.int_inv hf
    exact ⟨x, t, rfl, rfl⟩
theorem flat_len {kvs : List (Str × Value)} {c : List (Str × Int)} (p : FlatPairs PyData.str kvs (kdpD c)) : kvs.length = c.length := by
  have := FlatPairs.length p
  rw [kdpD_length] at this; exact this.symm
section
variable {prog : Program} {w : World} {A : Around} {E : Value → Shared → Prop} {s : Shared} {env : Env} {h₀ : Heap}
theorem tab_base_ne {d : Addr} {D : List (PyData × PyData)} {h : Heap} {L : Addr} {m : Str → Option Value} (T : StrTab prog w h₀ d D) (F : Fr h₀ L h m) : d ≠ L := by
  obtain ⟨_, kvs, ⟨o, es, ep, ho, _⟩, _⟩ := T
  exact Nat.ne_of_lt (Nat.lt_of_lt_of_le (Heap.lt_size ho) F.above)
theorem tab_base_off {d : Addr} {D : List (PyData × PyData)} {h : Heap} {L : Addr} {news : List (Addr × Obj)} (T : StrTab prog w h₀ d D) (N : News h₀ L h news) : ∀ q ∈ news, q.1 ≠ d := by
  obtain ⟨_, kvs, ⟨o, es, ep, ho, _⟩, _⟩ := T
  intro q hq e
  have := (N q hq).2.2
  rw [e, ho] at this
  cases this
theorem values_loop {x : Str} {px : Pos} {body : List Stmt} {d : Addr} {c : List (Str × Int)} {m : Str → Option Value} {news : List (Addr × Obj)} {Q : Flow → Shared → Prop}
    (hh : A.handled = none) (T : StrTab prog w s.heap d (kdpD c)) (hdL : d ≠ env.locals) (hdn : ∀ q ∈ news, q.1 ≠ d) (F : Fr h₀ env.locals s.heap m) (N : News h₀ env.locals s.heap news)
    (hx : env.kindOf x = some .local)
    (hp : (env.scope.kind == .class || (env.scope.kind == .module && env.locals != env.globals)) = false) (hE : PassesOwn (model prog w) A env E)
    (J : Nat → (Str → Option Value) → List (Addr × Obj) → Prop) (h0 : J 0 m news)
    (step : ∀ (i : Nat) k v t m₁ news₁ h tk own, c[i]? = some (k, v) → J i m₁ news₁ → OwnOff own (news₁.map (·.1)) →
      Fr h₀ env.locals h (fun y => if y = x then some (.int v t) else m₁ y) → News h₀ env.locals h (news₁ ++ own) →
      wpAny (model prog w) A (execs body env) (TurnPost h₀ env.locals own (J (i + 1)) { s with heap := h, toks := tk } Q) E { s with heap := h, toks := tk })
    (done : ∀ h' tk m' news', Fr h₀ env.locals h' m' → News h₀ env.locals h' news' → J c.length m' news' → Q .next { s with heap := h', toks := tk }) :
    wpAny (model prog w) A (call (.builtin "dict.values") [.ref d]) (fun xv s₁ => wpAny (model prog w) A (pyIter xv) (fun it s₂ => ForAt prog w A env (.Name x px) body Q E it s₂) E s₁) E s := by
  obtain ⟨lo, kvs, hd, hf⟩ := T
  have hlen := flat_len hf
  obtain ⟨ep, hm⟩ := hd.dictAt
  have hdlt := hm.lt_size
  have hLs : env.locals < s.heap.objs.size := F.ns.lt
  have hab : h₀.objs.size ≤ env.locals := F.above
  refine call_meetsIn PySem.F.slot_dict_values hd.typeIs PySem.F.entry_dict_values (PySem.F.args_dict_values_1 _) (meets_dict_values (strKind prog w) d lo) ⟨⟨kvs, hd⟩, ?_⟩
  let h1 : Heap := s.heap.push { cls := .type "dict_values", data := .fields #[.ref d] }
  have hm1 : h1.DictAt (strKind prog w) d kvs ep := hm.push _
  have hsz : h1.objs.size = s.heap.objs.size + 1 := Heap.size_push _ _
  refine wpAny_pyIter_values (s := { s with heap := h1 }) ⟨_, Heap.get?_push_size _ rfl, rfl, rfl⟩ hm1 ?_
  have hne : d ≠ h1.objs.size := by rw [hsz]; exact Nat.ne_of_lt (Nat.lt_succ_of_lt hdlt)
  have W := Walks.dictValues (prog := prog) (w := w) (knd := strKind prog w) hh h1.objs.size d hne kvs ep
  refine name_loop (s := { s with heap := h1.push _ }) W ?_ hx hp hE ?_ ?_ ?_ ⟨⟨_, Heap.get?_push_size _ rfl, rfl, rfl⟩, hm1.push _⟩ ((F.push _).push _) (fun p hp => ⟨Heap.get?_push_of_some _ (Heap.get?_push_of_some _ (N p hp).1), (N p hp).2⟩) J h0 (fun i v m₁ news₁ h tk own _ hv hJ ho F₁ N₁ => ?_) (by rw [hlen]; exact done)
  · rintro i h ⟨⟨o2, h2, _⟩, ⟨o3, _, h3, _⟩⟩ b hb
    rcases List.mem_cons.mp hb with rfl | hb
    · exact ⟨_, h2⟩
    · rw [List.mem_singleton.mp hb]; exact ⟨_, h3⟩
  · intro hmm
    rcases List.mem_cons.mp hmm with e | hmm
    · rw [hsz] at e; exact Nat.ne_of_lt (Nat.lt_succ_of_lt hLs) e
    · exact hdL (List.mem_singleton.mp hmm).symm
  · intro b hb
    rw [List.mem_singleton.mp hb, hsz]; exact Heap.get?_none_of_le (Nat.le_trans hab (Nat.le_of_lt (Nat.lt_succ_of_lt hLs)))
  · intro p hp hmm
    have hq1 : p.1 < s.heap.objs.size := Heap.lt_size (N p hp).1
    rcases List.mem_cons.mp hmm with e | hmm
    · rw [hsz] at e; exact Nat.ne_of_lt (Nat.lt_succ_of_lt hq1) e
    · exact hdn p hp (List.mem_singleton.mp hmm)
  · obtain ⟨k, hk⟩ := hv
    obtain ⟨y, t, rfl, hc⟩ := flat_get hf hk
    exact step i k y t m₁ news₁ h tk own hc hJ ho F₁ N₁
theorem walks_items (hh : A.handled = none) (I d : Addr) (hne : d ≠ I) (kvs : List (Str × Value)) (ep : Nat) :
    WalksT prog w A I [I, d] [I] kvs.length
      (fun i vals => ∃ k v key, kvs[i]? = some (k, v) ∧ (strKind prog w).is k key = true ∧ vals = #[key, v])
      (fun i h => (∃ ok ov, IsItemIter h I d i kvs.length ep ok ov) ∧ h.DictAt (strKind prog w) d kvs ep)
      (fun i T h => (∃ ok ov, IsItemIterOut h I d (i + 1) kvs.length ep ok ov T) ∧ h.DictAt (strKind prog w) d kvs ep ∧ T ≠ I) where
  sub := fun b hb => by simp at hb; simp [hb]
  frame := fun i h h' hst hk => by
    obtain ⟨⟨ok, ov, he⟩, hm⟩ := hst
    exact ⟨⟨ok, ov, hk I (by simp) _ he⟩, hm.at' fun o e => hk d (by simp) o e⟩
  item := fun i s Q E hi hst hQ => by
    obtain ⟨⟨ok, ov, he⟩, hm⟩ := hst
    obtain ⟨⟨k, v⟩, hx⟩ : ∃ p, kvs[i]? = some p := ⟨kvs[i], by simp [hi]⟩
    refine wpAny_pyNext_items_item he hm hx fun key h' hkey ho hT hsz hk => ?_
    have hlt : I < s.heap.objs.size := Heap.lt_size he
    exact hQ s.heap.objs.size #[key, v] h' s.toks ⟨k, v, key, hx, hkey, rfl⟩ (Nat.le_refl _) ⟨_, hT, rfl, _, rfl⟩
      ⟨⟨_, _, ho⟩, hm.at' fun o e => hk d o hne e, Nat.ne_of_gt hlt⟩ fun b o hb y => hk b o (fun e' => hb (by simp [e'])) y
  go := fun elts k pos i T s Q E hm hQ => by
    obtain ⟨⟨ok, ov, ho⟩, hd, hTi⟩ := hm
    refine wpAny_letOwnedTupleGo_items ho fun h' he' hs' => hQ h' ⟨⟨ok, ov, he'⟩, hd.at' fun o e => (hs'.2 d hne).trans e⟩ fun b o hb y => ?_
    exact (hs'.2 b fun e' => hb (by simp [e'])).trans y
  apart := fun i T h hm hT => by
    obtain ⟨_, _, hTi⟩ := hm
    exact hTi (List.mem_singleton.mp hT)
  done := fun s Q E hst hQ => by
    obtain ⟨⟨ok, ov, he⟩, hm⟩ := hst
    exact wpAny_pyNext_items_end hh he hm (by simp) fun h' hx => hQ h' s.toks fun b o hb y => hx b o (fun e' => hb (by simp [e'])) y
  self := fun i s Q E hst hQ => by
    obtain ⟨⟨ok, ov, he⟩, hm⟩ := hst
    exact kcp_self he hQ
theorem str_key {k : Str} {key : Value} (h : (strKind prog w).is k key = true) : ∃ t, key = .str k t := by
  have h' : Value.isStrOf k key = true := h
  cases key <;> simp [Value.isStrOf] at h'
  subst h'
  exact ⟨_, rfl⟩
theorem items_loop {xk xv : Str} {pk pv pt : Pos} {x1 : Nat} {body : List Stmt} {d : Addr} {c : List (Str × Int)} {m : Str → Option Value} {news : List (Addr × Obj)} {Q : Flow → Shared → Prop}
    (hh : A.handled = none) (T : StrTab prog w s.heap d (kdpD c)) (hdL : d ≠ env.locals) (hdn : ∀ q ∈ news, q.1 ≠ d) (F : Fr h₀ env.locals s.heap m) (N : News h₀ env.locals s.heap news)
    (hxk : env.kindOf xk = some .local) (hxv : env.kindOf xv = some .local)
    (hp : (env.scope.kind == .class || (env.scope.kind == .module && env.locals != env.globals)) = false) (hE : PassesOwn (model prog w) A env E)
    (J : Nat → (Str → Option Value) → List (Addr × Obj) → Prop) (h0 : J 0 m news)
    (step : ∀ (i : Nat) k v tk' t m₁ news₁ h tk own, c[i]? = some (k, v) → J i m₁ news₁ → OwnOff own (news₁.map (·.1)) →
      Fr h₀ env.locals h (fun y => if y = xv then some (.int v t) else if y = xk then some (.str k tk') else m₁ y) → News h₀ env.locals h (news₁ ++ own) →
      wpAny (model prog w) A (execs body env) (TurnPost h₀ env.locals own (J (i + 1)) { s with heap := h, toks := tk } Q) E { s with heap := h, toks := tk })
    (done : ∀ h' tk m' news', Fr h₀ env.locals h' m' → News h₀ env.locals h' news' → J c.length m' news' → Q .next { s with heap := h', toks := tk }) :
    wpAny (model prog w) A (call (.builtin "dict.items") [.ref d]) (fun xv' s₁ => wpAny (model prog w) A (pyIter xv') (fun it s₂ => ForAt prog w A env (.Tuple [.Name xk pk, .Name xv pv] x1 pt) body Q E it s₂) E s₁) E s := by
  obtain ⟨lo, kvs, hd, hf⟩ := T
  have hlen := flat_len hf
  obtain ⟨ep, hm⟩ := hd.dictAt
  have hdlt := hm.lt_size
  have hLs : env.locals < s.heap.objs.size := F.ns.lt
  have hab : h₀.objs.size ≤ env.locals := F.above
  refine call_meetsIn PySem.F.slot_dict_items hd.typeIs PySem.F.entry_dict_items (PySem.F.args_dict_items_1 _) (meets_dict_items (strKind prog w) d lo) ⟨⟨kvs, hd⟩, ?_⟩
  let h1 : Heap := s.heap.push { cls := .type "dict_items", data := .fields #[.ref d] }
  have hm1 : h1.DictAt (strKind prog w) d kvs ep := hm.push _
  have hsz : h1.objs.size = s.heap.objs.size + 1 := Heap.size_push _ _
  refine wpAny_pyIter_items (s := { s with heap := h1 }) ⟨_, Heap.get?_push_size _ rfl, rfl, rfl⟩ hm1 ?_
  have hne : d ≠ h1.objs.size := by rw [hsz]; exact Nat.ne_of_lt (Nat.lt_succ_of_lt hdlt)
  have W := walks_items (prog := prog) (w := w) hh h1.objs.size d hne kvs ep
  refine pair_loop (s := { s with heap := h1.push _ }) hh W (P2 := fun i v0 v1 => ∃ k tk' t v, c[i]? = some (k, v) ∧ v0 = .str k tk' ∧ v1 = .int v t) ?_ ?_ hxk hxv hp hE ?_ ?_ ?_ ⟨⟨_, _, Heap.get?_push_size _ rfl⟩, hm1.push _⟩ ((F.push _).push _) (fun p hp => ⟨Heap.get?_push_of_some _ (Heap.get?_push_of_some _ (N p hp).1), (N p hp).2⟩) J h0 ?_ (by rw [hlen]; exact done)
  · rintro i vals ⟨k, v, key, hk, hkey, rfl⟩
    obtain ⟨y, t, rfl, hc⟩ := flat_get hf hk
    obtain ⟨tk', rfl⟩ := str_key hkey
    exact ⟨_, _, rfl, k, tk', t, y, hc, rfl, rfl⟩
  · rintro i h ⟨⟨ok, ov, h2⟩, ⟨o3, _, h3, _⟩⟩ b hb
    rcases List.mem_cons.mp hb with rfl | hb
    · exact ⟨_, h2⟩
    · rw [List.mem_singleton.mp hb]; exact ⟨_, h3⟩
  · intro hmm
    rcases List.mem_cons.mp hmm with e | hmm
    · rw [hsz] at e; exact Nat.ne_of_lt (Nat.lt_succ_of_lt hLs) e
    · exact hdL (List.mem_singleton.mp hmm).symm
  · intro b hb
    rw [List.mem_singleton.mp hb, hsz]; exact Heap.get?_none_of_le (Nat.le_trans hab (Nat.le_of_lt (Nat.lt_succ_of_lt hLs)))
  · intro p hp hmm
    have hq1 : p.1 < s.heap.objs.size := Heap.lt_size (N p hp).1
    rcases List.mem_cons.mp hmm with e | hmm
    · rw [hsz] at e; exact Nat.ne_of_lt (Nat.lt_succ_of_lt hq1) e
    · exact hdn p hp (List.mem_singleton.mp hmm)
  · rintro i v0 v1 m₁ news₁ h tk own _ ⟨k, tk', t, v, hc, rfl, rfl⟩ hJ ho F₁ N₁
    exact step i k v tk' t m₁ news₁ h tk own hc hJ ho F₁ N₁
end
end Mine

end
section
open PySem PySem.W PySem.Calls PyProof.Rows
namespace Mine
def St (l : List Nat) : Str := ⟨l.toArray⟩
theorem St_cps (l : List Nat) : (St l).cps.toList = l := rfl
theorem St_len (l : List Nat) : (St l).length = l.length := by show l.toArray.size = _; simp
theorem St_app (a b : List Nat) : St a ++ St b = St (a ++ b) := Str.ext' (by show a.toArray ++ b.toArray = (a ++ b).toArray; simp)
theorem St_of (x : Str) : x = St x.cps.toList := Str.ext' (by show x.cps = x.cps.toList.toArray; simp)
theorem St_inj {a b : List Nat} (h : St a = St b) : a = b := by
  have := congrArg (fun x : Str => x.cps.toList) h
  exact this
theorem St_beq (a b : List Nat) : (St a == St b) = decide (a = b) := by
  by_cases h : a = b
  · subst h; simp
  · have : St a ≠ St b := fun e => h (St_inj e)
    simp [this, h]
theorem lit_nl : Str.ofString "\n" = St [10] := by decide +kernel
theorem lit_cr : Str.ofString "\r" = St [13] := by decide +kernel
theorem lit_crlf : Str.ofString "\r\n" = St [13, 10] := by decide +kernel
theorem lit_q : Str.ofString "\"" = St [34] := by decide +kernel
theorem lit_bar : Str.ofString "|" = St [124] := by decide +kernel
theorem lit_nil : Str.ofString "" = St [] := by decide +kernel
theorem lit_257 : Str.ofString "257 \"" = St [50, 53, 55, 32, 34] := by decide +kernel
theorem item_St {x : Str} {k : Int} {ch : Nat} (h0 : 0 ≤ k) (hx : x.cps[k.toNat]? = some ch) : Txt.item x k = St [ch] := by
  have e : Txt.charAt x k = some ch := StrLaws.at_nonneg h0 hx
  show (⟨#[(Txt.charAt x k).getD 0]⟩ : Str) = _
  rw [e]; rfl
theorem one_ne {c : Nat} (h : c ≠ 34) : (St [c] == Str.ofString "\"") = false := by
  rw [lit_q, St_beq]; simp [h]
theorem one_nn {c : Nat} (h : c ≠ 34) : (St [c] != Str.ofString "\"") = true := by
  show (!(St [c] == Str.ofString "\"")) = true
  rw [one_ne h]; rfl
theorem mul_St1 (a : Nat) (i : Int) : Txt.mul (St [a]) i = St (List.replicate i.toNat a) := by
  have h := mul_one_list a i
  rw [St_of (Txt.mul (St [a]) i)]
  exact congrArg St h
end Mine

end
section
open PySem PySem.W PySem.Calls PyProof.Rows PySem.Builtin.Re
namespace Mine
/-- the pattern's words -/
def rxC : Array Nat := #[14, 9, 4, 1, 2, 16, 10, 16, 13, 0, 7, 7, 16, 13, 16, 10, 15, 18, 5, 16, 10, 15, 13, 11, 16, 13, 5, 5, 0, 16, 10, 1, 15, 2, 0, 1]
/-- after so many steps the machine has an outcome, and P -/
def Ends : Nat → Sre.M → (Sre.M → Prop) → Prop
  | 0, m, P => m.outcome.isSome = true ∧ P m
  | k + 1, m, P => Ends k m.step P
theorem step_done {m : Sre.M} (h : m.outcome.isSome = true) : m.step = m := by unfold Sre.M.step; rw [if_pos h]
theorem runFor_step (n : Nat) (m : Sre.M) : Sre.M.runFor (n + 1) m = Sre.M.runFor n m.step := by
  show (if m.outcome.isSome then m else Sre.M.runFor n m.step) = _
  by_cases h : m.outcome.isSome = true
  · rw [if_pos h, step_done h]
    cases n with
    | zero => rfl
    | succ n => show _ = (if m.outcome.isSome then m else _); rw [if_pos h]
  · rw [if_neg h]
theorem Ends.one {m : Sre.M} {P : Sre.M → Prop} : ∀ {k : Nat}, Ends (k + 1) m P → Ends k m.step P := id
theorem Ends.run {P : Sre.M → Prop} : ∀ (n : Nat) {k : Nat} {m : Sre.M}, Ends k m P → Ends (k - n) (Sre.M.runFor n m) P
  | 0, _, _, h => h
  | n + 1, 0, m, h => by
    rw [runFor_step, step_done h.1]
    have := Ends.run n (k := 0) h
    simpa using this
  | n + 1, k + 1, m, h => by
    rw [runFor_step, Nat.add_sub_add_right]
    exact Ends.run n h.one
theorem Ends.off {P : Sre.M → Prop} : ∀ {k : Nat} {m : Sre.M}, Ends k m P → m.outcome.isSome = true → P m
  | 0, _, h, _ => h.2
  | k + 1, m, h, e => by
    have h2 := h.one
    rw [step_done e] at h2
    exact Ends.off h2 e
section
variable {M : Model} {A : Around} {E : Value → Shared → Prop} {s : Shared}
theorem wp_drive {P : Sre.M → Prop} {Q : Sre.M → Shared → Prop} (h : ∀ m, m.outcome.isSome = true → P m → Q m s) : ∀ (n : Nat) {k : Nat} {m : Sre.M}, k < 4 * n → Ends k m P → wpAny M A (reDrive n m) Q E s
  | 0, _, _, hk, _ => absurd hk (by omega)
  | n + 1, k, m, hk, hm => by
    have h4 := hm.run reTurnSteps
    unfold reDrive
    show wpAny M A (if (Sre.M.runFor reTurnSteps m).outcome.isSome = true then pure (Sre.M.runFor reTurnSteps m) else (do rule "sre.turn"; reDrive n (Sre.M.runFor reTurnSteps m))) Q E s
    by_cases e : (Sre.M.runFor reTurnSteps m).outcome.isSome = true
    · rw [if_pos e]
      exact wpAny_pure (h _ e (h4.off e))
    · rw [if_neg e]
      refine wpAny_bind (wpAny_rule ?_)
      cases hk4 : k - reTurnSteps with
      | zero =>
        rw [hk4] at h4
        exact absurd h4.1 e
      | succ k' =>
        rw [hk4] at h4
        have : reTurnSteps = 4 := rfl
        exact wp_drive h n (by omega) h4
theorem wp_runToEnd {P : Sre.M → Prop} {m : Sre.M} {k : Nat} {Q : Option Sre.M → Shared → Prop} (hk : k ≤ 100) (hm : Ends k m P)
    (h : ∀ m', P m' → (m'.outcome = some .matched ∧ Q (some m') s) ∨ (m'.outcome = some .failed ∧ Q none s)) : wpAny M A (reRunToEnd m) Q E s := by
  unfold reRunToEnd
  refine wpAny_bind (wp_drive (P := P) (fun m' _ hp => ?_) _ (k := k) (by omega) hm)
  refine wpAny_bind ?_
  refine wpAny_forIn_list _ (fun _ _ s' => s' = s) _ (fun x rest b s' e => ?_) (fun b s' e => ?_) _ _ rfl
  · subst e
    split
    · exact wpAny_bind (wpAny_rule (wpAny_pure rfl))
    · exact wpAny_pure rfl
  · subst e
    rcases h m' hp with ⟨e, hq⟩ | ⟨e, hq⟩
    · rw [e]; exact wpAny_pure hq
    · rw [e]; exact wpAny_pure hq
end
section
variable {m : Sre.M} {P : Sre.M → Prop} {k : Nat}
theorem st_exec (h1 : m.outcome = none) (h2 : m.answer = none) (h3 : m.pc < m.code.size) : m.step = m.exec := by
  unfold Sre.M.step
  rw [h1, if_neg (by simp), h2]
  exact if_pos h3
theorem ex_lit_yes {c : Nat} (ho : Sre.ops[m.word 0]? = some .LITERAL) (hw : m.word 1 = c) (hp : m.pos < m.lim) (hc : m.text.getD m.pos 0 = c) :
    ∃ sn, m.exec = { m with seen := sn, pc := m.pc + 2, pos := m.pos + 1 } := by
  have ho' : Sre.ops[m.code.getD m.pc 0]? = some .LITERAL := ho
  have hw' : m.code.getD (m.pc + 1) 0 = c := hw
  unfold Sre.M.exec
  rw [ho]
  refine ⟨m.seen.add (m.word 0), ?_⟩
  show (if m.pos ≥ m.lim then _ else _) = _
  rw [if_neg (by omega)]
  simp only [Sre.accepts, ho', hw', hc, Sre.itemWidth]
  simp
theorem ex_lit_no {c : Nat} (ho : Sre.ops[m.word 0]? = some .LITERAL) (hw : m.word 1 = c) (hp : m.pos < m.lim → m.text.getD m.pos 0 ≠ c) :
    ∃ sn, m.exec = { m with seen := sn, answer := some false } := by
  have ho' : Sre.ops[m.code.getD m.pc 0]? = some .LITERAL := ho
  have hw' : m.code.getD (m.pc + 1) 0 = c := hw
  unfold Sre.M.exec
  rw [ho]
  refine ⟨m.seen.add (m.word 0), ?_⟩
  show (if m.pos ≥ m.lim then _ else _) = _
  by_cases h : m.pos ≥ m.lim
  · rw [if_pos h]; rfl
  · rw [if_neg h]
    simp only [Sre.accepts, ho', hw', beq_false_of_ne (hp (by omega))]
    rfl
theorem go {m' : Sre.M} (e : m.step = m') (h : Ends k m' P) : Ends (k + 1) m P := by
  show Ends k m.step P
  rw [e]; exact h
theorem go_yes (c : Nat) {m' : Sre.Seen → Sre.M} (h1 : m.outcome = none) (h2 : m.answer = none) (h3 : m.pc < m.code.size) (ho : Sre.ops[m.word 0]? = some .LITERAL) (hw : m.word 1 = c) (hp : m.pos < m.lim) (hc : m.text.getD m.pos 0 = c)
    (e : ∀ sn, { m with seen := sn, pc := m.pc + 2, pos := m.pos + 1 } = m' sn) (h : ∀ sn, Ends k (m' sn) P) : Ends (k + 1) m P := by
  obtain ⟨sn, e2⟩ := ex_lit_yes ho hw hp hc
  exact go ((st_exec h1 h2 h3).trans (e2.trans (e sn))) (h sn)
theorem go_no (c : Nat) {m' : Sre.Seen → Sre.M} (h1 : m.outcome = none) (h2 : m.answer = none) (h3 : m.pc < m.code.size) (ho : Sre.ops[m.word 0]? = some .LITERAL) (hw : m.word 1 = c) (hp : m.pos < m.lim → m.text.getD m.pos 0 ≠ c)
    (e : ∀ sn, { m with seen := sn, answer := some false } = m' sn) (h : ∀ sn, Ends k (m' sn) P) : Ends (k + 1) m P := by
  obtain ⟨sn, e2⟩ := ex_lit_no ho hw hp
  exact go ((st_exec h1 h2 h3).trans (e2.trans (e sn))) (h sn)
end
abbrev mkM (text : Array Nat) (lim start ls : Nat) (sn : Sre.Seen) (pc pos handed : Nat) (om : Bool) (fr : List Sre.Frame) (wt : Nat) (an : Option Bool) : Sre.M :=
  { code := rxC, text := text, lim := lim, start := start, lastStart := ls, mustAdvance := false, pc := pc, pos := pos, handed := handed, outermost := om, marks := #[], frames := fr, weight := wt, answer := an, seen := sn }
abbrev f0 (q : Nat) : Sre.Frame := { wait := .nextStart, pc := 10, pos := q, outermost := true }
abbrev fb (a q : Nat) : Sre.Frame := { wait := .nextBranch, pc := a, pos := q, outermost := true }
section
variable {text : Array Nat} {lim ls q : Nat} {sn : Sre.Seen}
def Hit (q e : Nat) (m : Sre.M) : Prop := m.outcome = some .matched ∧ m.start = q ∧ m.handed = e
theorem m_nl (hq : q < lim) (hc : text.getD q 0 = 10) : Ends 9 (mkM text lim q ls sn 10 q q true [f0 q] 1 none) (Hit q (q + 1)) := by
  refine go (m' := mkM text lim q ls _ 12 q q true [fb 11 q, f0 q] 2 none) rfl ?_
  refine go_no 13 (m' := fun sn => mkM text lim q ls sn 12 q q true [fb 11 q, f0 q] 2 (some false)) rfl rfl (Nat.le_of_ble_eq_true rfl) rfl rfl (fun _ => by rw [show text.getD q 0 = 10 from hc]; decide) (fun _ => rfl) fun sn => ?_
  refine go (m' := mkM text lim q ls _ 19 q q true [fb 18 q, f0 q] 2 none) rfl ?_
  refine go_yes 10 (m' := fun sn => mkM text lim q ls sn 21 (q + 1) q true [fb 18 q, f0 q] 2 none) rfl rfl (Nat.le_of_ble_eq_true rfl) rfl rfl hq hc (fun _ => rfl) fun sn => ?_
  refine go (m' := mkM text lim q ls _ 35 (q + 1) q true [fb 18 q, f0 q] 2 none) rfl ?_
  refine go (m' := mkM text lim q ls _ 35 (q + 1) (q + 1) true [fb 18 q, f0 q] 2 (some true)) rfl ?_
  refine go (m' := mkM text lim q ls _ 18 q (q + 1) true [f0 q] 1 (some true)) rfl ?_
  refine go (m' := mkM text lim q ls _ 10 q (q + 1) true [] 0 (some true)) rfl ?_
  exact ⟨rfl, rfl, rfl, rfl⟩
theorem m_crlf (hq : q + 1 < lim) (hc : text.getD q 0 = 13) (hd : text.getD (q + 1) 0 = 10) : Ends 8 (mkM text lim q ls sn 10 q q true [f0 q] 1 none) (Hit q (q + 2)) := by
  refine go (m' := mkM text lim q ls _ 12 q q true [fb 11 q, f0 q] 2 none) rfl ?_
  refine go_yes 13 (m' := fun sn => mkM text lim q ls sn 14 (q + 1) q true [fb 11 q, f0 q] 2 none) rfl rfl (Nat.le_of_ble_eq_true rfl) rfl rfl (Nat.lt_of_succ_lt hq) hc (fun _ => rfl) fun sn => ?_
  refine go_yes 10 (m' := fun sn => mkM text lim q ls sn 16 (q + 2) q true [fb 11 q, f0 q] 2 none) rfl rfl (Nat.le_of_ble_eq_true rfl) rfl rfl hq hd (fun _ => rfl) fun sn => ?_
  refine go (m' := mkM text lim q ls _ 35 (q + 2) q true [fb 11 q, f0 q] 2 none) rfl ?_
  refine go (m' := mkM text lim q ls _ 35 (q + 2) (q + 2) true [fb 11 q, f0 q] 2 (some true)) rfl ?_
  refine go (m' := mkM text lim q ls _ 11 q (q + 2) true [f0 q] 1 (some true)) rfl ?_
  refine go (m' := mkM text lim q ls _ 10 q (q + 2) true [] 0 (some true)) rfl ?_
  exact ⟨rfl, rfl, rfl, rfl⟩
theorem m_cr (hq : q < lim) (hc : text.getD q 0 = 13) (hd : q + 1 < lim → text.getD (q + 1) 0 ≠ 10) : Ends 15 (mkM text lim q ls sn 10 q q true [f0 q] 1 none) (Hit q (q + 1)) := by
  refine go (m' := mkM text lim q ls _ 12 q q true [fb 11 q, f0 q] 2 none) rfl ?_
  refine go_yes 13 (m' := fun sn => mkM text lim q ls sn 14 (q + 1) q true [fb 11 q, f0 q] 2 none) rfl rfl (Nat.le_of_ble_eq_true rfl) rfl rfl hq hc (fun _ => rfl) fun sn => ?_
  refine go_no 10 (m' := fun sn => mkM text lim q ls sn 14 (q + 1) q true [fb 11 q, f0 q] 2 (some false)) rfl rfl (Nat.le_of_ble_eq_true rfl) rfl rfl hd (fun _ => rfl) fun sn => ?_
  refine go (m' := mkM text lim q ls _ 19 q q true [fb 18 q, f0 q] 2 none) rfl ?_
  refine go_no 10 (m' := fun sn => mkM text lim q ls sn 19 q q true [fb 18 q, f0 q] 2 (some false)) rfl rfl (Nat.le_of_ble_eq_true rfl) rfl rfl (fun _ => by rw [show text.getD q 0 = 13 from hc]; decide) (fun _ => rfl) fun sn => ?_
  refine go (m' := mkM text lim q ls _ 24 q q true [fb 23 q, f0 q] 2 none) rfl ?_
  refine go_yes 13 (m' := fun sn => mkM text lim q ls sn 26 (q + 1) q true [fb 23 q, f0 q] 2 none) rfl rfl (Nat.le_of_ble_eq_true rfl) rfl rfl hq hc (fun _ => rfl) fun sn => ?_
  refine go (m' := mkM text lim q ls _ 29 (q + 1) (q + 1) false [{ wait := .lookNot, pc := 26, pos := q + 1, outermost := true }, fb 23 q, f0 q] 3 none) rfl ?_
  refine go_no 10 (m' := fun sn => mkM text lim q ls sn 29 (q + 1) (q + 1) false [{ wait := .lookNot, pc := 26, pos := q + 1, outermost := true }, fb 23 q, f0 q] 3 (some false)) rfl rfl (Nat.le_of_ble_eq_true rfl) rfl rfl hd (fun _ => rfl) fun sn => ?_
  refine go (m' := mkM text lim q ls _ 32 (q + 1) (q + 1) true [fb 23 q, f0 q] 2 none) rfl ?_
  refine go (m' := mkM text lim q ls _ 35 (q + 1) (q + 1) true [fb 23 q, f0 q] 2 none) rfl ?_
  refine go (m' := mkM text lim q ls _ 35 (q + 1) (q + 1) true [fb 23 q, f0 q] 2 (some true)) rfl ?_
  refine go (m' := mkM text lim q ls _ 23 q (q + 1) true [f0 q] 1 (some true)) rfl ?_
  refine go (m' := mkM text lim q ls _ 10 q (q + 1) true [] 0 (some true)) rfl ?_
  exact ⟨rfl, rfl, rfl, rfl⟩
/-- the set of the pattern's first letters -/
theorem set_of (c : Nat) (sn : Sre.Seen) : ∃ sn', Sre.inSet rxC c rxC.size 5 true sn = .ok (c == 10 || c == 13, sn') := by
  have hs : rxC.size = 33 + 3 := rfl
  rw [hs]
  by_cases h1 : c = 10
  · subst h1; exact ⟨_, rfl⟩
  · by_cases h2 : c = 13
    · subst h2; exact ⟨_, rfl⟩
    · have e1 : (c == 10) = false := beq_false_of_ne h1
      have e2 : (c == 13) = false := beq_false_of_ne h2
      rw [e1, e2]
      refine ⟨((sn.add 16).add 16).add 0, ?_⟩
      show (if (c == 10) = true then _ else (if (c == 13) = true then _ else _)) = _
      rw [e1, e2]
      rfl
/-- the next place with a row end, or none -/
inductive Nxt (text : Array Nat) (lim : Nat) : Nat → Option Nat → Prop
  | here {p : Nat} (h : p < lim) (hc : text.getD p 0 = 10 ∨ text.getD p 0 = 13) : Nxt text lim p (some p)
  | skip {p : Nat} {o : Option Nat} (h : p < lim) (h1 : text.getD p 0 ≠ 10) (h2 : text.getD p 0 ≠ 13) (r : Nxt text lim (p + 1) o) : Nxt text lim p o
  | stop {p : Nat} (h : lim ≤ p) : Nxt text lim p none
theorem adm {m : Sre.M} (hm : m.code = rxC) {p : Nat} {o : Option Nat} (h : Nxt m.text m.lim p o) : ∀ (n : Nat) (sn : Sre.Seen), m.lim < n + p → ∃ sn', Sre.M.admitted m n p sn = .ok (o, sn') := by
  induction h with
  | @here p hp hc =>
    rintro (_ | n) sn hn
    · omega
    obtain ⟨sn', e⟩ := set_of (m.text.getD p 0) sn
    refine ⟨sn', ?_⟩
    have e2 : (m.text.getD p 0 == 10 || m.text.getD p 0 == 13) = true := by rcases hc with h | h <;> rw [h] <;> rfl
    rw [e2] at e
    show (if p ≥ m.lim then _ else _) = _
    rw [if_neg (by omega), hm, e]
  | @skip p o hp h1 h2 r ih =>
    rintro (_ | n) sn hn
    · omega
    obtain ⟨sn', e⟩ := set_of (m.text.getD p 0) sn
    have e2 : (m.text.getD p 0 == 10 || m.text.getD p 0 == 13) = false := by rw [beq_false_of_ne h1, beq_false_of_ne h2]; rfl
    rw [e2] at e
    obtain ⟨sn2, e3⟩ := ih n sn' (by omega)
    refine ⟨sn2, ?_⟩
    show (if p ≥ m.lim then _ else _) = _
    rw [if_neg (by omega), hm, e]
    exact e3
  | @stop p hp =>
    rintro (_ | n) sn hn
    · exact ⟨sn, rfl⟩
    refine ⟨sn, ?_⟩
    show (if p ≥ m.lim then _ else _) = _
    rw [if_pos hp]
theorem Nxt.lt {text : Array Nat} {lim p q : Nat} (h : Nxt text lim p (some q)) : p ≤ q ∧ q < lim ∧ (text.getD q 0 = 10 ∨ text.getD q 0 = 13) := by
  generalize ho : some q = o at h
  induction h with
  | here h hc => cases ho; exact ⟨Nat.le_refl _, h, hc⟩
  | skip h h1 h2 r ih => have := ih ho; exact ⟨by omega, this.2⟩
  | stop h => cases ho
theorem search_of (p : Nat) {o : Option Nat} (h : Nxt text lim p o) :
    (∀ q, o = some q → ∃ sn, Sre.forSearch rxC text 0 p lim false = mkM text lim q lim sn 10 q q true [f0 q] 1 none) ∧
    (o = none → Ends 1 (Sre.forSearch rxC text 0 p lim false) (fun m => m.outcome = some .failed)) := by
  obtain ⟨sn', e⟩ := adm (m := { code := rxC, text := text, lim := lim, start := p, lastStart := lim, mustAdvance := false, pc := 10, pos := p, handed := p, marks := #[], seen := ({} : Sre.Seen).add 14 }) rfl h (lim + 1 - p) (({} : Sre.Seen).add 14) (by show lim < lim + 1 - p + p; omega)
  by_cases hp : p < lim
  · have e0 : Sre.forSearch rxC text 0 p lim false = (match Sre.M.admitted { code := rxC, text := text, lim := lim, start := p, lastStart := lim, mustAdvance := false, pc := 10, pos := p, handed := p, marks := #[], seen := ({} : Sre.Seen).add 14 } (lim + 1 - p) p (({} : Sre.Seen).add 14) with
        | .ok (some q, sn) => mkM text lim q lim sn 10 q q true [f0 q] 1 none
        | .ok (none, sn) => Sre.M.say { code := rxC, text := text, lim := lim, start := p, lastStart := lim, mustAdvance := false, pc := 10, pos := p, handed := p, marks := #[], seen := sn } false
        | .error why => Sre.M.stick { code := rxC, text := text, lim := lim, start := p, lastStart := lim, mustAdvance := false, pc := 10, pos := p, handed := p, marks := #[], seen := ({} : Sre.Seen).add 14 } why) := by
      show (if (decide (p > lim) || decide (lim - p < 1)) = true then _ else _) = _
      rw [if_neg (by simp; omega)]
      rfl
    rw [e] at e0
    constructor
    · rintro q rfl
      exact ⟨_, e0⟩
    · rintro rfl
      rw [e0]
      exact ⟨rfl, rfl⟩
  · constructor
    · rintro q rfl
      have := h.lt
      omega
    · rintro rfl
      show Ends 1 (if (decide (p > lim) || decide (lim - p < 1)) = true then _ else _) _
      rw [if_pos (by simp; omega)]
      exact ⟨rfl, rfl⟩
/-- the end of the row end at q -/
def eolEnd (text : Array Nat) (lim q : Nat) : Nat := if text.getD q 0 = 13 ∧ q + 1 < lim ∧ text.getD (q + 1) 0 = 10 then q + 2 else q + 1
theorem found_of {q : Nat} (hq : q < lim) (hc : text.getD q 0 = 10 ∨ text.getD q 0 = 13) : ∃ k, k ≤ 100 ∧ Ends k (mkM text lim q lim sn 10 q q true [f0 q] 1 none) (Hit q (eolEnd text lim q)) := by
  unfold eolEnd
  by_cases h : text.getD q 0 = 13
  · by_cases h2 : q + 1 < lim ∧ text.getD (q + 1) 0 = 10
    · rw [if_pos ⟨h, h2⟩]; exact ⟨8, by omega, m_crlf h2.1 h h2.2⟩
    · rw [if_neg (fun x => h2 x.2)]; exact ⟨15, by omega, m_cr hq h (fun a b => h2 ⟨a, b⟩)⟩
  · have h3 : text.getD q 0 = 10 := by rcases hc with h4 | h4 <;> simp_all
    rw [if_neg (fun x => h x.1)]; exact ⟨9, by omega, m_nl hq h3⟩
end
section
variable {M : Model} {A : Around} {E : Value → Shared → Prop} {s : Shared}
theorem wp_next {t : ReTarget} (hc : t.code = rxC) (hg : t.groups = 0) {p : Nat} {o : Option Nat} {Q : Option Sre.M → Shared → Prop} (h : Nxt t.text t.lim p o)
    (hs : ∀ q m, o = some q → m.start = q → m.handed = eolEnd t.text t.lim q → Q (some m) s) (hn : o = none → Q none s) : wpAny M A (reNextFound t p false) Q E s := by
  unfold reNextFound
  rw [hc, hg]
  obtain ⟨h1, h2⟩ := search_of p h
  cases o with
  | none => exact wp_runToEnd (by omega) (h2 rfl) fun m' hm => Or.inr ⟨hm, hn rfl⟩
  | some q =>
    obtain ⟨sn, e⟩ := h1 q rfl
    rw [e]
    obtain ⟨hp, hq, hc2⟩ := h.lt
    obtain ⟨k, hk, he⟩ := found_of (sn := sn) hq hc2
    exact wp_runToEnd hk he fun m' hm => Or.inl ⟨hm.1, hs q m' rfl hm.2.1 hm.2.2⟩
end
end Mine

end
section
open PySem PySem.W PySem.Calls PyProof.Rows PySem.Builtin.Re PySem.Builtin
namespace Mine
set_option maxRecDepth 100000
set_option maxHeartbeats 8000000
theorem slot_sub : Slot "re.Pattern" "sub" "re.Pattern.sub" :=
  .of (owner := "re.Pattern") (n := "sub") (by rw [typeLookup_type, builtinLookup_eq_fast]; kernel_rfl) (by decide +kernel) (by decide +kernel) (by decide +kernel)
    (by first | exact .inl (by decide +kernel) | exact .inr (by decide +kernel)) (by rw [isSubtype_type]; kernel_rfl)
theorem type_sub : typeOf (.builtin "re.Pattern.sub") = pure (.type "method_descriptor") := by show builtinType _ = _; rw [builtinType_eq_fast]; kernel_rfl
theorem entry_sub : entryFor table "re.Pattern.sub" = some Builtin.«re.Pattern.sub» := entryFor_of_tree (by kernel_rfl)
theorem entry_subLoop : entryFor table "re.Pattern.sub.loop" = some Builtin.«re.Pattern.sub.loop» := entryFor_of_tree (by kernel_rfl)
theorem plain_subLoop : plainId "re.Pattern.sub.loop" = true := by decide +kernel
theorem attrs_re : PlainAttrs "re.Pattern" :=
  ⟨⟨"object.__getattribute__", by rw [typeLookup_type, builtinLookup_eq_fast]; kernel_rfl, by decide +kernel⟩, by rw [typeLookup_type, builtinLookup_eq_fast]; kernel_rfl⟩
theorem owner_re : Manifest.owners.lookup (String.ofList ['n', 'r', 'e', 't', 't', 'a', 'P', '.', 'e', 'r'].reverse) = some Manifest.sig_re_Pattern := by kernel_rfl
theorem args_sub (a b c : Value) : argsOk "re.Pattern.sub" ⟨[a, b, c], []⟩ := by
  unfold argsOk; rw [signature?_of (id := "re.Pattern.sub") (n := ['b', 'u', 's']) (o := ['n', 'r', 'e', 't', 't', 'a', 'P', '.', 'e', 'r']) (by kernel_rfl) owner_re]; kernel_rfl
structure Rx (h : Heap) (a ct : Addr) : Prop where
  pat : ∃ o fs, h.get? a = some o ∧ o.data = .fields fs ∧ reRawNat (fs.getD 6 .none) = 0 ∧ reRawNat (fs.getD 2 .none) = 0 ∧ fs.getD 5 .none = .ref ct
  code : ∃ o vs n, h.get? ct = some o ∧ o.data = .seq vs n ∧ (vs.map reRawOf).map (·.toNat) = rxC
section
variable {M : Model} {A : Around} {E : Value → Shared → Prop} {s : Shared}
theorem wp_target {a ct : Addr} {x : Str} {t : Tok} {Q : ReTarget → Shared → Prop} (h : Rx s.heap a ct) (hq : Q { pattern := .ref a, string := .str x t, code := rxC, text := x.cps, kind := 0, groups := 0, pos := 0, lim := x.cps.size } s) :
    wpAny M A (reWholeTarget (.ref a) (.str x t)) Q E s := by
  obtain ⟨o, fs, h1, h2, h3, h4, h5⟩ := h.pat
  obtain ⟨oc, vs, n, h6, h7, h8⟩ := h.code
  unfold reWholeTarget
  refine wpAny_bind (wpAny_fieldsOf h1 h2 ?_)
  show wpAny M A (reTextOf (.str x t) >>= _) Q E s
  refine wpAny_bind ?_
  refine wpAny_pure ?_
  dsimp only
  rw [h3]
  show wpAny M A (reRawItems (fs.getD 5 .none) >>= fun y => pure _) Q E s
  rw [h5, h4]
  refine wpAny_bind ?_
  show wpAny M A (seqItems? (.ref ct) >>= fun y => pure ((y.getD #[]).map reRawOf)) _ E s
  refine wpAny_bind (wpAny_seqItems h6 h7 (wpAny_pure (wpAny_pure ?_)))
  show Q { pattern := .ref a, string := .str x t, code := (vs.map reRawOf).map (·.toNat), text := x.cps, kind := 0, groups := 0, pos := 0, lim := x.cps.size } s
  rw [h8]
  exact hq
end
/-- the text with its row ends mended -/
def fixL : List Nat → List Nat
  | [] => []
  | [c] => if c = 10 ∨ c = 13 then [13, 10] else [c]
  | c :: d :: r => if c = 13 ∧ d = 10 then 13 :: 10 :: fixL r else if c = 10 ∨ c = 13 then 13 :: 10 :: fixL (d :: r) else c :: fixL (d :: r)
theorem fix_other {c : Nat} (h1 : c ≠ 10) (h2 : c ≠ 13) (l : List Nat) : fixL (c :: l) = c :: fixL l := by
  cases l with
  | nil => simp [fixL, h1, h2]
  | cons d r => simp [fixL, h1, h2]
theorem fix_nl (l : List Nat) : fixL (10 :: l) = 13 :: 10 :: fixL l := by
  cases l with
  | nil => simp [fixL]
  | cons d r => simp [fixL]
theorem fix_crlf (l : List Nat) : fixL (13 :: 10 :: l) = 13 :: 10 :: fixL l := by simp [fixL]
theorem fix_cr (l : List Nat) (h : l.head? ≠ some 10) : fixL (13 :: l) = 13 :: 10 :: fixL l := by
  cases l with
  | nil => simp [fixL]
  | cons d r => simp only [List.head?_cons, ne_eq, Option.some.injEq] at h; simp [fixL, h]
theorem getD_drop {text : Array Nat} {p : Nat} (hp : p < text.size) : text.toList.drop p = text.getD p 0 :: text.toList.drop (p + 1) := by
  have hl : p < text.toList.length := hp
  rw [List.drop_eq_getElem_cons hl]
  congr 1
  simp [Array.getD, hp]
theorem ext_list (text : Array Nat) (p q : Nat) : (text.extract p q).toList = (text.toList.drop p).take (q - p) := by simp
theorem nxt_ex (text : Array Nat) : ∀ (n p : Nat), n + p = text.size → ∃ o, Nxt text text.size p o
  | 0, p, h => ⟨none, .stop (by omega)⟩
  | n + 1, p, h => by
    obtain ⟨o, ih⟩ := nxt_ex text n (p + 1) (by omega)
    by_cases h1 : text.getD p 0 = 10
    · exact ⟨_, .here (by omega) (Or.inl h1)⟩
    · by_cases h2 : text.getD p 0 = 13
      · exact ⟨_, .here (by omega) (Or.inr h2)⟩
      · exact ⟨o, .skip (by omega) h1 h2 ih⟩
theorem nxt_none {text : Array Nat} {p : Nat} (h : Nxt text text.size p none) : fixL (text.toList.drop p) = text.toList.drop p := by
  generalize ho : (none : Option Nat) = o at h
  induction h with
  | here h hc => cases ho
  | @skip p o h h1 h2 r ih => rw [getD_drop h, fix_other h1 h2, ih ho]
  | @stop p h => rw [List.drop_eq_nil_of_le (by simpa using h)]; rfl
theorem nxt_some {text : Array Nat} {p q : Nat} (h : Nxt text text.size p (some q)) :
    fixL (text.toList.drop p) = (text.extract p q).toList ++ (13 :: 10 :: fixL (text.toList.drop (eolEnd text text.size q))) := by
  rw [ext_list]
  generalize ho : (some q : Option Nat) = o at h
  induction h with
  | @here p h hc =>
    cases ho
    rw [Nat.sub_self, List.take_zero, List.nil_append]
    unfold eolEnd
    by_cases h1 : text.getD q 0 = 13
    · by_cases h2 : q + 1 < text.size ∧ text.getD (q + 1) 0 = 10
      · rw [if_pos ⟨h1, h2⟩, getD_drop h, getD_drop h2.1, h1, h2.2, fix_crlf]
      · rw [if_neg (fun x => h2 x.2), getD_drop h, h1, fix_cr]
        by_cases h3 : q + 1 < text.size
        · rw [getD_drop h3]
          intro e
          exact h2 ⟨h3, Option.some.inj e⟩
        · rw [List.drop_eq_nil_of_le (by simpa using Nat.le_of_not_lt h3)]
          intro e; cases e
    · have h4 : text.getD q 0 = 10 := by rcases hc with h5 | h5 <;> simp_all
      rw [if_neg (fun x => h1 x.1), getD_drop h, h4, fix_nl]
  | @skip p o h h1 h2 r ih =>
    have hq := (ho ▸ r : Nxt text text.size (p + 1) (some q)).lt
    rw [getD_drop h, fix_other h1 h2, ih ho, show q - p = (q - (p + 1)) + 1 by omega, List.take_succ_cons, List.cons_append]
  | stop h => cases ho
end Mine

end
section
open PySem PySem.W PySem.Calls PyProof.Rows PySem.Builtin.Re PySem.Builtin
namespace Mine
set_option maxRecDepth 100000
set_option maxHeartbeats 8000000
def flat (ys : List Str) : List Nat := ys.flatMap (·.cps.toList)
def subArgs (a l : Addr) (x r : Str) (t u : Tok) (cnt p : Nat) : Args := ⟨[.ref a, .str x t, .str r u, rawInt 0, rawInt 0, rawInt cnt, rawInt p, rawInt p, .bool false, .ref l, .bool false], []⟩
abbrev tgt (a : Addr) (x : Str) (t : Tok) : ReTarget := { pattern := .ref a, string := .str x t, code := rxC, text := x.cps, kind := 0, groups := 0, pos := 0, lim := x.cps.size }
theorem eol_bounds {text : Array Nat} {lim q : Nat} (h : q < lim) : q + 1 ≤ eolEnd text lim q ∧ eolEnd text lim q ≤ lim := by
  unfold eolEnd
  by_cases h2 : text.getD q 0 = 13 ∧ q + 1 < lim ∧ text.getD (q + 1) 0 = 10
  · rw [if_pos h2]; omega
  · rw [if_neg h2]; omega
theorem str_ne_none {y : Str} {u : Tok} : (Value.str y u != Value.none) = true := by rfl
theorem strs_len : ∀ {vs : List Value} {ys : List Str}, StrsAre vs ys → vs.length = ys.length
  | _, _, .nil => rfl
  | _, _, .cons y t h => congrArg (· + 1) (strs_len h)
theorem strs_snoc {y : Str} {t : Tok} : ∀ {vs : List Value} {ys : List Str}, StrsAre vs ys → StrsAre (vs ++ [.str y t]) (ys ++ [y])
  | _, _, .nil => .cons y t .nil
  | _, _, .cons z u h => .cons z u (strs_snoc h)
theorem lenle_snoc {B : Nat} {y : Str} : ∀ {ys : List Str}, LenLe B ys → y.length ≤ B → LenLe B (ys ++ [y])
  | [], _, h => ⟨h, trivial⟩
  | _ :: _, h, h2 => ⟨h.1, lenle_snoc h.2 h2⟩
theorem flat_snoc (ys : List Str) (y : Str) : flat (ys ++ [y]) = flat ys ++ y.cps.toList := by unfold flat; simp
theorem rx_up {h h' : Heap} {a ct l : Addr} (hal : a ≠ l) (hcl : ct ≠ l) (up : ∀ b o, b ≠ l → h.get? b = some o → h'.get? b = some o) (r : Rx h a ct) : Rx h' a ct := by
  obtain ⟨o, fs, h1, h2⟩ := r.pat
  obtain ⟨oc, vs, n, h3, h4⟩ := r.code
  exact ⟨⟨o, fs, up _ _ hal h1, h2⟩, ⟨oc, vs, n, up _ _ hcl h3, h4⟩⟩
theorem join_flat : ∀ ys : List Str, Txt.join (St []) ys = St (flat ys) := by
  intro ys
  show Builtin.Str.glued (St []) ys = _
  rw [StrLaws.glued_eq_join]
  induction ys with
  | nil => rfl
  | cons y ys ih =>
    cases ys with
    | nil => exact (St_of y).trans (by congr 1; simp [flat])
    | cons z ys =>
      rw [join_cons_cons, ih, St_of y, St_app, St_app]
      congr 1
      simp [flat, St_cps]
section
variable {prog : Program} {w : World} {A : Around} {R : Result → Shared → Prop}
theorem code_subLoop {a ct l : Addr} {x : Str} {t u : Tok} (hal : a ≠ l) (hcl : ct ≠ l) (hx : x.length ≤ 1000) : ∀ (k p cnt : Nat) (acc : List Value) (ys : List Str) (c : Nat) (s : Shared), x.cps.size ≤ k + p → p ≤ x.cps.size → Rx s.heap a ct →
    s.heap.get? l = some { cls := .type "list", data := .seq acc.toArray c } → StrsAre acc ys → LenLe 1000 ys → ys.length ≤ 2 * p →
    (∀ t' h' tk, (∀ b o, b ≠ l → s.heap.get? b = some o → h'.get? b = some o) → R (.ok (.ret (.str (St (flat ys ++ fixL (x.cps.toList.drop p))) t'))) { s with heap := h', toks := tk }) →
    codeAny (model prog w) A (.builtin "re.Pattern.sub.loop" (subArgs a l x (St [13, 10]) t u cnt p)) R s := by
  intro k
  induction k using Nat.strongRecOn with
  | _ k ih =>
    intro p cnt acc ys c s hk hp hrx hl hs hb hn hR
    refine codeAny_builtin entry_subLoop ?_
    rw [Around.under_plainId plain_subLoop _]
    show wpAny _ _ (reWholeTarget (.ref a) (.str x t) >>= _) _ _ s
    refine wpAny_bind (wp_target hrx ?_)
    show wpAny _ _ (reLiteralCannotBeTurned (.str (St [13, 10]) u) >>= fun _ => _) _ _ s
    refine wpAny_bind ?_
    show wpAny _ _ (asStr? (.str (St [13, 10]) u) >>= fun _ => _) _ _ s
    refine wpAny_bind (wpAny_pure ?_)
    refine wpAny_pure ?_
    obtain ⟨o, hN⟩ := nxt_ex x.cps (x.cps.size - p) p (by omega)
    show wpAny _ _ (reNextFound (tgt a x t) p false >>= _) _ _ s
    refine wpAny_bind (wp_next (t := tgt a x t) rfl rfl hN (fun q m e hst hen => ?_) (fun e => ?_))
    · subst e
      obtain ⟨hpq, hq, hc⟩ := hN.lt
      have hen : m.handed = eolEnd x.cps x.cps.size q := hen
      obtain ⟨hen0, hen2⟩ := eol_bounds (text := x.cps) hq
      rw [← hen] at hen0 hen2
      have hfix := nxt_some hN
      have hmust : (m.handed == q) = false := by exact beq_false_of_ne (by omega)
      have J : ∀ (s1 : Shared) acc1 ys1 c1, s1 = { s with heap := s1.heap, toks := s1.toks } → (∀ b o, b ≠ l → s.heap.get? b = some o → s1.heap.get? b = some o) → s1.heap.get? l = some { cls := .type "list", data := .seq (List.toArray acc1) c1 } →
          StrsAre acc1 ys1 → LenLe 1000 ys1 → ys1.length ≤ 2 * p + 1 → flat ys1 = flat ys ++ (x.cps.extract p q).toList →
          wpAny (model prog w) A.in1 (updateSeq l (fun y => y.push (.str (St [13, 10]) u)) >>= fun _ => again (.builtin "re.Pattern.sub.loop" ⟨[.ref a, .str x t, .str (St [13, 10]) u, rawInt 0, rawInt 0, rawInt ((cnt : Int) + 1), rawInt m.handed, rawInt m.handed, .bool (m.handed == q), .ref l, .bool false], []⟩))
            (fun fin s' => match fin with | .done f => R (.ok f) s' | .again c' => c'.quiet = true ∧ codeAny (model prog w) A c' R s') (fun e s' => R (.error e) s') s1 := by
        intro s1 acc1 ys1 c1 e1 up1 hl1 hs1 hb1 hn1 hf1
        have hsz : acc1.length = ys1.length := strs_len hs1
        refine wpAny_bind (wpAny_updateSeq hl1 rfl ?_ (by rw [List.size_toArray, sizeLine_eq]; have : x.cps.size = x.length := rfl; omega) (by rw [Array.size_push, List.size_toArray, sizeLine_eq]; have : x.cps.size = x.length := rfl; omega))
        have hl2 := Heap.get?_update_self (Obj.mapSeq (fun y : Array Value => y.push (.str (St [13, 10]) u))) hl1 rfl
        have up2 : ∀ b o, b ≠ l → s.heap.get? b = some o → (s1.heap.update l (Obj.mapSeq (fun y : Array Value => y.push (.str (St [13, 10]) u)))).get? b = some o :=
          fun b o hb e => (Heap.get?_update_other _ _ (Ne.symm hb)).trans (up1 b o hb e)
        refine wpAny_pure ⟨plainId_quiet plain_subLoop _, ?_⟩
        rw [hmust]
        refine ih (k - 1) (by omega) m.handed (cnt + 1) (acc1 ++ [.str (St [13, 10]) u]) (ys1 ++ [St [13, 10]]) _ _ (by omega) hen2 (rx_up hal hcl up2 hrx) (by rw [← List.push_toArray]; exact hl2) (strs_snoc hs1) (lenle_snoc hb1 (by decide)) (by rw [List.length_append]; show ys1.length + 1 ≤ _; omega) ?_
        · intro t' h' tk up3
          have := hR t' h' tk (fun b o hb e => up3 b o hb (up2 b o hb e))
          rw [hfix, ← List.append_assoc, ← hf1] at this
          rw [flat_snoc, List.append_assoc, hen]
          rw [e1]
          exact this
      by_cases hpq2 : p < q
      · show wpAny _ _ (if p < m.start then _ else _) _ _ s
        rw [hst, if_pos hpq2]
        show wpAny _ _ (mkStr ⟨x.cps.extract p q⟩ >>= fun v => updateSeq l (fun y => y.push v) >>= fun _ => _) _ _ s
        have hlen : (⟨x.cps.extract p q⟩ : Str).length ≤ 1000 := by
          show (x.cps.extract p q).size ≤ 1000
          rw [Array.size_extract]
          have : x.cps.size = x.length := rfl
          omega
        refine wpAny_bind (wpAny_mkStr ?_ (by rw [sizeLine_eq]; omega))
        have hsz : acc.length = ys.length := strs_len hs
        refine wpAny_bind (wpAny_updateSeq (s := { s with toks := s.toks + 1 }) hl rfl ?_ (by rw [List.size_toArray, sizeLine_eq]; have : x.cps.size = x.length := rfl; omega) (by rw [Array.size_push, List.size_toArray, sizeLine_eq]; have : x.cps.size = x.length := rfl; omega))
        have hl2 := Heap.get?_update_self (Obj.mapSeq (fun y : Array Value => y.push (.str ⟨x.cps.extract p q⟩ s.toks))) hl rfl
        show wpAny _ _ (pure (Value.str (St [13, 10]) u) >>= _) _ _ _
        refine wpAny_bind (wpAny_pure ?_)
        refine J { s with heap := s.heap.update l (Obj.mapSeq (fun y : Array Value => y.push (.str ⟨x.cps.extract p q⟩ s.toks))), toks := s.toks + 1 } (acc ++ [.str ⟨x.cps.extract p q⟩ s.toks]) (ys ++ [⟨x.cps.extract p q⟩]) _ rfl (fun b o hb e => (Heap.get?_update_other _ _ (Ne.symm hb)).trans e) (by rw [← List.push_toArray]; exact hl2) (strs_snoc hs) (lenle_snoc hb hlen) (by rw [List.length_append]; show ys.length + 1 ≤ _; omega) (flat_snoc _ _)
      · have hqp : q = p := by omega
        show wpAny _ _ (if p < m.start then _ else _) _ _ s
        rw [hst, if_neg hpq2]
        show wpAny _ _ (pure (Value.str (St [13, 10]) u) >>= _) _ _ _
        refine wpAny_bind (wpAny_pure ?_)
        refine J s acc ys c rfl (fun _ _ _ e => e) hl hs hb (by omega) ?_
        rw [hqp]; simp
    · subst e
      have hfix := nxt_none hN
      have J : ∀ (s1 : Shared) acc1 ys1 c1, s1 = { s with heap := s1.heap, toks := s1.toks } → (∀ b o, b ≠ l → s.heap.get? b = some o → s1.heap.get? b = some o) → s1.heap.get? l = some { cls := .type "list", data := .seq (List.toArray acc1) c1 } →
          StrsAre acc1 ys1 → LenLe 1000 ys1 → ys1.length ≤ 2 * p + 1 → flat ys1 = flat ys ++ x.cps.toList.drop p →
          wpAny (model prog w) A.in1 (reSlice x.cps 0 0 0 >>= fun joiner => (do
              let text ← if ((← seqItems? (.ref l)).getD #[]).isEmpty then pure joiner else call (.builtin "str.join") [joiner, .ref l]
              ret text))
            (fun fin s' => match fin with | .done f => R (.ok f) s' | .again c' => c'.quiet = true ∧ codeAny (model prog w) A c' R s') (fun e s' => R (.error e) s') s1 := by
        intro s1 acc1 ys1 c1 e1 up1 hl1 hs1 hb1 hn1 hf1
        have hsz : acc1.length = ys1.length := strs_len hs1
        have hxs : x.cps.size = x.length := rfl
        obtain ⟨ps, rfl, rfl⟩ := strs_of hs1
        show wpAny _ _ (mkStr ⟨x.cps.extract 0 0⟩ >>= fun v => _) _ _ s1
        have e0 : (⟨x.cps.extract 0 0⟩ : Str) = St [] := Str.ext' (by simp [St])
        rw [e0]
        refine wpAny_bind (wpAny_mkStr ?_ (by rw [sizeLine_eq]; decide))
        refine wpAny_bind ?_
        refine wpAny_seqItems (s := { s1 with toks := s1.toks + 1 }) hl1 rfl ?_
        show wpAny _ _ (if ((some (strValues ps).toArray).getD #[]).isEmpty = true then _ else _) _ _ _
        have hfin : ∀ t' tk, R (.ok (.ret (.str (St (flat (ps.map (·.1)))) t'))) { s1 with toks := tk } := by
          intro t' tk
          have := hR t' s1.heap tk up1
          rw [hfix, ← hf1] at this
          rw [e1]
          exact this
        cases ps with
        | nil =>
          rw [if_pos (by rfl)]
          exact wpAny_bind (wpAny_pure (wpAny_pure (hfin _ _)))
        | cons pr ps =>
          rw [if_neg (by simp [strValues])]
          refine wpAny_bind ?_
          refine SC.join (l := pr :: ps) ⟨_, hl1, rfl, _, rfl⟩ rfl ?_ fun t' tk => ?_
          · unfold JoinOk
            rw [Bool.not_eq_true']
            exact StrLaws.joinFits hb1.all (by show _ + _ * 0 ≤ _; omega)
          · rw [join_flat]
            exact wpAny_pure (hfin _ _)
      by_cases hpq2 : p < x.cps.size
      · show wpAny _ _ (if p < x.cps.size then _ else _) _ _ s
        rw [if_pos hpq2]
        show wpAny _ _ (mkStr ⟨x.cps.extract p x.cps.size⟩ >>= fun v => updateSeq l (fun y => y.push v) >>= fun _ => _) _ _ s
        have hlen : (⟨x.cps.extract p x.cps.size⟩ : Str).length ≤ 1000 := by
          show (x.cps.extract p x.cps.size).size ≤ 1000
          rw [Array.size_extract]
          have : x.cps.size = x.length := rfl
          omega
        refine wpAny_bind (wpAny_mkStr ?_ (by rw [sizeLine_eq]; omega))
        have hsz : acc.length = ys.length := strs_len hs
        refine wpAny_bind (wpAny_updateSeq (s := { s with toks := s.toks + 1 }) hl rfl ?_ (by rw [List.size_toArray, sizeLine_eq]; have : x.cps.size = x.length := rfl; omega) (by rw [Array.size_push, List.size_toArray, sizeLine_eq]; have : x.cps.size = x.length := rfl; omega))
        have hl2 := Heap.get?_update_self (Obj.mapSeq (fun y : Array Value => y.push (.str ⟨x.cps.extract p x.cps.size⟩ s.toks))) hl rfl
        refine J { s with heap := s.heap.update l (Obj.mapSeq (fun y : Array Value => y.push (.str ⟨x.cps.extract p x.cps.size⟩ s.toks))), toks := s.toks + 1 } (acc ++ [.str ⟨x.cps.extract p x.cps.size⟩ s.toks]) (ys ++ [⟨x.cps.extract p x.cps.size⟩]) _ rfl (fun b o hb e => (Heap.get?_update_other _ _ (Ne.symm hb)).trans e) (by rw [← List.push_toArray]; exact hl2) (strs_snoc hs) (lenle_snoc hb hlen) (by rw [List.length_append]; show ys.length + 1 ≤ _; omega) ?_
        rw [flat_snoc]
        congr 1
        show (x.cps.extract p x.cps.size).toList = _
        rw [ext_list, List.take_of_length_le (by simp)]
      · show wpAny _ _ (if p < x.cps.size then _ else _) _ _ s
        rw [if_neg hpq2]
        refine J s acc ys c rfl (fun _ _ _ e => e) hl hs hb (by omega) ?_
        rw [List.drop_eq_nil_of_le (by simpa using Nat.le_of_not_lt hpq2), List.append_nil]
end
end Mine

end
section
open PySem PySem.W PySem.Calls PyProof.Rows PySem.Builtin.Re PySem.Builtin
namespace Mine
set_option maxRecDepth 100000
set_option maxHeartbeats 8000000
theorem named_sub (a b : Value) : reNamed "re.Pattern.sub" "sub" ["repl", "string", "count"] 2 [a, b] [] = pure [some a, some b, none] := by kernel_rfl
theorem str_nocall : typeLookup (.type "str") "__call__" = pure none := by rw [typeLookup_type, builtinLookup_eq_fast]; kernel_rfl
section
variable {prog : Program} {w : World} {A : Around} {E : Value → Shared → Prop} {s : Shared} {Q : Value → Shared → Prop}
theorem call_sub {a ct : Addr} {x : Str} {t u : Tok} (ha : s.TypeIs (.ref a) "re.Pattern") (hrx : Rx s.heap a ct) (hx : x.length ≤ 1000)
    (h : ∀ t' h' tk, (∀ b o, s.heap.get? b = some o → h'.get? b = some o) → Q (.str (St (fixL x.cps.toList)) t') { s with heap := h', toks := tk }) :
    wpAny (model prog w) A (call (.builtin "re.Pattern.sub") [.ref a, .str (St [13, 10]) u, .str x t]) Q E s := by
  refine wpAny_call (codeAny_call_builtin slot_sub.plain entry_sub (slot_sub.check _ _ _ _ _ _ _ _ ha (args_sub _ _ _) ?_))
  show wpAny _ _ (reNamed "re.Pattern.sub" "sub" ["repl", "string", "count"] 2 [.str (St [13, 10]) u, .str x t] [] >>= _) _ _ s
  rw [named_sub]
  refine wpAny_bind (wpAny_pure ?_)
  show wpAny _ _ (pure 0 >>= _) _ _ s
  refine wpAny_bind (wpAny_pure ?_)
  show wpAny _ _ (specialOf (.str (St [13, 10]) u) "__call__" >>= _) _ _ s
  refine wpAny_bind (wpAny_specialOf (typeIs_str _ _ _) str_nocall ?_)
  show wpAny _ _ (asStr? (.str (St [13, 10]) u) >>= _) _ _ s
  refine wpAny_bind (wpAny_pure ?_)
  show wpAny _ _ (pure (!(St [13, 10]).cps.contains 92) >>= _) _ _ s
  rw [show ((St [13, 10]).cps.contains 92) = false from by decide +kernel]
  refine wpAny_bind (wpAny_pure ?_)
  show wpAny _ _ (pure (Value.str (St [13, 10]) u, 0) >>= _) _ _ s
  refine wpAny_bind (wpAny_pure ?_)
  show wpAny _ _ (holding [.str (St [13, 10]) u] (reWholeTarget (.ref a) (.str x t)) >>= _) _ _ s
  refine wpAny_bind (wpAny_holding (wp_target hrx ?_))
  show wpAny _ _ (newList [] >>= _) _ _ s
  refine wpAny_bind (wpAny_newList ?_ (by rw [sizeLine_eq]; decide))
  have hl : (s.heap.push { cls := .type "list", data := .seq #[] }).get? s.heap.objs.size = some { cls := .type "list", data := .seq #[] } := Heap.get?_push_size _ rfl
  obtain ⟨o, fs, h1, h2⟩ := hrx.pat
  obtain ⟨oc, vs, n, h3, h4⟩ := hrx.code
  refine wpAny_pure ⟨plainId_quiet plain_subLoop _, ?_⟩
  refine code_subLoop (ct := ct) (l := s.heap.objs.size) (Nat.ne_of_lt (Heap.lt_size h1)) (Nat.ne_of_lt (Heap.lt_size h3)) hx x.cps.size 0 0 [] [] 0 _ (Nat.le_refl _) (Nat.zero_le _) ?_ hl .nil trivial (Nat.le_refl _) ?_
  · exact ⟨⟨o, fs, Heap.get?_push_of_some _ h1, h2⟩, ⟨oc, vs, n, Heap.get?_push_of_some _ h3, h4⟩⟩
  · intro t' h' tk up
    exact h t' h' tk fun b o hb => up b o (Nat.ne_of_lt (Heap.lt_size hb)) (Heap.get?_push_of_some _ hb)
end
end Mine

end
section
open PySem PySem.W PySem.Calls PyProof.Rows
namespace Mine
def cAt (on order : List Int) (k : Nat) : Int := on.getD (order.getD k 0).toNat 0
/-- the three lists that both makers of a mail read -/
structure Three (on order own : List Int) (von vor vow : List Value) (aOn aOr aOw : Addr) (h : Heap) : Prop where
  l1 : h.IsList aOn von.toArray
  l2 : h.IsList aOr vor.toArray
  l3 : h.IsList aOw vow.toArray
/-- it hands back a new dict of texts to ints -/
def RetD (w : World) (c : List (Str × Int)) (s : Shared) (Q : Value → Shared → Prop) : Prop :=
  ∀ (a : Addr) (o : Obj) (kvs : List (Str × Value)) (h' : Heap) (tk' : Nat), (a == sysModules) = false → o.IsDictOf (PySem.strKind PySem.Challenge.rw_xg0012_01.row.prog w) kvs → PyProof.V.FlatPairs PyData.str kvs (kdpD c) → s.heap.StaysIn h' → h'.get? a = some o → s.heap.get? a = none → Q (.ref a) { s with heap := h', toks := tk' }
end Mine

end
section
open PySem PySem.W PySem.Calls PyProof.Rows
namespace Mine
open PyProof.Rows.LCg
set_option maxRecDepth 100000
set_option maxHeartbeats 8000000
/-- off the four objects of a block whose name is a cell -/
def Off4 (I C V D : Addr) (news : List (Addr × Obj)) : Prop := ∀ p ∈ news, (@Ne Nat p.1 I) ∧ (@Ne Nat p.1 C) ∧ (@Ne Nat p.1 V) ∧ (@Ne Nat p.1 D)
section
variable {prog : Program} {w : World} {A : Around} {E : Value → Shared → Prop} {s : Shared} {h₀ : Heap} {L : Addr} {m : Str → Option Value} {env : Env}
theorem newEnv_cell {M : Model} {scope : Scope} {globals : Addr} {qual : Str} {x z0 z2 : Str} {Q : Env → Shared → Prop} (hn : scope.names = [(z0, .local), (x, .cell), (z2, .globalImplicit)])
    (hQ : Q (newEnv scope s.heap.objs.size globals [(x, s.heap.objs.size + 1)] qual none .none (some env) builtinsNs) { s with heap := (s.heap.push { cls := .type "dict", data := .dict #[] }).push { cls := .type "cell", data := .cell none } }) :
    wpAny M A (newFunctionEnv scope globals [] [] qual none .none (some env)) Q E s := by
  simp only [newFunctionEnv, Option.isSome_some, if_true]
  refine wpAny_bind (wpAny_alloc ?_)
  refine wpAny_bind (wpAny_layCells _ (fun name kind cells => by cases hkc : kind == NameKind.cell <;> simp [hkc]) _ _ _ _ ?_)
  rw [hn]
  have e1 : cellsFrom ({ s with heap := s.heap.push { cls := .type "dict", data := .dict #[] } } : Shared).heap.objs.size [(z0, NameKind.local), (x, NameKind.cell), (z2, NameKind.globalImplicit)] [] = [(x, s.heap.objs.size + 1)] := by
    show [(x, (s.heap.push _).objs.size)] = _
    rw [Heap.size_push]
  rw [e1]
  refine wpAny_bind ?_
  rw [List.forIn_nil]
  exact wpAny_pure (wpAny_pure hQ)
theorem block_V {elt iter : Expr} {x z0 z2 : Str} {px : Pos} {scope : Scope} {pos : Pos} {s₂ : Shared} {I : Addr} {fp : List Addr} {n : Nat} {P : Nat → Value → Prop} {St : Nat → Heap → Prop} {news : List (Addr × Obj)}
    {J : Nat → List Value → List (Addr × Obj) → Prop} {RR : Value → Addr → Result → Shared → Prop}
    (W : Walks prog w A I fp [I] n P St) (hsz : n ≤ sizeLine) (hIo : ∀ i h, St i h → ∃ o, h.get? I = some o)
    (hSt : ∀ i h h' o, St i h → h.get? I = some o → h'.get? I = some o → St i h')
    (hnm : scope.names = [(z0, .local), (x, .cell), (z2, .globalImplicit)]) (hzx : (x == z0) = false) (hkind : scope.kind = .function) (hst : St 0 s₂.heap) (hfp : ∀ b ∈ fp, b < s₂.heap.objs.size)
    (F : Fr h₀ L s₂.heap m) (N : News h₀ L s₂.heap news) (hIL : L ≠ I) (hI₀ : h₀.get? I = none) (off : ∀ p ∈ news, p.1 ≠ I)
    (hJ : J 0 [] news)
    (turn : ∀ i v ys I oI C oC V oV D news h tk E', i < n → J i ys news → P i v → oV.data = .cell (some v) → Fr h₀ L h m → News h₀ L h ((I, oI) :: (C, oC) :: (V, oV) :: (D, lst ys) :: news) → Off4 I C V D news →
      ((@Ne Nat I C) ∧ (@Ne Nat I V) ∧ (@Ne Nat I D) ∧ (@Ne Nat C V) ∧ (@Ne Nat C D) ∧ (@Ne Nat V D)) →
      wpAny (model prog w) A (eval elt (compEnvC scope [(x, V)] C env)) (fun y s' => ∃ h' tk' news', s' = { s₂ with heap := h', toks := tk' } ∧ Fr h₀ L h' m ∧ News h₀ L h' ((I, oI) :: (C, oC) :: (V, oV) :: (D, lst ys) :: news') ∧ Off4 I C V D news' ∧ J (i + 1) (ys ++ [y]) news') E' { s₂ with heap := h, toks := tk })
    (hRR : ∀ D C h tk m' ys news', Fr h₀ L h m → News h₀ L h ((D, lst ys) :: news') → (∀ p ∈ news', p.1 ≠ D) → h.Ns C m' → h₀.get? C = none → h₀.get? D = none → C ≠ L → D ≠ L → C ≠ D → (∀ p ∈ news', p.1 ≠ C) → J n ys news' → RR (.ref D) C (.ok .next) { s₂ with heap := h, toks := tk }) :
    wpAny (model prog w) A (newList []) (fun acc s₃ => wpAny (model prog w) A (newFunctionEnv scope env.globals [] [] env.qual none .none (some env)) (fun cenv s₄ =>
      codeAny (model prog w) A (.compStart (.ListComp elt [⟨.Name x px, iter, [], 0⟩] scope pos) 0 (.ref I) acc { cenv with scope := relabel scope env }) (RR acc cenv.locals) s₄) E s₃) E s₂ := by
  refine wpAny_newObj_type (newEnv_cell hnm ?_)
  have hrl : (relabel scope env).names = [(z0, .local), (x, .cell), (z2, .globalImplicit)] := by
    unfold relabel
    rw [hnm]; rfl
  dsimp only
  generalize hH2 : s₂.heap.push { cls := .type "list", dict := none, data := .seq ([] : List Value).toArray } = H2
  have hC : H2.objs.size = s₂.heap.objs.size + 1 := by rw [← hH2, Heap.size_push]
  generalize hh1 : (H2.push { cls := .type "dict", data := .dict #[] }).push { cls := .type "cell", data := .cell none } = h₁
  have szC : (H2.push { cls := .type "dict", data := .dict #[] }).objs.size = H2.objs.size + 1 := Heap.size_push ..
  have hDC : s₂.heap.objs.size ≠ H2.objs.size := by rw [hC]; exact Nat.ne_of_lt (Nat.lt_succ_self _)
  have hDV : s₂.heap.objs.size ≠ H2.objs.size + 1 := by rw [hC]; omega
  have hCV : H2.objs.size ≠ H2.objs.size + 1 := by omega
  have below : ∀ b, b < s₂.heap.objs.size → b ≠ H2.objs.size ∧ b ≠ s₂.heap.objs.size ∧ b ≠ H2.objs.size + 1 := fun b hb => ⟨by rw [hC]; exact Nat.ne_of_lt (Nat.lt_succ_of_lt hb), Nat.ne_of_lt hb, by rw [hC]; omega⟩
  have hDf : s₂.heap.objs.size ∉ fp := fun hm => Nat.lt_irrefl _ (hfp _ hm)
  have hCf : H2.objs.size ∉ fp := fun hm => by have := hfp _ hm; rw [hC] at this; exact Nat.lt_irrefl _ (Nat.lt_of_succ_lt this)
  have hVf : H2.objs.size + 1 ∉ fp := fun hm => by have h2 : (H2.objs.size + 1 : Nat) < s₂.heap.objs.size := hfp _ hm; omega
  have hIf : I ∈ fp := W.sub I (List.mem_singleton.mpr rfl)
  have hIlt : I < s₂.heap.objs.size := hfp I hIf
  have up : ∀ b o, H2.get? b = some o → h₁.get? b = some o := fun b o e => hh1 ▸ Heap.get?_push_of_some _ (Heap.get?_push_of_some _ e)
  have old : ∀ b o, s₂.heap.get? b = some o → h₁.get? b = some o := fun b o e => up _ _ (hH2 ▸ Heap.get?_push_of_some _ e)
  have hacc : h₁.get? s₂.heap.objs.size = some (lst []) := up _ _ (hH2 ▸ Heap.get?_push_size _ rfl)
  have hns₁ : h₁.Ns H2.objs.size (fun _ => none) := hh1 ▸ (Heap.Ns.new H2 (.type "dict")).keeps fun b o e => Heap.get?_push_of_some _ e
  have hcell₁ : h₁.IsCell (H2.objs.size + 1) none := ⟨_, by rw [← hh1, ← szC]; exact Heap.get?_push_size _ rfl, rfl⟩
  have hst₁ : St 0 h₁ := W.frame _ _ _ hst fun b _ o e => old b o e
  have fresh : ∀ a, s₂.heap.objs.size ≤ a → s₂.heap.get? a = none := fun a ha => by
    cases e : s₂.heap.get? a with
    | none => rfl
    | some o' => exact absurd (Heap.lt_size e) (Nat.not_lt.mpr ha)
  have fresh₀ : ∀ a, s₂.heap.objs.size ≤ a → h₀.get? a = none := fun a ha => by
    cases e : h₀.get? a with
    | none => rfl
    | some o' => have := F.keep a o' e; rw [fresh a ha] at this; cases this
  have hD₀ : h₀.get? s₂.heap.objs.size = none := fresh₀ _ (Nat.le_refl _)
  have hC₀ : h₀.get? H2.objs.size = none := fresh₀ _ (by rw [hC]; exact Nat.le_succ _)
  have hV₀ : h₀.get? (H2.objs.size + 1) = none := fresh₀ _ (by rw [hC]; omega)
  have hLlt : L < s₂.heap.objs.size := F.ns.lt
  have hDL : s₂.heap.objs.size ≠ L := Ne.symm (below L hLlt).2.1
  have hCL : H2.objs.size ≠ L := Ne.symm (below L hLlt).1
  have hVL : H2.objs.size + 1 ≠ L := Ne.symm (below L hLlt).2.2
  have hCI : I ≠ H2.objs.size := (below I hIlt).1
  have hVI : I ≠ H2.objs.size + 1 := (below I hIlt).2.2
  have hDI : I ≠ s₂.heap.objs.size := (below I hIlt).2.1
  have off₀ : Off4 I H2.objs.size (H2.objs.size + 1) s₂.heap.objs.size news := fun p hp => ⟨off p hp, (below _ (Heap.lt_size (N p hp).1)).1, (below _ (Heap.lt_size (N p hp).1)).2.2, (below _ (Heap.lt_size (N p hp).1)).2.1⟩
  have loop : ∀ s₃ : Shared, s₃ = { s₂ with heap := h₁ } →
      codeAny (model prog w) A (.compLoop (.ListComp elt [⟨.Name x px, iter, [], 0⟩] scope pos) 0 (.ref I) (.ref s₂.heap.objs.size) (compEnvC scope [(x, H2.objs.size + 1)] H2.objs.size env))
        (RR (.ref s₂.heap.objs.size) H2.objs.size) s₃ := by
    rintro s₃ rfl
    refine codeAny_compLoop_tests
      (fun k s' => ∃ h' tk i ys m' v₀ news', s' = { s₂ with heap := h', toks := tk } ∧ i ≤ n ∧ k = n + 1 - i ∧ ys.length = i ∧ St i h' ∧ Fr h₀ L h' m ∧ h'.Ns H2.objs.size m' ∧ h'.IsCell (H2.objs.size + 1) v₀ ∧ News h₀ L h' ((s₂.heap.objs.size, lst ys) :: news') ∧
        Off4 I H2.objs.size (H2.objs.size + 1) s₂.heap.objs.size news' ∧ J i ys news') ?_ (n + 1)
      ⟨h₁, _, 0, [], _, _, news, rfl, Nat.zero_le _, rfl, rfl, hst₁, F.keeps old, hns₁, hcell₁, fun p hp => ?_, off₀, hJ⟩
    · rintro k s' ⟨h', tk, i, ys, m', v₀, news', rfl, hi, rfl, hyl, hst', F', hn', hc', N', off', hJ'⟩
      by_cases hlt : i < n
      · refine W.item i _ _ _ hlt hst' fun v h₂ tk₂ hPv hst₂ hk₂ => ?_
        have hlx : (compEnvC scope [(x, H2.objs.size + 1)] H2.objs.size env).kindOf x = some .cell := by
          show (relabel scope env).names.lookup x = some .cell
          rw [hrl, List.lookup_cons, hzx]
          simp
        have hn₂ : h₂.Ns H2.objs.size m' := hn'.at' fun o e => hk₂ _ o (by simpa using Ne.symm hCI) e
        have hc₂ : h₂.IsCell (H2.objs.size + 1) v₀ := by obtain ⟨o, e, d⟩ := hc'; exact ⟨o, hk₂ _ o (by simpa using Ne.symm hVI) e, d⟩
        refine wpAny_assign_Name (wpAny_storeName_cell (c := H2.objs.size + 1) (by simp [compEnvC, relabel, hkind]) hlx (by simp [compEnvC]) hc₂ (fun h₃ hc₃ hs₃ => ?_))
        refine wpAny_tests_nil ?_
        simp only [if_true]
        have hst₃ : St (i + 1) h₃ := W.frame _ _ _ hst₂ fun b hb o e => hs₃.extBut b o (fun q => hVf (by have q' : b = H2.objs.size + 1 := q; rw [← q']; exact hb)) e
        obtain ⟨oI, heI⟩ := hIo _ _ hst₃
        have hn₃ : h₃.Ns H2.objs.size m' := hn₂.sameBut hs₃ hCV
        obtain ⟨oC, heC, hoC⟩ := ns_obj hn₃
        obtain ⟨oV, heV, hoV⟩ := hc₃
        have F₃ : Fr h₀ L h₃ m := (fr_but F' hk₂ hIL hI₀).change hs₃ hVL hV₀
        have N₂ : News h₀ L h₂ ((s₂.heap.objs.size, lst ys) :: news') := news_but N' hk₂ fun p hp => by
          rcases List.mem_cons.mp hp with rfl | hp
          · exact Ne.symm hDI
          · exact (off' p hp).1
        have N₃ : News h₀ L h₃ ((I, oI) :: (H2.objs.size, oC) :: (H2.objs.size + 1, oV) :: (s₂.heap.objs.size, lst ys) :: news') := fun p hp => by
          rcases List.mem_cons.mp hp with rfl | hp
          · exact ⟨heI, Ne.symm hIL, hI₀⟩
          · rcases List.mem_cons.mp hp with rfl | hp
            · exact ⟨heC, hCL, hC₀⟩
            · rcases List.mem_cons.mp hp with rfl | hp
              · exact ⟨heV, hVL, hV₀⟩
              · have z := N₂ p hp
                refine ⟨hs₃.extBut _ _ ?_ z.1, z.2⟩
                rcases List.mem_cons.mp hp with rfl | hp
                · exact hDV
                · exact (off' p hp).2.2.1
        refine wpAny_mono (turn i v ys I oI H2.objs.size oC (H2.objs.size + 1) oV s₂.heap.objs.size news' h₃ _ _ hlt hJ' hPv hoV F₃ N₃ off' ⟨hCI, hVI, hDI, hCV, Ne.symm hDC, Ne.symm hDV⟩) (fun y s₄ h₄ => ?_) fun _ _ e => e
        obtain ⟨h₄, tk₄, news₄, rfl, F₄, N₄, off₄, hJ₄⟩ := h₄
        have zI := (N₄ (I, oI) List.mem_cons_self).1
        have zC := (N₄ (H2.objs.size, oC) (List.mem_cons_of_mem _ List.mem_cons_self)).1
        have zV := (N₄ (H2.objs.size + 1, oV) (List.mem_cons_of_mem _ (List.mem_cons_of_mem _ List.mem_cons_self))).1
        have zD := (N₄ (s₂.heap.objs.size, lst ys) (List.mem_cons_of_mem _ (List.mem_cons_of_mem _ (List.mem_cons_of_mem _ List.mem_cons_self)))).1
        have N₄' : News h₀ L h₄ news₄ := fun p hp => N₄ p (List.mem_cons_of_mem _ (List.mem_cons_of_mem _ (List.mem_cons_of_mem _ (List.mem_cons_of_mem _ hp))))
        have hst₄ : St (i + 1) h₄ := hSt _ _ _ _ hst₃ heI zI
        refine append_at (hsz := by show ys.toArray.size ≤ sizeLine; rw [List.size_toArray, hyl]; exact Nat.le_trans hi hsz) zD fun h₅ hs₅ hD₅ => ?_
        refine ⟨n + 1 - (i + 1), by omega, h₅, tk₄, i + 1, ys ++ [y], m', some v, news₄, rfl, hlt, rfl, by rw [List.length_append, List.length_singleton, hyl], W.frame _ _ _ hst₄ fun b hb o e => hs₅.extBut b o (fun q => hDf (q ▸ hb)) e, F₄.change hs₅ hDL hD₀,
          (hoC.ns zC).sameBut hs₅ (Ne.symm hDC), ⟨oV, hs₅.extBut _ _ (Ne.symm hDV) zV, hoV⟩, fun p hp => ?_, off₄, hJ₄⟩
        rcases List.mem_cons.mp hp with rfl | hp
        · exact ⟨hD₅.trans (congrArg some (lst_snoc ys y)), hDL, hD₀⟩
        · exact ⟨hs₅.extBut _ _ (off₄ p hp).2.2.2 (N₄' p hp).1, (N₄' p hp).2⟩
      · obtain rfl : i = n := Nat.le_antisymm hi (Nat.not_lt.mp hlt)
        refine W.done _ _ _ hst' fun h₂ tk₂ hk₂ => ?_
        exact hRR _ _ h₂ tk₂ _ ys news' (fr_but F' hk₂ hIL hI₀) (news_but N' hk₂ fun p hp => by
          rcases List.mem_cons.mp hp with rfl | hp
          · exact Ne.symm hDI
          · exact (off' p hp).1) (fun p hp => (off' p hp).2.2.2) (hn'.at' fun o e => hk₂ _ o (by simpa using Ne.symm hCI) e) hC₀ hD₀ hCL hDL (Ne.symm hDC) (fun p hp => (off' p hp).2.1) hJ'
    · rcases List.mem_cons.mp hp with rfl | hp
      · exact ⟨hacc, hDL, hD₀⟩
      · exact ⟨old _ _ (N p hp).1, (N p hp).2⟩
  exact codeAny_compStart_list (loop _ rfl) (W.self 0 _ _ _ hst₁ (loop _ rfl))
/-- what stands behind the iterable of «y = [elt for x in range(n)]», x a cell -/
def SrcV (prog : Program) (w : World) (A : Around) (h₀ : Heap) (L : Addr) (m : Str → Option Value) (env : Env) (elt : Expr) (x y : Str) (scope : Scope) (n : Nat) (Q : Flow → Shared → Prop) (xv : Value) (s₁ : Shared) : Prop :=
  ∃ (r : Addr) (a : Int) (t u v : Tok) (news : List (Addr × Obj)) (J : Nat → List Value → List (Addr × Obj) → Prop), xv = .ref r ∧ A.handled = none ∧ Fr h₀ L s₁.heap m ∧ News h₀ L s₁.heap news ∧ IsRange s₁.heap r a n 1 t u v ∧ Builtin.Range.small a n 1 = true ∧ Builtin.Range.rangeSize a n 1 = ((n : Nat) : Int) ∧ n ≤ sizeLine ∧ J 0 [] news ∧
    (∀ i v ys I oI C oC V oV D news h tk E', i < n → J i ys news → (∃ t, v = .int (a + (i : Int)) t) → oV.data = .cell (some v) → Fr h₀ L h m → News h₀ L h ((I, oI) :: (C, oC) :: (V, oV) :: (D, lst ys) :: news) → Off4 I C V D news →
      ((@Ne Nat I C) ∧ (@Ne Nat I V) ∧ (@Ne Nat I D) ∧ (@Ne Nat C V) ∧ (@Ne Nat C D) ∧ (@Ne Nat V D)) →
      wpAny (model prog w) A (eval elt (compEnvC scope [(x, V)] C env)) (fun y s' => ∃ h' tk' news', s' = { s₁ with heap := h', toks := tk' } ∧ Fr h₀ L h' m ∧ News h₀ L h' ((I, oI) :: (C, oC) :: (V, oV) :: (D, lst ys) :: news') ∧ Off4 I C V D news' ∧ J (i + 1) (ys ++ [y]) news') E' { s₁ with heap := h, toks := tk }) ∧
    (∀ D h tk ys news', Fr h₀ L h (fun z => if z = y then some (.ref D) else m z) → News h₀ L h ((D, lst ys) :: news') → (∀ p ∈ news', p.1 ≠ D) → J n ys news' → Q .next { s₁ with heap := h, toks := tk })
theorem Assign_V {elt iter : Expr} {x y z0 z2 : Str} {px py : Pos} {scope : Scope} {pos spos : Pos} {n : Nat} {Q : Flow → Shared → Prop} (F₀ : Fr h₀ L s.heap m) (hLe : env.locals = L)
    (hsw : swapsWith (.ListComp elt [⟨.Name x px, iter, [], 0⟩] scope pos) (some (.Name y py)) spos.line env = pure true)
    (hnm : scope.names = [(z0, .local), (x, .cell), (z2, .globalImplicit)]) (hzx : (x == z0) = false) (hclos : closureFor scope env = pure []) (hkind : scope.kind = .function)
    (hnames : ∀ z ∈ scope.names, z.2 = .local → scope.names.lookup z.1 = some .local)
    (hy : env.kindOf y = some .local) (hp : (env.scope.kind == .class || (env.scope.kind == .module && env.locals != env.globals)) = false)
    (h : wpAny (model prog w) A (eval iter env) (SrcV prog w A h₀ L m env elt x y scope n Q) E s)
    (hs : ∀ x, foldedSetIterable iter env x = pure x := by intro _; rfl) :
    wpAny (model prog w) A (exec (.Assign [.Name y py] (.ListComp elt [⟨.Name x px, iter, [], 0⟩] scope pos) spos) env) Q E s := by
  subst hLe
  rw [exec_Assign_Name_used _ _ _ _ hsw]
  refine wpAny_bind (wpAny_standAt (wpAny_bind ?_))
  show wpAny _ A (do let _ ← comprehension (.ListComp elt [⟨.Name x px, iter, [], 0⟩] scope pos) scope env _ (newList []) false (eval iter env) (some (assign (.Name y py) env))) _ _ s
  refine wpAny_bind (wpAny_mono (wpAny_comprehension_free (use := some (assign (.Name y py) env)) (Q := fun _ s' => Q .next s') rfl hs hclos hkind hnames
    (wpAny_mono h (fun xv s₁ h₁ => ?_) fun _ _ e => e)) (fun _ s' hq => wpAny_pure (wpAny_pure hq)) fun _ _ e => e)
  obtain ⟨r, a, t, u, v, news, J, rfl, hh, F, N, hr, hsm, hn, hsz, hJ, turn, fin⟩ := h₁
  refine wpAny_pyIter_range hr hsm ?_
  refine block_V (range_walks hh a n) hsz (fun i h st => ⟨_, st⟩) (fun i h h' o st e e' => by have st' : h.get? _ = some _ := st; show h'.get? _ = some _; rw [e', ← e]; exact st') hnm hzx hkind (by show IsRangeIter _ _ _ _ _; rw [hn]; simpa using Heap.get?_push_size _ rfl) (fun b hb => ?_)
    (F.keeps fun _ _ e => Heap.get?_push_of_some _ e) (N.grown fun _ _ e => Heap.get?_push_of_some _ e) (Nat.ne_of_lt F.ns.lt) (next_is_new F) (fun p hp => Nat.ne_of_lt (Heap.lt_size (N p hp).1)) hJ turn ?_
  · rw [List.mem_singleton.mp hb]
    show s₁.heap.objs.size < (s₁.heap.push _).objs.size
    rw [Heap.size_push]; exact Nat.lt_succ_self _
  · intro D C h' tk m' ys news' F' N' o1 hn hC₀ hD₀ hCL hDL hCD offC hJ'
    show wpAny _ A (assign (.Name y py) env (.ref D)) _ _ _
    refine wpAny_assign_Name (wpAny_storeName_local hy F'.ns (fun h₂ hn₂ hs₂ => ?_) hp)
    have hL₀ : h₀.get? env.locals = none := Heap.get?_none_of_le F'.above
    have F₂ : Fr h₀ env.locals h₂ (fun z => if z = y then some (.ref D) else m z) := ⟨hn₂, fun b o e => hs₂.extBut b o (fun q => by rw [q, hL₀] at e; cases e) (F'.keep b o e), F'.above⟩
    refine ⟨m', hn.sameBut hs₂ hCL, fun h'' hs'' => fin D h'' _ ys news' (F₂.change hs'' hCL hC₀) (fun p hp => ?_) o1 hJ'⟩
    have z : h₂.get? p.1 = some p.2 := hs₂.extBut _ _ (N' p hp).2.1 (N' p hp).1
    refine ⟨hs''.extBut _ _ ?_ z, (N' p hp).2⟩
    rcases List.mem_cons.mp hp with rfl | hp
    · exact Ne.symm hCD
    · exact offC p hp
theorem comp_inv {elt : Expr} {x : Str} {scope : Scope} {cl : List (Str × Addr)} {S : List (Addr × Obj) → Prop} {P : Nat → Value → Prop} {Fin : List Value → List (Addr × Obj) → Prop} (n : Nat) (J : Nat → List Value → List (Addr × Obj) → Prop)
    (turn : ∀ i v ys I oI C oC D m₂ news h tk E', i < n → J i ys news → P i v → NsObj oC m₂ → m₂ x = some v → Fr h₀ L h m → News h₀ L h ((I, oI) :: (C, oC) :: (D, lst ys) :: news) → Off3 I C D news → ((@Ne Nat I C) ∧ (@Ne Nat I D) ∧ (@Ne Nat C D)) →
      wpAny (model prog w) A (eval elt (compEnvC scope cl C env)) (CompEnd h₀ L m { s with heap := h, toks := tk } I oI C oC D (lst ys) S (fun y news' => J (i + 1) (ys ++ [y]) news')) E' { s with heap := h, toks := tk })
    (fin : ∀ ys news, J n ys news → Fin ys news) : ∀ k i ys news, i + k = n → J i ys news → CompRest prog w A h₀ L m env elt x scope cl s S P Fin k i ys news
  | 0, i, ys, news, e, h => CompRest.zero (fin _ _ ((show i = n by omega) ▸ h))
  | k + 1, i, ys, news, e, h => CompRest.succ fun v I oI C oC D m₂ h' tk E' hP hC hx F N o ne =>
      wpAny_mono (turn i v ys I oI C oC D m₂ news h' tk E' (by omega) h hP hC hx F N o ne) (fun y s₂ hs => by
        obtain ⟨h2, tk2, news', e2, F2, N2, o2, S2, r2⟩ := hs
        exact ⟨h2, tk2, news', e2, F2, N2, o2, S2, comp_inv n J turn fin k (i + 1) (ys ++ [y]) news' (by omega) r2⟩) fun _ _ e => e
theorem ld_cellC {M : Model} {scope : Scope} {cl : List (Str × Addr)} {C c : Addr} {oV : Obj} {x : Str} {pos : Pos} {v : Value} {news : List (Addr × Obj)} {Q : Value → Shared → Prop} (hk : (compEnvC scope cl C env).scope.kind = .function) (hl : (compEnvC scope cl C env).kindOf x = some .cell)
    (hc : cl.lookup x = some c) (N : News h₀ L s.heap news) (hm : (c, oV) ∈ news) (hv : oV.data = .cell (some v)) (h : Q v s) (hd : (x == ("__debug__" : Str)) = false := by decide) :
    wpAny M A (eval (.Name x pos) (compEnvC scope cl C env)) Q E s := wpAny_Name (wpAny_loadName_cell hk hl hc ⟨oV, (N _ hm).1, hv⟩ h) hd
end
/-- the walk is to stop here -/
def Stop (X : Prop) : Prop := X
theorem Stop.of {X : Prop} (h : Stop X) : X := h
/-- the i-th binary place of n -/
def bitI (n : Int) (i : Nat) : Int := Builtin.bitAnd (n.fdiv (2 ^ i)) 1
def bitsI (n : Int) (k : Nat) : List Int := (List.range k).map (bitI n)
theorem bitsI_succ (n : Int) (k : Nat) : bitsI n (k + 1) = bitsI n k ++ [bitI n k] := by unfold bitsI; rw [List.range_succ, List.map_append]; rfl
theorem ints_snoc {z : Int} {t : Tok} : ∀ {vs : List Value} {ns : List Int}, IntsAre vs ns → IntsAre (vs ++ [.int z t]) (ns ++ [z])
  | _, _, .nil => .cons z t .nil
  | _, _, .cons y u h => .cons y u (ints_snoc h)
/-- the rows of the lights: each a list of its own, at the address told -/
structure RowsAre (ys : List Value) (rows : List (Addr × Obj)) (k : Nat) : Prop where
  len : ys.length = k
  row : ∀ i, i < k → ∃ a vs, ys[i]? = some (.ref a) ∧ (a, lst vs) ∈ rows ∧ IntsAre vs (bitsI i 4)
theorem RowsAre.nil : RowsAre [] [] 0 := ⟨rfl, fun _ h => absurd h (by omega)⟩
theorem RowsAre.snoc {ys : List Value} {rows : List (Addr × Obj)} {k : Nat} {a : Addr} {vs : List Value} (h : RowsAre ys rows k) (hv : IntsAre vs (bitsI k 4)) : RowsAre (ys ++ [.ref a]) ((a, lst vs) :: rows) (k + 1) := by
  refine ⟨by rw [List.length_append, h.len]; rfl, fun i hi => ?_⟩
  by_cases e : i < k
  · obtain ⟨b, us, h1, h2, h3⟩ := h.row i e
    exact ⟨b, us, by rw [List.getElem?_append_left (by rw [h.len]; exact e)]; exact h1, List.mem_cons_of_mem _ h2, h3⟩
  · obtain rfl : i = k := by omega
    exact ⟨a, vs, by rw [List.getElem?_append_right (by rw [h.len]; exact Nat.le_refl _), h.len, Nat.sub_self]; rfl, List.mem_cons_self, hv⟩
end Mine

end
section
open PySem PySem.W PySem.Calls PyProof.Rows
namespace Mine
theorem own_bits (b : Int) : List.map (fun k' : Int => Builtin.bitAnd (b.fdiv (2 ^ k'.toNat)) 1) (rangeKs 0 (5 - 0 : Int).toNat) = bitsI b 5 := by rfl
theorem bitI_mod (n : Int) (i : Nat) : bitI n i = n.fdiv (2 ^ i) % 2 := by unfold bitI; rw [bitAnd_m1]
theorem bitI_le (n : Int) (i : Nat) : 0 ≤ bitI n i ∧ bitI n i ≤ 1 := by rw [bitI_mod]; omega
theorem bitsI_len (n : Int) (k : Nat) : (bitsI n k).length = k := by unfold bitsI; simp
theorem bitsI_le (n : Int) (k i : Nat) : 0 ≤ (bitsI n k).getD i 0 ∧ (bitsI n k).getD i 0 ≤ 1 := by
  unfold bitsI
  by_cases h : i < k
  · have : ((List.range k).map (bitI n)).getD i 0 = bitI n i := by simp [List.getD, h]
    rw [this]; exact bitI_le n i
  · have : ((List.range k).map (bitI n)).getD i 0 = 0 := by simp [List.getD, Nat.le_of_not_lt h]
    rw [this]; omega
theorem four_le {a b c d : Int} (h1 : 0 ≤ a ∧ a ≤ 3) (h2 : 0 ≤ b ∧ b ≤ 3) (h3 : 0 ≤ c ∧ c ≤ 3) (h4 : 0 ≤ d ∧ d ≤ 3) : ∀ i : Nat, (0:Int) ≤ [a, b, c, d].getD i 0 ∧ [a, b, c, d].getD i 0 ≤ 3
  | 0 => h1
  | 1 => h2
  | 2 => h3
  | 3 => h4
  | _ + 4 => ⟨Int.le_refl 0, by show (0:Int) ≤ 3; decide⟩
theorem strs_snoc2 {y : Str} {t : Tok} : ∀ {vs : List Value} {ys : List Str}, StrsAre vs ys → StrsAre (vs ++ [.str y t]) (ys ++ [y])
  | _, _, .nil => .cons y t .nil
  | _, _, .cons z u h => .cons z u (strs_snoc2 h)
theorem off3_mem {I C D : Addr} {l : List (Addr × Obj)} (h : LCg.Off3 I C D l) : ∀ p ∈ l, p.1 ≠ I ∧ p.1 ≠ C ∧ p.1 ≠ D := h.mem
theorem map_range_snoc {α : Type} (f : Nat → α) (i : Nat) : (List.range (i + 1)).map f = (List.range i).map f ++ [f i] := by rw [List.range_succ, List.map_append]; rfl
end Mine
namespace Mine
theorem strs_step {f : Nat → Str} {i : Nat} {t : Tok} {zs : List Value} (hz : StrsAre zs ((List.range i).map f)) : StrsAre (zs ++ [.str (f i) t]) ((List.range (i + 1)).map f) := by
  rw [map_range_snoc]; exact strs_snoc2 hz
end Mine
namespace Mine
theorem comp_end {h₀ : Heap} {L I C D : Addr} {m : Str → Option Value} {s₁ : Shared} {oI oC oD : Obj} {S : List (Addr × Obj) → Prop} {rest : Value → List (Addr × Obj) → Prop} {y : Value} {h' : Heap} {tk : Nat} {news' : List (Addr × Obj)}
    (F : Fr h₀ L h' m) (N : News h₀ L h' ((I, oI) :: (C, oC) :: (D, oD) :: news')) (off : LCg.Off3 I C D news') (hS : S news') (r : rest y news') :
    LCg.CompEnd h₀ L m s₁ I oI C oC D oD S rest y { s₁ with heap := h', toks := tk } := ⟨h', tk, news', rfl, F, N, off, hS, r⟩
end Mine

end
section
open PySem PySem.W PySem.Calls PyProof.Rows
namespace Mine
set_option maxRecDepth 100000
set_option maxHeartbeats 8000000
section
set_option maxRecDepth 100000
set_option maxHeartbeats 8000000
local macro_rules | `(tactic| walk_at "LeaveP") => `(tactic| (k_dflt (refine' leaveP_ ?k1 ?k2 ?_; (case k1 => k_asm); (case k2 => k_asm); k_whole); intro kS kN; (try dsimp only)))
local macro_rules | `(tactic| walk_at "subscriptTail Name Name ref int") => `(tactic| (k_here; (fail_if_success (rename KPfMark => hZ9)); (with_reducible show wpAny _ _ (subscriptTail _ _ (Value.ref _) (Value.int _ _)) _ _ _); (with_unfolding_all refine' item_base ?k0 ?k1 ?k2 ?kB ?k3 ?k4 ?k5 ?_ ?k7; (case k0 => k_asm); (case k1 => assumption); (case k2 => assumption); (case kB => assumption); (case k3 => first | decide | omega); (case k4 => omega); (case k5 => omega); (case k7 => with_unfolding_all rfl); k_whole); (intro t' v' hv' hlo' hhi')))
local macro_rules | `(tactic| walk_at "subscriptTail Name Subscript ref int") => `(tactic| (k_here; (fail_if_success (rename KPfMark => hZ9)); (with_reducible show wpAny _ _ (subscriptTail _ _ (Value.ref _) (Value.int _ _)) _ _ _); (with_unfolding_all refine' item_base ?k0 ?k1 ?k2 ?kB ?k3 ?k4 ?k5 ?_ ?k7; (case k0 => k_asm); (case k1 => assumption); (case k2 => assumption); (case kB => assumption); (case k3 => first | decide | omega); (case k4 => omega); (case k5 => omega); (case k7 => with_unfolding_all rfl); k_whole); (intro t' v' hv' hlo' hhi')))
local macro_rules | `(tactic| walk_at "subscriptTail Name Constant ref int") => `(tactic| (k_here; (fail_if_success (rename KPfMark => hZ9)); (with_reducible show wpAny _ _ (subscriptTail _ _ (Value.ref _) (Value.int _ _)) _ _ _); (with_unfolding_all refine' item_base ?k0 ?k1 ?k2 ?kB ?k3 ?k4 ?k5 ?_ ?k7; (case k0 => k_asm); (case k1 => assumption); (case k2 => assumption); (case kB => assumption); (case k3 => first | decide | omega); (case k4 => omega); (case k5 => omega); (case k7 => with_unfolding_all rfl); k_whole); (intro t' v' hv' hlo' hhi')))
local macro_rules | `(tactic| walk_at "subscriptTail Name BinOp ref int") => `(tactic| (k_here; (fail_if_success (rename KPfMark => hZ9)); (with_reducible show wpAny _ _ (subscriptTail _ _ (Value.ref _) (Value.int _ _)) _ _ _); (with_unfolding_all refine' item_base ?k0 ?k1 ?k2 ?kB ?k3 ?k4 ?k5 ?_ ?k7; (case k0 => k_asm); (case k1 => assumption); (case k2 => assumption); (case kB => assumption); (case k3 => first | decide | omega); (case k4 => omega); (case k5 => omega); (case k7 => with_unfolding_all rfl); k_whole); (intro t' v' hv' hlo' hhi')))
local macro_rules | `(tactic| walk_at "ite") => `(tactic| (k_here; (with_unfolding_all refine' ite_cn ?k1 ?k2 ?k3 ?k4 ?k5 ?_; (case k1 => k_asm); (case k2 => exact rfl); (case k3 => exact rfl); (case k4 => exact rfl); (case k5 => decide); k_whole); (intro t' tk')))
local macro_rules | `(tactic| walk_at "binaryOp Mult int int") => `(tactic| (k_here; (with_reducible show wpAny _ _ (binaryOp Operator.Mult (Value.int _ _) (Value.int _ _)) _ _ _); (refine mul01 (by assumption) (by assumption) (by assumption) (by assumption) ?_); (intro t' v' hv' hlo' hhi')))
local macro_rules | `(tactic| walk_at "call builtin:str.join") => `(tactic| (k_here; (with_reducible show wpAny _ _ (call (Value.builtin "str.join") [Value.str _ _, Value.ref _]) _ _ _); (rename News _ _ _ _ => nI'); (with_unfolding_all refine' join_led (B := 1) nI' ?k1 ?k2 ?k3 ?k4 ?_); (case k1 => k_mem); (case k2 => (repeat' constructor)); (case k3 => (repeat' first | exact trivial | refine And.intro ?_ ?_ | exact len_if (by first | decide | omega) (by first | decide | omega) | omega)); (case k4 => exact Nat.le_of_ble_eq_true rfl)); (intro t' tk' hlen'))
def mailS (on order own : List Int) (plain : Str) : Str :=
  Txt.join (Str.ofString "") [if (cAt on order 0 != 0) = true then Str.ofString "\r" else plain, if (cAt on order 1 != 0) = true then Str.ofString "\n" else plain,
    if (cAt on order 1 != 0) = true then Str.ofString "\r" else plain, if (cAt on order 2 != 0) = true then Str.ofString "\n" else plain,
    if (cAt on order 2 != 0) = true then Str.ofString "\r" else plain, if (cAt on order 3 != 0) = true then Str.ofString "\n" else plain,
    Txt.mul (Str.ofString "\n") (on.getD 0 0 * own.getD 0 0), Txt.mul (Str.ofString "\n") (on.getD 1 0 * own.getD 1 0),
    Txt.mul (Str.ofString "\r") (on.getD 2 0 * own.getD 2 0), Txt.mul (Str.ofString "\r") (on.getD 3 0 * own.getD 3 0)] ++ Txt.mul (Str.ofString "\r") (own.getD 4 0)
theorem mail_ok {w : World} {mean : ExcName → Option Value} {mg mb : Str → Option Value} (on order own : List Int) (von vor vow : List Value) (tp : Tok) (plain : Str) (aOn aOr aOw : Addr)
   (i1 : IntsAre von on) (z1 : on.length = 4) (i2 : IntsAre vor order) (z2 : order.length = 4) (i3 : IntsAre vow own) (z3 : own.length = 5)
   (hon : ∀ i : Nat, (0:Int) ≤ on.getD i 0 ∧ on.getD i 0 ≤ 1)
   (hord : ∀ i : Nat, (0:Int) ≤ order.getD i 0 ∧ order.getD i 0 ≤ 3)
   (hown : ∀ i : Nat, (0:Int) ≤ own.getD i 0 ∧ own.getD i 0 ≤ 1)
   (hp : plain.length = 1) :
   CtrP 2 w mean mg mb 124 [.ref aOn, .ref aOr, .ref aOw, .str plain tp] (Three on order own von vor vow aOn aOr aOw) (RetS (mailS on order own plain)) := by
  unfold CtrP
  w_top off
  k_fill
  intros
  rename_i hpre hret
  refine wpAny_call ?_
  k_dflt ((refine' code_defP ?k1 ?k2 ?k3 ?k5 ?kA ?kF ?kK ?k6 ?k7 ?k8 ?k9 ?kB ?_ ?c2 ?c3 ?c4 ?c5; (case kA => exact rfl); (case kF => exact rfl); (case kK => assumption); (case k1 => k_asm); (case k2 => k_asm); (case k3 => k_asm); (case k5 => k_asm); (case k6 => k_is); (case k7 => k_is); (case k8 => ktr_room); (case k9 => exact BindsTo.of_eq rfl); (case c5 => decide); (case kB => exact locs rfl); (case c2 => exact rfl); (case c3 => exact rfl); (case c4 => exact rfl); k_whole; intro _ _ _ _ _ _ _ _ _; (try dsimp only); (try k_fold)))
  have l1 := stays_list (by assumption) hpre.l1
  have l2 := stays_list (by assumption) hpre.l2
  have l3 := stays_list (by assumption) hpre.l3
  k_steps
  subst_vars
  exact hret _ _ _ (stay2 (by assumption) (by assumption))

end
local macro_rules | `(tactic| walk_at "exec For Tuple Call cons nil") => `(tactic| (k_here; (with_reducible refine For_at ?_ (by intro _; with_unfolding_all rfl)); (try dsimp only)))
local macro_rules | `(tactic| walk_at "LeaveP") => `(tactic| (k_dflt (refine' leaveP_ ?k1 ?k2 ?_; (case k1 => k_asm); (case k2 => k_asm); k_whole); intro kS kN; (try dsimp only)))
local macro_rules | `(tactic| walk_at "mine item") => `(tactic| (k_here; (fail_if_success (rename KPfMark => hZ9)); (with_reducible show wpAny _ _ (subscriptTail _ _ (Value.ref _) (Value.int _ _)) _ _ _); (with_unfolding_all refine' item_base ?k0 ?k1 ?k2 ?kB ?k3 ?k4 ?k5 ?_ ?k7; (case k0 => k_asm); (case k1 => assumption); (case k2 => assumption); (case kB => assumption); (case k3 => first | decide | omega); (case k4 => omega); (case k5 => omega); (case k7 => with_unfolding_all rfl); k_whole); (intro t' v' hv' hlo' hhi')))
local macro_rules | `(tactic| walk_at "subscriptTail Name Name ref int") => `(tactic| walk_at "mine item")
local macro_rules | `(tactic| walk_at "subscriptTail Name Subscript ref int") => `(tactic| walk_at "mine item")
local macro_rules | `(tactic| walk_at "subscriptTail Name Constant ref int") => `(tactic| walk_at "mine item")
local macro_rules | `(tactic| walk_at "subscriptTail Name BinOp ref int") => `(tactic| walk_at "mine item")
local macro_rules | `(tactic| walk_at "ite") => `(tactic| (k_here; (with_unfolding_all refine' ite_cn ?k1 ?k2 ?k3 ?k4 ?k5 ?_; (case k1 => k_asm); (case k2 => exact rfl); (case k3 => exact rfl); (case k4 => exact rfl); (case k5 => decide); k_whole); (intro t' tk')))
local macro_rules | `(tactic| walk_at "binaryOp Mult int int") => `(tactic| (k_here; (with_reducible show wpAny _ _ (binaryOp Operator.Mult (Value.int (List.getD _ _ _) _) (Value.int (List.getD _ _ _) _)) _ _ _); (refine mul_getD (by assumption) (by assumption) ?_)))
local macro_rules | `(tactic| walk_at "binaryOp Mult int int") => `(tactic| (k_here; (with_reducible show wpAny _ _ (binaryOp Operator.Mult (Value.int _ _) (Value.int _ _)) _ _ _); (refine mul01 (by assumption) (by assumption) (by assumption) (by assumption) ?_); (intro t' v' hv' hlo' hhi')))
local macro_rules | `(tactic| walk_at "binaryOp Mult str int") => `(tactic| (k_here; (with_reducible show wpAny _ _ (binaryOp Operator.Mult (Value.str _ _) (Value.int _ _)) _ _ _); (refine' mulS (n := 2) ?k1 ?k2 ?k3 ?k4 ?_; (case k1 => first | omega | exact Nat.le_of_ble_eq_true rfl); (case k2 => exact Nat.le_refl _); (case k3 => first | omega | (split <;> omega)); (case k4 => first | omega | (split <;> omega)); k_whole); (intro t' tk' y' hy' hly')))
local macro_rules | `(tactic| walk_at "binaryOp Add str str") => `(tactic| (k_here; (with_reducible show wpAny _ _ (binaryOp Operator.Add (Value.str _ _) (Value.str _ _)) _ _ _); (refine' addS ?k1 ?k2 ?k3 ?_; (case k1 => first | assumption | exact Nat.le_refl _); (case k2 => first | assumption | exact Nat.le_refl _); (case k3 => first | omega | exact Nat.le_of_ble_eq_true rfl); k_whole); (intro t' tk' y' hy' hly')))
local macro_rules | `(tactic| walk_at "inplaceOp Add str str") => `(tactic| (k_here; (with_reducible show wpAny _ _ (inplaceOp Operator.Add (Value.str _ _) (Value.str _ _)) _ _ _); (refine' iaddS ?k1 ?k2 ?k3 ?_; (case k1 => first | assumption | exact Nat.le_refl _); (case k2 => first | assumption | exact Nat.le_refl _); (case k3 => first | omega | exact Nat.le_of_ble_eq_true rfl); k_whole); (intro t' tk' y' hy' hly')))
local macro_rules | `(tactic| walk_at "call builtin:str.join") => `(tactic| (k_here; (with_reducible show wpAny _ _ (call (Value.builtin "str.join") [Value.str _ _, Value.ref _]) _ _ _); (rename News _ _ _ _ => nI'); (with_unfolding_all refine' join_led (B := 1) nI' ?k1 ?k2 ?k3 ?k4 ?_); (case k1 => k_mem); (case k2 => (repeat' constructor)); (case k3 => (repeat' first | exact trivial | refine And.intro ?_ ?_ | exact len_if (by first | decide | omega) (by first | decide | omega) | omega)); (case k4 => exact Nat.le_of_ble_eq_true rfl)); (intro t' tk' hlen'))
local macro_rules | `(tactic| walk_at "TurnPost") => `(tactic| (dsimp only [TurnPost]))
local macro_rules | `(tactic| walk_at "TurnEnd") => `(tactic| fail "here")
section
set_option maxRecDepth 100000
set_option maxHeartbeats 8000000
local macro_rules | `(tactic| walk_at "binaryOp Mod int int") => `(tactic| (k_here; (with_reducible show wpAny _ _ (binaryOp Operator.Mod (Value.int _ _) (Value.int _ _)) _ _ _); first
  | (with_reducible refine mod_c4 ?_ ?_ ?_ ?_ <;> intro _)
  | (with_reducible refine mod_c3 ?_ ?_ ?_ <;> intro _)
  | (with_reducible refine mod_c2 ?_ ?_ <;> intro _)
  | (with_reducible refine mod_c1 ?_)))
theorem cells_ok {w : World} {mean : ExcName → Option Value} {mg mb : Str → Option Value} (vs : List Value) (ns : List Int) (a : Addr) (hi : IntsAre vs ns) (hz : ns.length ≤ 63) :
   CtrP 2 w mean mg mb 110 [.ref a] (fun h => h.IsList a vs.toArray) (RetA ThreeA) := by
  unfold CtrP
  w_top off
  k_fill
  intros
  rename_i hpre hret
  refine wpAny_call ?_
  k_dflt ((refine' code_defP ?k1 ?k2 ?k3 ?k5 ?kA ?kF ?kK ?k6 ?k7 ?k8 ?k9 ?kB ?_ ?c2 ?c3 ?c4 ?c5; (case kA => exact rfl); (case kF => exact rfl); (case kK => assumption); (case k1 => k_asm); (case k2 => k_asm); (case k3 => k_asm); (case k5 => k_asm); (case k6 => k_is); (case k7 => k_is); (case k8 => ktr_room); (case k9 => exact BindsTo.of_eq rfl); (case c5 => decide); (case kB => exact locs rfl); (case c2 => exact rfl); (case c3 => exact rfl); (case c4 => exact rfl); k_whole; intro _ _ _ _ _ _ _ _ _; (try dsimp only); (try k_fold)))
  have l1 := stays_list (by assumption) hpre
  k_steps
  rename_i l h1 l1 h2 D ws h3 F N hI hC hL hl
  refine enum_loop rfl ⟨_, (N _ (List.Mem.head _)).1, rfl, _, rfl⟩ (N _ (List.Mem.head _)).2.1 ?hln F (cb_drop N (fun p hp => List.Mem.tail _ hp)) rfl rfl rfl ?hE
    (fun i m₁ news₁ => ∃ (a b c : Int) (ta tb tc : Tok) (n : Nat), news₁ = [(l, listOf #[.int a ta, .int b tb, .int c tc] n)] ∧ (0 ≤ a ∧ a ≤ 9 + (i : Int) * 1000000) ∧ (0 ≤ b ∧ b ≤ 13 + (i : Int) * 1000000) ∧ (0 ≤ c ∧ c ≤ 1 + (i : Int) * 1000000) ∧ m₁ (Str.ofString "cells") = some (.ref l)) ?h0 ?step ?done
  case hln =>
    intro q hq
    rw [List.mem_singleton.mp hq]
    exact Nat.ne_of_lt hl
  case h0 => exact ⟨9, 13, 1, _, _, _, _, rfl, by omega, by omega, by omega, rfl⟩
  case hE => walk1
  case step =>
    rintro i v t m₁ news₁ h tk own hx ⟨a, b, c, ta, tb, tc, n, rfl, ha, hb, hc, hm⟩ hoff F₁ N₁
    have F₂ := fr_put3 hm F₁
    clear F₁
    have N₂ : News _ _ h ((l, listOf #[.int a ta, .int b tb, .int c tc] n) :: own) := N₁
    clear N₁
    obtain ⟨x, tx, rfl⟩ : ∃ x tx, v = .int x tx := by
      have hlt : i < ws.toArray.size := (Array.getElem?_eq_some_iff.mp hx).1
      have hlt2 : i < (List.take 60 ns).length := by have := hI.length; simp at hlt; omega
      obtain ⟨tx, e⟩ := hI.get i (List.take 60 ns)[i] (by rw [List.getElem?_eq_getElem hlt2])
      have e2 : ws[i]? = some v := by simpa using hx
      rw [e] at e2
      exact ⟨_, _, (Option.some.inj e2).symm⟩
    simp only [List.map_cons, List.map_nil] at hoff
    have e0 : [a, b, c].getD (Int.toNat 0) 0 = a := rfl
    have e1 : [a, b, c].getD (Int.toNat 1) 0 = b := rfl
    have e2 : [a, b, c].getD (Int.toNat 2) 0 = c := rfl
    have f1 := fmod_lo x (show (0:Int) < 1000000 by decide)
    have f2 := fmod_hi x (show (0:Int) < 1000000 by decide)
    k_steps
    all_goals (refine turn_end (news₂ := [(l, _)]) (by assumption) (by assumption) hoff ?_; exact ⟨_, _, _, _, _, _, _, rfl, by omega, by omega, by omega, rfl⟩)
  case done =>
    rintro h' tk m' news' F' N' ⟨a, b, c, ta, tb, tc, n, rfl, ha, hb, hc, hm⟩
    have F₂ := fr_put hm F'
    clear F'
    have hsz : ws.toArray.size ≤ 60 := by
      have h1 := hI.length
      have h2 := List.length_take_le 60 ns
      rw [List.size_toArray]; omega
    k_steps
    rename_i kS kN
    refine' hret l _ _ _ _ ?h1 (stay2 (by assumption) kS) ?h2 ?h3
    case h2 => exact (kN (_, _) (by k_mem)).1
    case h3 => exact none_of (by assumption) (kN (_, _) (by k_mem)).2
    case h1 => exact ⟨a, b, c, ta, tb, tc, rfl, by omega, by omega, by omega⟩

end
section
set_option maxRecDepth 100000
set_option maxHeartbeats 8000000

local macro_rules | `(tactic| walk_at "binaryOp Mod int int") => `(tactic| (k_here; (with_reducible show wpAny _ _ (binaryOp Operator.Mod (Value.int _ _) (Value.int _ _)) _ _ _); first
  | (with_reducible refine mod_c4 ?_ ?_ ?_ ?_ <;> intro _)
  | (with_reducible refine mod_c3 ?_ ?_ ?_ <;> intro _)
  | (with_reducible refine mod_c2 ?_ ?_ <;> intro _)
  | (with_reducible refine mod_c1 ?_)))
theorem order_ok {w : World} {mean : ExcName → Option Value} {mg mb : Str → Option Value} (n : Int) (t : Tok) (h0 : 0 ≤ n) (h1 : n ≤ 100000000) :
   CtrP 2 w mean mg mb 117 [.int n t] (fun _ => True) (RetA OrdA) := by
  unfold CtrP
  w_top off
  k_fill
  intros
  rename_i hpre hret
  refine wpAny_call ?_
  k_dflt ((refine' code_defP ?k1 ?k2 ?k3 ?k5 ?kA ?kF ?kK ?k6 ?k7 ?k8 ?k9 ?kB ?_ ?c2 ?c3 ?c4 ?c5; (case kA => exact rfl); (case kF => exact rfl); (case kK => assumption); (case k1 => k_asm); (case k2 => k_asm); (case k3 => k_asm); (case k5 => k_asm); (case k6 => k_is); (case k7 => k_is); (case k8 => ktr_room); (case k9 => exact BindsTo.of_eq rfl); (case c5 => decide); (case kB => exact locs rfl); (case c2 => exact rfl); (case c3 => exact rfl); (case c4 => exact rfl); k_whole; intro _ _ _ _ _ _ _ _ _; (try dsimp only); (try k_fold)))
  (k_with "pyIter ref" => k_listUnr)
  k_steps
  all_goals (rename_i kS kN; refine' hret _ _ _ _ _ ?h1 (stay2 (by assumption) kS) ?h2 ?h3; (case h2 => exact (kN (_, _) (by k_mem)).1); (case h3 => exact none_of (by assumption) (kN (_, _) (by k_mem)).2); (case h1 => refine OrdA.mk4 ?_; decide))

end
section
set_option maxRecDepth 100000
set_option maxHeartbeats 8000000
def segS (plain : Str) (a b : Int) : Str := (Txt.mul plain (1 - a) ++ Txt.mul (Str.ofString "\r\n") (if b > a then b else a)) ++ Txt.mul plain (1 - b)
def arrS (on order own : List Int) (plain : Str) : Str :=
  (((Str.ofString "" ++ segS plain (cAt on order 0) (cAt on order 1)) ++ segS plain (cAt on order 1) (cAt on order 2)) ++ segS plain (cAt on order 2) (cAt on order 3))
    ++ Txt.mul (Str.ofString "\r\n") ((List.map (fun k' : Int => on.getD k'.toNat 0 * own.getD k'.toNat 0) (rangeKs 0 (4 - 0 : Int).toNat)).sum + own.getD 4 0)
theorem arr_ok {w : World} {mean : ExcName → Option Value} {mg mb : Str → Option Value} (on order own : List Int) (von vor vow : List Value) (tp : Tok) (plain : Str) (aOn aOr aOw : Addr)
   (i1 : IntsAre von on) (z1 : on.length = 4) (i2 : IntsAre vor order) (z2 : order.length = 4) (i3 : IntsAre vow own) (z3 : own.length = 5)
   (hon : ∀ i : Nat, (0:Int) ≤ on.getD i 0 ∧ on.getD i 0 ≤ 1)
   (hord : ∀ i : Nat, (0:Int) ≤ order.getD i 0 ∧ order.getD i 0 ≤ 3)
   (hown : ∀ i : Nat, (0:Int) ≤ own.getD i 0 ∧ own.getD i 0 ≤ 1)
   (hp : plain.length = 1) :
   CtrP 2 w mean mg mb 129 [.ref aOn, .ref aOr, .ref aOw, .str plain tp] (Three on order own von vor vow aOn aOr aOw) (RetS (arrS on order own plain)) := by
  unfold CtrP
  w_top off
  k_fill
  intros
  rename_i hpre hret
  refine wpAny_call ?_
  k_dflt ((refine' code_defPC ?k1 ?k2 ?k3 ?k5 ?kA ?kF ?kK ?k6 ?k7 ?k8 ?k9 ?kB ?kD ?_ ?c2 ?c3 ?c4; (case kA => exact rfl); (case kF => exact rfl); (case kK => assumption); (case k1 => k_asm); (case k2 => k_asm); (case k3 => k_asm); (case k5 => k_asm); (case k6 => k_is); (case k7 => k_is); (case k8 => ktr_room); (case k9 => exact BindsTo.of_eq rfl); (case kB => exact rfl); (case kD => decide +kernel); (case c2 => exact rfl); (case c3 => exact rfl); (case c4 => exact rfl); k_whole; intro g' L' h' tk' cells' hSg F' N' Y' B' X' T'; k_cells Y'; (try simp only [List.cons_append, List.nil_append] at N'); (try dsimp only); (try k_fold)))
  have l1 := stays_list (by assumption) hpre.l1
  have l2 := stays_list (by assumption) hpre.l2
  have l3 := stays_list (by assumption) hpre.l3
  have hsum := sum4 hon hown
  k_steps
  subst_vars
  exact hret _ _ _ (stay2 (by assumption) (by assumption))

end
section
set_option maxRecDepth 100000
set_option maxHeartbeats 8000000

def crlf : Str := Str.ofString "\r\n"
def nameS (plain : Str) (ends : Int) : Str := Txt.mul (Str.ofString "\"") (ends.fdiv 2) ++ Txt.mul plain (1 - ends.fmod 2)
def nameTurn (plain : Str) (c : List (Str × Int)) (y : Str) : List (Str × Int) := kdpPut c (nameS plain (Txt.count y (Str.ofString "\r\n"))) (kdpLook c (nameS plain (Txt.count y (Str.ofString "\r\n"))) 0 + 1)
def nameTab (plain : Str) (xs : List Str) : List (Str × Int) := xs.foldl (nameTurn plain) []
section
local macro_rules | `(tactic| walk_at "exec For Name Name cons nil") => `(tactic| (k_here; (with_reducible refine For_at ?_ (by intro _; with_unfolding_all rfl)); (try dsimp only)))
theorem names_ok {w : World} {mean : ExcName → Option Value} {mg mb : Str → Option Value} (vs : List Value) (xs : List Str) (a : Addr) (plain : Str) (tp : Tok) (hi : StrsAre vs xs) (hz : xs.length ≤ 100) (hp : plain.length = 1)
   (hc : ∀ y ∈ xs, Txt.count y (Str.ofString "\r\n") ≤ 8) :
   CtrP 2 w mean mg mb 136 [.ref a, .str plain tp] (fun h => h.IsList a vs.toArray) (RetD w (nameTab plain xs)) := by
  unfold CtrP
  w_top off
  k_fill
  intros
  rename_i hpre hret
  refine wpAny_call ?_
  k_dflt ((refine' code_defP ?k1 ?k2 ?k3 ?k5 ?kA ?kF ?kK ?k6 ?k7 ?k8 ?k9 ?kB ?_ ?c2 ?c3 ?c4 ?c5; (case kA => exact rfl); (case kF => exact rfl); (case kK => assumption); (case k1 => k_asm); (case k2 => k_asm); (case k3 => k_asm); (case k5 => k_asm); (case k6 => k_is); (case k7 => k_is); (case k8 => ktr_room); (case k9 => exact BindsTo.of_eq rfl); (case c5 => decide); (case kB => exact locs rfl); (case c2 => exact rfl); (case c3 => exact rfl); (case c4 => exact rfl); k_whole; intro _ _ _ _ _ _ _ _ _; (try dsimp only); (try k_fold)))
  have l1 := stays_list (by assumption) hpre
  k_steps
  rename_i d h1 o lo hs fs hI fI l2 h2 F N
  refine list_loop rfl ((l1).at fun o' e => F.keep _ o' e) ?hlL ?hln F N rfl rfl ?hE
    (fun i m₁ news₁ => ∃ (o : Obj) (kvs : List (Str × Value)) (c : List (Str × Int)), news₁ = [(d, o)] ∧ o.IsDictOf (PySem.strKind PySem.Challenge.rw_xg0012_01.row.prog w) kvs ∧ PyProof.V.FlatPairs PyData.str kvs (kdpD c) ∧ c = (xs.take i).foldl (nameTurn plain) [] ∧ c.length ≤ i ∧ m₁ (Str.ofString "table") = some (.ref d) ∧ m₁ (Str.ofString "plain") = some (.str plain tp)) ?h0 ?step ?done
  case hlL => exact base_ne F l1
  case hln =>
    intro q hq e
    rw [List.mem_singleton.mp hq] at e
    exact base_off N l1 (List.Mem.head _) e
  case h0 => exact ⟨o, [], [], rfl, hs, fs, rfl, Nat.le_refl _, rfl, rfl⟩
  case hE => walk1
  case step =>
    rintro i v m₁ news₁ h tk own hx ⟨o, kvs, c, rfl, hd, hf, rfl, hlen, hm1, hm2⟩ hoff F₁ N₁
    have hlt : i < xs.length := by
      obtain ⟨y, t, -, e⟩ := strs_get hi (by simpa using hx)
      exact (List.getElem?_eq_some_iff.mp e).1
    obtain ⟨y, ty, rfl, hy⟩ := strs_get hi (by simpa using hx)
    have hy8 := hc y (List.mem_of_getElem? hy)
    have F₂ := fr_put3 hm2 (fr_put2 hm1 F₁)
    clear F₁
    have N₂ : News _ _ h ((d, o) :: own) := N₁
    clear N₁
    simp only [List.map_cons, List.map_nil] at hoff
    have hcnt : 0 ≤ Txt.count y (Str.ofString "\r\n") := Int.natCast_nonneg _
    have f1 := fmod_lo (Txt.count y (Str.ofString "\r\n")) (show (0:Int) < 2 by decide)
    have f2 := fmod_hi (Txt.count y (Str.ofString "\r\n")) (show (0:Int) < 2 by decide)
    have f3 : 0 ≤ (Txt.count y (Str.ofString "\r\n")).fdiv 2 ∧ (Txt.count y (Str.ofString "\r\n")).fdiv 2 ≤ 4 := by
      rw [Int.fdiv_eq_ediv_of_nonneg _ (by decide)]; omega
    generalize hcc : (xs.take i).foldl (nameTurn plain) [] = c at hf hlen
    k_steps
    subst_vars
    refine turn_end (news₂ := [(d, _)]) (by assumption) (by assumption) hoff ?_
    refine ⟨_, _, _, rfl, by assumption, by assumption, ?_, ?_, rfl, rfl⟩
    · rw [take_foldl _ _ hy]; rfl
    · exact Nat.le_trans (kdpPut_len _ _ _) (by omega)
  case done =>
    rintro h' tk m' news' F' N' ⟨o, kvs, c, rfl, hd, hf, rfl, hlen, hm1, hm2⟩
    have F₂ := fr_put hm1 F'
    clear F'
    k_steps
    rename_i kS kN
    have e : xs.take vs.toArray.size = xs := by rw [List.size_toArray, StrsAre.len_eq hi]; exact List.take_length
    rw [e] at hf
    exact hret d _ _ _ _ lo hd hf (stay2 (by assumption) kS) (kN (_, _) (by k_mem)).1 (none_of (by assumption) (kN (_, _) (by k_mem)).2)
end

end
section
set_option maxRecDepth 100000
set_option maxHeartbeats 8000000

/-- a reply 257: the name between quotation marks is n quotation marks and the letter c -/
structure IsResp (x : Str) (n c : Nat) : Prop where
  len : x.length = 7 + n
  s1 : Txt.slice x none (some 3) = Str.ofString "257"
  s2 : Txt.slice x (some 3) (some 5) = Str.ofString " \""
  q : ∀ k, 5 ≤ k → k < 5 + n → x.cps[k]? = some 34
  l : x.cps[5 + n]? = some c
  e : x.cps[6 + n]? = some 34
section
variable {prog : Program} {w : World} {A : Around} {E : Value → Shared → Prop} {s : Shared} {x y : Str} {t u : Tok} {Q : Value → Shared → Prop} {value slice : PySem.Expr} {h₀ : Heap} {L : Addr} {m : Str → Option Value} {news : List (Addr × Obj)}
theorem itemR {k : Int} {ch : Nat} (h0 : 0 ≤ k) (hx : x.cps[k.toNat]? = some ch) (hz : x.length ≤ 1000) (h : ∀ t' k', Q (.str (St [ch]) t') { s with toks := k' })
    (hs : subscripted slice false (.str x t) (.int k u) = operate [.str x t, .int k u] (getItem (.str x t) (.int k u)) := by with_unfolding_all rfl)
    (ht : ∀ r, letTemporaryGo value (.str x t) r = pure () := by intro _; with_unfolding_all rfl) :
    wpAny (model prog w) A (subscriptTail value slice (.str x t) (.int k u)) Q E s := by
  have hlt : k.toNat < x.cps.size := (Array.getElem?_eq_some_iff.mp hx).1
  have hlen : x.cps.size = x.length := rfl
  refine item_str (fitsSsize_of (N := 9223372036854775808) (by omega) (by omega) (Int.le_refl _)) (by omega) (by omega) (fun _ => ?_) hs ht
  rw [item_St h0 hx]; exact h _ _
theorem eqS {b : Bool} (e : (x == y) = b) (h : Q (.bool b) s) : wpAny (model prog w) A (compareOp .Eq (.str x t) (.str y u)) Q E s := by
  subst e; exact PyProof.Rows.eq_str h
theorem neS {b : Bool} (e : (x != y) = b) (h : Q (.bool b) s) : wpAny (model prog w) A (compareOp .NotEq (.str x t) (.str y u)) Q E s := by
  subst e; exact PyProof.Rows.ne_str h
theorem sl_ns {j : Int} {uj : Tok} {v : Str} (hF : Fr h₀ L s.heap m) (hN : News h₀ L s.heap news) (e : Txt.slice x none (some j) = v) (hz : x.length ≤ 1000) (h : ∀ h' t' k, Fr h₀ L h' m → News h₀ L h' news → Q (.str v t') { s with heap := h', toks := k })
    (hs : subscripted slice false (.str x t) (.ref s.heap.objs.size) = operate [.ref s.heap.objs.size, .str x t] (getItem (.str x t) (.ref s.heap.objs.size)) := by with_unfolding_all rfl)
    (ht : ∀ r, letTemporaryGo value (.str x t) r = pure () := by intro _; with_unfolding_all rfl) :
    wpAny (model prog w) A (subscriptTail value slice (.str x t) (.ref s.heap.objs.size)) Q E { s with heap := s.heap.push { cls := .type "slice", data := .fields #[.none, .int j uj, .none] } } :=
  slice_strN_ns hF hN (by rw [e]; exact h) hs ht (by rw [sizeLine_eq]; omega)
theorem sl_ss {i j : Int} {ui uj : Tok} {v : Str} (hF : Fr h₀ L s.heap m) (hN : News h₀ L s.heap news) (e : Txt.slice x (some i) (some j) = v) (hz : x.length ≤ 1000) (h : ∀ h' t' k, Fr h₀ L h' m → News h₀ L h' news → Q (.str v t') { s with heap := h', toks := k })
    (hs : subscripted slice false (.str x t) (.ref s.heap.objs.size) = operate [.ref s.heap.objs.size, .str x t] (getItem (.str x t) (.ref s.heap.objs.size)) := by with_unfolding_all rfl)
    (ht : ∀ r, letTemporaryGo value (.str x t) r = pure () := by intro _; with_unfolding_all rfl) :
    wpAny (model prog w) A (subscriptTail value slice (.str x t) (.ref s.heap.objs.size)) Q E { s with heap := s.heap.push { cls := .type "slice", data := .fields #[.int i ui, .int j uj, .none] } } :=
  slice_strN_ss hF hN (by rw [e]; exact h) hs ht (by rw [sizeLine_eq]; omega)
end
/-- a «while» that the walk is to stop at -/
def WhileAt (prog : Program) (w : World) (A : Around) (env : Env) (test : Expr) (body : List Stmt) (Q : Flow → Shared → Prop) (E : Value → Shared → Prop) (s : Shared) : Prop :=
  ∀ pos, wpAny (model prog w) A (exec (.While test body [] pos) env) Q E s
theorem While_at {prog : Program} {w : World} {A : Around} {env : Env} {test : Expr} {body : List Stmt} {pos : Pos} {Q : Flow → Shared → Prop} {E : Value → Shared → Prop} {s : Shared}
    (h : WhileAt prog w A env test body Q E s) : wpAny (model prog w) A (exec (.While test body [] pos) env) Q E s := h pos
/-- the name in the reply: half as many quotation marks, and the letter if it stands behind an even number of them -/
def parsedS (n c : Nat) : Str := St (List.replicate (n / 2) 34 ++ if n % 2 = 0 then [c] else [])
def Ph (n c : Nat) (i : Int) (dir : Str) : Prop :=
  (∃ j : Nat, i = 5 + 2 * (j : Int) ∧ 2 * j ≤ n ∧ dir = St (List.replicate j 34)) ∨ (i = 6 + (n : Int) ∧ n % 2 = 0 ∧ dir = St (List.replicate (n / 2) 34 ++ [c]))
theorem dec_of {p : Prop} [Decidable p] {b : Bool} (e : p ↔ b = true) : decide p = b := by cases b <;> simp_all
section
local macro_rules | `(tactic| walk_at "subscriptTail Name Slice str ref") => `(tactic| (k_here; (with_reducible rename Fr _ _ _ _ => F'); (with_reducible rename News _ _ _ _ => N'); (first | (refine sl_ns (s := ⟨_, _, _, _, _⟩) F' N' (by assumption) (by omega) ?_) | (refine sl_ss (s := ⟨_, _, _, _, _⟩) F' N' (by assumption) (by omega) ?_)); (clear F' N'); intro h' t' k' F' N'))
local macro_rules | `(tactic| walk_at "exec") => `(tactic| (k_here; (with_reducible refine While_at ?_)))
local macro_rules | `(tactic| walk_at "exec While") => `(tactic| (k_here; (with_reducible refine While_at ?_)))
local macro_rules | `(tactic| walk_at "exec While Compare") => `(tactic| (k_here; (with_reducible refine While_at ?_)))
local macro_rules | `(tactic| walk_at "exec While Compare cons nil") => `(tactic| (k_here; (with_reducible refine While_at ?_)))
local macro_rules | `(tactic| walk_at "subscriptTail Name Name str int") => `(tactic| (k_here; (refine itemR (by omega) (by assumption) (by omega) ?_); (intro t' k')))
local macro_rules | `(tactic| walk_at "compareOp NotEq str str") => `(tactic| (k_here; first | refine neS (b := false) (by decide +kernel) ?_ | refine neS (b := true) (by first | decide +kernel | assumption) ?_))
local macro_rules | `(tactic| walk_at "compareOp Eq str str") => `(tactic| (k_here; first | refine eqS (b := true) (by decide +kernel) ?_ | refine eqS (b := false) (by first | decide +kernel | assumption) ?_))
theorem parse_ok {w : World} {mean : ExcName → Option Value} {mg mb : Str → Option Value} (n c : Nat) (tr : Tok) (hn : n ≤ 8) (hc : 97 ≤ c ∧ c ≤ 122) (x : Str) (hx : IsResp x n c) :
   CtrP 2 w mean mg mb 75 [.str x tr] (fun _ => True) (RetS (parsedS n c)) := by
  unfold CtrP
  w_top off
  k_fill
  intros
  rename_i hpre hret
  refine wpAny_call ?_
  k_dflt ((refine' code_defP ?k1 ?k2 ?k3 ?k5 ?kA ?kF ?kK ?k6 ?k7 ?k8 ?k9 ?kB ?_ ?c2 ?c3 ?c4 ?c5; (case kA => exact rfl); (case kF => exact rfl); (case kK => assumption); (case k1 => k_asm); (case k2 => k_asm); (case k3 => k_asm); (case k5 => k_asm); (case k6 => k_is); (case k7 => k_is); (case k8 => ktr_room); (case k9 => exact BindsTo.of_eq rfl); (case c5 => decide); (case kB => exact locs rfl); (case c2 => exact rfl); (case c3 => exact rfl); (case c4 => exact rfl); k_whole; intro _ _ _ _ _ _ _ _ _; (try dsimp only); (try k_fold)))
  have hx1 := hx.len
  have hx2 := hx.s1
  have hx3 := hx.s2
  have hne := hx.l
  have hz1 : (St [c] == Str.ofString "\"") = false := one_ne (by omega)
  have hz2 : (St [c] != Str.ofString "\"") = true := one_nn (by omega)
  k_steps
  rename_i F N
  intro pos
  refine While_inv2 (fun k m₁ news₁ => news₁ = [] ∧ ∃ (i : Int) (dir : Str) (ti td tn : Tok), m₁ (Str.ofString "i") = some (.int i ti) ∧ m₁ (Str.ofString "dirname") = some (.str dir td) ∧ m₁ (Str.ofString "n") = some (.int x.length tn) ∧ m₁ (Str.ofString "resp") = some (.str x tr) ∧ Ph n c i dir ∧ k = 30 - i.toNat) (n₀ := 25) F N ?h0 ?turn ?hE
  case hE => walk1
  case h0 => exact ⟨rfl, 5, St [], _, _, _, rfl, by rw [← lit_nil]; exact rfl, rfl, rfl, Or.inl ⟨0, rfl, by omega, rfl⟩, rfl⟩
  case turn =>
    clear F N
    rintro k m₁ nx h tk F N ⟨rfl, i, dir, ti, td, tn, hm1, hm2, hm3, hm4, hph, hk⟩
    rw [← kst_self [(Str.ofString "i", .int i ti), (Str.ofString "dirname", .str dir td), (Str.ofString "n", .int x.length tn), (Str.ofString "resp", .str x tr)] ⟨hm1, hm2, hm3, hm4, trivial⟩] at F
    dsimp only [kstB] at F
    have w1 : (St [34]).length ≤ 1 := Nat.le_refl _
    have w2 : (St [c]).length ≤ 1 := Nat.le_refl _
    rcases hph with ⟨j, hi, hj, hd⟩ | ⟨hi, hj, hd⟩
    · have w3 : dir.length ≤ 10 := by rw [hd, St_len]; simp; omega
      by_cases hj2 : 2 * j < n
      · have q1 : x.cps[i.toNat]? = some 34 := hx.q _ (by omega) (by omega)
        by_cases hj3 : 2 * j + 1 < n
        · have q2 : x.cps[(i + 1).toNat]? = some 34 := hx.q _ (by omega) (by omega)
          k_steps
          rename_i y hy hl hB F' N'
          exact ⟨_, _, _, _, _, rfl, F', N', by rw [hk]; omega, rfl, _, _, _, _, _, rfl, rfl, rfl, rfl, Or.inl ⟨j + 1, by omega, by omega, by rw [hy, hd, St_app, List.replicate_succ']⟩, rfl⟩
        · have q2 : x.cps[(i + 1).toNat]? = some c := by rw [← hne]; congr 1; omega
          k_steps
          dsimp only [WhileStep2]
          k_steps
          have e : parsedS n c = dir := by unfold parsedS; rw [if_neg (by omega), List.append_nil, hd, show n / 2 = j by omega]
          rw [e] at hret
          exact hret _ _ _ (stay2 (by assumption) (by assumption))
      · have q1 : x.cps[i.toNat]? = some c := by rw [← hne]; congr 1; omega
        k_steps
        rename_i y hy hl hB F' N'
        exact ⟨_, _, _, _, _, rfl, F', N', by rw [hk]; omega, rfl, _, _, _, _, _, rfl, rfl, rfl, rfl, Or.inr ⟨by omega, by omega, by rw [hy, hd, St_app, show n / 2 = j by omega]⟩, rfl⟩
    · have q1 : x.cps[i.toNat]? = some 34 := by rw [← hx.e]; congr 1; omega
      have w3 : dir.length ≤ 10 := by rw [hd, St_len]; simp; omega
      k_steps
      dsimp only [WhileStep2]
      k_steps
      have e : parsedS n c = dir := by unfold parsedS; rw [if_pos hj, hd]
      rw [e] at hret
      exact hret _ _ _ (stay2 (by assumption) (by assumption))
end

end
section
set_option maxRecDepth 100000
set_option maxHeartbeats 8000000

def copyC (c : List (Str × Int)) : List (Str × Int) := c.foldl (fun c p => kdpPut c p.1 p.2) []
def addTurn (c : List (Str × Int)) (p : Str × Int) : List (Str × Int) := if kdpHas c p.1 = true then kdpPut c p.1 (kdpLook c p.1 0 + p.2) else kdpPut c p.1 p.2
def addC (c1 c2 : List (Str × Int)) : List (Str × Int) := c2.foldl addTurn (copyC c1)
section
local macro_rules | `(tactic| walk_at "getMethod ref") => `(tactic| (k_here; (with_reducible show wpAny _ _ (getMethod (Value.ref _) (Str.ofString "items") _) _ _ _); (rename Fr _ _ _ _ => gF'); (refine getMethod_tab PySem.F.slot_dict_items PySem.F.type_dict_items (TabAt.keep (by assumption) gF'.keep) ?_)))
theorem addc_ok {w : World} {mean : ExcName → Option Value} {mg mb : Str → Option Value} (c1 c2 : List (Str × Int)) (a1 a2 : Addr) (z1 : c1.length ≤ 1000) (z2 : c2.length ≤ 1000) :
   CtrP 2 w mean mg mb 96 [.ref a1, .ref a2] (fun h => StrTab PySem.Challenge.rw_xg0012_01.row.prog w h a1 (kdpD c1) ∧ StrTab PySem.Challenge.rw_xg0012_01.row.prog w h a2 (kdpD c2)) (RetD w (addC c1 c2)) := by
  unfold CtrP
  w_top off
  k_fill
  intros
  rename_i hpre hret
  obtain ⟨hp1, hp2⟩ := hpre
  refine wpAny_call ?_
  k_dflt ((refine' code_defP ?k1 ?k2 ?k3 ?k5 ?kA ?kF ?kK ?k6 ?k7 ?k8 ?k9 ?kB ?_ ?c2 ?c3 ?c4 ?c5; (case kA => exact rfl); (case kF => exact rfl); (case kK => assumption); (case k1 => k_asm); (case k2 => k_asm); (case k3 => k_asm); (case k5 => k_asm); (case k6 => k_is); (case k7 => k_is); (case k8 => ktr_room); (case k9 => exact BindsTo.of_eq rfl); (case c5 => decide); (case kB => exact locs rfl); (case c2 => exact rfl); (case c3 => exact rfl); (case c4 => exact rfl); k_whole; intro _ _ _ _ _ _ _ _ _; (try dsimp only); (try k_fold)))
  have tb1 := TabAt.keep hp1 (by assumption : Heap.StaysIn _ _)
  have tb2 := TabAt.keep hp2 (by assumption : Heap.StaysIn _ _)
  k_steps
  rename_i d h1 o lo hs fs hI fI l2 h2 F N
  dsimp only
  refine items_loop rfl (TabAt.keep tb1 F.keep) (tab_base_ne tb1 F) (tab_base_off tb1 N) F N rfl rfl rfl ?hE
    (fun i m₁ news₁ => ∃ (o : Obj) (kvs : List (Str × Value)) (c : List (Str × Int)), news₁ = [(d, o)] ∧ o.IsDictOf (PySem.strKind PySem.Challenge.rw_xg0012_01.row.prog w) kvs ∧ PyProof.V.FlatPairs PyData.str kvs (kdpD c) ∧ c = (c1.take i).foldl (fun c p => kdpPut c p.1 p.2) [] ∧ c.length ≤ i ∧ m₁ (Str.ofString "new_callers") = some (.ref d) ∧ m₁ (Str.ofString "source") = some (.ref a2)) ?h0 ?step ?done
  case hE => walk1
  case h0 => exact ⟨o, [], [], rfl, hs, fs, rfl, Nat.le_refl _, rfl, rfl⟩
  case step =>
    rintro i k v tk' t m₁ news₁ h tk own hc ⟨o, kvs, c, rfl, hd, hf, hcc, hlen, hm1, hm2⟩ hoff F₁ N₁
    have hlt : i < c1.length := (List.getElem?_eq_some_iff.mp hc).1
    rw [← kst_self [(Str.ofString "new_callers", .ref d), (Str.ofString "source", .ref a2)] ⟨hm1, hm2, trivial⟩] at F₁
    dsimp only [kstB] at F₁
    have N₂ : News _ _ h ((d, o) :: own) := N₁
    clear N₁
    simp only [List.map_cons, List.map_nil] at hoff
    k_steps
    refine turn_end (news₂ := [(d, _)]) (by assumption) (by assumption) hoff ?_
    refine ⟨_, _, _, rfl, by assumption, by assumption, ?_, ?_, rfl, rfl⟩
    · rw [take_foldl _ _ hc, hcc]
    · exact Nat.le_trans (kdpPut_len _ _ _) (by omega)
  case done =>
    rintro h' tk m' news' F' N' ⟨o, kvs, c, rfl, hd, hf, hcc, hlen, hm1, hm2⟩
    rw [← kst_self [(Str.ofString "new_callers", .ref d), (Str.ofString "source", .ref a2)] ⟨hm1, hm2, trivial⟩] at F'
    dsimp only [kstB] at F'
    rw [List.take_length] at hcc
    have tb3 : StrTab _ w h' d (kdpD c) := TabAt.ofObj lo (N' _ (List.Mem.head _)).1 hd hf
    k_steps
    rename_i F2
    dsimp only
    refine items_loop rfl (TabAt.keep tb2 F2.keep) (tab_base_ne tb2 F2) (tab_base_off tb2 N') F2 N' rfl rfl rfl ?hE2
      (fun i m₁ news₁ => ∃ (o : Obj) (kvs : List (Str × Value)) (c : List (Str × Int)), news₁ = [(d, o)] ∧ o.IsDictOf (PySem.strKind PySem.Challenge.rw_xg0012_01.row.prog w) kvs ∧ PyProof.V.FlatPairs PyData.str kvs (kdpD c) ∧ c = (c2.take i).foldl addTurn (copyC c1) ∧ c.length ≤ 1000 + i ∧ m₁ (Str.ofString "new_callers") = some (.ref d)) ?h02 ?step2 ?done2
    case hE2 => walk1
    case h02 => exact ⟨o, kvs, c, rfl, hd, hf, hcc, by omega, rfl⟩
    case step2 =>
      clear tb3 hd hf hcc hlen hm1 hm2
      rintro i k v tk' t m₁ news₁ h tk own hc ⟨o, kvs, c, rfl, hd, hf, hcc, hlen, hm1⟩ hoff F₁ N₁
      have hlt : i < c2.length := (List.getElem?_eq_some_iff.mp hc).1
      rw [← kst_self [(Str.ofString "new_callers", .ref d)] ⟨hm1, trivial⟩] at F₁
      dsimp only [kstB] at F₁
      have N₂ : News _ _ h ((d, o) :: own) := N₁
      clear N₁
      simp only [List.map_cons, List.map_nil] at hoff
      k_steps
      all_goals (refine turn_end (news₂ := [(d, _)]) (by assumption) (by assumption) hoff ?_)
      all_goals (refine ⟨_, _, _, rfl, by assumption, by assumption, ?_, Nat.le_trans (kdpPut_len _ _ _) (by omega), rfl⟩)
      · rw [take_foldl _ _ hc, ← hcc]
        exact (if_pos (by assumption)).symm
      · rw [take_foldl _ _ hc, ← hcc]
        exact (if_neg (by simp_all)).symm
    case done2 =>
      clear tb3 hd hf hcc hlen hm1 hm2
      rintro h' tk m' news' F' N' ⟨o, kvs, c, rfl, hd, hf, hcc, hlen, hm1⟩
      rw [← kst_self [(Str.ofString "new_callers", .ref d)] ⟨hm1, trivial⟩] at F'
      dsimp only [kstB] at F'
      rw [List.take_length] at hcc
      have hcc' : c = addC c1 c2 := hcc
      subst hcc'
      k_steps
      rename_i kS kN
      exact hret d _ _ _ _ lo hd hf (stay2 (by assumption) kS) (kN (_, _) (by k_mem)).1 (none_of (by assumption) (kN (_, _) (by k_mem)).2)
end

/-- it hands back a new tuple of four ints and a new dict -/
def RetT (w : World) (c : List (Str × Int)) (x0 x1 x2 x3 : Int) (s : Shared) (Q : Value → Shared → Prop) : Prop :=
  ∀ (a d : Addr) (o : Obj) (kvs : List (Str × Value)) (t0 t1 t2 t3 : Tok) (n : Nat) (h' : Heap) (tk' : Nat), (d == sysModules) = false → o.IsDictOf (PySem.strKind PySem.Challenge.rw_xg0012_01.row.prog w) kvs → PyProof.V.FlatPairs PyData.str kvs (kdpD c) → s.heap.StaysIn h' → @Ne Nat a d →
    h'.get? d = some o → s.heap.get? d = none → h'.get? a = some { cls := .type "tuple", data := .seq #[.int x0 t0, .int x1 t1, .int x2 t2, .int x3 t3, .ref d] n } → s.heap.get? a = none → Q (.ref a) { s with heap := h', toks := tk' }
theorem afs_ok {w : World} {mean : ExcName → Option Value} {mg mb : Str → Option Value} (c1 c2 : List (Str × Int)) (aT aS d1 d2 : Addr) (t0 t1 t2 t3 s0 s1 s2 s3 : Int) (u0 u1 u2 u3 v0 v1 v2 v3 : Tok) (z1 : c1.length ≤ 1000) (z2 : c2.length ≤ 1000) :
   CtrP 4 w mean mg mb 89 [.ref aT, .ref aS] (fun h => IsTup h aT #[.int t0 u0, .int t1 u1, .int t2 u2, .int t3 u3, .ref d1] ∧ IsTup h aS #[.int s0 v0, .int s1 v1, .int s2 v2, .int s3 v3, .ref d2] ∧ StrTab PySem.Challenge.rw_xg0012_01.row.prog w h d1 (kdpD c1) ∧ StrTab PySem.Challenge.rw_xg0012_01.row.prog w h d2 (kdpD c2)) (RetT w (addC c1 c2) (s0 + t0) (s1 + t1) (s2 + t2) (s3 + t3)) := by
  unfold CtrP
  w_top off
  k_fill
  intros
  rename_i hpre hret
  obtain ⟨hp1, hp2, hp3, hp4⟩ := hpre
  refine wpAny_call ?_
  k_dflt ((refine' code_defP ?k1 ?k2 ?k3 ?k5 ?kA ?kF ?kK ?k6 ?k7 ?k8 ?k9 ?kB ?_ ?c2 ?c3 ?c4 ?c5; (case kA => exact rfl); (case kF => exact rfl); (case kK => assumption); (case k1 => k_asm); (case k2 => k_asm); (case k3 => k_asm); (case k5 => k_asm); (case k6 => k_is); (case k7 => k_is); (case k8 => ktr_room); (case k9 => exact BindsTo.of_eq rfl); (case c5 => decide); (case kB => exact locs rfl); (case c2 => exact rfl); (case c3 => exact rfl); (case c4 => exact rfl); k_whole; intro _ _ _ _ _ _ _ _ _; (try dsimp only); (try k_fold)))
  have tb1 := stays_tup (by assumption : Heap.StaysIn _ _) hp1
  have tb2 := stays_tup (by assumption : Heap.StaysIn _ _) hp2
  have tb3 := TabAt.keep hp3 (by assumption : Heap.StaysIn _ _)
  have tb4 := TabAt.keep hp4 (by assumption : Heap.StaysIn _ _)
  k_steps
  have hC := addc_ok (w := w) (mean := mean) (mg := mg) (mb := mb) c1 c2 d1 d2 z1 z2
  unfold CtrP at hC
  rename_i F N
  refine' hC _ _ _ _ _ _ _ _ _ _ _ _ _ _ _ _ _ ?k1 ?k2 ?k3 ?k4 ?kK ?kd ?ku ?kp ?kR
  case k1 => k_asm
  case k2 => k_asm
  case k3 => k_asm
  case k4 => k_asm
  case kK => first | exact rfl | assumption
  case kd => ktr_room
  case ku => ktr_units
  case kp => exact ⟨TabAt.keep tb3 F.keep, TabAt.keep tb4 F.keep⟩
  clear hC
  intro a o kvs h' tk' lo hd hf hst hget hnone
  have F2 := back_fr F hst
  obtain ⟨N2, hne⟩ := back_new F N hst hget hnone
  dsimp only [NeAll] at hne
  clear F N
  k_steps
  rename_i D h3 F3 N3 l3 kS kN
  exact hret D a _ _ _ _ _ _ _ _ _ lo hd hf (stay2 (by assumption) kS) (fun e => absurd l3 (by omega)) (kN (_, _) (by k_mem)).1 (none_of (by assumption) (kN (_, _) (by k_mem)).2) (kN (_, _) (by k_mem)).1 (none_of (by assumption) (kN (_, _) (by k_mem)).2)

end
section
set_option maxRecDepth 100000
set_option maxHeartbeats 8000000

theorem sum_take {c : List (Str × Int)} {i : Nat} {k : Str} {v : Int} (h : c[i]? = some (k, v)) : ((c.take (i + 1)).map (·.2)).sum = ((c.take i).map (·.2)).sum + v := by
  rw [List.take_add_one, h]; simp
/-- it hands back an int -/
def RetI (x : Int) (s : Shared) (Q : Value → Shared → Prop) : Prop :=
  ∀ (t : Tok) (h' : Heap) (tk' : Nat), s.heap.StaysIn h' → Q (.int x t) { s with heap := h', toks := tk' }
section
local macro_rules | `(tactic| walk_at "exec For Name Call cons nil") => `(tactic| (k_here; (with_reducible refine For_at ?_ (by intro _; with_unfolding_all rfl)); (try dsimp only)))
local macro_rules | `(tactic| walk_at "getMethod ref") => `(tactic| (k_here; (with_reducible show wpAny _ _ (getMethod (Value.ref _) (Str.ofString "values") _) _ _ _); (rename Fr _ _ _ _ => gF'); (refine getMethod_tab PySem.F.slot_dict_values PySem.F.type_dict_values (TabAt.keep (by assumption) gF'.keep) ?_)))
theorem count_ok {w : World} {mean : ExcName → Option Value} {mg mb : Str → Option Value} (c : List (Str × Int)) (a : Addr) :
   CtrP 2 w mean mg mb 103 [.ref a] (fun h => StrTab PySem.Challenge.rw_xg0012_01.row.prog w h a (kdpD c)) (RetI (c.map (·.2)).sum) := by
  unfold CtrP
  w_top off
  k_fill
  intros
  rename_i hpre hret
  refine wpAny_call ?_
  k_dflt ((refine' code_defP ?k1 ?k2 ?k3 ?k5 ?kA ?kF ?kK ?k6 ?k7 ?k8 ?k9 ?kB ?_ ?c2 ?c3 ?c4 ?c5; (case kA => exact rfl); (case kF => exact rfl); (case kK => assumption); (case k1 => k_asm); (case k2 => k_asm); (case k3 => k_asm); (case k5 => k_asm); (case k6 => k_is); (case k7 => k_is); (case k8 => ktr_room); (case k9 => exact BindsTo.of_eq rfl); (case c5 => decide); (case kB => exact locs rfl); (case c2 => exact rfl); (case c3 => exact rfl); (case c4 => exact rfl); k_whole; intro _ _ _ _ _ _ _ _ _; (try dsimp only); (try k_fold)))
  have tb := TabAt.keep hpre (by assumption : Heap.StaysIn _ _)
  k_steps
  rename_i h1 F N
  dsimp only
  refine values_loop rfl (TabAt.keep tb F.keep) (tab_base_ne tb F) (tab_base_off tb N) F N rfl rfl ?hE
    (fun i m₁ news₁ => news₁ = [] ∧ ∃ t, m₁ (Str.ofString "nc") = some (.int ((c.take i).map (·.2)).sum t)) ?h0 ?step ?done
  case hE => walk1
  case h0 => exact ⟨rfl, _, rfl⟩
  case step =>
    rintro i k v t m₁ news₁ h tk own hc ⟨rfl, t0, hm⟩ hoff F₁ N₁
    have F₂ := fr_put2 hm F₁
    clear F₁
    have N₂ : News _ _ h own := N₁
    clear N₁
    have e := sum_take hc
    k_steps
    refine turn_end (news₂ := []) (by assumption) (by assumption) (by intro p hp b hb; cases hb) ?_
    rw [e]
    exact ⟨rfl, _, rfl⟩
  case done =>
    rintro h' tk m' news' F' N' ⟨rfl, t0, hm⟩
    have F₂ := fr_put hm F'
    clear F'
    rw [List.take_length] at F₂
    k_steps
    rename_i kS kN
    exact hret _ _ _ (stay2 (by assumption) kS)
end

end
section
set_option maxRecDepth 100000
set_option maxHeartbeats 8000000

theorem ap_pos (j : Nat) : (1 : Int) ≤ 2 * 16 ^ (30 - j) := by
  have : (0 : Int) < 16 ^ (30 - j) := pow_pos_of (by decide) _
  omega
theorem ap_step {j : Nat} (h : j < 31) : (2 * 16 ^ (31 - j) : Int) = 16 * (2 * 16 ^ (30 - j)) := by
  rw [show 31 - j = (30 - j) + 1 by omega, Int.pow_succ]
  rw [Int.mul_comm (16 ^ (30 - j)) 16, Int.mul_left_comm]
theorem ap_div {X : Int} : (16 * X).fdiv 16 = X := by rw [Int.fdiv_eq_ediv_of_nonneg _ (by decide)]; omega
theorem ap_mod {X : Int} : (16 * X).fmod 16 = 0 := by rw [Int.fmod_eq_emod_of_nonneg _ (by decide)]; omega
/-- what is left, and what stands, after j turns -/
def ApJ (n : Int) (b : Array UInt8) : Prop := (∃ j : Nat, j ≤ 31 ∧ n = 2 * 16 ^ (31 - j) ∧ b = (List.replicate j (65 : UInt8)).toArray) ∨ (n = 0 ∧ b = #[67,65,65,65,65,65,65,65,65,65,65,65,65,65,65,65,65,65,65,65,65,65,65,65,65,65,65,65,65,65,65,65])
theorem pick0 : KBy.picked #[65,66,67,68,69,70,71,72,73,74,75,76,77,78,79,80] (some 0) (some (0 + 1)) = #[65] := by decide +kernel
theorem pick2 : KBy.picked #[65,66,67,68,69,70,71,72,73,74,75,76,77,78,79,80] (some (Int.fmod 2 16)) (some (Int.fmod 2 16 + 1)) = #[67] := by decide +kernel
theorem ap_grow (j : Nat) : (#[65] : Array UInt8) ++ (List.replicate j (65 : UInt8)).toArray = (List.replicate (j + 1) (65 : UInt8)).toArray := by
  rw [List.replicate_succ]
  show ([65] : List UInt8).toArray ++ _ = _
  rw [List.append_toArray]; rfl
def KS10 : Prop := True
structure Stop10 (X : Prop) : Prop where
  out : X
theorem Stop10.of {X : Prop} (h : Stop10 X) : X := h.out
section
local macro_rules | `(tactic| walk_at "exec") => `(tactic| (k_here; (with_reducible refine While_at ?_)))
local macro_rules | `(tactic| walk_at "exec While") => `(tactic| (k_here; (with_reducible refine While_at ?_)))
local macro_rules | `(tactic| walk_at "assign Tuple") => `(tactic| (k_here; (with_reducible rename KS10 => kst9); (with_reducible refine Stop10.of ?_)))
local macro_rules | `(tactic| walk_at "binaryOp Add bytes bytes") => `(tactic| (k_here; (refine KBy.add_bytes (by omega) ?_); intro t9 k9))
theorem int2ap_ok {w : World} {mean : ExcName → Option Value} {mg mb : Str → Option Value} (t : Tok) :
   CtrP 2 w mean mg mb 82 [.int (32 * 256 ^ 15) t] (fun h => True) (RetB #[67,65,65,65,65,65,65,65,65,65,65,65,65,65,65,65,65,65,65,65,65,65,65,65,65,65,65,65,65,65,65,65]) := by
  unfold CtrP
  w_top off
  k_fill
  intros
  rename_i hpre hret
  refine wpAny_call ?_
  k_dflt ((refine' code_defP ?k1 ?k2 ?k3 ?k5 ?kA ?kF ?kK ?k6 ?k7 ?k8 ?k9 ?kB ?_ ?c2 ?c3 ?c4 ?c5; (case kA => exact rfl); (case kF => exact rfl); (case kK => assumption); (case k1 => k_asm); (case k2 => k_asm); (case k3 => k_asm); (case k5 => k_asm); (case k6 => k_is); (case k7 => k_is); (case k8 => ktr_room); (case k9 => exact BindsTo.of_eq rfl); (case c5 => decide); (case kB => exact locs rfl); (case c2 => exact rfl); (case c3 => exact rfl); (case c4 => exact rfl); k_whole; intro _ _ _ _ _ _ _ _ _; (try dsimp only); (try k_fold)))
  k_steps
  rename_i F N
  intro pos
  refine While_inv2 (fun k m₁ news₁ => news₁ = [] ∧ ∃ (n : Int) (b : Array UInt8) (tn tb ta : Tok), m₁ (Str.ofString "num") = some (.int n tn) ∧ m₁ (Str.ofString "val") = some (.bytes b tb) ∧ m₁ (Str.ofString "AP") = some (.bytes #[65,66,67,68,69,70,71,72,73,74,75,76,77,78,79,80] ta) ∧ ApJ n b ∧ k = n.toNat) (n₀ := (2 * 16 ^ 31 : Int).toNat) F N ?h0 ?turn ?hE
  case hE => walk1
  case h0 => exact ⟨rfl, _, _, _, _, _, rfl, rfl, rfl, Or.inl ⟨0, by omega, by decide +kernel, rfl⟩, by decide +kernel⟩
  case turn =>
    clear F N
    rintro k m₁ nx h tk F N ⟨rfl, n, b, tn, tb, ta, hm1, hm2, hm3, hJ, hk⟩
    rw [← kst_self [(Str.ofString "num", .int n tn), (Str.ofString "val", .bytes b tb), (Str.ofString "AP", .bytes #[65,66,67,68,69,70,71,72,73,74,75,76,77,78,79,80] ta)] ⟨hm1, hm2, hm3, trivial⟩] at F
    dsimp only [kstB] at F
    rcases hJ with ⟨j, hj, hn, hb⟩ | ⟨hn, hb⟩
    · have kst : KS10 := trivial
      by_cases hj31 : j < 31
      · have hX := ap_pos j
        rw [ap_step hj31] at hn
        obtain ⟨X, hXe⟩ : ∃ X : Int, X = 2 * 16 ^ (30 - j) := ⟨_, rfl⟩
        rw [← hXe] at hn hX
        have hq : n.fdiv 16 = X := by rw [hn, ap_div]
        have hr : n.fmod 16 = 0 := by rw [hn, ap_mod]
        k_steps
        · rename Fr _ _ _ _ => F2
          rename News _ _ _ _ => N2
          rename KS10 => kst9
          clear kst9
          rw [hq, hr] at N2
          clear hq hr
          refine ⟨?_⟩
          have hp1 : (KBy.picked #[65,66,67,68,69,70,71,72,73,74,75,76,77,78,79,80] (some 0) (some (0 + 1))).size = 1 := by rw [pick0]; rfl
          have hbs : b.size ≤ 31 := by rw [hb, List.size_toArray, List.length_replicate]; omega
          k_steps
          rename_i F3 N3
          exact ⟨_, _, _, [], _, rfl, F3, (fun p hp => nomatch hp), by rw [hk]; omega, rfl, _, _, _, _, _, rfl, rfl, rfl, Or.inl ⟨j + 1, by omega, by rw [hXe, show 31 - (j + 1) = 30 - j by omega], by rw [pick0, hb]; exact ap_grow j⟩, rfl⟩
        · exact absurd (by assumption) (show n ≠ 0 by omega)
      · obtain rfl : j = 31 := by omega
        have hn2 : n = 2 := hn
        subst hn2
        rename KS10 => kst9
        clear kst9
        have hp1 : (KBy.picked #[65,66,67,68,69,70,71,72,73,74,75,76,77,78,79,80] (some (Int.fmod 2 16)) (some (Int.fmod 2 16 + 1))).size = 1 := by rw [pick2]; rfl
        have hbs : b.size ≤ 31 := by rw [hb, List.size_toArray, List.length_replicate]; omega
        k_steps
        rename_i F3 N3
        exact ⟨_, _, _, [], _, rfl, F3, (fun p hp => nomatch hp), by rw [hk]; decide, rfl, _, _, _, _, _, rfl, rfl, rfl, Or.inr ⟨by decide, by rw [pick2, hb]; decide +kernel⟩, rfl⟩
    · subst hn hb
      k_steps
      exact hret _ _ _ (stay2 (by assumption) (by assumption))
end

end
section
set_option maxRecDepth 100000
set_option maxHeartbeats 8000000
theorem call_sub' {prog : Program} {w : World} {A : Around} {E : Value → Shared → Prop} {s : Shared} {Q : Value → Shared → Prop} {a ct : Addr} {x r : Str} {t u : Tok} (hr : r = St [13, 10]) (ha : s.TypeIs (.ref a) "re.Pattern") (hrx : Rx s.heap a ct) (hx : x.length ≤ 1000)
    (h : ∀ t' h' tk, (∀ b o, s.heap.get? b = some o → h'.get? b = some o) → Q (.str (St (fixL x.cps.toList)) t') { s with heap := h', toks := tk }) :
    wpAny (model prog w) A (call (.builtin "re.Pattern.sub") [.ref a, .str r u, .str x t]) Q E s := hr ▸ call_sub ha hrx hx h
section
local macro_rules | `(tactic| walk_at "getMethod") => `(tactic| fail "here")
theorem fix_ok {w : World} {mean : ExcName → Option Value} {mg mb : Str → Option Value} (x : Str) (tr : Tok) (hx : x.length ≤ 1000) :
   CtrP 2 w mean mg mb 43 [.str x tr] (fun _ => True) (RetS (St (fixL x.cps.toList))) := by
  unfold CtrP
  w_top off
  k_fill
  intros
  rename_i hpre hret
  refine wpAny_call ?_
  k_dflt ((refine' code_defP ?k1 ?k2 ?k3 ?k5 ?kA ?kF ?kK ?k6 ?k7 ?k8 ?k9 ?kB ?_ ?c2 ?c3 ?c4 ?c5; (case kA => exact rfl); (case kF => exact rfl); (case kK => assumption); (case k1 => k_asm); (case k2 => k_asm); (case k3 => k_asm); (case k5 => k_asm); (case k6 => k_is); (case k7 => k_is); (case k8 => ktr_room); (case k9 => exact BindsTo.of_eq rfl); (case c5 => decide); (case kB => exact locs rfl); (case c2 => exact rfl); (case c3 => exact rfl); (case c4 => exact rfl); k_whole; intro _ _ _ _ _ _ _ _ _; (try dsimp only); (try k_fold)))
  rename Frag.In _ _ => X
  have hg1 := X 36 _ (by k_is)
  have hg2 := X 35 _ (by k_is)
  have hr : Rx _ 36 35 := ⟨⟨_, _, hg1, rfl, rfl, rfl, rfl⟩, ⟨_, _, _, hg2, rfl, by decide +kernel⟩⟩
  obtain ⟨o, ho, hdn, hc⟩ : ∃ o, Heap.get? _ 36 = some o ∧ o.dict = none ∧ o.cls = .type "re.Pattern" := ⟨_, hg1, rfl, rfl⟩
  clear hg1 hg2
  k_steps
  rename Fr _ _ _ _ => F
  rename News _ _ _ _ => N
  have hrx := rx_up (l := _) (by decide : (36 : Nat) ≠ 0) (by decide : (35 : Nat) ≠ 0) (fun b o _ e => F.keep b o e) hr
  refine getMethod_builtin (T := "re.Pattern") (id := "re.Pattern.sub") ⟨o, F.keep _ _ ho, hc⟩ attrs_re slot_sub type_sub (fun a e => by cases e; exact ⟨o, F.keep _ _ ho, hdn⟩) ?_
  k_steps
  refine call_sub' lit_crlf ⟨o, F.keep _ _ ho, hc⟩ hrx hx fun t' h' tk up => ?_
  have hst : Heap.StaysIn _ h' := up
  have F2 := back_fr F hst
  have N2 := back_news N hst
  clear F N
  k_steps
  exact hret _ _ _ (stay2 (by assumption) (by assumption))
end

end
section
/-- a text over row ends, bars and one letter, the letter written 0 -/
def emb (c x : Nat) : Nat := if x = 0 then c else x
theorem emb10 {c x : Nat} (h : c ≠ 10) : emb c x = 10 ↔ x = 10 := by unfold emb; split <;> omega
theorem emb13 {c x : Nat} (h : c ≠ 13) : emb c x = 13 ↔ x = 13 := by unfold emb; split <;> omega
theorem emb_fix {c : Nat} (h1 : c ≠ 10) (h2 : c ≠ 13) : ∀ l : List Nat, fixL (l.map (emb c)) = (fixL l).map (emb c)
  | [] => rfl
  | [x] => by
    show (if emb c x = 10 ∨ emb c x = 13 then [13, 10] else [emb c x]) = (if x = 10 ∨ x = 13 then [13, 10] else [x]).map (emb c)
    simp only [emb10 h1, emb13 h2]
    split <;> rfl
  | x :: y :: r => by
    have i1 := emb_fix h1 h2 r
    have i2 := emb_fix h1 h2 (y :: r)
    rw [List.map_cons] at i2
    show (if emb c x = 13 ∧ emb c y = 10 then 13 :: 10 :: fixL (r.map (emb c)) else if emb c x = 10 ∨ emb c x = 13 then 13 :: 10 :: fixL (emb c y :: r.map (emb c)) else emb c x :: fixL (emb c y :: r.map (emb c)))
      = (if x = 13 ∧ y = 10 then 13 :: 10 :: fixL r else if x = 10 ∨ x = 13 then 13 :: 10 :: fixL (y :: r) else x :: fixL (y :: r)).map (emb c)
    simp only [emb10 h1, emb13 h2, i1, i2]
    split
    · rfl
    · split <;> rfl

end
section
set_option maxRecDepth 100000
/-- a mail, the letter written 0 -/
def mailL (on order own : List Int) : List Nat :=
  [if (cAt on order 0 != 0) = true then 13 else 0, if (cAt on order 1 != 0) = true then 10 else 0, if (cAt on order 1 != 0) = true then 13 else 0, if (cAt on order 2 != 0) = true then 10 else 0, if (cAt on order 2 != 0) = true then 13 else 0, if (cAt on order 3 != 0) = true then 10 else 0]
  ++ (List.replicate (on.getD 0 0 * own.getD 0 0).toNat 10 ++ (List.replicate (on.getD 1 0 * own.getD 1 0).toNat 10 ++ (List.replicate (on.getD 2 0 * own.getD 2 0).toNat 13 ++ (List.replicate (on.getD 3 0 * own.getD 3 0).toNat 13 ++ List.replicate (own.getD 4 0).toNat 13))))
theorem emb_rep {c a : Nat} (k : Nat) (h : a ≠ 0) : (List.replicate k a).map (emb c) = List.replicate k a := by
  rw [List.map_replicate]; unfold emb; rw [if_neg h]
theorem flat_St (l : List Nat) : (St l).cps.toList = l := rfl
theorem if_St (p : Bool) (a b : Nat) : (if p = true then St [a] else St [b]) = St [if p = true then a else b] := by cases p <;> rfl
theorem emb_if (c a : Nat) (p : Bool) (h : a ≠ 0) : emb c (if p = true then a else 0) = if p = true then a else c := by cases p <;> simp [emb, h]
theorem mailS_eq (on order own : List Int) (c : Nat) : mailS on order own (St [c]) = St ((mailL on order own).map (emb c)) := by
  unfold mailS mailL
  rw [lit_nil, lit_cr, lit_nl, join_flat]
  simp only [if_St, mul_St1, flat, List.flatMap_cons, List.flatMap_nil, flat_St, St_app, List.map_append, List.map_cons, List.map_nil, emb_rep _ (show (10 : Nat) ≠ 0 by decide), emb_rep _ (show (13 : Nat) ≠ 0 by decide), emb_if _ 10 _ (by decide), emb_if _ 13 _ (by decide), List.append_nil, List.cons_append, List.nil_append, List.append_assoc]
theorem one_St {pl : Str} (h : pl.length = 1) : ∃ c, pl = St [c] := by
  have e := St_of pl
  have h2 : pl.cps.toList.length = 1 := by rw [Array.length_toList]; exact h
  match hl : pl.cps.toList, h2 with
  | [c], _ => exact ⟨c, by rw [e, hl]⟩
theorem mul01_le' {a b : Int} (h : 0 ≤ a ∧ a ≤ 1) (h' : 0 ≤ b ∧ b ≤ 1) : (a * b).toNat ≤ 1 := by
  have h1 : a = 0 ∨ a = 1 := by omega
  rcases h1 with rfl | rfl
  · simp
  · simp; omega
theorem mail_len (on order own : List Int) (pl : Str) (h : pl.length = 1) (hon : ∀ i : Nat, (0:Int) ≤ on.getD i 0 ∧ on.getD i 0 ≤ 1) (how : ∀ i : Nat, (0:Int) ≤ own.getD i 0 ∧ own.getD i 0 ≤ 1) : (mailS on order own pl).length ≤ 20 := by
  obtain ⟨c, rfl⟩ := one_St h
  rw [mailS_eq, St_len, List.length_map]
  unfold mailL
  have q0 := mul01_le' (hon 0) (how 0)
  have q1 := mul01_le' (hon 1) (how 1)
  have q2 := mul01_le' (hon 2) (how 2)
  have q3 := mul01_le' (hon 3) (how 3)
  have q4 := how 4
  simp only [List.length_append, List.length_cons, List.length_nil, List.length_replicate]
  omega

end
section
set_option maxRecDepth 100000
theorem fold_app (l : List Nat) : ∀ (k : Nat) (acc : List Nat), (List.replicate k l.toArray).foldl (· ++ ·) acc.toArray = (acc ++ (List.replicate k l).flatten).toArray
  | 0, acc => by simp
  | k + 1, acc => by
    rw [List.replicate_succ, List.foldl_cons, show acc.toArray ++ l.toArray = (acc ++ l).toArray by simp, fold_app l k, List.replicate_succ, List.flatten_cons, List.append_assoc]
theorem mul_St (l : List Nat) (n : Int) : Txt.mul (St l) n = St ((List.replicate n.toNat l).flatten) := by
  unfold Txt.mul
  split
  · rename_i h
    rw [show n.toNat = 0 by omega]; rfl
  · split
    · rename_i h1 h2
      rw [Bool.or_eq_true] at h2
      rcases h2 with h2 | h2
      · have e : n = 1 := by simpa using h2
        subst e; simp
      · have e : l = [] := by
          have : (St l).length = 0 := by simpa using h2
          rw [St_len] at this
          exact List.eq_nil_of_length_eq_zero this
        subst e
        simp
    · show (⟨(List.replicate n.toNat l.toArray).foldl (· ++ ·) #[]⟩ : Str) = _
      rw [show (#[] : Array Nat) = ([] : List Nat).toArray from rfl, fold_app]
      rfl
/-- an arrived mail's stretch between two lights, the letter written 0 -/
def segL (a b : Int) : List Nat := List.replicate (1 - a).toNat 0 ++ ((List.replicate (if b > a then b else a).toNat [13, 10]).flatten ++ List.replicate (1 - b).toNat 0)
def arrL (on order own : List Int) : List Nat :=
  segL (cAt on order 0) (cAt on order 1) ++ (segL (cAt on order 1) (cAt on order 2) ++ (segL (cAt on order 2) (cAt on order 3) ++
    (List.replicate ((List.map (fun k' : Int => on.getD k'.toNat 0 * own.getD k'.toNat 0) (rangeKs 0 (4 - 0 : Int).toNat)).sum + own.getD 4 0).toNat [13, 10]).flatten))
theorem emb_ends (c k : Nat) : ((List.replicate k [13, 10]).flatten).map (emb c) = (List.replicate k [13, 10]).flatten := by
  induction k with
  | zero => rfl
  | succ k ih => rw [List.replicate_succ, List.flatten_cons, List.map_append, ih]; rfl
theorem emb_0 (c k : Nat) : (List.replicate k 0).map (emb c) = List.replicate k c := by rw [List.map_replicate]; rfl
theorem arrS_eq (on order own : List Int) (c : Nat) : arrS on order own (St [c]) = St ((arrL on order own).map (emb c)) := by
  unfold arrS arrL segS segL
  rw [lit_nil, lit_crlf]
  simp only [mul_St1]
  simp only [mul_St, St_app, List.map_append, emb_ends, emb_0, List.nil_append, List.append_assoc]

end
section
set_option maxRecDepth 100000
def joinL : List (List Nat) → List Nat
  | [] => []
  | [x] => x
  | x :: y :: r => x ++ (124 :: joinL (y :: r))
def bits5 : List (List Int) := (List.range 32).map fun n : Nat => bitsI n 5
def rowsL : List (List Int) := (List.range 16).map fun i : Nat => bitsI i 4
theorem fix_bar : ∀ (a b : List Nat), fixL (a ++ 124 :: b) = fixL a ++ 124 :: fixL b
  | [], b => by
    cases b with
    | nil => rfl
    | cons y r => show (if (124:Nat) = 13 ∧ y = 10 then 13 :: 10 :: fixL r else if (124:Nat) = 10 ∨ (124:Nat) = 13 then 13 :: 10 :: fixL (y :: r) else 124 :: fixL (y :: r)) = _; rw [if_neg (by omega), if_neg (by omega)]; rfl
  | [x], b => by
    have ih := fix_bar [] b
    rw [List.nil_append] at ih
    show (if x = 13 ∧ (124:Nat) = 10 then 13 :: 10 :: fixL b else if x = 10 ∨ x = 13 then 13 :: 10 :: fixL (124 :: b) else x :: fixL (124 :: b)) = (if x = 10 ∨ x = 13 then [13, 10] else [x]) ++ 124 :: fixL b
    rw [if_neg (by omega), ih]
    split <;> rfl
  | x :: y :: r, b => by
    have i1 := fix_bar r b
    have i2 := fix_bar (y :: r) b
    rw [List.cons_append] at i2
    show (if x = 13 ∧ y = 10 then 13 :: 10 :: fixL (r ++ 124 :: b) else if x = 10 ∨ x = 13 then 13 :: 10 :: fixL (y :: (r ++ 124 :: b)) else x :: fixL (y :: (r ++ 124 :: b)))
      = (if x = 13 ∧ y = 10 then 13 :: 10 :: fixL r else if x = 10 ∨ x = 13 then 13 :: 10 :: fixL (y :: r) else x :: fixL (y :: r)) ++ 124 :: fixL b
    rw [i1, i2]
    split
    · rfl
    · split <;> rfl
theorem fix_join : ∀ ls : List (List Nat), fixL (joinL ls) = joinL (ls.map fixL)
  | [] => rfl
  | [x] => rfl
  | x :: y :: r => by
    have ih := fix_join (y :: r)
    show fixL (x ++ 124 :: joinL (y :: r)) = fixL x ++ 124 :: joinL ((y :: r).map fixL)
    rw [fix_bar, ih]
def mailN (a b c d p q r s t : Int) : List Nat :=
  [if (a != 0) = true then 13 else 0, if (b != 0) = true then 10 else 0, if (b != 0) = true then 13 else 0, if (c != 0) = true then 10 else 0, if (c != 0) = true then 13 else 0, if (d != 0) = true then 10 else 0]
  ++ (List.replicate p.toNat 10 ++ (List.replicate q.toNat 10 ++ (List.replicate r.toNat 13 ++ (List.replicate s.toNat 13 ++ List.replicate t.toNat 13))))
def arrN (a b c d p q r s t : Int) : List Nat := segL a b ++ (segL b c ++ (segL c d ++ (List.replicate ((p + (q + (r + (s + 0)))) + t).toNat [13, 10]).flatten))
def B01 : List Int := [0, 1]
theorem mem01 {x : Int} (h : 0 ≤ x ∧ x ≤ 1) : x ∈ B01 := by
  have : x = 0 ∨ x = 1 := by omega
  rcases this with rfl | rfl <;> decide
theorem fix_row : (B01.all fun a => B01.all fun b => B01.all fun c => B01.all fun d => B01.all fun p => B01.all fun q => B01.all fun r => B01.all fun s => B01.all fun t => fixL (mailN a b c d p q r s t) == arrN a b c d p q r s t) = true := by decide +kernel
theorem all01 {P : Int → Bool} (h : B01.all P = true) {x : Int} (hx : 0 ≤ x ∧ x ≤ 1) : P x = true := List.all_eq_true.mp h x (mem01 hx)
theorem mul01b {a b : Int} (h : 0 ≤ a ∧ a ≤ 1) (h' : 0 ≤ b ∧ b ≤ 1) : 0 ≤ a * b ∧ a * b ≤ 1 := by
  have h1 : a = 0 ∨ a = 1 := by omega
  rcases h1 with rfl | rfl
  · simp
  · rw [Int.one_mul]; exact h'
theorem arrL_N (on o w : List Int) : arrL on o w = arrN (cAt on o 0) (cAt on o 1) (cAt on o 2) (cAt on o 3) (on.getD 0 0 * w.getD 0 0) (on.getD 1 0 * w.getD 1 0) (on.getD 2 0 * w.getD 2 0) (on.getD 3 0 * w.getD 3 0) (w.getD 4 0) := rfl
theorem fix_one {on o w : List Int} (hon : ∀ i : Nat, (0:Int) ≤ on.getD i 0 ∧ on.getD i 0 ≤ 1) (how : ∀ i : Nat, (0:Int) ≤ w.getD i 0 ∧ w.getD i 0 ≤ 1) : fixL (mailL on o w) = arrL on o w := by
  rw [arrL_N]
  exact eq_of_beq (all01 (all01 (all01 (all01 (all01 (all01 (all01 (all01 (all01 fix_row (hon _)) (hon _)) (hon _)) (hon _)) (mul01b (hon 0) (how 0))) (mul01b (hon 1) (how 1))) (mul01b (hon 2) (how 2))) (mul01b (hon 3) (how 3))) (how 4))

end
section
theorem join_St : ∀ ls : List (List Nat), Txt.join (Str.ofString "|") (ls.map St) = St (joinL ls) := by
  intro ls
  show Builtin.Str.glued (Str.ofString "|") _ = _
  rw [StrLaws.glued_eq_join, lit_bar]
  induction ls with
  | nil => rfl
  | cons x r ih =>
    cases r with
    | nil => rfl
    | cons y r =>
      show Str.join (St [124]) (St x :: St y :: r.map St) = _
      rw [join_cons_cons, show (St y :: r.map St) = (y :: r).map St from rfl, ih, St_app, St_app]
      simp [joinL]
theorem joinL_map {c : Nat} : ∀ ls : List (List Nat), joinL (ls.map (·.map (emb c))) = (joinL ls).map (emb c)
  | [] => rfl
  | [x] => rfl
  | x :: y :: r => by
    have ih := joinL_map (c := c) (y :: r)
    show x.map (emb c) ++ (124 :: joinL ((y :: r).map (·.map (emb c)))) = _
    rw [ih]
    show _ = (x ++ (124 :: joinL (y :: r))).map (emb c)
    rw [List.map_append, List.map_cons]
    rfl
theorem mem_bits5 (b : Int) : bitsI b 5 ∈ bits5 := by
  have hx : ∀ x0 x1 x2 x3 x4 : Int, (x0 = 0 ∨ x0 = 1) → (x1 = 0 ∨ x1 = 1) → (x2 = 0 ∨ x2 = 1) → (x3 = 0 ∨ x3 = 1) → (x4 = 0 ∨ x4 = 1) → [x0, x1, x2, x3, x4] ∈ bits5 := by
    rintro x0 x1 x2 x3 x4 (rfl | rfl) (rfl | rfl) (rfl | rfl) (rfl | rfl) (rfl | rfl) <;> decide +kernel
  have h01 : ∀ i, bitI b i = 0 ∨ bitI b i = 1 := fun i => by have := bitI_le b i; omega
  exact hx _ _ _ _ _ (h01 0) (h01 1) (h01 2) (h01 3) (h01 4)
theorem law1N (o : List Int) (b : Int) : fixL (joinL (rowsL.map fun on => mailL on o (bitsI b 5))) = joinL (rowsL.map fun on => arrL on o (bitsI b 5)) := by
  rw [fix_join, List.map_map]
  congr 1
  refine List.map_congr_left fun on hon => ?_
  obtain ⟨i, _, rfl⟩ := List.mem_map.mp hon
  exact fix_one (bitsI_le _ _) (bitsI_le _ _)
theorem law1' (o : List Int) (ho : o ∈ orders) (b : Int) (c : Nat) (h1 : c ≠ 10) (h2 : c ≠ 13) :
    St (fixL (Txt.join (Str.ofString "|") ((List.range 16).map fun i : Nat => mailS (bitsI i 4) o (bitsI b 5) (St [c]))).cps.toList) = Txt.join (Str.ofString "|") ((List.range 16).map fun i : Nat => arrS (bitsI i 4) o (bitsI b 5) (St [c])) := by
  have e1 : ((List.range 16).map fun i : Nat => mailS (bitsI i 4) o (bitsI b 5) (St [c])) = (((rowsL.map fun on => mailL on o (bitsI b 5)).map (·.map (emb c))).map St) := by
    simp only [rowsL, List.map_map]
    exact List.map_congr_left fun i _ => mailS_eq _ _ _ _
  have e2 : ((List.range 16).map fun i : Nat => arrS (bitsI i 4) o (bitsI b 5) (St [c])) = (((rowsL.map fun on => arrL on o (bitsI b 5)).map (·.map (emb c))).map St) := by
    simp only [rowsL, List.map_map]
    exact List.map_congr_left fun i _ => arrS_eq _ _ _ _
  rw [e1, e2, join_St, join_St, joinL_map, joinL_map, flat_St, emb_fix h1 h2, law1N o b]

end
section
theorem bar_inj : ∀ {x y A B : List Nat}, 124 ∉ x → 124 ∉ y → x ++ (124 :: A) = y ++ (124 :: B) → x = y ∧ A = B
  | [], [], _, _, _, _, h => ⟨rfl, by simpa using h⟩
  | [], b :: y, _, _, _, hy, h => absurd (by have := (List.cons.inj h).1; rw [← this]; exact List.mem_cons_self) hy
  | a :: x, [], _, _, hx, _, h => absurd (by have := (List.cons.inj h).1; rw [this]; exact List.mem_cons_self) hx
  | a :: x, b :: y, A, B, hx, hy, h => by
    obtain ⟨h1, h2⟩ := List.cons.inj h
    obtain ⟨h3, h4⟩ := bar_inj (fun q => hx (List.mem_cons_of_mem _ q)) (fun q => hy (List.mem_cons_of_mem _ q)) h2
    exact ⟨by rw [h1, h3], h4⟩
theorem joinL_inj : ∀ {xs ys : List (List Nat)}, (∀ x ∈ xs, 124 ∉ x) → (∀ y ∈ ys, 124 ∉ y) → xs ≠ [] → ys ≠ [] → joinL xs = joinL ys → xs = ys
  | [], _, _, _, h, _, _ => absurd rfl h
  | _ :: _, [], _, _, _, h, _ => absurd rfl h
  | [x], [y], _, _, _, _, h => by rw [show x = y from h]
  | [x], y :: z :: r, hx, _, _, _, h => absurd (by have h' : x = y ++ (124 :: joinL (z :: r)) := h; rw [h']; simp) (hx x List.mem_cons_self)
  | x :: z :: r, [y], _, hy, _, _, h => absurd (by have h' : x ++ (124 :: joinL (z :: r)) = y := h; rw [← h']; simp) (hy y List.mem_cons_self)
  | x :: x2 :: r, y :: y2 :: q, hx, hy, _, _, h => by
    obtain ⟨h1, h2⟩ := bar_inj (hx x List.mem_cons_self) (hy y List.mem_cons_self) (show x ++ (124 :: joinL (x2 :: r)) = y ++ (124 :: joinL (y2 :: q)) from h)
    have h3 := joinL_inj (xs := x2 :: r) (ys := y2 :: q) (fun a ha => hx a (List.mem_cons_of_mem _ ha)) (fun a ha => hy a (List.mem_cons_of_mem _ ha)) (by simp) (by simp) h2
    rw [h1, h3]
/-- a text whose rows were joined by bars falls into the rows again -/
theorem split_joinL {ls : List (List Nat)} (h : ∀ x ∈ ls, 124 ∉ x) (hne : 2 ≤ ls.length) : Txt.split (St (joinL ls)) (Str.ofString "|") = ls.map St := by
  rw [lit_bar]
  have h1 := StrLaws.join_split (St (joinL ls)) (St [124])
  have h2 := StrLaws.split_free (St (joinL ls)) 124
  have e : (St [124]) = (⟨#[124]⟩ : Str) := rfl
  rw [e] at h1 ⊢
  generalize hsp : Txt.split (St (joinL ls)) ⟨#[124]⟩ = ps at h1 h2 ⊢
  have hps : ps = (ps.map (·.cps.toList)).map St := by
    rw [List.map_map]
    exact (List.map_id'' (fun x => (St_of x).symm) ps).symm
  have hj : joinL (ps.map (·.cps.toList)) = joinL ls := by
    have h3 := join_St (ps.map (·.cps.toList))
    rw [← hps] at h3
    have h4 : Txt.join (Str.ofString "|") ps = St (joinL ls) := by
      show Builtin.Str.glued _ _ = _
      rw [StrLaws.glued_eq_join, lit_bar]; exact h1
    rw [h4] at h3
    exact (St_inj h3).symm
  have hne2 : ps.map (·.cps.toList) ≠ [] := by
    intro e0
    rw [e0] at hj
    match ls, hne with
    | x :: y :: r, _ =>
      have h5 : ([] : List Nat) = x ++ (124 :: joinL (y :: r)) := hj
      simp at h5
  have := joinL_inj (xs := ps.map (·.cps.toList)) (ys := ls) (fun x hx => by
    obtain ⟨p, hp, rfl⟩ := List.mem_map.mp hx
    exact h2 p hp) h hne2 (by intro e0; rw [e0] at hne; simp at hne) hj
  rw [hps, this]

end
section
def Ends3 (l : List Nat) : Prop := ∀ x ∈ l, x = 0 ∨ x = 10 ∨ x = 13
theorem Ends3.app {a b : List Nat} (h : Ends3 a) (h' : Ends3 b) : Ends3 (a ++ b) := fun x hx => by
  rcases List.mem_append.mp hx with q | q
  · exact h x q
  · exact h' x q
theorem ends3_0 (k : Nat) : Ends3 (List.replicate k 0) := fun x hx => Or.inl (List.eq_of_mem_replicate hx)
theorem ends3_e (k : Nat) : Ends3 (List.replicate k [13, 10]).flatten := by
  intro x hx
  obtain ⟨l, hl, hx⟩ := List.mem_flatten.mp hx
  rw [List.eq_of_mem_replicate hl] at hx
  simp at hx
  rcases hx with rfl | rfl
  · exact Or.inr (Or.inr rfl)
  · exact Or.inr (Or.inl rfl)
theorem ends3_seg (a b : Int) : Ends3 (segL a b) := (ends3_0 _).app ((ends3_e _).app (ends3_0 _))
theorem ends3_arr (on o w : List Int) : Ends3 (arrL on o w) := (ends3_seg _ _).app ((ends3_seg _ _).app ((ends3_seg _ _).app (ends3_e _)))
theorem no_bar {l : List Nat} {c : Nat} (h : Ends3 l) (hc : c ≠ 124) : 124 ∉ l.map (emb c) := by
  intro hm
  obtain ⟨x, hx, e⟩ := List.mem_map.mp hm
  rcases h x hx with rfl | rfl | rfl
  · exact hc (by simpa [emb] using e)
  · simp [emb] at e
  · simp [emb] at e
theorem law2' (o : List Int) (ho : o ∈ orders) (b : Int) (c : Nat) (h1 : c ≠ 10) (h2 : c ≠ 13) (h3 : c ≠ 124) :
    Txt.split (St (fixL (Txt.join (Str.ofString "|") ((List.range 16).map fun i : Nat => mailS (bitsI i 4) o (bitsI b 5) (St [c]))).cps.toList)) (Str.ofString "|") = ((List.range 16).map fun i : Nat => arrS (bitsI i 4) o (bitsI b 5) (St [c])) := by
  have e2 : ((List.range 16).map fun i : Nat => arrS (bitsI i 4) o (bitsI b 5) (St [c])) = (((rowsL.map fun on => arrL on o (bitsI b 5)).map (·.map (emb c))).map St) := by
    simp only [rowsL, List.map_map]
    exact List.map_congr_left fun i _ => arrS_eq _ _ _ _
  rw [law1' o ho b c h1 h2, e2, join_St]
  refine split_joinL (fun x hx => ?_) (by simp [rowsL])
  obtain ⟨l, hl, rfl⟩ := List.mem_map.mp hx
  obtain ⟨on, _, rfl⟩ := List.mem_map.mp hl
  exact no_bar (ends3_arr _ _ _) h3

end
section
set_option maxRecDepth 100000
/-- how many row ends stand in a text -/
def cntL : List Nat → Nat
  | [] => 0
  | [_] => 0
  | x :: y :: r => (if x = 13 ∧ y = 10 then 1 else 0) + cntL (y :: r)
theorem cntL_10 : ∀ l : List Nat, cntL (10 :: l) = cntL l
  | [] => rfl
  | y :: r => by show (if (10:Nat) = 13 ∧ y = 10 then 1 else 0) + cntL (y :: r) = _; rw [if_neg (by omega)]; omega
theorem cntL_13 (l : List Nat) : cntL (13 :: 10 :: l) = 1 + cntL l := by
  show (if (13:Nat) = 13 ∧ (10:Nat) = 10 then 1 else 0) + cntL (10 :: l) = _
  rw [if_pos ⟨rfl, rfl⟩, cntL_10]
/-- a row end stands at place k -/
def EndAt (l : List Nat) (k : Nat) : Prop := l[k]? = some 13 ∧ l[k + 1]? = some 10
theorem cntL_skip : ∀ (l : List Nat) (n : Nat), (∀ k, k < n → ¬ EndAt l k) → cntL l = cntL (l.drop n)
  | _, 0, _ => rfl
  | [], _ + 1, _ => rfl
  | [_], n + 1, _ => by show (0:Nat) = cntL (([] : List Nat).drop n); rw [List.drop_nil]; rfl
  | x :: y :: r, n + 1, h => by
    have h0 : ¬ (x = 13 ∧ y = 10) := fun e => h 0 (by omega) ⟨by simp [e.1], by simp [e.2]⟩
    show (if x = 13 ∧ y = 10 then 1 else 0) + cntL (y :: r) = cntL ((y :: r).drop n)
    rw [if_neg h0, Nat.zero_add]
    exact cntL_skip (y :: r) n fun k hk e => h (k + 1) (by omega) ⟨by simpa using e.1, by simpa using e.2⟩
theorem cntL_none (l : List Nat) (h : ∀ k, ¬ EndAt l k) : cntL l = 0 := by
  rw [cntL_skip l l.length fun k _ => h k, List.drop_length]; rfl
theorem drop_end {l : List Nat} {d : Nat} (h : EndAt l d) : l.drop d = 13 :: 10 :: l.drop (d + 2) := by
  obtain ⟨h1, h2⟩ := h
  obtain ⟨l1, e1⟩ := List.getElem?_eq_some_iff.mp h1
  obtain ⟨l2, e2⟩ := List.getElem?_eq_some_iff.mp h2
  rw [List.drop_eq_getElem_cons l1, e1, List.drop_eq_getElem_cons l2, e2]
theorem end_drop {l : List Nat} {a k : Nat} : EndAt (l.drop a) k ↔ EndAt l (a + k) := by
  unfold EndAt; rw [List.getElem?_drop, List.getElem?_drop]; rfl
theorem at_end {l : List Nat} {k : Nat} : StrLaws.At (St l) (St [13, 10]) (St l).length k ↔ EndAt l k := by
  unfold StrLaws.At EndAt Builtin.Str.subAt
  rw [St_len, St_len]
  show (k + 2 ≤ l.length ∧ ((l.toArray.extract k (k + 2) == [13, 10].toArray) = true)) ↔ _
  rw [List.extract_toArray]
  constructor
  · rintro ⟨h1, h2⟩
    have e := eq_of_beq h2
    have e2 : (l.drop k).take 2 = [13, 10] := by
      have := congrArg Array.toList e
      simpa [List.extract] using this
    have g0 : ((l.drop k).take 2)[0]? = some 13 := by rw [e2]; rfl
    have g1 : ((l.drop k).take 2)[1]? = some 10 := by rw [e2]; rfl
    rw [List.getElem?_take_of_lt (by omega), List.getElem?_drop] at g0 g1
    exact ⟨g0, g1⟩
  · rintro h
    have l2 := (List.getElem?_eq_some_iff.mp h.2).1
    refine ⟨by omega, ?_⟩
    have e : l.extract k (k + 2) = [13, 10] := by
      simp only [List.extract, drop_end h]
      rw [show k + 2 - k = 2 by omega]; rfl
    rw [e]
    decide
theorem chain_cnt (l : List Nat) : ∀ (cuts : List Nat) (a f : Nat), StrLaws.ChainG (St l) (St [13, 10]) (St l).length a cuts f → (∀ k, f ≤ k → ¬ StrLaws.At (St l) (St [13, 10]) (St l).length k) → cntL (l.drop a) = cuts.length
  | [], a, f, h, hn => by
    have e : f = a := h
    subst e
    exact cntL_none _ fun k hk => hn (f + k) (by omega) (at_end.mpr (end_drop.mp hk))
  | d :: r, a, f, h, hn => by
    obtain ⟨had, hAt, hgap, hrest⟩ := h
    have ih := chain_cnt l r _ f hrest hn
    rw [cntL_skip (l.drop a) (d - a) fun k hk he => hgap (a + k) (by omega) (by omega) (at_end.mpr (end_drop.mp he)), List.drop_drop, show a + (d - a) = d by omega, drop_end (at_end.mp hAt), cntL_13]
    have e : d + (St [13, 10]).length = d + 2 := rfl
    rw [e] at ih
    rw [ih, List.length_cons]; omega
theorem count_St (l : List Nat) : Txt.count (St l) (Str.ofString "\r\n") = (cntL l : Nat) := by
  rw [lit_crlf]
  obtain ⟨f, hG, hn⟩ := StrLaws.occ_tight (St l) (St [13, 10]) (by decide)
  have := chain_cnt l _ 0 f hG hn
  rw [List.drop_zero] at this
  unfold Txt.count
  rw [this]
theorem cntL_emb {c : Nat} (h1 : c ≠ 10) (h2 : c ≠ 13) : ∀ l : List Nat, cntL (l.map (emb c)) = cntL l
  | [] => rfl
  | [_] => rfl
  | x :: y :: r => by
    have ih := cntL_emb h1 h2 (y :: r)
    rw [List.map_cons] at ih
    show (if emb c x = 13 ∧ emb c y = 10 then 1 else 0) + cntL (emb c y :: r.map (emb c)) = (if x = 13 ∧ y = 10 then 1 else 0) + cntL (y :: r)
    rw [ih]; simp only [emb10 h1, emb13 h2]
/-- the row ends of an arrived mail -/
def eN (o w : List Int) (i : Nat) : Nat := cntL (arrL (bitsI i 4) o w)
theorem count_arr (o w : List Int) (i c : Nat) (h1 : c ≠ 10) (h2 : c ≠ 13) : Txt.count (arrS (bitsI i 4) o w (St [c])) (Str.ofString "\r\n") = (eN o w i : Nat) := by
  rw [arrS_eq, count_St, cntL_emb h1 h2]; rfl

end
section
set_option maxRecDepth 100000
/-- no key stands twice -/
def NoD (c : List (Str × Int)) : Prop := (c.map (·.1)).Nodup
theorem put_keys (c : List (Str × Int)) (k : Str) (v : Int) : (kdpPut c k v).map (·.1) = if kdpHas c k = true then c.map (·.1) else c.map (·.1) ++ [k] := by
  unfold kdpPut kdpHas
  split
  · rw [List.map_map]
    refine List.map_congr_left fun p _ => ?_
    show (if decide (p.1 = k) = true then (p.1, v) else p).1 = p.1
    split <;> rfl
  · rw [List.map_append]; rfl
theorem has_mem (c : List (Str × Int)) (k : Str) : kdpHas c k = true ↔ k ∈ c.map (·.1) := by
  unfold kdpHas
  rw [List.any_eq_true]
  constructor
  · rintro ⟨p, hp, e⟩
    exact List.mem_map.mpr ⟨p, hp, of_decide_eq_true e⟩
  · intro h
    obtain ⟨p, hp, e⟩ := List.mem_map.mp h
    exact ⟨p, hp, decide_eq_true e⟩
theorem NoD.put {c : List (Str × Int)} (h : NoD c) (k : Str) (v : Int) : NoD (kdpPut c k v) := by
  unfold NoD
  rw [put_keys]
  split
  · exact h
  · rename_i hk
    rw [List.nodup_append]
    refine ⟨h, by simp, ?_⟩
    intro a ha b hb e
    rw [List.mem_singleton] at hb
    subst hb e
    exact hk ((has_mem _ _).mpr ha)
theorem NoD.cons {p : Str × Int} {c : List (Str × Int)} (h : NoD (p :: c)) : p.1 ∉ c.map (·.1) ∧ NoD c := by
  have h' : (p.1 :: c.map (·.1)).Nodup := h
  exact List.nodup_cons.mp h'
theorem copy_go : ∀ (c d : List (Str × Int)), NoD (d ++ c) → c.foldl (fun c p => kdpPut c p.1 p.2) d = d ++ c
  | [], d, _ => by simp
  | p :: c, d, h => by
    have hp : kdpHas d p.1 = false := by
      cases e : kdpHas d p.1
      · rfl
      · have hm := (has_mem _ _).mp e
        unfold NoD at h
        rw [List.map_append, List.nodup_append] at h
        exact absurd rfl (h.2.2 _ hm p.1 (by simp))
    have e : kdpPut d p.1 p.2 = d ++ [p] := by
      unfold kdpPut; unfold kdpHas at hp
      rw [hp]; rfl
    rw [List.foldl_cons, e, copy_go c (d ++ [p]) (by rw [List.append_assoc]; exact h), List.append_assoc]; rfl
theorem copy_self {c : List (Str × Int)} (h : NoD c) : copyC c = c := by
  unfold copyC; rw [copy_go c [] h]; rfl
theorem look_no {c : List (Str × Int)} {k : Str} {d : Int} (h : kdpHas c k = false) : kdpLook c k d = d := by
  unfold kdpLook kdpHas at *
  have e : (c.find? fun p => decide (p.1 = k)) = none := List.find?_eq_none.mpr fun p hp e => by
    have : (c.any fun p => decide (p.1 = k)) = true := List.any_eq_true.mpr ⟨p, hp, e⟩
    rw [h] at this; cases this
  rw [e]; rfl
theorem addC_one {c : List (Str × Int)} (h : NoD c) (k : Str) : addC c [(k, 1)] = kdpPut c k (kdpLook c k 0 + 1) := by
  show addTurn (copyC c) (k, 1) = _
  rw [copy_self h]
  unfold addTurn
  split
  · rfl
  · rename_i hk
    rw [look_no (c := c) (k := k) (by simpa using hk)]; rfl
/-- the table after the names of a list were counted -/
def tabN (c : Nat) (es : List Nat) : List (Str × Int) := es.foldl (fun t n => kdpPut t (parsedS n c) (kdpLook t (parsedS n c) 0 + 1)) []
theorem tabN_snoc (c : Nat) (es : List Nat) (n : Nat) : tabN c (es ++ [n]) = kdpPut (tabN c es) (parsedS n c) (kdpLook (tabN c es) (parsedS n c) 0 + 1) := by
  unfold tabN; rw [List.foldl_append]; rfl
theorem tabN_noD (c : Nat) : ∀ (es : List Nat) (t : List (Str × Int)), NoD t → NoD (es.foldl (fun t n => kdpPut t (parsedS n c) (kdpLook t (parsedS n c) 0 + 1)) t)
  | [], _, h => h
  | _ :: r, _, h => tabN_noD c r _ (h.put _ _)
theorem tabN_nod (c : Nat) (es : List Nat) : NoD (tabN c es) := tabN_noD c es [] List.nodup_nil
theorem tabN_len (c : Nat) : ∀ (es : List Nat) (t : List (Str × Int)), (es.foldl (fun t n => kdpPut t (parsedS n c) (kdpLook t (parsedS n c) 0 + 1)) t).length ≤ t.length + es.length
  | [], _ => Nat.le_refl _
  | n :: r, t => by
    have h1 := tabN_len c r (kdpPut t (parsedS n c) (kdpLook t (parsedS n c) 0 + 1))
    have h2 := kdpPut_len t (parsedS n c) (kdpLook t (parsedS n c) 0 + 1)
    rw [List.foldl_cons]
    simp only [List.length_cons]
    exact Nat.le_trans h1 (by omega)
theorem nameS_parsed (n c : Nat) : nameS (St [c]) (n : Int) = parsedS n c := by
  unfold nameS parsedS
  rw [lit_q, mul_St1, mul_St1, St_app]
  have e1 : ((n : Int).fdiv 2).toNat = n / 2 := by rw [Int.fdiv_eq_ediv_of_nonneg _ (by decide)]; omega
  rw [e1]
  congr 2
  rw [Int.fmod_eq_emod_of_nonneg _ (by decide)]
  split
  · rename_i h
    rw [show (1 - (n : Int) % 2).toNat = 1 by omega]; rfl
  · rename_i h
    rw [show (1 - (n : Int) % 2).toNat = 0 by omega]; rfl
theorem nameTab_tabN (c : Nat) : ∀ (ys : List Str) (es : List Nat) (t : List (Str × Int)), ys.map (fun y => Txt.count y (Str.ofString "\r\n")) = es.map (fun n : Nat => (n : Int)) →
    ys.foldl (nameTurn (St [c])) t = es.foldl (fun t n => kdpPut t (parsedS n c) (kdpLook t (parsedS n c) 0 + 1)) t
  | [], [], _, _ => rfl
  | [], _ :: _, _, h => by simp at h
  | _ :: _, [], _, h => by simp at h
  | y :: ys, n :: es, t, h => by
    rw [List.map_cons, List.map_cons] at h
    obtain ⟨h1, h2⟩ := List.cons.inj h
    rw [List.foldl_cons, List.foldl_cons]
    have e : nameTurn (St [c]) t y = kdpPut t (parsedS n c) (kdpLook t (parsedS n c) 0 + 1) := by
      unfold nameTurn
      rw [h1, nameS_parsed]
    rw [e]
    exact nameTab_tabN c ys es _ h2
/-- the rows of a table are found in itself -/
theorem rows_go (D : List (Str × Int)) : ∀ (c : List (Str × Int)), (∀ p ∈ c, PySem.Spec.lookup (PyData.str p.1) (kdpD D) = some (PyData.int p.2)) → KeqRows (kdpD D) (kdpD c) true
  | [], _ => .nil
  | p :: c, h => by
    have h1 := KeqRows.hit (k := PyData.str p.1) (v := PyData.int p.2) (h p List.mem_cons_self) (rows_go D c fun q hq => h q (List.mem_cons_of_mem _ hq))
    have e : PyData.eqv (PyData.int p.2) (PyData.int p.2) = true := by simp [PyData.eqv]
    rw [e] at h1
    exact h1
theorem look_mem : ∀ {c : List (Str × Int)}, NoD c → ∀ p ∈ c, PySem.Spec.lookup (PyData.str p.1) (kdpD c) = some (PyData.int p.2)
  | [], _, _, hp => nomatch hp
  | q :: c, h, p, hp => by
    obtain ⟨h1, h2⟩ := h.cons
    show (if PySem.Spec.same (PyData.str q.1) (PyData.str p.1) = true then some (PyData.int q.2) else PySem.Spec.lookup (PyData.str p.1) (kdpD c)) = _
    rw [PyProof.V.same_str]
    rcases List.mem_cons.mp hp with rfl | hp
    · simp
    · have hne : ¬ q.1 = p.1 := fun e => h1 (by rw [e]; exact List.mem_map.mpr ⟨p, hp, rfl⟩)
      rw [if_neg (by simp [hne])]
      exact look_mem h2 p hp
theorem rows_self {c : List (Str × Int)} (h : NoD c) : KeqRows (kdpD c) (kdpD c) true := rows_go c c fun p hp => look_mem h p hp
/-- what stands under the keys that pass a test, summed -/
def sumP (P : Str → Bool) (c : List (Str × Int)) : Int := ((c.filter fun p => P p.1).map (·.2)).sum
theorem sumP_cons (P : Str → Bool) (p : Str × Int) (c : List (Str × Int)) : sumP P (p :: c) = (if P p.1 = true then p.2 else 0) + sumP P c := by
  unfold sumP
  rw [List.filter_cons]
  split
  · rw [List.map_cons, List.sum_cons]
  · omega
theorem sumP_app (P : Str → Bool) : ∀ (a b : List (Str × Int)), sumP P (a ++ b) = sumP P a + sumP P b
  | [], b => by show _ = (0:Int) + _; simp
  | p :: a, b => by rw [List.cons_append, sumP_cons, sumP_cons, sumP_app P a b]; omega
theorem map_self {c : List (Str × Int)} {k : Str} {v : Int} (h : k ∉ c.map (·.1)) : c.map (fun p => if decide (p.1 = k) = true then (p.1, v) else p) = c := by
  refine (List.map_congr_left (g := id) fun p hp => ?_).trans (List.map_id c)
  have : ¬ p.1 = k := fun e => h (List.mem_map.mpr ⟨p, hp, e⟩)
  rw [if_neg (by simp [this])]; rfl
theorem sumP_bump (P : Str → Bool) (k : Str) : ∀ {c : List (Str × Int)}, NoD c → sumP P (kdpPut c k (kdpLook c k 0 + 1)) = sumP P c + if P k = true then 1 else 0 := by
  intro c h
  cases hk : kdpHas c k with
  | false =>
    rw [look_no hk]
    have e : kdpPut c k (0 + 1) = c ++ [(k, 1)] := by
      unfold kdpPut; unfold kdpHas at hk; rw [hk]; rfl
    rw [e, sumP_app, sumP_cons]
    show _ + ((if P k = true then 1 else 0) + (0:Int)) = _
    omega
  | true =>
    have e : ∀ v, kdpPut c k v = c.map (fun p => if decide (p.1 = k) = true then (p.1, v) else p) := by
      intro v
      unfold kdpPut; unfold kdpHas at hk; rw [if_pos hk]
    rw [e]
    clear e
    induction c with
    | nil => cases hk
    | cons q c ih =>
      obtain ⟨h1, h2⟩ := h.cons
      by_cases hq : q.1 = k
      · have e2 : kdpLook (q :: c) k 0 = q.2 := by unfold kdpLook; rw [List.find?_cons]; simp [hq]
        rw [e2, List.map_cons, map_self (by rw [← hq]; exact h1), sumP_cons, sumP_cons]
        simp only [hq, decide_true, if_true]
        split <;> omega
      · have e2 : kdpLook (q :: c) k 0 = kdpLook c k 0 := by unfold kdpLook; rw [List.find?_cons]; simp [hq]
        have hk2 : kdpHas c k = true := by
          unfold kdpHas at hk ⊢
          rw [List.any_cons] at hk
          simpa [hq] using hk
        rw [e2, List.map_cons, sumP_cons, ih h2 hk2, sumP_cons]
        simp only [hq, decide_false, Bool.false_eq_true, if_false]
        omega
theorem sumP_tab (P : Str → Bool) (c : Nat) (f : Nat → Nat) : ∀ k : Nat, sumP P (tabN c ((List.range k).map f)) = (((List.range k).map fun i => if P (parsedS (f i) c) = true then (1:Int) else 0)).sum
  | 0 => rfl
  | k + 1 => by
    rw [List.range_succ, List.map_append, List.map_append]
    show sumP P (tabN c ((List.range k).map f ++ [f k])) = _
    rw [tabN_snoc, sumP_bump P _ (tabN_nod _ _), sumP_tab P c f k, List.sum_append]
    simp

end
section
set_option maxRecDepth 100000
def sg (n : Nat) : Int := if n % 2 = 0 then 1 else -1
def sumI (f : Nat → Int) : Nat → Int
  | 0 => 0
  | i + 1 => f i + sumI f i
def oneI (o w : List Int) (i : Nat) : Int := sg (eN o w i)
def twoI (o w : List Int) (t : Int) (i : Nat) : Int := if (bitsI i 4).getD t.toNat 0 = 0 then sg (eN o w i) else - sg (eN o w i)
def dualI (o w : List Int) : Int :=
  (w.getD (o.getD 0 0).toNat 0 + 1) * (w.getD (o.getD 1 0).toNat 0 + w.getD (o.getD 3 0).toNat 0 + 1) + w.getD (o.getD 2 0).toNat 0 * (w.getD (o.getD 3 0).toNat 0 + 1) + w.getD 4 0
theorem cntL_0 (l : List Nat) : ∀ k : Nat, cntL (List.replicate k 0 ++ l) = cntL l
  | 0 => rfl
  | k + 1 => by
    rw [List.replicate_succ, List.cons_append]
    have ih := cntL_0 l k
    cases h : List.replicate k 0 ++ l with
    | nil => rw [h] at ih; rw [← ih]; rfl
    | cons y r =>
      show (if (0:Nat) = 13 ∧ y = 10 then 1 else 0) + cntL (y :: r) = _
      rw [if_neg (by omega), Nat.zero_add, ← h, ih]
theorem cntL_e (l : List Nat) : ∀ k : Nat, cntL ((List.replicate k [13, 10]).flatten ++ l) = k + cntL l
  | 0 => by simp
  | k + 1 => by
    rw [List.replicate_succ, List.flatten_cons, List.append_assoc]
    show cntL (13 :: 10 :: ((List.replicate k [13, 10]).flatten ++ l)) = _
    rw [cntL_13, cntL_e l k]; omega
def mx (a b : Int) : Nat := (if b > a then b else a).toNat
theorem cntL_seg (a b : Int) (l : List Nat) : cntL (segL a b ++ l) = mx a b + cntL l := by
  unfold segL
  rw [List.append_assoc, List.append_assoc, cntL_0, cntL_e, cntL_0]; rfl
/-- the row ends of an arrived mail, counted by its lights -/
def eR (a b c d p q r s t : Int) : Nat := mx a b + (mx b c + (mx c d + ((p + (q + (r + (s + 0)))) + t).toNat))
theorem cnt_arrN (a b c d p q r s t : Int) : cntL (arrN a b c d p q r s t) = eR a b c d p q r s t := by
  unfold arrN eR
  rw [cntL_seg, cntL_seg, cntL_seg]
  have h := cntL_e [] ((p + (q + (r + (s + 0)))) + t).toNat
  rw [List.append_nil] at h
  rw [h]; rfl
def eO (o w on : List Int) : Nat := eR (cAt on o 0) (cAt on o 1) (cAt on o 2) (cAt on o 3) (on.getD 0 0 * w.getD 0 0) (on.getD 1 0 * w.getD 1 0) (on.getD 2 0 * w.getD 2 0) (on.getD 3 0 * w.getD 3 0) (w.getD 4 0)
theorem eN_eO (o w : List Int) (i : Nat) : eN o w i = eO o w (bitsI i 4) := by
  unfold eN; rw [arrL_N, cnt_arrN]; rfl
theorem mx_le {a b : Int} (ha : 0 ≤ a ∧ a ≤ 1) (hb : 0 ≤ b ∧ b ≤ 1) : mx a b ≤ 1 := by unfold mx; split <;> omega
theorem eN_le (o : List Int) (b : Int) (i : Nat) : eN o (bitsI b 5) i ≤ 8 := by
  rw [eN_eO]
  unfold eO eR
  have h1 := mx_le (bitsI_le i 4 (o.getD 0 0).toNat) (bitsI_le i 4 (o.getD 1 0).toNat)
  have h2 := mx_le (bitsI_le i 4 (o.getD 1 0).toNat) (bitsI_le i 4 (o.getD 2 0).toNat)
  have h3 := mx_le (bitsI_le i 4 (o.getD 2 0).toNat) (bitsI_le i 4 (o.getD 3 0).toNat)
  have q0 := mul01b (bitsI_le i 4 0) (bitsI_le b 5 0)
  have q1 := mul01b (bitsI_le i 4 1) (bitsI_le b 5 1)
  have q2 := mul01b (bitsI_le i 4 2) (bitsI_le b 5 2)
  have q3 := mul01b (bitsI_le i 4 3) (bitsI_le b 5 3)
  have q4 := bitsI_le b 5 4
  unfold cAt
  omega
theorem seg_len {a b : Int} (ha : 0 ≤ a ∧ a ≤ 1) (hb : 0 ≤ b ∧ b ≤ 1) : (segL a b).length ≤ 4 := by
  have h := mx_le ha hb
  unfold mx at h
  unfold segL
  simp only [List.length_append, List.length_replicate, List.length_flatten, List.map_replicate, List.sum_replicate_nat, List.length_cons, List.length_nil]
  omega
theorem arr_lenL (o : List Int) (b : Int) (i : Nat) : (arrL (bitsI i 4) o (bitsI b 5)).length ≤ 50 := by
  rw [arrL_N]
  unfold arrN
  have h1 := seg_len (bitsI_le i 4 (o.getD 0 0).toNat) (bitsI_le i 4 (o.getD 1 0).toNat)
  have h2 := seg_len (bitsI_le i 4 (o.getD 1 0).toNat) (bitsI_le i 4 (o.getD 2 0).toNat)
  have h3 := seg_len (bitsI_le i 4 (o.getD 2 0).toNat) (bitsI_le i 4 (o.getD 3 0).toNat)
  have q0 := mul01b (bitsI_le i 4 0) (bitsI_le b 5 0)
  have q1 := mul01b (bitsI_le i 4 1) (bitsI_le b 5 1)
  have q2 := mul01b (bitsI_le i 4 2) (bitsI_le b 5 2)
  have q3 := mul01b (bitsI_le i 4 3) (bitsI_le b 5 3)
  have q4 := bitsI_le b 5 4
  simp only [List.length_append, List.length_replicate, List.length_flatten, List.map_replicate, List.sum_replicate_nat, List.length_cons, List.length_nil]
  unfold cAt
  omega

end
section
set_option maxRecDepth 100000
theorem resp_is {x : Str} (n c : Nat) (hn : n ≤ 8) (h : x = St ([50, 53, 55, 32, 34] ++ (List.replicate n 34 ++ [c, 34]))) : IsResp x n c := by
  subst h
  refine ⟨?_, ?_, ?_, ?_, ?_, ?_⟩
  · rw [St_len]; simp; omega
  · match n, hn with
    | 0, _ | 1, _ | 2, _ | 3, _ | 4, _ | 5, _ | 6, _ | 7, _ | 8, _ => rfl
    | _ + 9, h => omega
  · match n, hn with
    | 0, _ | 1, _ | 2, _ | 3, _ | 4, _ | 5, _ | 6, _ | 7, _ | 8, _ => rfl
    | _ + 9, h => omega
  · intro k h1 h2
    show ([50, 53, 55, 32, 34] ++ (List.replicate n 34 ++ [c, 34])).toArray[k]? = some 34
    rw [List.getElem?_toArray, List.getElem?_append_right (by simpa using h1), List.getElem?_append_left (by simp; omega), List.getElem?_replicate_of_lt (by simp; omega)]
  · show ([50, 53, 55, 32, 34] ++ (List.replicate n 34 ++ [c, 34])).toArray[5 + n]? = some c
    rw [List.getElem?_toArray, List.getElem?_append_right (by simp), List.getElem?_append_right (by simp)]
    simp
  · show ([50, 53, 55, 32, 34] ++ (List.replicate n 34 ++ [c, 34])).toArray[6 + n]? = some 34
    rw [List.getElem?_toArray, List.getElem?_append_right (by simp; omega), List.getElem?_append_right (by simp; omega)]
    simp [show 6 + n - 5 - n = 1 by omega]
theorem resp_of (n c : Nat) (hn : n ≤ 8) {k : Int} (hk : k = (n : Int)) : IsResp (((Str.ofString "257 \"" ++ Txt.mul (Str.ofString "\"") k) ++ St [c]) ++ Str.ofString "\"") n c := by
  refine resp_is n c hn ?_
  subst hk
  rw [lit_257, lit_q, mul_St1, St_app, St_app, St_app]
  simp
theorem last_par (n c : Nat) (hn : n ≤ 8) (hc : c ≠ 34) : (Txt.slice (parsedS n c) (some (-1)) none == St [c]) = decide (n % 2 = 0) := by
  have e0 : (St [] == St [c]) = false := by rw [St_beq]; simp
  have e1 : (St [34] == St [c]) = false := by rw [St_beq]; simpa using Ne.symm hc
  have e2 : (St [c] == St [c]) = true := by simp
  match n, hn with
  | 0, _ => rw [show Txt.slice (parsedS 0 c) (some (-1)) none = St [c] from by kernel_rfl, e2]; rfl
  | 1, _ => rw [show Txt.slice (parsedS 1 c) (some (-1)) none = St [] from by kernel_rfl, e0]; rfl
  | 2, _ => rw [show Txt.slice (parsedS 2 c) (some (-1)) none = St [c] from by kernel_rfl, e2]; rfl
  | 3, _ => rw [show Txt.slice (parsedS 3 c) (some (-1)) none = St [34] from by kernel_rfl, e1]; rfl
  | 4, _ => rw [show Txt.slice (parsedS 4 c) (some (-1)) none = St [c] from by kernel_rfl, e2]; rfl
  | 5, _ => rw [show Txt.slice (parsedS 5 c) (some (-1)) none = St [34] from by kernel_rfl, e1]; rfl
  | 6, _ => rw [show Txt.slice (parsedS 6 c) (some (-1)) none = St [c] from by kernel_rfl, e2]; rfl
  | 7, _ => rw [show Txt.slice (parsedS 7 c) (some (-1)) none = St [34] from by kernel_rfl, e1]; rfl
  | 8, _ => rw [show Txt.slice (parsedS 8 c) (some (-1)) none = St [c] from by kernel_rfl, e2]; rfl
  | _ + 9, h => omega
theorem parsed_len (n c : Nat) (hn : n ≤ 8) : (parsedS n c).length ≤ 8 := by
  unfold parsedS
  rw [St_len, List.length_append, List.length_replicate]
  split
  · simp; omega
  · simp; omega

end
section
set_option maxRecDepth 100000
def rowsT : List (List Int) := [[0,0,0,0],[1,0,0,0],[0,1,0,0],[1,1,0,0],[0,0,1,0],[1,0,1,0],[0,1,1,0],[1,1,1,0],[0,0,0,1],[1,0,0,1],[0,1,0,1],[1,1,0,1],[0,0,1,1],[1,0,1,1],[0,1,1,1],[1,1,1,1]]
def b5T : List (List Int) := [[0,0,0,0,0],[1,0,0,0,0],[0,1,0,0,0],[1,1,0,0,0],[0,0,1,0,0],[1,0,1,0,0],[0,1,1,0,0],[1,1,1,0,0],[0,0,0,1,0],[1,0,0,1,0],[0,1,0,1,0],[1,1,0,1,0],[0,0,1,1,0],[1,0,1,1,0],[0,1,1,1,0],[1,1,1,1,0],[0,0,0,0,1],[1,0,0,0,1],[0,1,0,0,1],[1,1,0,0,1],[0,0,1,0,1],[1,0,1,0,1],[0,1,1,0,1],[1,1,1,0,1],[0,0,0,1,1],[1,0,0,1,1],[0,1,0,1,1],[1,1,0,1,1],[0,0,1,1,1],[1,0,1,1,1],[0,1,1,1,1],[1,1,1,1,1]]
theorem rows_T : rowsL = rowsT := by decide +kernel
theorem b5_T : bits5 = b5T := by decide +kernel
/-- a sum over the powers of 256, the first at the low end -/
def hA : List Int → Int
  | [] => 0
  | x :: r => x + 256 * hA r
/-- the same, the first at the high end -/
def hB : Int → List Int → Int
  | a, [] => a
  | a, x :: r => hB (256 * a + x) r
theorem hA_snoc (x : Int) : ∀ l : List Int, hA (l ++ [x]) = hA l + x * 256 ^ l.length
  | [] => by show x + 256 * 0 = 0 + x * 256 ^ 0; simp
  | y :: r => by
    show y + 256 * hA (r ++ [x]) = (y + 256 * hA r) + x * 256 ^ (r.length + 1)
    rw [hA_snoc x r, Int.mul_add, Int.pow_succ, ← Int.add_assoc]
    congr 1
    rw [Int.mul_left_comm, Int.mul_comm 256 (256 ^ r.length)]
theorem hB_snoc (x : Int) : ∀ (l : List Int) (a : Int), hB a (l ++ [x]) = 256 * hB a l + x
  | [], _ => rfl
  | y :: r, a => hB_snoc x r (256 * a + y)
theorem sum_hA (g : Nat → Int) : ∀ n : Nat, sumI (fun j => g j * 256 ^ j) n = hA ((List.range n).map g)
  | 0 => rfl
  | n + 1 => by
    rw [List.range_succ, List.map_append]
    show g n * 256 ^ n + sumI (fun j => g j * 256 ^ j) n = hA ((List.range n).map g ++ [g n])
    rw [hA_snoc, sum_hA g n, List.length_map, List.length_range, Int.add_comm]
theorem sum_hB (g : Nat → Int) : ∀ n : Nat, n ≤ 16 → sumI (fun j => g j * 256 ^ (15 - j)) n = hB 0 ((List.range n).map g) * 256 ^ (16 - n)
  | 0, _ => by show (0:Int) = 0 * _; simp
  | n + 1, h => by
    rw [List.range_succ, List.map_append]
    show g n * 256 ^ (15 - n) + sumI (fun j => g j * 256 ^ (15 - j)) n = hB 0 ((List.range n).map g ++ [g n]) * 256 ^ (16 - (n + 1))
    rw [hB_snoc, sum_hB g n (by omega), show 16 - n = (16 - (n + 1)) + 1 by omega, show 15 - n = 16 - (n + 1) by omega, Int.pow_succ, Int.add_mul, Int.add_comm]
    congr 1
    rw [Int.mul_comm (256 ^ (16 - (n + 1))) 256, ← Int.mul_assoc, Int.mul_comm _ 256]
def sgs (o w : List Int) : List Int := rowsT.map fun on => sg (eO o w on)
def sg2 (o w : List Int) (t : Int) : List Int := rowsT.map fun on => if on.getD t.toNat 0 = 0 then sg (eO o w on) else - sg (eO o w on)
def small (x : Int) : Bool := x.natAbs < 2 ^ 200
def golayC (a b c d : Int) : Bool := a * b + c * d == 32 * 256 ^ 15 && (small a && (small b && (small c && small d)))
def golay (o w : List Int) (t : Int) : Bool := golayC (hA (sgs o w)) (hB 0 (sgs o w)) (hA (sg2 o w t)) (hB 0 (sg2 o w t))
def thru (o w : List Int) : Bool := (rowsT.map fun on => if eO o w on % 2 = 0 then (1:Int) else 0).sum == 10 - 4 * (dualI o w).fmod 2
theorem golay_all : (orders.all fun o => b5T.all fun w => golay o w (o.getD 0 0) && golay o w (o.getD 3 0)) = true := by decide +kernel
theorem thru_allT : (orders.all fun o => b5T.all fun w => thru o w) = true := by decide +kernel
theorem one_map (o w : List Int) : (List.range 16).map (oneI o w) = sgs o w := by
  unfold sgs
  rw [← rows_T]
  unfold rowsL
  rw [List.map_map]
  exact List.map_congr_left fun i _ => by show sg (eN o w i) = sg (eO o w (bitsI i 4)); rw [eN_eO]
theorem two_map (o w : List Int) (t : Int) : (List.range 16).map (twoI o w t) = sg2 o w t := by
  unfold sg2
  rw [← rows_T]
  unfold rowsL
  rw [List.map_map]
  exact List.map_congr_left fun i _ => by show twoI o w t i = (if (bitsI i 4).getD t.toNat 0 = 0 then sg (eO o w (bitsI i 4)) else - sg (eO o w (bitsI i 4))); unfold twoI; rw [eN_eO]
def S0 (o w : List Int) : Int := sumI (fun j => oneI o w j * 256 ^ j) 16
def S1 (o w : List Int) : Int := sumI (fun j => oneI o w j * 256 ^ (15 - j)) 16
def S2 (o w : List Int) (t : Int) : Int := sumI (fun j => twoI o w t j * 256 ^ j) 16
def S3 (o w : List Int) (t : Int) : Int := sumI (fun j => twoI o w t j * 256 ^ (15 - j)) 16
theorem S_golay (o w : List Int) (t : Int) (h : golay o w t = true) : golayC (S0 o w) (S1 o w) (S2 o w t) (S3 o w t) = true := by
  unfold S0 S1 S2 S3
  rw [sum_hA, sum_hB _ 16 (Nat.le_refl _), sum_hA, sum_hB _ 16 (Nat.le_refl _), one_map, two_map, Nat.sub_self, Int.pow_zero, Int.mul_one, Int.mul_one]
  exact h
theorem golay_ok {o : List Int} (ho : o ∈ orders) (b : Int) {t : Int} (ht : t = o.getD 0 0 ∨ t = o.getD 3 0) : golayC (S0 o (bitsI b 5)) (S1 o (bitsI b 5)) (S2 o (bitsI b 5) t) (S3 o (bitsI b 5) t) = true := by
  have h := List.all_eq_true.mp (List.all_eq_true.mp golay_all o ho) _ (b5_T ▸ mem_bits5 b)
  rw [Bool.and_eq_true] at h
  refine S_golay _ _ _ ?_
  rcases ht with rfl | rfl
  · exact h.1
  · exact h.2
theorem thru_ok {o : List Int} (ho : o ∈ orders) (b : Int) : ((List.range 16).map fun i : Nat => if eN o (bitsI b 5) i % 2 = 0 then (1:Int) else 0).sum = 10 - 4 * (dualI o (bitsI b 5)).fmod 2 := by
  have h := eq_of_beq (List.all_eq_true.mp (List.all_eq_true.mp thru_allT o ho) _ (b5_T ▸ mem_bits5 b))
  rw [← h, ← rows_T]
  unfold rowsL
  rw [List.map_map]
  congr 1
  exact List.map_congr_left fun i _ => by show _ = (if eO o (bitsI b 5) (bitsI i 4) % 2 = 0 then (1:Int) else 0); rw [eN_eO]

end
section
open PySem PySem.W PySem.Calls PyProof.Rows PyProof.V
set_option maxRecDepth 100000
/-- the part of a table whose keys pass a test -/
def tabF (P : Str → Bool) (c : List (Str × Int)) : List (Str × Int) := c.filter fun p => P p.1
theorem putAll_go (f : Str → Int) : ∀ (ks : List Str) (t : List (Str × Int)), ks.foldl (fun acc k => putD (PyData.str (id k)) (PyData.int (f k)) acc) (kdpD t) = kdpD (ks.foldl (fun t k => kdpPut t k (f k)) t)
  | [], _ => rfl
  | k :: ks, t => by rw [List.foldl_cons, List.foldl_cons, show putD (PyData.str (id k)) (PyData.int (f k)) (kdpD t) = kdpD (kdpPut t k (f k)) from kdpD_put t k (f k), putAll_go f ks]
theorem fold_pairs (f : Str → Int) : ∀ (ks : List Str) (t : List (Str × Int)), ks.foldl (fun t k => kdpPut t k (f k)) t = (ks.map fun k => (k, f k)).foldl (fun c p => kdpPut c p.1 p.2) t
  | [], _ => rfl
  | k :: ks, t => by rw [List.foldl_cons, List.map_cons, List.foldl_cons, fold_pairs f ks]
theorem look_of_mem : ∀ {c : List (Str × Int)}, NoD c → ∀ p ∈ c, kdpLook c p.1 0 = p.2 := fun {c} h p hp => by
  have h1 := look_mem h p hp
  rw [kdpD_lookup] at h1
  unfold kdpLook
  cases e : c.find? fun q => decide (q.1 = p.1) with
  | none => rw [e] at h1; cases h1
  | some q =>
    rw [e] at h1
    exact PyData.int.inj (Option.some.inj h1)
theorem NoD.filter {c : List (Str × Int)} (h : NoD c) (P : Str → Bool) : NoD (tabF P c) := List.Sublist.nodup (List.Sublist.map _ List.filter_sublist) h
theorem keys_filter (P : Str → Bool) : ∀ c : List (Str × Int), (c.map (·.1)).filter P = (tabF P c).map (·.1)
  | [] => rfl
  | p :: c => by
    unfold tabF
    rw [List.map_cons, List.filter_cons, List.filter_cons]
    split
    · rw [List.map_cons, keys_filter P c]; rfl
    · exact keys_filter P c
theorem putAll_tab {c : List (Str × Int)} (h : NoD c) (P : Str → Bool) : putAll PyData.str id (fun k => PyData.int (kdpLook c k 0)) ((c.map (·.1)).filter P) = kdpD (tabF P c) := by
  unfold putAll
  have h1 := putAll_go (fun k => kdpLook c k 0) ((c.map (·.1)).filter P) []
  rw [show kdpD [] = [] from rfl] at h1
  rw [h1, fold_pairs, keys_filter]
  have e : ((tabF P c).map (·.1)).map (fun k => (k, kdpLook c k 0)) = tabF P c := by
    rw [List.map_map]
    refine (List.map_congr_left (g := id) fun p hp => ?_).trans (List.map_id _)
    have hm : p ∈ c := (List.mem_filter.mp hp).1
    show (p.1, kdpLook c p.1 0) = p
    rw [look_of_mem h p hm]
  rw [e]
  exact congrArg kdpD (copy_self (h.filter P))
section
variable {prog : Program} {w : World} {A : Around} {E : Value → Shared → Prop} {s : Shared} {env : Env} {h₀ : Heap} {L : Addr} {m : Str → Option Value}
/-- what a part of the comprehension has, and what it must hand back -/
def Part (prog : Program) (w : World) (A : Around) (scope : Scope) (cl : List (Str × Addr)) (env : Env) (x : Str) (c : List (Str × Int)) (s₁ : Shared) (e : Env → Sem Value) (R : Str → Value → Prop) : Prop :=
  ∀ C k tk s₃ m₃ E', kdpHas c k = true → s₃.heap.Ns (compEnvC scope cl C env).locals m₃ → m₃ x = some (.str k tk) → (∀ b o, s₁.heap.get? b = some o → s₃.heap.get? b = some o) →
    wpAny (model prog w) A (e (compEnvC scope cl C env)) (fun y s₄ => R k y ∧ Keeps s₃ s₄) E' s₃
def KeySrc (prog : Program) (w : World) (A : Around) (env : Env) (scope : Scope) (cl : List (Str × Addr)) (x : Str) (ifs : List Expr) (kx vx : Expr) (h₀ : Heap) (L : Addr) (m : Str → Option Value) (Q : Value → Shared → Prop) (xv : Value) (s₁ : Shared) : Prop :=
  ∃ (d0 : Addr) (news : List (Addr × Obj)) (c : List (Str × Int)) (P : Str → Bool), xv = .ref d0 ∧ A.handled = none ∧ Fr h₀ L s₁.heap m ∧ News h₀ L s₁.heap news ∧ StrTab prog w s₁.heap d0 (kdpD c) ∧ NoD c ∧ c.length ≤ sizeLine ∧ sysModules < s₁.heap.objs.size ∧
    (∀ C k tk s₃ m₃ E', kdpHas c k = true → s₃.heap.Ns (compEnvC scope cl C env).locals m₃ → m₃ x = some (.str k tk) → (∀ b o, s₁.heap.get? b = some o → s₃.heap.get? b = some o) →
      wpAny (model prog w) A (forIn ifs true fun c r => if r = true then do let ok ← isTrue c (compEnvC scope cl C env) (eval c (compEnvC scope cl C env)); pure (ForInStep.yield ok) else pure (ForInStep.yield r))
        (fun ok s₄ => ok = P k ∧ Keeps s₃ s₄) E' s₃) ∧
    Part prog w A scope cl env x c s₁ (fun e => eval kx e) (fun k y => ∃ t, y = .str k t) ∧
    Part prog w A scope cl env x c s₁ (fun e => eval vx e) (fun k y => ∃ t, y = .int (kdpLook c k 0) t) ∧
    (∀ D o kvs h' tk, Fr h₀ L h' m → News h₀ L h' ((D, o) :: news) → (D == sysModules) = false → o.IsDictOf (strKind prog w) kvs → FlatPairs PyData.str kvs (kdpD (tabF P c)) → Q (.ref D) { s₁ with heap := h', toks := tk })
theorem newDict_acc {M : Model} {X : Value → Shared → Prop} (h : wpAny M A newDict (fun acc s₃ => acc = .ref s.heap.objs.size → X acc s₃) E s) : wpAny M A newDict X E s := fun Γ p hΓ => by
  have h1 := h Γ p hΓ
  exact h1 rfl
theorem flat_keys {kvs : List (Str × Value)} {c : List (Str × Int)} (p : FlatPairs PyData.str kvs (kdpD c)) : kvs.map (·.1) = c.map (·.1) := by
  refine List.ext_getElem? fun i => ?_
  rw [List.getElem?_map, List.getElem?_map]
  cases hk : kvs[i]? with
  | none =>
    have : c[i]? = none := by
      rw [List.getElem?_eq_none_iff] at hk ⊢
      rw [← flat_len p]; exact hk
    rw [this]; rfl
  | some q =>
    obtain ⟨k, v⟩ := q
    obtain ⟨x, t, _, hc⟩ := flat_get p hk
    rw [hc]; rfl
theorem areOf_keys : ∀ {vs : List Value} {kvs : List (Str × Value)}, vs.length = kvs.length → (∀ (j : Nat) (v : Value), vs[j]? = some v → ∃ k x, kvs[j]? = some (k, x) ∧ (strKind prog w).is k v = true) → AreOf ItemKind.str vs (kvs.map (·.1))
  | [], [], _, _ => .nil
  | [], _ :: _, h, _ => by simp at h
  | _ :: _, [], h, _ => by simp at h
  | v :: vs, q :: kvs, h, hp => by
    obtain ⟨k, x, e, hk⟩ := hp 0 v rfl
    obtain ⟨t, rfl⟩ := str_key hk
    have e' : q = (k, x) := Option.some.inj e
    subst e'
    exact .cons ⟨t, rfl⟩ (areOf_keys (by simpa using h) fun j v' hj => hp (j + 1) v' (by simpa using hj))
theorem has_get {kvs : List (Str × Value)} {c : List (Str × Int)} (p : FlatPairs PyData.str kvs (kdpD c)) {i : Nat} {k : Str} {x : Value} (h : kvs[i]? = some (k, x)) : kdpHas c k = true := by
  obtain ⟨y, t, _, hc⟩ := flat_get p h
  exact (has_mem c k).mpr (List.mem_map.mpr ⟨(k, y), List.mem_of_getElem? hc, rfl⟩)
theorem DictComp_keys {kx vx iter : Expr} {x : Str} {px : Pos} {ifs : List Expr} {scope : Scope} {cl : List (Str × Addr)} {pos : Pos} {Q : Value → Shared → Prop}
    (F₀ : Fr h₀ L s.heap m) (hclos : closureFor scope env = pure cl) (hcell : ∀ y ∈ scope.names, y.2 ≠ .cell) (hkind : scope.kind = .function)
    (hnames : ∀ y ∈ scope.names, y.2 = .local → scope.names.lookup y.1 = some .local) (hx : scope.names.lookup x = some .local)
    (h : wpAny (model prog w) A (eval iter env) (KeySrc prog w A env scope cl x ifs kx vx h₀ L m Q) E s)
    (hs : ∀ x, foldedSetIterable iter env x = pure x := by intro _; rfl) :
    wpAny (model prog w) A (eval (.DictComp kx vx [⟨.Name x px, iter, ifs, 0⟩] scope pos) env) Q E s := by
  rw [arm_eval_DictComp]
  refine wpAny_comprehension_free (use := none) rfl hs hclos hkind hnames (wpAny_mono h (fun xv s₁ h₁ => ?_) fun _ _ e => e)
  obtain ⟨d0, news, c, P, rfl, hh, F, N, T, hnd, hsz, hlow, htests, hkey, hval, hQ⟩ := h₁
  obtain ⟨lo, kvs, hd, hf⟩ := T
  have hlen := flat_len hf
  obtain ⟨ep, hm⟩ := hd.dictAt
  have hdlt : d0 < s₁.heap.objs.size := hm.lt_size
  have hLs : L < s₁.heap.objs.size := F.ns.lt
  have up : ∀ (s₃ : Shared) (it : Obj), (∀ b o, b ∉ [s₁.heap.objs.size] → (s₁.heap.push it).get? b = some o → s₃.heap.get? b = some o) → ∀ b o, s₁.heap.get? b = some o → s₃.heap.get? b = some o :=
    fun s₃ it hk b o e => hk b o (fun hm => by rcases List.mem_cons.mp hm with rfl | hm; exact Nat.lt_irrefl _ (Heap.lt_size e); cases hm) (Heap.get?_push_of_some _ e)
  refine wpAny_pyIter_dict lo hm ?_
  generalize hIt : ({ cls := .type "dict_keyiterator", data := .fields #[.ref d0, .int 0 0, .int kvs.length 0, .int ep 0] } : Obj) = it
  have hsz1 : (s₁.heap.push it).objs.size = s₁.heap.objs.size + 1 := Heap.size_push _ _
  refine newDict_acc (wpAny_mono (comp_block_walkCD (knd := strKind prog w) (RR := fun acc C r s' => acc = .ref (s₁.heap.push it).objs.size → compPost (model prog w) A E none Q acc C r s')
    (Walks.dictKeys (knd := strKind prog w) hh s₁.heap.objs.size d0 (Nat.ne_of_lt hdlt) kvs ep) (by rw [hlen]; exact hsz) (ItemKind.str.lift P) (fun v k => ∃ a, ItemKind.str.is a v ∧ k = id a) (fun v y => ∃ a, ItemKind.str.is a v ∧ Carried y (PyData.int (kdpLook c a 0))) hcell hkind hx ?st ?fp ⟨?t1, ?t2, ?t3⟩ ?rr)
    (fun acc s₃ h₃ ea => wpAny_mono h₃ (fun cenv s₄ h₄ => codeAny_mono h₄ fun r s' h' => h' ea) fun _ _ e => e) fun _ _ e => e)
  case st => exact ⟨⟨_, Heap.get?_push_size _ (by rw [← hIt]; rfl), by rw [← hIt], by rw [← hIt]; rfl⟩, hm.push _⟩
  case fp =>
    intro b hb
    show b < (s₁.heap.push it).objs.size
    rw [hsz1]
    rcases List.mem_cons.mp hb with rfl | hb
    · exact Nat.lt_succ_self _
    · rw [List.mem_singleton.mp hb]; exact Nat.lt_succ_of_lt hdlt
  case t1 =>
    rintro C i v s₃ m₃ E' ⟨k, x, hkx, hkv⟩ hn hm3 hk
    obtain ⟨t, rfl⟩ := str_key hkv
    rw [ItemKind.lift_is (K := ItemKind.str) (a := k) ⟨t, rfl⟩]
    exact htests C k t s₃ m₃ E' (has_get hf hkx) hn hm3 (up s₃ it hk)
  case t2 =>
    rintro C i v s₃ m₃ E' ⟨k, x, hkx, hkv⟩ hp hn hm3 hk
    obtain ⟨t, rfl⟩ := str_key hkv
    exact wpAny_mono (hkey C k t s₃ m₃ E' (has_get hf hkx) hn hm3 (up s₃ it hk)) (fun y s₄ h₄ => ⟨⟨k, by obtain ⟨⟨t', rfl⟩, _⟩ := h₄; exact strKind_is _ _ _ _, k, ⟨t, rfl⟩, rfl⟩, h₄.2⟩) fun _ _ e => e
  case t3 =>
    rintro C i v s₃ m₃ E' ⟨k, x, hkx, hkv⟩ hp hn hm3 hk
    obtain ⟨t, rfl⟩ := str_key hkv
    exact wpAny_mono (hval C k t s₃ m₃ E' (has_get hf hkx) hn hm3 (up s₃ it hk)) (fun y s₄ h₄ => ⟨⟨k, ⟨t, rfl⟩, by obtain ⟨⟨t', rfl⟩, _⟩ := h₄; exact Carried.int _ _⟩, h₄.2⟩) fun _ _ e => e
  case rr =>
    intro D C h' tk m' kvs' vs hD hC hDC hn hlD hl hP hF hk eD
    have eD' : D = (s₁.heap.push it).objs.size := by injection eD
    rw [hsz1] at eD'
    refine ⟨m', hn, fun h'' hs'' => ?_⟩
    have keep : ∀ b o, s₁.heap.get? b = some o → h''.get? b = some o := fun b o e =>
      hs''.extBut b o (by rintro rfl; have := Heap.get?_push_of_some it e; rw [this] at hC; cases hC) (up { s₁ with heap := h' } it hk b o e)
    obtain ⟨o, ho, hdd⟩ := Heap.dictOf_iff.mp (hlD.extBut hs''.extBut hDC)
    have hA := areOf_keys hl hP
    have hfl := storedAll_flat PyProof.V.same_str hF _ (hA.filter P)
    rw [flat_keys hf, putAll_tab hnd] at hfl
    refine hQ D o kvs' h'' tk (F.keeps keep) (fun p hp => ?_) (by rw [eD']; exact beq_eq_false_iff_ne.mpr (Nat.ne_of_gt (Nat.lt_succ_of_lt hlow))) hdd hfl
    rcases List.mem_cons.mp hp with rfl | hp
    · refine ⟨ho, fun e => ?_, ?_⟩
      · have e' : D = L := e
        rw [← e', eD'] at hLs
        exact Nat.lt_irrefl _ (Nat.lt_trans hLs (Nat.lt_succ_self _))
      · cases e : h₀.get? D with
        | none => rfl
        | some o' => rw [Heap.get?_push_of_some _ (F.keep _ _ e)] at hD; cases hD
    · exact N.grown keep p hp
end

end
section
set_option maxRecDepth 100000
set_option maxHeartbeats 8000000

/-- a call of the program's own function: the walk stops here -/
def CallAt (prog : Program) (w : World) (A : Around) (f : Addr) (vs : List Value) (Q E : Value → Shared → Prop) (s : Shared) : Prop := wpAny (model prog w) A (call (.ref f) vs) Q E s
theorem Call_at {prog : Program} {w : World} {A : Around} {f : Addr} {vs : List Value} {Q E : Value → Shared → Prop} {s : Shared} (h : CallAt prog w A f vs Q E s) : wpAny (model prog w) A (call (.ref f) vs) Q E s := h
theorem use_ctr {k : Nat} {w : World} {mean : ExcName → Option Value} {mg mb : Str → Option Value} {f : Addr} {vs : List Value} {Pre : Heap → Prop} {Ret : Shared → (Value → Shared → Prop) → Prop} (hC : CtrP k w mean mg mb f vs Pre Ret)
    {dp un : Nat} {gd : Option (List Code)} {cn : Str} {cs : Scope} {a : Addr} {ccd : Value} {cl : List (Str × Addr)} {outer : List Env} {A₀ : Around} {base h₀ : Heap} {L : Addr} {m : Str → Option Value} {s : Shared} {Q E : Value → Shared → Prop}
    (k1 : Below A₀ base outer h₀) (k2 : Fr h₀ L s.heap m) (k3 : (hd.heap_39 w.params).In h₀) (k4 : Top hd.view_39 (looseW hd.view_39 [Str.ofString "_twin_re_1"]) mean mg mb h₀) (kK : cs.kind = .function)
    (kd : dp + k < recursionLimit) (ku : un + 8 * k < cLine) (kp : Pre s.heap) (kR : Ret s Q) : CallAt PySem.Challenge.rw_xg0012_01.row.prog w (ktrTop dp un gd cn cs L a ccd cl outer) f vs Q E s :=
  hC dp un gd cn cs a ccd cl outer A₀ base h₀ L m s Q E k1 k2 k3 k4 kK kd ku kp kR

theorem OrdA.four {arr : Array Value} (h : OrdA arr) : ∃ (a b c d : Int) (t u v w : Tok), arr = #[.int a t, .int b u, .int c v, .int d w] ∧ [a, b, c, d] ∈ orders ∧ (0 ≤ a ∧ a ≤ 3) ∧ (0 ≤ b ∧ b ≤ 3) ∧ (0 ≤ c ∧ c ≤ 3) ∧ (0 ≤ d ∧ d ≤ 3) := by
  obtain ⟨o, ho, hi⟩ := h
  have hlen : ∀ o ∈ orders, o.length = 4 ∧ ∀ x ∈ o, 0 ≤ x ∧ x ≤ 3 := by decide +kernel
  obtain ⟨h4, hb⟩ := hlen o ho
  match o, h4 with
  | [a, b, c, d], _ =>
    generalize hl : arr.toList = l at hi
    cases hi with
    | cons _ t hi => cases hi with
      | cons _ u hi => cases hi with
        | cons _ v hi => cases hi with
          | cons _ w hi =>
            cases hi
            exact ⟨a, b, c, d, t, u, v, w, by rw [← Array.toArray_toList (xs := arr), hl], ho, hb _ (by simp), hb _ (by simp), hb _ (by simp), hb _ (by simp)⟩
/-- the walk is to stop here -/
structure Stop5 (X : Prop) : Prop where
  out : X
theorem Stop5.of {X : Prop} (h : Stop5 X) : X := h.out
/-- set this to make the walk stop at a comprehension -/
def KStop : Prop := True
theorem off1_mem {D : Addr} : ∀ {l : List (Addr × Obj)}, LCg.Off1 D l → ∀ p ∈ l, @Ne Nat p.1 D
  | [], _, _, hp => nomatch hp
  | _ :: _, h, p, hp => by
    rcases List.mem_cons.mp hp with rfl | hp
    · exact h.1
    · exact off1_mem h.2 p hp
theorem news_swap {h₀ h : Heap} {L : Addr} {p : Addr × Obj} {a b : List (Addr × Obj)} (N : News h₀ L h (p :: (a ++ b))) : News h₀ L h (p :: (b ++ a)) := fun q hq => N q (by
  simp only [List.mem_cons, List.mem_append] at hq ⊢
  rcases hq with h | h | h
  · exact Or.inl h
  · exact Or.inr (Or.inr h)
  · exact Or.inr (Or.inl h))
theorem name_str {o : Obj} {x : Str} {t : Tok} (h : o.data = .cell (some (.str x t))) : ∃ y, y = x ∧ o.data = .cell (some (.str y t)) := ⟨x, rfl, h⟩
theorem lenle_of {B : Nat} : ∀ {l : List Str}, (∀ y ∈ l, y.length ≤ B) → LenLe B l
  | [], _ => trivial
  | _ :: _, h => ⟨h _ List.mem_cons_self, lenle_of fun y hy => h y (List.mem_cons_of_mem _ hy)⟩
theorem lenle_range {B n : Nat} {f : Nat → Str} (h : ∀ i, i < n → (f i).length ≤ B) : LenLe B ((List.range n).map f) := lenle_of fun y hy => by
  obtain ⟨i, hi, rfl⟩ := List.mem_map.mp hy
  exact h i (List.mem_range.mp hi)
theorem arr_len (o : List Int) (b : Int) (c : Nat) (i : Nat) : (arrS (bitsI i 4) o (bitsI b 5) (St [c])).length ≤ 50 := by
  rw [arrS_eq, St_len, List.length_map]; exact arr_lenL o b i
theorem fix_ok2 {w : World} {mean : ExcName → Option Value} {mg mb : Str → Option Value} (x : Str) (tr : Tok) (hz : x.length ≤ 1000) (y : Str) (hy : y = St (fixL x.cps.toList)) :
   CtrP 2 w mean mg mb 43 [.str x tr] (fun _ => True) (RetS y) := by subst hy; exact fix_ok x tr hz
theorem join_led2 {prog : Program} {w : World} {A : Around} {E : Value → Shared → Prop} {s : Shared} {h₀ : Heap} {L a : Addr} {n B : Nat} {news : List (Addr × Obj)} {vs : List Value} {xs : List Str} {sep y : Str} {t : Tok} {Q : Value → Shared → Prop}
    (hy : y = Txt.join sep xs) (N : News h₀ L s.heap news) (hm : (a, listOf vs.toArray n) ∈ news) (hi : StrsAre vs xs) (hB : LenLe B xs) (hz : xs.length * B + xs.length * sep.length ≤ 1000000)
    (h : ∀ t' k, y.length ≤ 1000000 → Q (.str y t') { s with toks := k }) :
    wpAny (model prog w) A (call (.builtin "str.join") [.str sep t, .ref a]) Q E s := by subst hy; exact join_led N hm hi hB hz h
/-- the rows of the lights, and that none of them is a cell -/
structure RowsB (ys : List Value) (rows : List (Addr × Obj)) (k : Nat) : Prop where
  a : RowsAre ys rows k
  b : ∀ p ∈ rows, ∀ u, p.2.data ≠ .cell u
theorem RowsB.nil : RowsB [] [] 0 := ⟨.nil, fun _ h => nomatch h⟩
theorem RowsB.snoc {ys : List Value} {rows : List (Addr × Obj)} {k : Nat} {a : Addr} {vs : List Value} (h : RowsB ys rows k) (hv : IntsAre vs (bitsI k 4)) : RowsB (ys ++ [.ref a]) ((a, LCg.lst vs) :: rows) (k + 1) :=
  ⟨h.a.snoc hv, fun p hp u => by
    rcases List.mem_cons.mp hp with rfl | hp
    · exact fun e => nomatch e
    · exact h.b p hp u⟩
theorem plain_c (x : Int) : ∃ c : Nat, (⟨#[(97 + (x.fdiv 2).fmod 26).toNat]⟩ : Str) = St [c] ∧ 97 ≤ c ∧ c ≤ 122 := by
  have h1 := fmod_lo (x.fdiv 2) (show (0:Int) < 26 by decide)
  have h2 := fmod_hi (x.fdiv 2) (show (0:Int) < 26 by decide)
  exact ⟨_, rfl, by omega, by omega⟩
theorem join_len {f : Nat → Str} (h : ∀ i, (f i).length ≤ 20) : (Txt.join (Str.ofString "|") ((List.range 16).map f)).length ≤ 1000 := by
  have hB := lenle_range (n := 16) fun i _ => h i
  show (Builtin.Str.glued _ _).length ≤ _
  rw [StrLaws.glued_eq_join]
  refine Nat.le_trans (StrLaws.join_length_le _ _) ?_
  have := StrLaws.sumLen_le _ hB.all
  have e : (Str.ofString "|").length = 1 := by decide +kernel
  rw [List.length_map, List.length_range, e] at *
  omega
theorem ne_false {x y : Str} (h : x = y) : (x != y) = false := by
  subst h
  show (!(x == x)) = false
  simp
/-- what stands at the head of the i-th turn of the main loop -/
def LoopJ (w : World) (o wn : List Int) (c : Nat) (tv : Int) (D D8 : Addr) (nB : List (Addr × Obj)) (i : Nat) (m₁ : Str → Option Value) (news₁ : List (Addr × Obj)) : Prop :=
  ∃ (T d : Addr) (ob : Obj) (kvs : List (Str × Value)) (n9 : Nat) (t0 t1 t2 t3 tt : Tok), news₁ = (T, { cls := .type "tuple", data := .seq #[.int (sumI (fun j => oneI o wn j * 256 ^ j) i) t0, .int (sumI (fun j => oneI o wn j * 256 ^ (15 - j)) i) t1, .int (sumI (fun j => twoI o wn tv j * 256 ^ j) i) t2, .int (sumI (fun j => twoI o wn tv j * 256 ^ (15 - j)) i) t3, .ref d] n9 }) :: (d, ob) :: nB ∧
    (d == sysModules) = false ∧ ob.IsDictOf (PySem.strKind PySem.Challenge.rw_xg0012_01.row.prog w) kvs ∧ PyProof.V.FlatPairs PyData.str kvs (kdpD (tabN c ((List.range i).map (eN o wn)))) ∧
    m₁ (Str.ofString "total") = some (.ref T) ∧ m₁ (Str.ofString "lights") = some (.ref D) ∧ m₁ (Str.ofString "turning") = some (.int tv tt) ∧ m₁ (Str.ofString "due") = some (.ref D8)
theorem name_tail2 {h₀ h : Heap} {L : Addr} {p q : Addr × Obj} {l : List (Addr × Obj)} (N : News h₀ L h (p :: q :: l)) : ∃ l', l' = l ∧ News h₀ L h (p :: q :: l') := ⟨l, rfl, N⟩
theorem name_news {h₀ h : Heap} {L : Addr} {l : List (Addr × Obj)} (N : News h₀ L h l) : ∃ l', l' = l ∧ News h₀ L h l' := ⟨l, rfl, N⟩
theorem name_fr {h₀ h : Heap} {L : Addr} {m : Str → Option Value} (F : Fr h₀ L h m) : ∃ m', m' = m ∧ Fr h₀ L h m' := ⟨m, rfl, F⟩
theorem parse_ok2 {w : World} {mean : ExcName → Option Value} {mg mb : Str → Option Value} (n c : Nat) (tr : Tok) (hn : n ≤ 8) (hc : 97 ≤ c ∧ c ≤ 122) (x : Str) (hx : IsResp x n c) (nm : Str) (hnm : nm = parsedS n c) :
   CtrP 2 w mean mg mb 75 [.str x tr] (fun _ => True) (RetS nm) := by
  subst hnm; exact parse_ok n c tr hn hc x hx
theorem sl_sn {prog : Program} {w : World} {A : Around} {E : Value → Shared → Prop} {s : Shared} {x : Str} {t : Tok} {Q : Value → Shared → Prop} {value slice : PySem.Expr} {h₀ : Heap} {L : Addr} {m : Str → Option Value} {news : List (Addr × Obj)} {i : Int} {ui : Tok} {v : Str} (hF : Fr h₀ L s.heap m) (hN : News h₀ L s.heap news) (e : Txt.slice x (some i) none = v) (hz : x.length ≤ 1000) (h : ∀ h' t' k, Fr h₀ L h' m → News h₀ L h' news → Q (.str v t') { s with heap := h', toks := k })
    (hs : subscripted slice false (.str x t) (.ref s.heap.objs.size) = operate [.ref s.heap.objs.size, .str x t] (getItem (.str x t) (.ref s.heap.objs.size)) := by with_unfolding_all rfl)
    (ht : ∀ r, letTemporaryGo value (.str x t) r = pure () := by intro _; with_unfolding_all rfl) :
    wpAny (model prog w) A (subscriptTail value slice (.str x t) (.ref s.heap.objs.size)) Q E { s with heap := s.heap.push { cls := .type "slice", data := .fields #[.int i ui, .none, .none] } } :=
  slice_strN_sn hF hN (by rw [e]; exact h) hs ht (by rw [sizeLine_eq]; omega)
section
variable {prog : Program} {w : World} {A : Around} {E : Value → Shared → Prop} {s : Shared} {Q : Value → Shared → Prop} {value slice : PySem.Expr} {h₀ : Heap} {L : Addr} {news : List (Addr × Obj)}
theorem item_ref {a : Addr} {vs : List Value} {k : Int} {u : Tok} {v : Value} (hx : vs[k.toNat]? = some v) (N : News h₀ L s.heap news) (hm : (a, LCg.lst vs) ∈ news) (h0 : 0 ≤ k) (hk : k < 1000) (h : Q v s)
    (hs : subscripted slice false (.ref a) (.int k u) = operate [.ref a, .int k u] (getItem (.ref a) (.int k u)) := by with_unfolding_all rfl) :
    wpAny (model prog w) A (subscriptTail value slice (.ref a) (.int k u)) Q E s := by
  have hl : s.heap.IsList a vs.toArray := ⟨_, (N _ hm).1, rfl, _, rfl⟩
  have hlt : k.toNat < vs.length := (List.getElem?_eq_some_iff.mp hx).1
  exact tail_any hl.typeIs slot_list_getitem.lookup (wpAny_getItem_list hl h0 (by omega) (by simpa using hx) h) hs
theorem item_bit {a : Addr} {vs : List Value} {ns : List Int} {k b : Int} {u : Tok} (hi : IntsAre vs ns) (hb : ns.getD k.toNat 0 = b) (N : News h₀ L s.heap news) (hm : (a, LCg.lst vs) ∈ news) (h0 : 0 ≤ k) (hk : k < (ns.length : Int)) (hk2 : k < 1000) (h : ∀ t, Q (.int b t) s)
    (hs : subscripted slice false (.ref a) (.int k u) = operate [.ref a, .int k u] (getItem (.ref a) (.int k u)) := by with_unfolding_all rfl) :
    wpAny (model prog w) A (subscriptTail value slice (.ref a) (.int k u)) Q E s := by
  have hlt : k.toNat < ns.length := by omega
  obtain ⟨t, hx⟩ := hi.get k.toNat ns[k.toNat] (by simp [hlt])
  have e : ns.getD k.toNat 0 = ns[k.toNat] := by simp [List.getD, hlt]
  rw [← e, hb] at hx
  exact item_ref hx N hm h0 hk2 (h t) hs
theorem ite_join {M : Model} {env : Env} {c : Bool} {e1 e2 : PySem.Expr} (v1 v2 : Int) (h1 : c = true → ∀ Q' : Value → Shared → Prop, (∀ t tk, Q' (.int v1 t) { s with toks := tk }) → wpAny M A (eval e1 env) Q' E s)
    (h2 : c = false → ∀ Q' : Value → Shared → Prop, (∀ t tk, Q' (.int v2 t) { s with toks := tk }) → wpAny M A (eval e2 env) Q' E s)
    (h : ∀ v t tk, v = (if c = true then v1 else v2) → Q (.int v t) { s with toks := tk }) : if c = true then wpAny M A (eval e1 env) Q E s else wpAny M A (eval e2 env) Q E s := by
  cases c
  · exact h2 rfl Q fun t tk => h _ t tk rfl
  · exact h1 rfl Q fun t tk => h _ t tk rfl
theorem mul_pm {a b : Int} {t u : Tok} (ha : -1 ≤ a ∧ a ≤ 1) (h : ∀ t' v, v = a * b → Q (.int v t') { s with toks := s.toks + 1 }) : wpAny (model prog w) A (binaryOp .Mult (.int a t) (.int b u)) Q E s :=
  mul_int (h _ _ rfl) (PySem.IntMulOk.of_left (PySem.intBits_le_64 (by omega) (by omega)))
end
theorem pm_one {c : Bool} {v : Int} (h : v = if c = true then 1 else -1) : -1 ≤ v ∧ v ≤ 1 := by cases c <;> simp_all
theorem pm_two {c : Bool} {x v : Int} (h : v = if c = true then -x else x) (hx : -1 ≤ x ∧ x ≤ 1) : -1 ≤ v ∧ v ≤ 1 := by cases c <;> simp_all <;> omega
theorem news2 {h₀ h : Heap} {L : Addr} {p q : Addr × Obj} {l : List (Addr × Obj)} (N : News h₀ L h (p :: l)) (N' : News h₀ L h (q :: l)) : News h₀ L h (p :: q :: l) := fun x hx => by
  rcases List.mem_cons.mp hx with rfl | hx
  · exact N _ List.mem_cons_self
  · exact N' x hx
theorem pm_sg {n : Nat} {par : Bool} {v : Int} (hv : v = if par = true then 1 else -1) (hp : par = decide (n % 2 = 0)) : v = sg n := by
  subst hp
  rw [hv]; unfold sg
  by_cases h : n % 2 = 0 <;> simp [h]
section
variable {o w : List Int} {i n : Nat} {par : Bool} {v v2 tv bt : Int}
theorem pm_f1 (hv : v = if par = true then 1 else -1) (hp : par = decide (n % 2 = 0)) (hn : n = eN o w i) : v * 256 ^ (i : Int).toNat = oneI o w i * 256 ^ i := by
  rw [pm_sg hv hp, hn]; rfl
theorem far_e {i : Nat} (h : i < 16) : (15 - (i : Int)).toNat = 15 - i := by omega
theorem pm_f2 (hi : i < 16) (hv : v = if par = true then 1 else -1) (hp : par = decide (n % 2 = 0)) (hn : n = eN o w i) : v * 256 ^ (15 - (i : Int)).toNat = oneI o w i * 256 ^ (15 - i) := by
  rw [pm_sg hv hp, hn, far_e hi]; rfl
theorem pm_two' (hv2 : v2 = if (bt != 0) = true then -v else v) (hb : (bitsI i 4).getD tv.toNat 0 = bt) (hv : v = if par = true then 1 else -1) (hp : par = decide (n % 2 = 0)) (hn : n = eN o w i) : v2 = twoI o w tv i := by
  rw [hv2, pm_sg hv hp, hn]; unfold twoI; rw [hb]
  by_cases h : bt = 0 <;> simp [h]
theorem pm_g1 (hv2 : v2 = if (bt != 0) = true then -v else v) (hb : (bitsI i 4).getD tv.toNat 0 = bt) (hv : v = if par = true then 1 else -1) (hp : par = decide (n % 2 = 0)) (hn : n = eN o w i) : v2 * 256 ^ (i : Int).toNat = twoI o w tv i * 256 ^ i := by
  rw [pm_two' hv2 hb hv hp hn]; rfl
theorem pm_g2 (hi : i < 16) (hv2 : v2 = if (bt != 0) = true then -v else v) (hb : (bitsI i 4).getD tv.toNat 0 = bt) (hv : v = if par = true then 1 else -1) (hp : par = decide (n % 2 = 0)) (hn : n = eN o w i) : v2 * 256 ^ (15 - (i : Int)).toNat = twoI o w tv i * 256 ^ (15 - i) := by
  rw [pm_two' hv2 hb hv hp hn, far_e hi]
end
theorem neAll_get {a : Addr} : ∀ {l : List (Addr × Obj)}, NeAll a l → ∀ p ∈ l, @Ne Nat a p.1
  | [], _, _, hp => nomatch hp
  | _ :: _, h, p, hp => by
    rcases List.mem_cons.mp hp with rfl | hp
    · exact h.1
    · exact neAll_get h.2 p hp
theorem tab_next {kvs : List (Str × Value)} {f : Nat → Nat} {c i n : Nat} {nm : Str} (h : PyProof.V.FlatPairs PyData.str kvs (kdpD (addC (tabN c ((List.range i).map f)) [(nm, 1)]))) (hnm : nm = parsedS n c) (hn : n = f i) :
    PyProof.V.FlatPairs PyData.str kvs (kdpD (tabN c ((List.range (i + 1)).map f))) := by
  rw [map_range_snoc, tabN_snoc, ← hn, ← hnm, ← addC_one (tabN_nod c _)]
  exact h
theorem ne_cell {h₀ h : Heap} {L c : Addr} {oc : Obj} {l : List (Addr × Obj)} (N : News h₀ L h l) (hc : (c, oc) ∈ l) {v : Option Value} (hd : oc.data = .cell v) : ∀ p ∈ l, (∀ u, p.2.data ≠ .cell u) → @Ne Nat p.1 c := fun p hp hu e => by
  have h1 := (N p hp).1
  have h2 := (N _ hc).1
  have e' : p.1 = c := e
  rw [e', h2] at h1
  exact hu v (by rw [← Option.some.inj h1]; exact hd)
theorem seq_nc {vs : Array Value} {n : Nat} : ∀ u, Data.seq vs n ≠ .cell u := fun _ e => nomatch e
theorem dict_nc {prog : Program} {w : World} {o : Obj} {kvs : List (Str × Value)} (h : o.IsDictOf (PySem.strKind prog w) kvs) : ∀ u, o.data ≠ .cell u := fun u e => by
  obtain ⟨_, _, _, hd, _⟩ := h
  rw [hd] at e; cases e
/-- the names' table of a law's run -/
def TB (o w : List Int) (c : Nat) : List (Str × Int) := tabN c ((List.range 16).map (eN o w))
theorem count_TB (o w : List Int) (c : Nat) : ((TB o w c).map (·.2)).sum = 16 := by
  have h := sumP_tab (fun _ => true) c (eN o w) 16
  have e : sumP (fun _ => true) (TB o w c) = ((TB o w c).map (·.2)).sum := by
    unfold sumP
    rw [List.filter_eq_self.mpr fun _ _ => rfl]
  rw [← e]
  exact h.trans (by decide)
theorem TB_len (o w : List Int) (c : Nat) : (TB o w c).length ≤ 16 := by
  have h1 := tabN_len c ((List.range 16).map (eN o w)) []
  rw [List.length_map, List.length_range] at h1
  exact Nat.le_trans h1 (by simp)
theorem names_TB {o : List Int} {b : Int} {c : Nat} (h1 : c ≠ 10) (h2 : c ≠ 13) : nameTab (St [c]) ((List.range 16).map fun i : Nat => arrS (bitsI i 4) o (bitsI b 5) (St [c])) = TB o (bitsI b 5) c := by
  refine nameTab_tabN c _ _ [] ?_
  rw [List.map_map, List.map_map]
  exact List.map_congr_left fun i _ => count_arr o (bitsI b 5) i c h1 h2
theorem names_ok2 {w : World} {mean : ExcName → Option Value} {mg mb : Str → Option Value} {vs : List Value} {o : List Int} {b : Int} {c : Nat} (a : Addr) (tp : Tok) (hi : StrsAre vs ((List.range 16).map fun i : Nat => arrS (bitsI i 4) o (bitsI b 5) (St [c]))) (ho : o ∈ orders) (h1 : c ≠ 10) (h2 : c ≠ 13) :
   CtrP 2 w mean mg mb 136 [.ref a, .str (St [c]) tp] (fun h => h.IsList a vs.toArray) (RetD w (TB o (bitsI b 5) c)) := by
  have h := names_ok (w := w) (mean := mean) (mg := mg) (mb := mb) vs _ a (St [c]) tp hi (by rw [List.length_map, List.length_range]; decide) rfl (fun y hy => by
    obtain ⟨i, hi, rfl⟩ := List.mem_map.mp hy
    rw [count_arr o (bitsI b 5) i c h1 h2]
    have := eN_le o b i
    omega)
  rw [names_TB h1 h2] at h
  exact h
theorem count_ok2 {w : World} {mean : ExcName → Option Value} {mg mb : Str → Option Value} (c : List (Str × Int)) (n : Int) (a : Addr) (hn : (c.map (·.2)).sum = n) :
   CtrP 2 w mean mg mb 103 [.ref a] (fun h => StrTab PySem.Challenge.rw_xg0012_01.row.prog w h a (kdpD c)) (RetI n) := by subst hn; exact count_ok c a
theorem ints_get {vs : List Value} {ns : List Int} (h : IntsAre vs ns) : ∀ {i : Nat} {v : Value}, vs[i]? = some v → ∃ p t, v = .int p t ∧ ns[i]? = some p := by
  induction h with
  | nil => intro i v e; simp at e
  | cons x t _ ih =>
    intro i v e
    cases i with
    | zero => exact ⟨x, t, (Option.some.inj (by simpa using e)).symm, by simp⟩
    | succ i => exact ih (by simpa using e)
theorem ints4 {zs : List Value} {a b c d : Int} (h : IntsAre zs [a, b, c, d]) : ∃ t u v w : Tok, zs = [.int a t, .int b u, .int c v, .int d w] := by
  cases h with
  | cons _ t h => cases h with
    | cons _ u h => cases h with
      | cons _ v h => cases h with
        | cons _ w h => cases h; exact ⟨t, u, v, w, rfl⟩
theorem take_map_snoc {α β : Type} {l : List α} {i : Nat} {x : α} (f : α → β) (h : l[i]? = some x) : (l.take (i + 1)).map f = (l.take i).map f ++ [f x] := by
  rw [List.take_add_one, h]; simp
section
variable {prog : Program} {w : World} {A : Around} {E : Value → Shared → Prop} {s : Shared} {Q : Value → Shared → Prop} {value slice : PySem.Expr} {h₀ : Heap} {L : Addr} {news : List (Addr × Obj)}
theorem item_bit2 {a : Addr} {vs : List Value} {ns : List Int} {k b : Int} {u : Tok} (hb : ns.getD k.toNat 0 = b) (hi : IntsAre vs ns) (N : News h₀ L s.heap news) (hm : (a, LCg.lst vs) ∈ news) (h0 : 0 ≤ k) (hk : k < (ns.length : Int)) (hk2 : k < 1000) (h : ∀ t, Q (.int b t) s)
    (hs : subscripted slice false (.ref a) (.int k u) = operate [.ref a, .int k u] (getItem (.ref a) (.int k u)) := by with_unfolding_all rfl) :
    wpAny (model prog w) A (subscriptTail value slice (.ref a) (.int k u)) Q E s := item_bit hi hb N hm h0 hk hk2 h hs
end
theorem tabN_key {c : Nat} (S : Str → Prop) : ∀ (es : List Nat) (t : List (Str × Int)), (∀ k ∈ t.map (·.1), S k) → (∀ n ∈ es, S (parsedS n c)) → ∀ k ∈ (es.foldl (fun t n => kdpPut t (parsedS n c) (kdpLook t (parsedS n c) 0 + 1)) t).map (·.1), S k
  | [], _, h, _, k, hk => h k hk
  | n :: es, t, h, h2, k, hk => by
    rw [List.foldl_cons] at hk
    refine tabN_key S es _ (fun k' hk' => ?_) (fun n' hn' => h2 n' (List.mem_cons_of_mem _ hn')) k hk
    rw [put_keys] at hk'
    split at hk'
    · exact h k' hk'
    · rcases List.mem_append.mp hk' with q | q
      · exact h k' q
      · rw [List.mem_singleton.mp q]; exact h2 n List.mem_cons_self
theorem TB_key {o : List Int} (ho : o ∈ orders) {b : Int} {c : Nat} {k : Str} (h : kdpHas (TB o (bitsI b 5) c) k = true) : ∃ n : Nat, n ≤ 8 ∧ k = parsedS n c :=
  tabN_key (fun k => ∃ n : Nat, n ≤ 8 ∧ k = parsedS n c) _ [] (fun _ h => nomatch h) (fun n hn => by
    obtain ⟨i, hi, rfl⟩ := List.mem_map.mp hn
    exact ⟨_, eN_le o b i, rfl⟩) k ((has_mem _ _).mp h)
theorem TB_klen {o : List Int} (ho : o ∈ orders) {b : Int} {c : Nat} {k : Str} (h : kdpHas (TB o (bitsI b 5) c) k = true) : k.length ≤ 8 := by
  obtain ⟨n, hn, rfl⟩ := TB_key ho h
  exact parsed_len n c hn
theorem thru_sum {o : List Int} (ho : o ∈ orders) (b : Int) (c : Nat) (hc : c ≠ 34) : ((List.range 16).map fun i : Nat => if (Txt.slice (parsedS (eN o (bitsI b 5) i) c) (some (-1)) none == St [c]) = true then (1:Int) else 0) = ((List.range 16).map fun i : Nat => if eN o (bitsI b 5) i % 2 = 0 then (1:Int) else 0) := by
  refine List.map_congr_left fun i hi => ?_
  rw [last_par _ c (eN_le o b i) hc]
  by_cases e : eN o (bitsI b 5) i % 2 = 0
  · rw [if_pos (decide_eq_true e), if_pos e]
  · rw [if_neg (by simp [e]), if_neg e]
theorem thru_TB {o : List Int} (ho : o ∈ orders) (b : Int) (c : Nat) (hc : c ≠ 34) : ((tabF (fun k => Txt.slice k (some (-1)) none == St [c]) (TB o (bitsI b 5) c)).map (·.2)).sum = 10 - 4 * (dualI o (bitsI b 5)).fmod 2 := by
  have h : sumP (fun k => Txt.slice k (some (-1)) none == St [c]) (TB o (bitsI b 5) c) = _ := sumP_tab (fun k => Txt.slice k (some (-1)) none == St [c]) c (eN o (bitsI b 5)) 16
  have h2 := thru_ok ho b
  rw [thru_sum ho b c hc, h2] at h
  exact h
section
variable {prog : Program} {w : World} {A : Around} {E : Value → Shared → Prop} {s : Shared} {x : Str} {t : Tok} {Q : Value → Shared → Prop} {value slice : PySem.Expr}
theorem sl_keep {P : Heap → Prop} {i : Int} {ui : Tok} {v : Str} (hk : KeptH P) (hI : P s.heap) (e : Txt.slice x (some i) none = v) (hz : x.length ≤ 1000) (h : ∀ h' t' k, P h' → Q (.str v t') { s with heap := h', toks := k })
    (hs : subscripted slice false (.str x t) (.ref s.heap.objs.size) = operate [.ref s.heap.objs.size, .str x t] (getItem (.str x t) (.ref s.heap.objs.size)) := by with_unfolding_all rfl)
    (ht : ∀ r, letTemporaryGo value (.str x t) r = pure () := by intro _; with_unfolding_all rfl) :
    wpAny (model prog w) A (subscriptTail value slice (.str x t) (.ref s.heap.objs.size)) Q E { s with heap := s.heap.push { cls := .type "slice", data := .fields #[.int i ui, .none, .none] } } :=
  tail_of_ItemOn (SBH.sliceItem_sn hk hI (by rw [e]; exact h) (by rw [sizeLine_eq]; omega)) hs ht
theorem stay_kept {h₀ g : Heap} {L : Addr} {news : List (Addr × Obj)} : KeptH (fun h => g.StaysIn h ∧ News h₀ L h news) := fun h ob a => ⟨fun b o e => Heap.get?_push_of_some _ (a.1 b o e), a.2.pushKeep ob⟩
end
theorem tv_cases {a b c d x tv : Int} (h : tv = [a, b, c, d].getD (3 * x.fmod 2).toNat 0) : tv = [a, b, c, d].getD 0 0 ∨ tv = [a, b, c, d].getD 3 0 := by
  have h1 := fmod_lo x (show (0:Int) < 2 by decide)
  have h2 := fmod_hi x (show (0:Int) < 2 by decide)
  have : x.fmod 2 = 0 ∨ x.fmod 2 = 1 := by omega
  rcases this with e | e
  · rw [e] at h; exact Or.inl h
  · rw [e] at h; exact Or.inr h
theorem small_ok {a b : Int} (ha : small a = true) (hb : small b = true) : IntMulOk a b := by
  have ha' : a.natAbs < 2 ^ 200 := of_decide_eq_true ha
  have hb' : b.natAbs < 2 ^ 200 := of_decide_eq_true hb
  exact PySem.IntMulOk.of_bits (Nat.le_trans (intBits_le ha') (by decide)) (Nat.le_trans (intBits_le hb') (by decide))
theorem golay_use {a b c d : Int} (h : golayC a b c d = true) : a * b + c * d = 32 * 256 ^ 15 ∧ IntMulOk a b ∧ IntMulOk c d := by
  unfold golayC at h
  simp only [Bool.and_eq_true] at h
  obtain ⟨h1, ha, hb, hc, hd⟩ := h
  exact ⟨eq_of_beq h1, small_ok ha hb, small_ok hc hd⟩
theorem int2ap_ok2 {w : World} {mean : ExcName → Option Value} {mg mb : Str → Option Value} (x : Int) (t : Tok) (hx : x = 32 * 256 ^ 15) :
   CtrP 2 w mean mg mb 82 [.int x t] (fun h => True) (RetB #[67,65,65,65,65,65,65,65,65,65,65,65,65,65,65,65,65,65,65,65,65,65,65,65,65,65,65,65,65,65,65,65]) := by subst hx; exact int2ap_ok t
theorem ret_true {qk : Flow → Shared → Prop} {b : Bool} {s : Shared} (hb : b = true) (h : qk (.ret (.bool true)) s) : qk (.ret (.bool b)) s := by subst hb; exact h
theorem no_raise (args : List WData) : ∀ cls, (PySem.Challenge.rw_xg0012_01.row.claim).raises args cls = false := raisesW_false allW_false_nil
theorem post_true (args : List WData) : (PySem.Challenge.rw_xg0012_01.row.claim).post args (.bool true) args = true := by wrow_post
section
local macro_rules | `(tactic| walk_at "call builtin:str.split") => `(tactic| (k_here; (with_reducible rename KStop => kst9); (with_reducible refine Stop5.of ?_)))
local macro_rules | `(tactic| walk_at "CompSrc") => `(tactic| (k_here; (with_reducible rename KStop => kst9); (with_reducible refine Stop5.of ?_)))
local macro_rules | `(tactic| walk_at "SrcV") => `(tactic| (k_here; (with_reducible rename KStop => kst9); (with_reducible refine Stop5.of ?_)))
local macro_rules | `(tactic| walk_at "eval Name") => `(tactic| (k_here; (with_reducible rename KStop => kst9); (with_reducible show wpAny _ _ (eval (Expr.Name _ _) (compEnvC _ _ _ _)) _ _ _); (refine ld_cellC rfl rfl rfl (by k_asm) (by k_mem) (by assumption) ?_)))
local macro_rules | `(tactic| walk_at "compareOp NotEq str str") => `(tactic| (k_here; (refine neS (b := false) (by assumption) ?_)))
local macro_rules | `(tactic| walk_at "call ref") => `(tactic| (k_here; (with_reducible refine Call_at ?_)))
local macro_rules | `(tactic| walk_at "subscriptTail Name Slice str ref") => `(tactic| (k_here; (with_reducible rename Fr _ _ _ _ => F'); (with_reducible rename News _ _ _ _ => N'); (refine sl_sn (s := ⟨_, _, _, _, _⟩) F' N' (by with_reducible assumption) (by omega) ?_); (clear F' N'); intro h' t' k' F' N'))
local macro_rules | `(tactic| walk_at "compareOp Eq str str") => `(tactic| (k_here; (refine eqS (by with_reducible assumption) ?_)))
local macro_rules | `(tactic| walk_at "ite") => `(tactic| (k_here; (refine' ite_join _ _ ?j1 ?j2 ?j3); (case j1 => (intro _ Q' hQ'; repeat (first | exact hQ' _ _ | walk1))); (case j2 => (intro _ Q' hQ'; repeat (first | exact hQ' _ _ | walk1))); (intro v' t' tk' hv'; first | have hp' := pm_one hv' | have hp' := pm_two hv' (by assumption))))
local macro_rules | `(tactic| walk_at "subscriptTail Name Name ref int") => `(tactic| (k_here; (with_reducible rename News _ _ _ _ => N'); (refine item_ref (by with_reducible assumption) N' (by k_mem) (by omega) (by omega) ?_)))
local macro_rules | `(tactic| walk_at "mine bit") => `(tactic| (k_here; (with_reducible rename News _ _ _ _ => N'); (refine item_bit2 (by with_reducible assumption) (by with_reducible assumption) N' (by repeat (first | with_reducible exact List.mem_cons_self | with_reducible assumption | with_reducible refine List.mem_cons_of_mem _ ?_ | with_reducible refine List.mem_append_left _ ?_)) (by omega) (by rw [bitsI_len]; omega) (by omega) ?_); (intro t')))
local macro_rules | `(tactic| walk_at "subscriptTail Subscript Name ref int") => `(tactic| walk_at "mine bit")
local macro_rules | `(tactic| walk_at "binaryOp Mult int int") => `(tactic| (k_here; (refine mul_pm (by with_reducible assumption) ?_); (intro t' v' hv')))
local macro_rules | `(tactic| walk_at "subscriptTail Name Name ref int") => `(tactic| walk_at "mine bit")
local macro_rules | `(tactic| walk_at "last subscriptTail") => `(tactic| walk_at "mine bit")
local macro_rules | `(tactic| walk_at "eval Dict") => `(tactic| (k_here; (with_reducible show wpAny (model ?prog ?w) _ (eval (PySem.Expr.Dict [some (PySem.Expr.Name _ _)] _ _) _) _ _ _); (refine' kdn_eval (knd := PySem.strKind _ _) ?F ?N ?b ?a ?l ?e ?n ?j9; (case F => k_asm); (case N => first | k_asm | exact News.nil); (case b => exact Top.nolimit (by k_asm)); (case a => rfl); (case l => rfl); (case e => exact List.cons_ne_nil _ _); (case n => exact Nat.le_of_ble_eq_true rfl)); intro d' h' o' F' N' l1 lo' hd'; (try k_lt l1)))
local macro_rules | `(tactic| k_all) => `(tactic| (with_reducible assumption))
local macro_rules | `(tactic| walk_at "compareOp NotEq ref ref") => `(tactic| (k_here; (refine' kne_tabs PyProof.V.same_str ?t1 ?t2 ?t3 ?t4 ?t5 ?t6; (case t1 => assumption); (case t2 => assumption); (case t3 => rfl); (case t4 => ktr_units); (case t5 => assumption))))
local macro_rules | `(tactic| walk_at "subscriptTail Name Constant ref int") => `(tactic| walk_at "mine bit")
local macro_rules | `(tactic| walk_at "eval DictComp") => `(tactic| (k_here; (with_reducible rename KStop => kst9); (with_reducible refine Stop5.of ?_)))
local macro_rules | `(tactic| walk_at "truthy int") => `(tactic| (k_here; (refine truthy_int ?_); (with_reducible refine Stop5.of ?_)))
theorem fin0 : PySem.Challenge.rw_xg0012_01.Holds := Mine.hd (by
  k_go0
  all_goals (try k_fold)
  k_steps
  rename IntsAre _ _ => hI
  rename (¬ _ < _) => hLen
  rename Heap.IsList _ _ _ => hLs
  rename Fr _ _ _ _ => F
  rename News _ _ _ _ => N
  refine' use_ctr (cells_ok _ _ _ hI (by omega)) ?a1 ?b1 ?c1 ?d1 ?e1 ?f1 ?g1 ?h1 ?i1
  ((case a1 => k_asm); (case b1 => k_asm); (case c1 => k_asm); (case d1 => k_asm); (case e1 => first | exact rfl | assumption); (case f1 => ktr_room); (case g1 => ktr_units))
  case h1 => exact hLs.at fun o e => F.keep _ o e
  rintro aC arr nC h' tk' ⟨cA, cB, cC, tA, tB, tC, rfl, hA, hB, hC⟩ hst hget hnone
  have F2 := back_fr F hst
  obtain ⟨N2, hne⟩ := back_new F N hst hget hnone
  dsimp only [NeAll] at hne
  clear F N
  k_steps
  rename Fr _ _ _ _ => F
  rename News _ _ _ _ => N
  refine' use_ctr (order_ok cA _ hA.1 hA.2) ?a2 ?b2 ?c2 ?d2 ?e2 ?f2 ?g2 ?h2 ?i2
  ((case a2 => k_asm); (case b2 => k_asm); (case c2 => k_asm); (case d2 => k_asm); (case e2 => first | exact rfl | assumption); (case f2 => ktr_room); (case g2 => ktr_units))
  case h2 => trivial
  intro aO arrO nO h'' tk'' hOrd hst2 hget2 hnone2
  obtain ⟨oA, oB, oC, oD, uA, uB, uC, uD, rfl, hOrd2, hoA, hoB, hoC, hoD⟩ := hOrd.four
  clear hOrd
  have F2 := back_fr F hst2
  obtain ⟨N2, hne2⟩ := back_new F N hst2 hget2 hnone2
  dsimp only [NeAll] at hne2
  clear F N
  k_steps
  rename_i dPl t6 t7 h6 F N
  rename IntsAre _ _ => hOw
  have hOw2 : IntsAre _ (bitsI cB 5) := hOw
  clear hOw
  obtain ⟨pl, hpl, dPl2⟩ := name_str dPl
  clear dPl
  obtain ⟨c, hpc, hc97, hc122⟩ := plain_c ([cA, cB, cC].getD (Int.toNat 2) 0)
  rw [hpc] at hpl
  clear hpc
  subst hpl
  have hpl1 : (St [c]).length = 1 := rfl
  have kst : KStop := trivial
  refine Assign_V (n := 16) F rfl (by with_unfolding_all rfl) rfl (by decide) rfl rfl (by decide) rfl rfl ?_
  k_steps
  rename Fr _ _ _ _ => F
  rename News _ _ _ _ => N
  rename IsRange _ _ _ _ _ _ _ _ => hR
  obtain ⟨n0, hn0, N0⟩ := name_news N
  obtain ⟨m0, hm0, F0⟩ := name_fr F
  rw [← hm0]
  refine ⟨?_⟩
  refine ⟨_, 0, _, _, _, n0, fun i ys news => ∃ rows, news = rows ++ n0 ∧ RowsB ys rows i, rfl, rfl, F0, N0, hR, by decide, by decide, by rw [sizeLine_eq]; decide, ⟨[], rfl, .nil⟩, ?turnL, ?finL⟩
  case turnL =>
    clear hm0 hn0 N F
    rintro i v ys I oI C oC V oV D news h tk E' hi ⟨rows, rfl, hr⟩ ⟨t, rfl⟩ hV F N off ne
    refine LCg.ListComp_U (F₀ := F) rfl (by decide) rfl (by decide) rfl ?_
    k_steps
    rename Fr _ _ _ _ => F
    rename News _ _ _ _ => N
    rename IsRange _ _ _ _ _ _ _ _ => hR2
    refine ⟨?_⟩
    refine LCg.CompSrc.range (n := 4) rfl F N hR2 (by decide) rfl (by rw [sizeLine_eq]; decide) ?_
    intro g
    refine comp_inv 4 (fun j zs nw => nw = (I, oI) :: (C, oC) :: (V, oV) :: (D, LCg.lst ys) :: (rows ++ n0) ∧ IntsAre zs (bitsI i j)) ?turnR ?finR 4 0 [] _ rfl ⟨rfl, .nil⟩
    case turnR =>
      clear F N hR2
      rintro j v2 zs I2 oI2 C2 oC2 D2 m2 nw h2 tk2 E2 hj ⟨rfl, hz⟩ ⟨t2, rfl⟩ hC2 hx2 F2 N2 off2 ne2
      k_steps
      unfold LCg.CompEnd
      refine ⟨_, _, _, rfl, F2, N2, off2, trivial, rfl, ?_⟩
      rw [bitsI_succ, show bitI (i : Int) j = Builtin.bitAnd ((0 + (i : Int)).fdiv (2 ^ (0 + (j : Int)).toNat)) 1 from by unfold bitI; simp]
      exact ints_snoc hz
    case finR =>
      rintro zs nw ⟨rfl, hz⟩
      unfold LCg.FinE
      intro D2 h3 tk3 F3 N3 o3
      have o4 : ∀ p ∈ (I, oI) :: (C, oC) :: (V, oV) :: (D, LCg.lst ys) :: (rows ++ n0), @Ne Nat p.1 D2 := off1_mem o3
      refine ⟨_, _, (D2, LCg.lst zs) :: (rows ++ n0), rfl, F3, ?_, ?_, (D2, LCg.lst zs) :: rows, rfl, hr.snoc hz⟩
      · intro p hp
        refine N3 p ?_
        simp only [List.mem_cons] at hp ⊢
        rcases hp with h | h | h | h | h | h <;> simp [h]
      · intro p hp
        rcases List.mem_cons.mp hp with rfl | hp
        · exact ⟨Ne.symm (o4 _ List.mem_cons_self), Ne.symm (o4 (C, oC) (by simp)), Ne.symm (o4 (V, oV) (by simp)), Ne.symm (o4 (D, LCg.lst ys) (by simp))⟩
        · exact off p hp
  case finL =>
    clear N F
    rintro D h3 tk3 ys nw F3 N3 o3 ⟨rows, rfl, hr⟩
    subst hm0 hn0
    have N4 := news_swap N3
    clear N3
    simp only [List.cons_append, List.nil_append] at N4
    k_steps
    rename Fr _ _ _ _ => F5
    rename News _ _ _ _ => N5
    have e16 : ys.toArray.size = 16 := by rw [List.size_toArray, hr.a.len]
    refine ⟨?_⟩
    refine LCg.CompSrc.ledger rfl F5 N5 (by k_mem) (by rw [e16, sizeLine_eq]; decide) ?_
    intro g
    rw [e16]
    obtain ⟨n5, hn5, N5'⟩ := name_news N5
    refine comp_inv 16 (fun i zs nw => nw = n5 ∧ StrsAre zs ((List.range i).map fun i : Nat => mailS (bitsI i 4) [oA, oB, oC, oD] (bitsI cB 5) (St [c]))) ?turnM ?finM 16 0 [] _ rfl ⟨hn5.symm, .nil⟩
    case turnM =>
      clear F5 N5 N5'
      rintro i v zs I qI C qC Dm m2 nw h4 tk4 E4 hi ⟨rfl, hz⟩ hv hC4 hx4 F6 N6 off6 ne6
      obtain ⟨aR, vs, hv2, hmem, hIv⟩ := hr.a.row i hi
      have hv3 : v = .ref aR := Option.some.inj (hv.symm.trans (by simpa using hv2))
      subst hv3
      subst hn5
      k_steps
      rename News _ _ _ _ => N7
      refine' use_ctr (mail_ok (bitsI i 4) [oA, oB, oC, oD] (bitsI cB 5) vs _ _ _ (St [c]) aR _ _ hIv (bitsI_len _ _) (.cons _ uA (.cons _ uB (.cons _ uC (.cons _ uD .nil)))) rfl hOw2 (bitsI_len _ _) (bitsI_le _ _) (four_le hoA hoB hoC hoD) (bitsI_le _ _) hpl1) ?a3 ?b3 ?c3 ?d3 ?e3 ?f3 ?g3 ?h3 ?i3
      ((case a3 => k_asm); (case b3 => k_asm); (case c3 => k_asm); (case d3 => k_asm); (case e3 => first | exact rfl | assumption); (case f3 => ktr_room); (case g3 => ktr_units))
      case h3 => exact ⟨⟨_, (N7 (aR, LCg.lst vs) (by simp [hmem])).1, rfl, _, rfl⟩, ⟨_, (N7 (_, _) (by k_mem)).1, rfl, _, rfl⟩, ⟨_, (N7 (_, _) (by k_mem)).1, rfl, _, rfl⟩⟩
      intro tM hM tkM stM
      rename Fr _ _ _ _ => F7
      have F8 := back_fr F7 stM
      have N8 := back_news N7 stM
      clear F7 N7
      k_steps
      refine comp_end F8 N8 off6 (Or.inr ⟨_, by k_mem, rfl, _, rfl⟩) ⟨rfl, strs_step hz⟩
    case finM =>
      clear F5 N5 N5'
      rintro zs nw ⟨rfl, hz⟩
      subst hn5
      unfold LCg.FinE
      intro D5 h5 tk5 F5 N5 o5
      k_steps
      refine join_led (B := 20) N5 (by k_mem) hz (lenle_range fun i _ => mail_len _ _ _ _ hpl1 (bitsI_le _ _) (bitsI_le _ _)) (by rw [List.length_map, List.length_range]; exact Nat.le_of_ble_eq_true rfl) fun t6 k6 hl6 => ?_
      k_steps
      rename News _ _ _ _ => N6
      have hjl := join_len (f := fun i : Nat => mailS (bitsI i 4) [oA, oB, oC, oD] (bitsI cB 5) (St [c])) (fun i => mail_len _ _ _ _ hpl1 (bitsI_le _ _) (bitsI_le _ _))
      obtain ⟨sx, hsx⟩ : ∃ sx, sx = St (fixL (Txt.join (Str.ofString "|") ((List.range 16).map fun i : Nat => mailS (bitsI i 4) [oA, oB, oC, oD] (bitsI cB 5) (St [c]))).cps.toList) := ⟨_, rfl⟩
      refine' use_ctr (fix_ok2 _ _ hjl sx hsx) ?a4 ?b4 ?c4 ?d4 ?e4 ?f4 ?g4 ?h4 ?i4
      ((case a4 => k_asm); (case b4 => k_asm); (case c4 => k_asm); (case d4 => k_asm); (case e4 => first | exact rfl | assumption); (case f4 => ktr_room); (case g4 => ktr_units))
      case h4 => trivial
      intro tS hS tkS stS
      rename Fr _ _ _ _ => F6
      have F7 := back_fr F6 stS
      have N7 := back_news N6 stS
      clear F6 N6
      k_steps
      rename Fr _ _ _ _ => F8
      rename News _ _ _ _ => N8
      refine ⟨?_⟩
      refine LCg.CompSrc.ledger rfl F8 N8 (by k_mem) (by rw [e16, sizeLine_eq]; decide) ?_
      intro g
      rw [e16]
      obtain ⟨n8, hn8, N8'⟩ := name_news N8
      refine comp_inv 16 (fun i zs nw => nw = n8 ∧ StrsAre zs ((List.range i).map fun i : Nat => arrS (bitsI i 4) [oA, oB, oC, oD] (bitsI cB 5) (St [c]))) ?turnD ?finD 16 0 [] _ rfl ⟨hn8.symm, .nil⟩
      case turnD =>
        clear F8 N8 N8'
        rintro i v zs I qI C qC Dm m2 nw h4 tk4 E4 hi ⟨rfl, hz⟩ hv hC4 hx4 F6 N6 off6 ne6
        obtain ⟨aR, vs, hv2, hmem, hIv⟩ := hr.a.row i hi
        have hv3 : v = .ref aR := Option.some.inj (hv.symm.trans (by simpa using hv2))
        subst hv3
        subst hn8
        k_steps
        rename News _ _ _ _ => N7
        refine' use_ctr (arr_ok (bitsI i 4) [oA, oB, oC, oD] (bitsI cB 5) vs _ _ _ (St [c]) aR _ _ hIv (bitsI_len _ _) (.cons _ uA (.cons _ uB (.cons _ uC (.cons _ uD .nil)))) rfl hOw2 (bitsI_len _ _) (bitsI_le _ _) (four_le hoA hoB hoC hoD) (bitsI_le _ _) hpl1) ?a5 ?b5 ?c5 ?d5 ?e5 ?f5 ?g5 ?h5 ?i5
        ((case a5 => k_asm); (case b5 => k_asm); (case c5 => k_asm); (case d5 => k_asm); (case e5 => first | exact rfl | assumption); (case f5 => ktr_room); (case g5 => ktr_units))
        case h5 => exact ⟨⟨_, (N7 (aR, LCg.lst vs) (by simp [hmem])).1, rfl, _, rfl⟩, ⟨_, (N7 (_, _) (by k_mem)).1, rfl, _, rfl⟩, ⟨_, (N7 (_, _) (by k_mem)).1, rfl, _, rfl⟩⟩
        intro tM hM tkM stM
        rename Fr _ _ _ _ => F7
        have F8 := back_fr F7 stM
        have N8 := back_news N7 stM
        clear F7 N7
        k_steps
        refine comp_end F8 N8 off6 (Or.inr ⟨_, by k_mem, rfl, _, rfl⟩) ⟨rfl, strs_step hz⟩
      case finD =>
        clear F8 N8 N8'
        rintro zs2 nw ⟨rfl, hz2⟩
        subst hn8
        unfold LCg.FinA
        intro D8 h8 tk8 F8 N8 o8
        k_steps
        obtain ⟨dj, hdj⟩ : ∃ dj, dj = Txt.join (Str.ofString "|") ((List.range 16).map fun i : Nat => arrS (bitsI i 4) [oA, oB, oC, oD] (bitsI cB 5) (St [c])) := ⟨_, rfl⟩
        refine join_led2 (B := 50) hdj N8 (by k_mem) hz2 (lenle_range fun i _ => arr_len _ cB c i) (by rw [List.length_map, List.length_range]; exact Nat.le_of_ble_eq_true rfl) fun t9 k9 hl9 => ?_
        have hEq : sx = dj := by rw [hsx, hdj]; exact law1' [oA, oB, oC, oD] hOrd2 cB c (by omega) (by omega)
        have hl1 := ne_false hEq
        have hsp : Txt.split sx (Str.ofString "|") = ((List.range 16).map fun i : Nat => arrS (bitsI i 4) [oA, oB, oC, oD] (bitsI cB 5) (St [c])) := by rw [hsx]; exact law2' [oA, oB, oC, oD] hOrd2 cB c (by omega) (by omega) (by omega)
        clear hsx hdj
        k_steps
        rename Fr _ _ _ _ => F9
        rename News _ _ _ _ => N9
        refine ⟨?_⟩
        refine splitN1 F9 N9 (by decide +kernel) (fun lS h9 k9 eS F10 N10 => ?_) (by rw [hEq, sizeLine_eq]; omega)
        have hS1 := strsAre_of_values lS
        rw [eS, hsp] at hS1
        clear hEq hl1 hsp eS
        have off9 := fun (p : Addr × Obj) hp => Nat.ne_of_lt (Heap.lt_size (N9 p hp).1)
        clear F9 N9
        k_steps
        rename_i d0 hd0 od0 lo0 hs0 fs0 hi0 fi0 l1D T0 hT1 l1T hT2
        obtain ⟨nB, hnB, N11⟩ := name_tail2 (fun p hp => N10 p (.tail _ hp))
        obtain ⟨tv, htv⟩ : ∃ tv, tv = [oA, oB, oC, oD].getD (3 * ([cA, cB, cC].getD (Int.toNat 2) 0).fmod 2).toNat 0 := ⟨_, rfl⟩
        refine enum_loop rfl ⟨_, (N10 _ (.head _)).1, rfl, _, rfl⟩ (N10 _ (.head _)).2.1 (fun p hp => off9 p (by rw [hnB] at hp; exact hp)) F10 N11 rfl rfl rfl ?hEm
          (LoopJ ‹World› [oA, oB, oC, oD] (bitsI cB 5) c tv D D8 nB) ?h0m ?stepm ?donem
        case hEm => walk1
        case h0m => exact ⟨T0, d0, od0, [], _, _, _, _, _, _, rfl, lo0, hs0, fs0, rfl, rfl, by rw [htv]; rfl, rfl⟩
        case stepm =>
          w_top off
          rintro i v t m₁ news₁ h tk own hv ⟨T, d, o, kvs, n9, t0, t1, t2, t3, tt, rfl, loD, hdD, hfD, hm1, hm2, hm3, hm4⟩ hoff Ft Nt
          obtain ⟨y, ty, rfl, hy⟩ := strs_get hS1 (by simpa using hv)
          have hi16 : i < 16 := by
            have := (List.getElem?_eq_some_iff.mp hy).1
            simpa using this
          rw [List.getElem?_map, List.getElem?_range hi16] at hy
          have hyE : arrS (bitsI i 4) [oA, oB, oC, oD] (bitsI cB 5) (St [c]) = y := Option.some.inj hy
          have hcnt := count_arr [oA, oB, oC, oD] (bitsI cB 5) i c (by omega) (by omega)
          have he8 := eN_le [oA, oB, oC, oD] cB i
          rw [hyE] at hcnt
          clear hyE hy hv
          obtain ⟨n, hn⟩ : ∃ n, n = eN [oA, oB, oC, oD] (bitsI cB 5) i := ⟨_, rfl⟩
          rw [← hn] at hcnt he8
          rw [← kst_self [(Str.ofString "total", .ref T), (Str.ofString "lights", .ref D), (Str.ofString "turning", .int tv tt), (Str.ofString "due", .ref D8)] ⟨hm1, hm2, hm3, hm4, trivial⟩] at Ft
          dsimp only [kstB] at Ft
          obtain ⟨nO, hnO⟩ : ∃ nO, nO = nB ++ own := ⟨_, rfl⟩
          have hnE := hnO
          rw [hnB] at hnE
          simp only [List.cons_append] at hnE
          have Nt2 := Nt
          simp only [List.cons_append] at Nt2
          rw [← hnO, hnE] at Nt2
          clear N11 N10 F10 Nt hS1
          obtain ⟨aR, vr, hrow, hrmem, hrow2⟩ := hr.a.row i hi16
          have hrow3 : ys[(i : Int).toNat]? = some (.ref aR) := hrow
          have htv3 : 0 ≤ tv ∧ tv ≤ 3 := by rw [htv]; exact four_le hoA hoB hoC hoD _
          obtain ⟨bt, hbt⟩ : ∃ bt, (bitsI i 4).getD tv.toNat 0 = bt := ⟨_, rfl⟩
          have hc0 : 0 ≤ Txt.count y (Str.ofString "\r\n") ∧ Txt.count y (Str.ofString "\r\n") ≤ 8 := by omega
          k_steps
          rename_i ta ka y1 e1 l1 tb kb y2 e2 l2 tc kc y3 e3 l3 td kd y4 e4 l4
          have hR : IsResp y4 n c := by rw [e4, e3, e2, e1]; exact resp_of n c he8 hcnt
          clear e1 e2 e3 e4 l1 l2 l3 l4
          obtain ⟨nm, hnm⟩ : ∃ nm, nm = parsedS n c := ⟨_, rfl⟩
          obtain ⟨lst, hlst⟩ : ∃ lst, Txt.slice nm (some (-1)) none = lst := ⟨_, rfl⟩
          have hnl : nm.length ≤ 8 := by rw [hnm]; exact parsed_len n c he8
          obtain ⟨par, hpar⟩ : ∃ par : Bool, par = decide (n % 2 = 0) := ⟨_, rfl⟩
          have hlp : (lst == St [c]) = par := by rw [← hlst, hnm, hpar]; exact last_par n c he8 (by omega)
          refine' use_ctr (parse_ok2 n c _ he8 ⟨hc97, hc122⟩ y4 hR nm hnm) ?a6 ?b6 ?c6 ?d6 ?e6 ?f6 ?g6 ?h6 ?i6
          ((case a6 => k_asm); (case b6 => k_asm); (case c6 => k_asm); (case d6 => k_asm); (case e6 => first | exact rfl | assumption); (case f6 => ktr_room); (case g6 => ktr_units))
          case h6 => trivial
          intro tP hP tkP stP
          rename Fr _ _ _ _ => F
          have F6 := back_fr F stP
          have N6 := back_news Nt2 stP
          clear F Nt2
          iterate 29 walk1
          rename News _ _ _ _ => N7
          refine item_ref hrow3 N7 (by k_mem) (by omega) (by omega) ?_
          walk1
          refine item_bit2 hbt hrow2 N7 (by repeat (first | with_reducible exact List.mem_cons_self | with_reducible assumption | with_reducible refine List.mem_cons_of_mem _ ?_ | with_reducible refine List.mem_append_left _ ?_)) (by omega) (by rw [bitsI_len]; omega) (by omega) ?_
          intro tb7
          walk1
          refine ⟨?_⟩
          refine' ite_join _ _ ?j1 ?j2 ?j3
          case j1 =>
            intro _ Q' hQ'
            repeat (first | exact hQ' _ _ | walk1)
          case j2 =>
            intro _ Q' hQ'
            repeat (first | exact hQ' _ _ | walk1)
          intro v2 tz2 tkz2 hv2
          rename (_ = ite (par = true) _ _) => hv1
          have hp2 := pm_two hv2 (pm_one hv1)
          k_steps
          rename_i s0t s0 hs0 s1t s1 hs1 s2t s2 hs2 s3t s3 hs3 dN hN1 oN0 loN hdN0 lN hN2 oN hdN hfN D9 hN3 F9 N9 lN3
          have e0 : s0 = oneI [oA, oB, oC, oD] (bitsI cB 5) i * 256 ^ i := by rw [hs0]; exact pm_f1 hv1 hpar hn
          have e1 : s1 = oneI [oA, oB, oC, oD] (bitsI cB 5) i * 256 ^ (15 - i) := by rw [hs1]; exact pm_f2 hi16 hv1 hpar hn
          have e2 : s2 = twoI [oA, oB, oC, oD] (bitsI cB 5) tv i * 256 ^ i := by rw [hs2]; exact pm_g1 hv2 hbt hv1 hpar hn
          have e3 : s3 = twoI [oA, oB, oC, oD] (bitsI cB 5) tv i * 256 ^ (15 - i) := by rw [hs3]; exact pm_g2 hi16 hv2 hbt hv1 hpar hn
          clear hs0 hs1 hs2 hs3
          subst e0 e1 e2 e3
          have hlt1 : (tabN c ((List.range i).map (eN [oA, oB, oC, oD] (bitsI cB 5)))).length ≤ 1000 := by
            have h1 := tabN_len c ((List.range i).map (eN [oA, oB, oC, oD] (bitsI cB 5))) []
            rw [List.length_map, List.length_range] at h1
            exact Nat.le_trans h1 (by simp only [List.length_nil]; omega)
          refine' use_ctr (afs_ok (tabN c ((List.range i).map (eN [oA, oB, oC, oD] (bitsI cB 5)))) [(nm, 1)] T D9 d dN (sumI (fun j => oneI [oA, oB, oC, oD] (bitsI cB 5) j * 256 ^ j) i) (sumI (fun j => oneI [oA, oB, oC, oD] (bitsI cB 5) j * 256 ^ (15 - j)) i) (sumI (fun j => twoI [oA, oB, oC, oD] (bitsI cB 5) tv j * 256 ^ j) i) (sumI (fun j => twoI [oA, oB, oC, oD] (bitsI cB 5) tv j * 256 ^ (15 - j)) i) (oneI [oA, oB, oC, oD] (bitsI cB 5) i * 256 ^ i) (oneI [oA, oB, oC, oD] (bitsI cB 5) i * 256 ^ (15 - i)) (twoI [oA, oB, oC, oD] (bitsI cB 5) tv i * 256 ^ i) (twoI [oA, oB, oC, oD] (bitsI cB 5) tv i * 256 ^ (15 - i)) t0 t1 t2 t3 s0t s1t s2t s3t hlt1 (by simp)) ?a7 ?b7 ?c7 ?d7 ?e7 ?f7 ?g7 ?h7 ?i7
          ((case a7 => k_asm); (case b7 => k_asm); (case c7 => k_asm); (case d7 => k_asm); (case e7 => first | exact rfl | assumption); (case f7 => ktr_room); (case g7 => ktr_units))
          case h7 => exact ⟨⟨_, (N9 _ (.tail _ (.tail _ (.head _)))).1, rfl, _, rfl⟩, ⟨_, (N9 _ (.head _)).1, rfl, _, rfl⟩, TabAt.ofObj loD (N9 _ (.tail _ (.tail _ (.tail _ (.head _))))).1 hdD hfD, TabAt.ofObj loN (N9 _ (.tail _ (.head _))).1 hdN hfN⟩
          intro a2 d2 oo kv2 u0 u1 u2 u3 nn hA tkA lo2 hd2 hf2 stA hne9 hgd hnd hga hna
          have F10 := back_fr F9 stA
          obtain ⟨N10, ne1⟩ := back_new F9 N9 stA hgd hnd
          obtain ⟨N11, ne2⟩ := back_new F9 N9 stA hga hna
          have N12 := news2 N11 N10
          clear N10 N11 F9 N9
          k_steps
          rename Fr _ _ _ _ => FE
          rename News _ _ _ _ => NE
          refine' turn_end (news₂ := (a2, { cls := .type "tuple", data := .seq #[.int (sumI (fun j => oneI [oA, oB, oC, oD] (bitsI cB 5) j * 256 ^ j) (i + 1)) u0, .int (sumI (fun j => oneI [oA, oB, oC, oD] (bitsI cB 5) j * 256 ^ (15 - j)) (i + 1)) u1, .int (sumI (fun j => twoI [oA, oB, oC, oD] (bitsI cB 5) tv j * 256 ^ j) (i + 1)) u2, .int (sumI (fun j => twoI [oA, oB, oC, oD] (bitsI cB 5) tv j * 256 ^ (15 - j)) (i + 1)) u3, .ref d2] nn }) :: (d2, oo) :: nB) FE ?n1 ?n2 ?n3
          case n3 => exact ⟨a2, d2, oo, kv2, nn, u0, u1, u2, u3, _, rfl, lo2, hd2, tab_next hf2 hnm hn, rfl, rfl, rfl, rfl⟩
          case n1 =>
            intro p hp
            rcases List.mem_cons.mp hp with rfl | hp
            · exact NE _ (.head _)
            rcases List.mem_cons.mp hp with rfl | hp
            · exact NE _ (.tail _ (.head _))
            have hp2 : p ∈ nO := by rw [hnO]; exact hp
            rw [hnE] at hp2
            exact NE _ (.tail _ (.tail _ (.tail _ (.tail _ (.tail _ (.tail _ hp2))))))
          case n2 =>
            intro q hq b hb
            have hq2 : q ∈ nO := by rw [hnO]; exact List.mem_append_right _ hq
            rw [hnE] at hq2
            rcases List.mem_cons.mp hb with rfl | hb
            · exact (neAll_get ne2 q (.tail _ (.tail _ (.tail _ (.tail _ hq2))))).symm
            rcases List.mem_cons.mp hb with rfl | hb
            · exact (neAll_get ne1 q (.tail _ (.tail _ (.tail _ (.tail _ hq2))))).symm
            exact hoff q hq b (.tail _ (.tail _ hb))
        case donem =>
          w_top off
          rintro h tk m' news' F' N' ⟨T, d, o, kvs, n9, t0, t1, t2, t3, tt, rfl, loD, hdD, hfD, hm1, hm2, hm3, hm4⟩
          have e16s : (strValues lS).toArray.size = 16 := by rw [List.size_toArray, StrsAre.len_eq hS1]; rfl
          rw [e16s] at hfD N'
          rw [← kst_self [(Str.ofString "total", .ref T), (Str.ofString "lights", .ref D), (Str.ofString "turning", .int tv tt), (Str.ofString "due", .ref D8)] ⟨hm1, hm2, hm3, hm4, trivial⟩] at F'
          dsimp only [kstB] at F'
          rw [hnB] at N'
          obtain ⟨x0, hx0⟩ : ∃ x, x = sumI (fun j => oneI [oA, oB, oC, oD] (bitsI cB 5) j * 256 ^ j) 16 := ⟨_, rfl⟩
          obtain ⟨x1, hx1⟩ : ∃ x, x = sumI (fun j => oneI [oA, oB, oC, oD] (bitsI cB 5) j * 256 ^ (15 - j)) 16 := ⟨_, rfl⟩
          obtain ⟨x2, hx2⟩ : ∃ x, x = sumI (fun j => twoI [oA, oB, oC, oD] (bitsI cB 5) tv j * 256 ^ j) 16 := ⟨_, rfl⟩
          obtain ⟨x3, hx3⟩ : ∃ x, x = sumI (fun j => twoI [oA, oB, oC, oD] (bitsI cB 5) tv j * 256 ^ (15 - j)) 16 := ⟨_, rfl⟩
          rw [← hx0, ← hx1, ← hx2, ← hx3] at N'
          have hgol : golayC x0 x1 x2 x3 = true := by
            have h0 := golay_ok hOrd2 cB (tv_cases htv)
            unfold S0 S1 S2 S3 at h0
            rw [← hx0, ← hx1, ← hx2, ← hx3] at h0
            exact h0
          clear hx0 hx1 hx2 hx3
          obtain ⟨hSum, hM1, hM2⟩ := golay_use hgol
          clear hgol
          clear N11 N10 F10
          dsimp only [PyProof.Rows.envOfC] at N'
          dsimp only [PyProof.Rows.envOfC] at F'
          have q5 := ne_cell N' (.tail _ (.tail _ (.tail _ (.tail _ (.tail _ (.tail _ (.tail _ (.tail _ (.head _))))))))) (by assumption)
          have f1 := q5 _ (.head _) seq_nc
          have f2 := q5 _ (.tail _ (.head _)) (dict_nc hdD)
          have f3 := q5 _ (.tail _ (.tail _ (.head _))) seq_nc
          have f4 := q5 _ (.tail _ (.tail _ (.tail _ (.head _)))) seq_nc
          have f5 := q5 _ (.tail _ (.tail _ (.tail _ (.tail _ (.head _))))) seq_nc
          have f6 := q5 _ (.tail _ (.tail _ (.tail _ (.tail _ (.tail _ (.head _)))))) seq_nc
          have f7 := q5 _ (.tail _ (.tail _ (.tail _ (.tail _ (.tail _ (.tail _ (.head _))))))) seq_nc
          have f8 := q5 _ (.tail _ (.tail _ (.tail _ (.tail _ (.tail _ (.tail _ (.tail _ (.head _)))))))) seq_nc
          have frc := fun p hp => q5 p (List.mem_append_right [_, _, _, _, _, _, _, _, _, _, _, _, _] hp) (hr.b p hp)
          clear q5
          dsimp only at f1 f2 f3 f4 f5 f6 f7 f8
          k_steps
          rename Fr _ _ _ _ => F
          rename News _ _ _ _ => N
          have hfD2 : PyProof.V.FlatPairs PyData.str kvs (kdpD (TB [oA, oB, oC, oD] (bitsI cB 5) c)) := hfD
          clear hfD
          refine' use_ctr (names_ok2 D8 _ hz2 hOrd2 (by omega) (by omega)) ?a8 ?b8 ?c8 ?d8 ?e8 ?f8 ?g8 ?h8 ?i8
          ((case a8 => k_asm); (case b8 => k_asm); (case c8 => k_asm); (case d8 => k_asm); (case e8 => first | exact rfl | assumption); (case f8 => ktr_room); (case g8 => ktr_units))
          case h8 => exact ⟨_, (N _ (.tail _ (.tail _ (.head _)))).1, rfl, _, rfl⟩
          intro d2 o2 kv2 hA tkA lo2 hd2 hf2 stA hg2 hn2
          have F2 := back_fr F stA
          obtain ⟨N2, ne2⟩ := back_new F N stA hg2 hn2
          dsimp only [NeAll] at ne2
          clear F N
          have tbA : StrTab _ _ hA d _ := TabAt.ofObj loD (N2 _ (.tail _ (.tail _ (.head _)))).1 hdD hfD2
          have tbB : StrTab _ _ hA d2 _ := TabAt.ofObj lo2 (N2 _ (.head _)).1 hd2 hf2
          have hrs : KeqRows (kdpD (TB [oA, oB, oC, oD] (bitsI cB 5) c)) (kdpD (TB [oA, oB, oC, oD] (bitsI cB 5) c)) true := rows_self (tabN_nod _ _)
          k_steps
          refine' use_ctr (count_ok2 (TB [oA, oB, oC, oD] (bitsI cB 5) c) 16 d (count_TB _ _ _)) ?a9 ?b9 ?c9 ?d9 ?e9 ?f9 ?g9 ?h9 ?i9
          ((case a9 => k_asm); (case b9 => k_asm); (case c9 => k_asm); (case d9 => k_asm); (case e9 => first | exact rfl | assumption); (case f9 => ktr_room); (case g9 => ktr_units))
          case h9 => exact tbA
          intro tC hC tkC stC
          rename Fr _ _ _ _ => F
          have F3 := back_fr F stC
          have N3 := back_news N2 stC
          clear F N2 tbA tbB hrs
          k_steps
          rename Fr _ _ _ _ => F4
          rename News _ _ _ _ => N4
          refine ⟨?_⟩
          refine LCg.CompSrc.ledger rfl F4 N4 (by k_mem) (by rw [sizeLine_eq]; exact Nat.le_of_ble_eq_true rfl) ?_
          intro g
          obtain ⟨n4, hn4, N4'⟩ := name_news N4
          refine comp_inv 4 (fun j zs nw => nw = n4 ∧ IntsAre zs (([oA, oB, oC, oD].take j).map fun p : Int => (bitsI cB 5).getD p.toNat 0)) ?turnP ?finP 4 0 [] _ rfl ⟨hn4.symm, .nil⟩
          case turnP =>
            clear F4 N4 N4'
            rintro j v zs I qI C qC Dm m2 nw h4 tk4 E4 hj ⟨rfl, hz⟩ hv hC4 hx4 F6 N6 off6 ne6
            have hIo : IntsAre [.int oA uA, .int oB uB, .int oC uC, .int oD uD] [oA, oB, oC, oD] := .cons _ uA (.cons _ uB (.cons _ uC (.cons _ uD .nil)))
            obtain ⟨p, tp, rfl, hp⟩ := ints_get hIo (i := j) (by simpa using hv)
            have hp3 : 0 ≤ p ∧ p ≤ 3 := by
              have := four_le hoA hoB hoC hoD j
              rw [List.getD, hp] at this
              exact this
            obtain ⟨bp, hbp⟩ : ∃ bp, (bitsI cB 5).getD p.toNat 0 = bp := ⟨_, rfl⟩
            subst hn4
            walk1
            walk1
            walk1
            walk1
            rename Fr _ _ _ _ => F7
            rename News _ _ _ _ => N7
            refine comp_end F7 N7 off6 (Or.inr ⟨_, (by k_mem : (aO, _) ∈ _), rfl, _, rfl⟩) ⟨rfl, ?_⟩
            rw [take_map_snoc _ hp, hbp]
            exact ints_snoc hz
          case finP =>
            clear F4 N4 N4'
            rintro zs nw ⟨rfl, hz⟩
            subst hn4
            obtain ⟨bA, hbA⟩ : ∃ b, b = (bitsI cB 5).getD oA.toNat 0 := ⟨_, rfl⟩
            obtain ⟨bB, hbB⟩ : ∃ b, b = (bitsI cB 5).getD oB.toNat 0 := ⟨_, rfl⟩
            obtain ⟨bC, hbC⟩ : ∃ b, b = (bitsI cB 5).getD oC.toNat 0 := ⟨_, rfl⟩
            obtain ⟨bD, hbD⟩ : ∃ b, b = (bitsI cB 5).getD oD.toNat 0 := ⟨_, rfl⟩
            obtain ⟨bE, hbE⟩ : ∃ b, (bitsI cB 5).getD (4 : Int).toNat 0 = b := ⟨_, rfl⟩
            have hz' : IntsAre zs [bA, bB, bC, bD] := by rw [hbA, hbB, hbC, hbD]; exact hz
            clear hz
            obtain ⟨tA9, tB9, tC9, tD9, rfl⟩ := ints4 hz'
            have hbA2 : 0 ≤ bA ∧ bA ≤ 1 := by rw [hbA]; exact bitsI_le _ _ _
            have hbB2 : 0 ≤ bB ∧ bB ≤ 1 := by rw [hbB]; exact bitsI_le _ _ _
            have hbC2 : 0 ≤ bC ∧ bC ≤ 1 := by rw [hbC]; exact bitsI_le _ _ _
            have hbD2 : 0 ≤ bD ∧ bD ≤ 1 := by rw [hbD]; exact bitsI_le _ _ _
            have hbE2 : 0 ≤ bE ∧ bE ≤ 1 := by rw [← hbE]; exact bitsI_le _ _ _
            clear hz'
            unfold LCg.FinE
            intro D9 h9b tk9 F9 N9 o9
            iterate 38 walk1
            iterate 8 walk1
            iterate 5 walk1
            walk1
            refine ⟨?_⟩
            rename Fr _ _ _ _ => F5
            refine DictComp_keys F5 rfl (by decide) rfl (by decide) rfl ?_
            walk1
            rename News _ _ _ _ => N5
            have tbC : StrTab _ _ _ d _ := TabAt.ofObj loD (N5 _ (.tail _ (.tail _ (.tail _ (.head _))))).1 hdD hfD2
            refine ⟨d, _, TB [oA, oB, oC, oD] (bitsI cB 5) c, fun k => Txt.slice k (some (-1)) none == St [c], rfl, rfl, F5, N5, tbC, tabN_nod _ _, Nat.le_trans (TB_len _ _ _) (by rw [sizeLine_eq]; exact Nat.le_of_ble_eq_true rfl), Nat.lt_of_lt_of_le (modules_low (Top.nolimit (by assumption))) (Nat.le_trans F5.above (Nat.le_of_lt F5.ns.lt)), ?ts, ?ky, ?vl, ?ct⟩
            case ts =>
              intro C k tk3 s3 m3 E3 hk hns hm hst3
              have hkl := TB_klen hOrd2 hk
              obtain ⟨v, hv⟩ : ∃ v, Txt.slice k (some (-1)) none = v := ⟨_, rfl⟩
              obtain ⟨pb, hpb⟩ : ∃ pb, (v == St [c]) = pb := ⟨_, rfl⟩
              have N6 := N5.grown hst3
              clear N5 F5
              refine wpAny_tests_one ?_
              walk1
              walk1
              refine ldVarK hns hm ?_
              iterate 7 walk1
              refine sl_keep stay_kept ⟨fun _ _ e => e, N6⟩ hv (by omega) ?_
              rintro h7 t7 k7 ⟨st7, N7⟩
              clear N6
              iterate 3 walk1
              exact ⟨by rw [← hpb, ← hv], _, _, rfl, st7⟩
            case ky =>
              intro C k tk3 s3 m3 E3 hk hns hm hst3
              exact ldVarK hns hm ⟨⟨_, rfl⟩, _, _, rfl, fun _ _ e => e⟩
            case vl =>
              intro C k tk3 s3 m3 E3 hk hns hm hst3
              have N6 := N5.grown hst3
              have tbE := TabAt.keep tbC hst3
              clear N5 F5
              walk1
              walk1
              refine ldVarK hns hm ?_
              exact kdp_item tbE hk fun t => ⟨⟨t, rfl⟩, _, _, rfl, fun _ _ e => e⟩
            case ct =>
              clear N5 F5 tbC
              intro D6 o6 kv6 h6 tk6 F6 N6 lo6 hd6 hf6
              iterate 3 walk1
              have tbF : StrTab _ _ h6 D6 _ := TabAt.ofObj lo6 (N6 _ (.head _)).1 hd6 hf6
              obtain ⟨thr, hthr⟩ : ∃ thr, thr = 10 - 4 * ((bA + 1) * (bB + bD + 1) + bC * (bD + 1) + bE).fmod 2 := ⟨_, rfl⟩
              have hth2 : ((tabF (fun k => Txt.slice k (some (-1)) none == St [c]) (TB [oA, oB, oC, oD] (bitsI cB 5) c)).map (·.2)).sum = thr := by
                rw [thru_TB hOrd2 cB c (by omega), hthr, hbA, hbB, hbC, hbD, ← hbE]; rfl
              refine' use_ctr (count_ok2 (tabF (fun k => Txt.slice k (some (-1)) none == St [c]) (TB [oA, oB, oC, oD] (bitsI cB 5) c)) thr D6 hth2) ?a10 ?b10 ?c10 ?d10 ?e10 ?f10 ?g10 ?h10 ?i10
              ((case a10 => k_asm); (case b10 => k_asm); (case c10 => k_asm); (case d10 => k_asm); (case e10 => first | exact rfl | assumption); (case f10 => ktr_room); (case g10 => ktr_units))
              case h10 => exact tbF
              intro tG hG tkG stG
              rename Fr _ _ _ _ => F
              have F7 := back_fr F stG
              have N7 := back_news N6 stG
              clear F N6 tbF
              repeat walk1
              · exact absurd hthr (by assumption)
              iterate 14 walk1
              rename News _ _ _ _ => N8
              have hTT : IsTup _ T #[.int x0 t0, .int x1 t1, .int x2 t2, .int x3 t3, .ref d] := ⟨_, (N8 _ (.tail _ (.tail _ (.tail _ (.head _))))).1, rfl, _, rfl⟩
              refine item_tuple (j := 0) hTT (by decide) (by decide) rfl rfl ?_
              iterate 3 walk1
              refine item_tuple (j := 1) hTT (by decide) (by decide) rfl rfl ?_
              refine PyProof.Rows.mul_int ?_ hM1
              iterate 4 walk1
              refine item_tuple (j := 2) hTT (by decide) (by decide) rfl rfl ?_
              iterate 3 walk1
              refine item_tuple (j := 3) hTT (by decide) (by decide) rfl rfl ?_
              refine PyProof.Rows.mul_int ?_ hM2
              iterate 4 walk1
              refine' use_ctr (int2ap_ok2 (x0 * x1 + x2 * x3) _ hSum) ?a11 ?b11 ?c11 ?d11 ?e11 ?f11 ?g11 ?h11 ?i11
              ((case a11 => k_asm); (case b11 => k_asm); (case c11 => k_asm); (case d11 => k_asm); (case e11 => first | exact rfl | assumption); (case f11 => ktr_room); (case g11 => ktr_units))
              case h11 => trivial
              intro tH hH tkH stH
              rename Fr _ _ _ _ => F
              have F9 := back_fr F stH
              have N9b := back_news N8 stH
              clear F N8 hTT
              iterate 8 walk1
              refine ret_true (qk := qk) (by decide +kernel) ?_
              k_unfold
              dsimp only
              rename Fr _ _ _ _ => FZ
              with_reducible rename (Shared.gens _ = _) => hgens
              exact goodW_bool FZ hgens (no_raise _) (post_true _))
end

end
end Mine
end
theorem PySem.Challenge.cw_xg0012_01_holds : PySem.Challenge.rw_xg0012_01.Holds :=
  Mine.fin0
