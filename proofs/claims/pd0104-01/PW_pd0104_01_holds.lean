import PyProof.Rows.All
import Wide.All
import OpenK.AllK
import Wide.FinOn
import PyProof.MinMaxWalk
import PyProof.ConsumeS
import PyProof.CollectWalk
import PyProof.EnumFor
import PyProof.EnumMake
import PyProof.NeKinds
import PyProof.ZipIter
import PyProof.TupleOfGen
import PyProof.SetRoads
import Lean
import PySem.Challenge.RW_pd0104_01
set_option Elab.async false
/-! Head1 -/
section
open PySem PySem.W PyProof.Rows
namespace Mine.PySem.W
/-- the head's lemma, its first premise written out: the top is checked in one go -/
theorem holds_open {r : OpenRow} {q : Program} {loose : List Str} {Xt : Shared → Bool} {XP : (Str → Option Value) → Heap → Prop} {α : Type} {Yf : Shared → α} {Ya : World → α} {YP : World → Heap → Prop} {d : DefRec} {kwd : List (Str × Expr)} {N : Nat}
    (left : ∀ w, (openEnds treeTable r.prog w N).map (fun s => (openSeen q loose (importedModules r.prog.main.body) Xt true s, Yf s)) = some (openGood q loose, Ya w))
    (hY : ∀ w s, Yf s = Ya w → YP w s.heap) (hYk : ∀ w h h', YP w h → (∀ b o, h.get? b = some o → h'.get? b = some o) → YP w h')
    (hX : ∀ s, Xt s = true → XP (s.heap.nsMap mainGlobals) s.heap) (hXk : ∀ mg h h', XP mg h → (∀ b o, h.get? b = some o → h'.get? b = some o) → XP mg h')
    (hdef : defOf q r.name = some (d, kwd)) (hp : r.prog.theDef r.name = some (d.params, d.body, d.scope)) (hk : kwWritten? d.params.kwonlyargs d.params.kw_defaults = some kwd) (hRf : ∀ s, Xt s = true → RecFacts r.records s.heap) (hwr : (!r.writes || r.records.isEmpty) = true)
    (k1 : r.wellSaid = true) (ok : (chainsOk q && opensWell r.prog && (frees r.toRowW && r.within.isEmpty)) = true) (hb : r.prog.bare) (hw : r.toRowW.promised)
    (call : WalkO q loose XP YP r.toRowW d kwd fun f vs => PySem.call f vs) : r.Holds :=
  _root_.PySem.W.holds_open left hY hYk hX hXk hdef hp hk hRf hwr k1 ok hb hw call
end Mine.PySem.W
namespace Mine
set_option maxRecDepth 100000 in
set_option maxHeartbeats 8000000 in
open_top hd for PySem.Challenge.rw_pd0104_01
end Mine
end
/-! Base -/
section
open PySem PySem.W PyProof.Rows PySem.Calls
namespace Mine
noncomputable abbrev prog := PySem.Challenge.rw_pd0104_01.row.prog
noncomputable abbrev Keeps (h h' : Heap) : Prop := ∀ b o, h.get? b = some o → h'.get? b = some o

/-- what stands around a call: the text's own objects and the top's facts -/
structure Cx (w : World) (h : Heap) : Prop where
  X : (Mine.hd.heap_39 w.params).In h
  T : ∃ p loose mean mg mb, Top p loose mean mg mb h
theorem Cx.keeps {w : World} {h h' : Heap} (c : Cx w h) (k : Keeps h h') : Cx w h' :=
  ⟨c.X.keeps k, let ⟨p, l, me, mg, mb, t⟩ := c.T; ⟨p, l, me, mg, mb, t.keeps k⟩⟩
theorem fr_keeps {h₀ h h' : Heap} {L : Addr} {m : Str → Option Value} (F : Fr h₀ L h m) (k : Keeps h h') : Fr h₀ L h' m :=
  ⟨F.ns.keeps k, fun b o e => k _ _ (F.keep b o e), F.above⟩
theorem news_keeps {h₀ h h' : Heap} {L : Addr} {news : List (Addr × Obj)} (N : News h₀ L h news) (k : Keeps h h') : News h₀ L h' news :=
  fun p hp => ⟨k _ _ (N p hp).1, (N p hp).2⟩
theorem cx_of {w : World} {h₀ h : Heap} {L : Addr} {m : Str → Option Value} {p loose mean mg mb} (X : (Mine.hd.heap_39 w.params).In h₀) (T : Top p loose mean mg mb h₀) (F : Fr h₀ L h m) : Cx w h := ⟨X.keeps F.keep, _, _, _, _, _, T.keeps F.keep⟩

/-- a turn less -/
theorem turn_lt {n i : Nat} (h : i < n) : n + 1 - (i + 1) < n + 1 - i := by
  rw [Nat.add_sub_add_right, Nat.succ_sub (Nat.le_of_lt h)]; exact Nat.lt_succ_self _
theorem turn_lt0 {n i : Nat} (h : i < n) : n - (i + 1) < n - i := Nat.sub_lt_sub_left h (Nat.lt_succ_self _)
theorem three {i : Nat} (h : i < 3) : i = 0 ∨ i = 1 ∨ i = 2 := by omega
theorem three_z {i : Int} (h : 0 ≤ i) (h2 : i < 3) : i = 0 ∨ i = 1 ∨ i = 2 := by omega
theorem four_z {i : Int} (h : 0 ≤ i) (h2 : i < 4) : i = 0 ∨ i = 1 ∨ i = 2 ∨ i = 3 := by omega
/-- a ledger: objects that stand in the heap and stood not in the elder one -/
noncomputable def Led (g h : Heap) (tl : List (Addr × Obj)) : Prop := ∀ p ∈ tl, h.get? p.1 = some p.2 ∧ g.get? p.1 = none
theorem Led.nil {g h : Heap} : Led g h [] := fun _ hp => nomatch hp
theorem Led.keeps {g h h' : Heap} {tl : List (Addr × Obj)} (l : Led g h tl) (k : Keeps h h') : Led g h' tl := fun p hp => ⟨k _ _ (l p hp).1, (l p hp).2⟩
theorem none_of {g g' : Heap} {a : Addr} (k : Keeps g' g) (h : g.get? a = none) : g'.get? a = none := by
  cases e : g'.get? a with
  | none => rfl
  | some o => rw [k _ _ e] at h; cases h
theorem Led.elder {g g' h : Heap} {tl : List (Addr × Obj)} (l : Led g h tl) (k : Keeps g' g) : Led g' h tl := fun p hp => ⟨(l p hp).1, none_of k (l p hp).2⟩
theorem Led.append {g h : Heap} {tl tl' : List (Addr × Obj)} (l : Led g h tl) (l' : Led g h tl') : Led g h (tl ++ tl') := fun p hp => (List.mem_append.mp hp).elim (l p) (l' p)
theorem fr_le {h₀ h : Heap} {L : Addr} {m : Str → Option Value} (F : Fr h₀ L h m) : h₀.objs.size ≤ h.objs.size := Nat.le_trans F.above (Nat.le_of_lt F.ns.lt)
theorem news_led {h₀ h : Heap} {L : Addr} {news : List (Addr × Obj)} (N : News h₀ L h news) : Led h₀ h news := fun p hp => ⟨(N p hp).1, (N p hp).2.2⟩
theorem ne_of_none {h : Heap} {a b : Addr} {o : Obj} (ha : h.get? a = none) (hb : h.get? b = some o) : a ≠ b := fun e => by rw [e, hb] at ha; cases ha

/-- the tree changes nothing that stands, and yields what P says -/
noncomputable def Does {α : Type} (w : World) (A : Around) (t : Sem α) (s : Shared) (P : α → List (Addr × Obj) → Prop) : Prop :=
  ∀ (Q : α → Shared → Prop) (E : Value → Shared → Prop), (∀ a tl h' tk, Keeps s.heap h' → s.heap.objs.size ≤ h'.objs.size → Led s.heap h' tl → P a tl → Q a { s with heap := h', toks := tk }) → wpAny (model prog w) A t Q E s
theorem Does.mono {α : Type} {w : World} {A : Around} {t : Sem α} {s : Shared} {P P' : α → List (Addr × Obj) → Prop} (d : Does w A t s P) (h : ∀ a tl, P a tl → P' a tl) : Does w A t s P' :=
  fun Q E q => d Q E fun a tl h' tk k z l p => q a tl h' tk k z l (h a tl p)
/-- a call's end in a frame -/
theorem Does.fr {α : Type} {w : World} {A : Around} {t : Sem α} {s : Shared} {P : α → List (Addr × Obj) → Prop} {h₀ : Heap} {L : Addr} {m : Str → Option Value} {news : List (Addr × Obj)} {Q : α → Shared → Prop} {E : Value → Shared → Prop} (d : Does w A t s P)
    (F : Fr h₀ L s.heap m) (N : News h₀ L s.heap news) (h : ∀ a tl h' tk, Fr h₀ L h' m → News h₀ L h' (tl ++ news) → P a tl → Q a { s with heap := h', toks := tk }) : wpAny (model prog w) A t Q E s :=
  d Q E fun a tl h' tk k _ l p => h a tl h' tk (fr_keeps F k) (fun q hq => (List.mem_append.mp hq).elim
    (fun hq => ⟨(l q hq).1, by obtain ⟨oL, _, _, e, _⟩ := F.ns; exact ne_of_none (l q hq).2 e, none_of F.keep (l q hq).2⟩)
    fun hq => news_keeps N k q hq) p
/-- the same, where nothing new is wanted -/
theorem Does.fr0 {α : Type} {w : World} {A : Around} {t : Sem α} {s : Shared} {P : α → List (Addr × Obj) → Prop} {h₀ : Heap} {L : Addr} {m : Str → Option Value} {news : List (Addr × Obj)} {Q : α → Shared → Prop} {E : Value → Shared → Prop} (d : Does w A t s P)
    (F : Fr h₀ L s.heap m) (N : News h₀ L s.heap news) (h : ∀ a tl h' tk, Fr h₀ L h' m → News h₀ L h' news → P a tl → Q a { s with heap := h', toks := tk }) : wpAny (model prog w) A t Q E s :=
  d Q E fun a tl h' tk k _ _ p => h a tl h' tk (fr_keeps F k) (news_keeps N k) p
end Mine
end
/-! A1 -/
section
open PySem PySem.W PyProof.Rows PySem.Calls
set_option maxRecDepth 100000
namespace Mine
section
variable {w : World} {A : Around} {E : Value → Shared → Prop} {s : Shared}

theorem sub_str_str : isSubtype (.type "str") (.type "str") = pure true := by rw [isSubtype_type]; kernel_rfl
theorem plain_issubN : plainId "issubclass.nested" = true := by decide +kernel
theorem kind_issubN : builtinKind "issubclass.nested" = none := by decide +kernel
theorem args_issubN (a b c : Value) : argsOk "issubclass.nested" ⟨[a, b, c], []⟩ := by unfold argsOk; kernel_rfl
theorem issubN_str {prog : Program} {k : Value} {dep : Int} {tk : Tok} {Q : Fin → Shared → Prop} (hk : k = .int dep tk) (hq : Q (.done (.ret (.bool true))) s) :
    wpAny (model prog w) A (Builtin.«issubclass.nested» ⟨[.type "str", .type "str", k], []⟩) Q E s := by
  subst hk
  have hself := sub_str_str
  repeat (any_goals (first | assumption | (rw [hself]) | wp_step))
theorem issub_strTuple {prog : Program} {T : Addr} {o : Obj} {n : Nat} (ho : s.heap.get? T = some o) (hc : o.cls = .type "tuple") (hd : o.data = .seq #[.type "str", .type "bytes"] n) {Q : Value → Shared → Prop} (h : Q (.bool true) s) :
    wpAny (model prog w) A (call (.builtin "issubclass") [.type "str", .ref T]) Q E s := by
  refine call_issubclass (S := fun A R s' => s' = s ∧ R (.ok (.ret (.bool true))) s) ?_ ⟨rfl, h⟩
  rintro prog w A R s' ⟨rfl, hR⟩
  refine issubclass_outer ?_
  have hT : s'.TypeIs (.ref T) "tuple" := ⟨_, ho, hc⟩
  have h3 := isSubtype_tuple_tuple
  show wpAny _ _ (Builtin.«issubclass.nested» ⟨[.type "str", .ref T, .int 0 0], []⟩) _ _ _
  repeat (any_goals (first | assumption | (rw [h3]) | with_reducible refine wpAny_seqItems ho hd ?_ | with_reducible refine call_function_entry kind_issubN plain_issubN F.entry_issubclass_nested (args_issubN _ _ _) (issubN_str rfl ⟨_, rfl, ?_⟩) | wp_step))
end

/-- the way into a def of the text -/
theorem enter {w : World} {A : Around} {s : Shared} {f : Addr} {vals : List Value} {binds : List (Str × Value)} {name qual : Str} {params : Arguments} {body : List Stmt} {scope : Scope} {dV kV doc pm cdv ct oc : Value} {an od : Option Addr} {osl : Array (Option Value)}
    {Q E : Value → Shared → Prop} (C : Cx w s.heap)
    (ho : (Mine.hd.heap_39 w.params).lookup f = some ⟨oc, od, .func (fnOf name qual params body scope dV kV doc pm an cdv ct), osl⟩) (hcd : codeIn (Mine.hd.heap_39 w.params) cdv qual = true)
    (hroom : A.depth < recursionLimit) (hbind : BindsTo s (fnOf name qual params body scope dV kV doc pm an cdv ct) ⟨vals, []⟩ binds)
    (hcell : ∀ x ∈ scope.names, x.2 ≠ .cell) (hloc : ∀ x ∈ binds, scope.names.lookup x.1 = some .local) (hco : scope.isCoroutine = false) (hgen : scope.isGenerator = false) (hk : scope.kind = .function)
    (h : ∀ h₁ p loose mean mg mb, Fr s.heap s.heap.objs.size h₁ (fun x => binds.reverse.lookup x) → News s.heap s.heap.objs.size h₁ [] → (Mine.hd.heap_39 w.params).In s.heap → Top p loose mean mg mb s.heap →
      wpAny (model prog w) (A.deeper (envOf qual scope s.heap.objs.size f cdv)) (execs body (envOf qual scope s.heap.objs.size f cdv))
        (fun fl s' => Q (match fl with | .ret v => v | _ => .none) s') (fun _ _ => False) { s with heap := h₁, toks := s.toks + binds.length }) :
    wpAny (model prog w) A (call (.ref f) vals) Q E s := by
  obtain ⟨X, p, loose, mean, mg, mb, T⟩ := C
  refine wpAny_call (codeAny_call_def hroom (X _ _ ho) rfl T.nolimit (codeRec_of X hcd) rfl hbind hcell hloc (fun h₁ hns hk => ?_) hco hgen hk)
  exact wpAny_mono (h h₁ p loose mean mg mb ⟨hns, hk, Nat.le_refl _⟩ News.nil X T) (fun _ _ x => x) (fun _ _ x => x.elim)

set_option maxHeartbeats 8000000 in
theorem fspath_ok {w : World} {A : Around} {s : Shared} {x : Str} {t : Tok} (C : Cx w s.heap) (hd : A.depth < recursionLimit) :
   Does w A (call (.ref 94) [.str x t]) s (fun v _ => v = .str x t) := by
  intro Q E h
  refine enter (binds := [("path", .str x t)]) C (by k_is) (by k_is) hd (BindsTo.of_eq rfl) (by decide) (locs rfl) rfl rfl rfl (fun h₁ p loose mean mg mb F N X T => ?_)
  (repeat' (first | (k_unfold; (try dsimp only)) | (k_end; kc_close) | ((with_reducible show wpAny _ _ (PySem.call (PySem.Value.builtin "issubclass") _ _) _ _ _); with_reducible (refine issub_strTuple (News.get (by assumption) (List.Mem.head _)) rfl rfl ?_)) | walk1 | (dsimp only; (first | ((with_reducible show wpAny _ _ (PySem.call (PySem.Value.builtin "issubclass") _ _) _ _ _); with_reducible (refine issub_strTuple (News.get (by assumption) (List.Mem.head _)) rfl rfl ?_)) | walk1)) | (leave1; (try dsimp only)) | fail "no step"))
  exact h _ [] _ _ (Fr.keep (by assumption)) (fr_le (by assumption)) Led.nil rfl
end Mine
end
/-! A2 -/
section
open PySem PySem.W PyProof.Rows PySem.Calls
set_option maxRecDepth 100000
namespace Mine
/-- the way into a def with a star parameter -/
theorem enterStar {w : World} {A : Around} {s : Shared} {f : Addr} {vals vs : List Value} {binds : Addr → List (Str × Value)} {name qual : Str} {params : Arguments} {body : List Stmt} {scope : Scope} {dV kV doc pm cdv ct oc : Value} {an od : Option Addr} {osl : Array (Option Value)}
    {Q E : Value → Shared → Prop} (C : Cx w s.heap)
    (ho : (Mine.hd.heap_39 w.params).lookup f = some ⟨oc, od, .func (fnOf name qual params body scope dV kV doc pm an cdv ct), osl⟩) (hcd : codeIn (Mine.hd.heap_39 w.params) cdv qual = true)
    (hroom : A.depth < recursionLimit) (hbind : bindArgs (fnOf name qual params body scope dV kV doc pm an cdv ct) ⟨vals, []⟩ = (newTuple vs >>= fun v => match v with | .ref D => pure (binds D) | _ => pure []))
    (hsz : vs.length ≤ sizeLine)
    (hcell : ∀ x ∈ scope.names, x.2 ≠ .cell) (hloc : ∀ D, ∀ x ∈ binds D, scope.names.lookup x.1 = some .local) (hco : scope.isCoroutine = false) (hgen : scope.isGenerator = false) (hk : scope.kind = .function)
    (h : ∀ h₁ L D p loose mean mg mb, Fr s.heap L h₁ (fun x => (binds D).reverse.lookup x) → News s.heap L h₁ [(D, { cls := .type "tuple", data := .seq vs.toArray })] → (Mine.hd.heap_39 w.params).In s.heap → Top p loose mean mg mb s.heap →
      wpAny (model prog w) (A.deeper (envOf qual scope L f cdv)) (execs body (envOf qual scope L f cdv))
        (fun fl s' => Q (match fl with | .ret v => v | _ => .none) s') (fun _ _ => False) { s with heap := h₁, toks := s.toks + (binds D).length }) :
    wpAny (model prog w) A (call (.ref f) vals) Q E s := by
  obtain ⟨X, p, loose, mean, mg, mb, T⟩ := C
  refine wpAny_call (codeAny_call_function (fd := fnOf name qual params body scope dV kV doc pm an cdv ct) hroom (X _ _ ho) rfl hco hgen rfl (codeRec_of X hcd) ?_)
  rw [hbind]
  refine wpAny_bind (wpAny_newObj_type ?_ (by show vs.toArray.size ≤ sizeLine; rw [List.size_toArray]; exact hsz))
  refine wpAny_pure ?_
  let tup : Obj := { cls := .type "tuple", data := .seq vs.toArray }
  have k1 : Keeps s.heap (s.heap.push tup) := fun b o e => Heap.get?_push_of_some _ e
  refine wpAny_newFunctionEnv hcell (hloc _) (fun h₁ hns hsb => ⟨((T.nolimit.keeps k1)).fresh _ hsb, codeAny_func ?_⟩) hk
  have hk₁ : ∀ b o, (s.heap.push tup).get? b = some o → h₁.get? b = some o := fun b o e => hsb.extBut b o (Nat.ne_of_lt (Heap.lt_size e)) (Heap.get?_push_of_some _ e)
  show wpAny (model prog w) (A.deeper (envOf qual scope (s.heap.push tup).objs.size f cdv)) (execs body (envOf qual scope (s.heap.push tup).objs.size f cdv)) _ _ _
  refine wpAny_mono (h h₁ _ s.heap.objs.size p loose mean mg mb ⟨hns, fun b o e => hk₁ _ _ (k1 _ _ e), by rw [Heap.size_push]; omega⟩ ?_ X T) (fun _ _ x => x) (fun _ _ x => x.elim)
  intro q hq
  rcases List.mem_cons.mp hq with rfl | hq
  · refine ⟨hk₁ _ _ (Heap.get?_push_size _ rfl), by rw [Heap.size_push]; exact Nat.ne_of_lt (Nat.lt_succ_self _), Heap.get?_none_of_le (Nat.le_refl _)⟩
  · cases hq

set_option maxHeartbeats 8000000 in
theorem get_sep_ok {w : World} {A : Around} {s : Shared} {x : Str} {t : Tok} (C : Cx w s.heap) (hd : A.depth < recursionLimit) :
   Does w A (call (.ref 108) [.str x t]) s (fun v _ => ∃ t', v = .str "/" t') := by
  intro Q E h
  refine enter (binds := [("path", .str x t)]) C (by k_is) (by k_is) hd (BindsTo.of_eq rfl) (by decide) (locs rfl) rfl rfl rfl (fun h₁ p loose mean mg mb F N X T => ?_)
  k_steps
  exact h _ [] _ _ (Fr.keep (by assumption)) (fr_le (by assumption)) Led.nil ⟨_, rfl⟩

end Mine
end
/-! Rules -/
section
open PySem PySem.W PyProof.Rows PySem.Calls
set_option maxRecDepth 100000
namespace Mine
/-- room around a call -/
structure Rm (A : Around) (d u : Nat) : Prop where
  hh : A.handled = none
  dep : A.depth + d < recursionLimit
  uni : A.units + u < cLine
theorem Rm.deeper {A : Around} {d u : Nat} {env : Env} (r : Rm A (d + 1) (u + 3)) : Rm (A.deeper env) d u :=
  ⟨r.hh, by show A.depth + 1 + d < _; have := r.dep; omega, by show A.units + 3 + u < _; have := r.uni; omega⟩
theorem Rm.in1 {A : Around} {d u : Nat} (r : Rm A d (u + 1)) : Rm A.in1 d u := ⟨r.hh, r.dep, by show A.units + 1 + u < _; have := r.uni; omega⟩
theorem Rm.le {A : Around} {d u d' u' : Nat} (r : Rm A d u) (hd : d' ≤ d) (hu : u' ≤ u) : Rm A d' u' := ⟨r.hh, by have := r.dep; omega, by have := r.uni; omega⟩

section
variable {w : World} {A : Around} {env : Env}
/-- a for loop by an invariant over the states between the turns -/
theorem for_inv {x : Str} {px : Pos} {body : List Stmt} {I : Addr} {fp wr : List Addr} {n : Nat} {P : Nat → Value → Prop} {St : Nat → Heap → Prop} {Q : Flow → Shared → Prop} {E : Value → Shared → Prop} {s : Shared}
    (W : Walks prog w A I fp wr n P St) (J : Nat → Shared → Prop) (h0 : J 0 s) (hst : ∀ i s, J i s → St i s.heap)
    (turn : ∀ i v s h' tk, i < n → J i s → P i v → St (i + 1) h' → (∀ b o, b ∉ wr → s.heap.get? b = some o → h'.get? b = some o) →
      wpAny (model prog w) A (storeName env x v) (fun _ s₃ => wpAny (model prog w) A (execs body env) (fun f s₄ => match f with | .next | .cont => J (i + 1) s₄ | .brk => Q .next s₄ | .ret v => Q (.ret v) s₄) (fun _ _ => False) s₃) (fun _ _ => False) { s with heap := h', toks := tk })
    (done : ∀ s h' tk, J n s → (∀ b o, b ∉ wr → s.heap.get? b = some o → h'.get? b = some o) → Q .next { s with heap := h', toks := tk }) :
    codeAny (model prog w) A (.forLoop (.Name x px) (.ref I) body [] env) (fun r s' => match r with | .ok f => Q f s' | .error e => cameBackBy (model prog w) A env E e s') s := by
  refine codeAny_forLoop (fun k s => ∃ i, i ≤ n ∧ k = n - i ∧ J i s) ?_ n ⟨0, Nat.zero_le _, rfl, h0⟩
  rintro k s ⟨i, hi, rfl, hJ⟩
  by_cases hlt : i < n
  · refine W.item i s _ _ hlt (hst i s hJ) fun v h' tk hP st' hk => ?_
    refine wpAny_assign_Name (wpAny_mono (turn i v s h' tk hlt hJ hP st' hk) (fun _ s₃ h₃ => ?_) fun _ _ x => x.elim)
    refine wpAny_mono h₃ (fun f s₄ h₄ => ?_) fun _ _ x => x.elim
    cases f with
    | next => exact ⟨n - (i + 1), turn_lt0 hlt, i + 1, hlt, rfl, h₄⟩
    | cont => exact ⟨n - (i + 1), turn_lt0 hlt, i + 1, hlt, rfl, h₄⟩
    | brk => exact h₄
    | ret v => exact h₄
  · obtain rfl : i = n := by omega
    exact W.done s _ _ (hst _ s hJ) fun h' tk hk => wpAny_execs_nil (done s h' tk hJ hk)
end
end Mine
end
/-! Comp -/
section
open PySem PySem.W PyProof.Rows PySem.Calls
set_option maxRecDepth 100000
set_option linter.unusedVariables false
namespace Mine
noncomputable abbrev lst (ys : List Value) : Obj := { cls := .type "list", data := .seq ys.toArray ys.length }
theorem lst_snoc (ys : List Value) (y : Value) : ({ cls := .type "list", data := .seq (ys.toArray.push y) (ys.length + 1) } : Obj) = lst (ys ++ [y]) := by
  show ({ cls := .type "list", data := .seq (ys.toArray.push y) (ys.length + 1) } : Obj) = { cls := .type "list", data := .seq (ys ++ [y]).toArray (ys ++ [y]).length }
  rw [List.length_append, List.length_singleton, List.push_toArray]
section
variable {w : World} {A : Around} {env : Env}
/-- what pyIter gives: an iterator over n items -/
noncomputable def IterOf (w : World) (A : Around) (xv : Value) (ax : Addr) (s₁ : Shared) (n : Nat) (P : Nat → Value → Prop) : Prop :=
  ∀ (Q : Value → Shared → Prop) (E : Value → Shared → Prop), (∀ I fp St h', Keeps s₁.heap h' → s₁.heap.objs.size ≤ I → I < h'.objs.size → (∀ b ∈ fp, b < h'.objs.size) → (∀ b ∈ fp, b = I ∨ b = ax) → (∀ i h, St i h → ∃ o, h.get? I = some o) → ((∃ o, s₁.heap.get? ax = some o) ∨ fp = [I]) → Walks prog w A I fp [I] n P St → St 0 h' → Q (.ref I) { s₁ with heap := h' }) → wpAny (model prog w) A (pyIter xv) Q E s₁
theorem iterOf_list {s : Shared} {l : Addr} {its : Array Value} (hh : A.handled = none) (hl : s.heap.IsList l its) : IterOf w A (.ref l) l s its.size (fun i v => its[i]? = some v) := by
  intro Q E h
  have hlt : l < s.heap.objs.size := by obtain ⟨o, e, _⟩ := hl; exact Heap.lt_size e
  refine wpAny_pyIter_list hl (h _ [s.heap.objs.size, l] _ _ (fun b o e => Heap.get?_push_of_some _ e) (Nat.le_refl _) (by rw [Heap.size_push]; omega) (fun b hb => ?_) (fun b hb => by simpa using hb) (fun i h st => by obtain ⟨o, e, _⟩ := st.1; exact ⟨o, e⟩) (.inl (by obtain ⟨o, e, _⟩ := hl; exact ⟨o, e⟩)) (Walks.list hh s.heap.objs.size l (Nat.ne_of_lt hlt) its) ⟨⟨_, Heap.get?_push_size _ rfl, rfl, rfl⟩, hl.push _⟩)
  rw [Heap.size_push]
  simp only [List.mem_cons, List.not_mem_nil, or_false] at hb
  rcases hb with rfl | rfl
  · exact Nat.lt_succ_self _
  · exact Nat.lt_succ_of_lt hlt
theorem iterOf_tuple {s : Shared} {l : Addr} {its : Array Value} (hh : A.handled = none) (hl : s.heap.IsTuple l its) : IterOf w A (.ref l) l s its.size (fun i v => its[i]? = some v) := by
  intro Q E h
  have hlt : l < s.heap.objs.size := by obtain ⟨o, e, _⟩ := hl; exact Heap.lt_size e
  refine wpAny_pyIter_tuple hl (h _ [s.heap.objs.size, l] _ _ (fun b o e => Heap.get?_push_of_some _ e) (Nat.le_refl _) (by rw [Heap.size_push]; omega) (fun b hb => ?_) (fun b hb => by simpa using hb) (fun i h st => by obtain ⟨o, e, _⟩ := st.1; exact ⟨o, e⟩) (.inl (by obtain ⟨o, e, _⟩ := hl; exact ⟨o, e⟩)) (Walks.tuple hh s.heap.objs.size l (Nat.ne_of_lt hlt) its) ⟨⟨_, Heap.get?_push_size _ rfl, rfl, rfl⟩, hl.at fun o e => Heap.get?_push_of_some _ e⟩)
  rw [Heap.size_push]
  simp only [List.mem_cons, List.not_mem_nil, or_false] at hb
  rcases hb with rfl | rfl
  · exact Nat.lt_succ_self _
  · exact Nat.lt_succ_of_lt hlt

theorem iterOf_range {s : Shared} {r : Addr} {a b : Int} {t u v : Tok} {n : Nat} (hh : A.handled = none) (hr : IsRange s.heap r a b 1 t u v) (hsm : Builtin.Range.small a b 1 = true) (hn : Builtin.Range.rangeSize a b 1 = ((n : Nat) : Int)) :
    IterOf w A (.ref r) r s n (fun i v => ∃ t, v = .int (a + i * 1) t) := by
  intro Q E h
  refine wpAny_pyIter_range hr hsm (h _ [s.heap.objs.size] _ _ (fun b o e => Heap.get?_push_of_some _ e) (Nat.le_refl _) (by rw [Heap.size_push]; omega) (fun b hb => ?_) (fun b hb => .inl (List.mem_singleton.mp hb)) (fun i h st => ⟨_, st⟩) (.inr rfl) (Walks.range hh s.heap.objs.size a 1 n) ?_)
  · rw [List.mem_singleton.mp hb, Heap.size_push]; exact Nat.lt_succ_self _
  · show IsRangeIter _ _ _ _ _
    rw [hn]; simpa using Heap.get?_push_size _ rfl
end
end Mine
end
/-! For2 -/
section
open PySem PySem.W PyProof.Rows PySem.Calls
set_option maxRecDepth 100000
set_option linter.unusedVariables false
namespace Mine
section
variable {w : World} {A : Around} {env : Env}
/-- a turn's end -/
noncomputable def TurnEnd (h₀ : Heap) (L : Addr) (s₁ : Shared) (I : Addr) (oI : Obj) (J : (Str → Option Value) → List (Addr × Obj) → Prop) (s₄ : Shared) : Prop :=
  ∃ m' news' h' tk', s₄ = { s₁ with heap := h', toks := tk' } ∧ Fr h₀ L h' m' ∧ News h₀ L h' ((I, oI) :: news') ∧ (∀ p ∈ news', p.1 ≠ I) ∧ J m' news'
/-- a for loop in a frame, over an iterator of the ledger -/
theorem for_core {h₀ : Heap} {x : Str} {px : Pos} {body : List Stmt} {I ax : Addr} {oI : Obj} {fp : List Addr} {n : Nat} {P : Nat → Value → Prop} {St : Nat → Heap → Prop} {Q : Flow → Shared → Prop} {E : Value → Shared → Prop} {s₁ : Shared} {h2 : Heap} {m : Str → Option Value} {news : List (Addr × Obj)}
    (F : Fr h₀ env.locals h2 m) (N : News h₀ env.locals h2 ((I, oI) :: news)) (off₀ : ∀ p ∈ news, p.1 ≠ I) (W : Walks prog w A I fp [I] n P St) (st : St 0 h2) (hIo : ∀ i h, St i h → ∃ o, h.get? I = some o) (hax : ∀ b ∈ fp, b = I ∨ b = ax)
    (J : Nat → (Str → Option Value) → List (Addr × Obj) → Prop) (h0 : J 0 m news)
    (src : (∃ o, h₀.get? ax = some o) ∨ (∃ o, (ax, o) ∈ news ∧ ∀ i m' news', J i m' news' → (ax, o) ∈ news'))
    (turn : ∀ i v m₁ news₁ oI h₁ tk₁, i < n → P i v → J i m₁ news₁ → Fr h₀ env.locals h₁ m₁ → News h₀ env.locals h₁ ((I, oI) :: news₁) → (∀ p ∈ news₁, p.1 ≠ I) →
      wpAny (model prog w) A (storeName env x v) (fun _ s₃ => wpAny (model prog w) A (execs body env) (fun f s₄ => match f with | .next | .cont => TurnEnd h₀ env.locals s₁ I oI (J (i + 1)) s₄ | .brk => Q .next s₄ | .ret v => Q (.ret v) s₄) (fun _ _ => False) s₃) (fun _ _ => False) { s₁ with heap := h₁, toks := tk₁ })
    (done : ∀ h' tk m' news', J n m' news' → Fr h₀ env.locals h' m' → News h₀ env.locals h' news' → Q .next { s₁ with heap := h', toks := tk }) {tk2 : Nat} :
    codeAny (model prog w) A (.forLoop (.Name x px) (.ref I) body [] env) (fun r s' => match r with | .ok f => Q f s' | .error e => cameBackBy (model prog w) A env E e s') { s₁ with heap := h2, toks := tk2 } := by
  have hIL : I ≠ env.locals := (N _ List.mem_cons_self).2.1
  have hI0 : h₀.get? I = none := (N _ List.mem_cons_self).2.2
  have srcK : ∀ i m' news' h i' m'' news'' h', J i m' news' → J i' m'' news'' → (∀ b o, h₀.get? b = some o → h.get? b = some o) → News h₀ env.locals h news' → (∀ b o, h₀.get? b = some o → h'.get? b = some o) → News h₀ env.locals h' news'' → ∀ o, h.get? ax = some o → h'.get? ax = some o := by
    intro i m' news' h i' m'' news'' h' hJ hJ' kh Nh kh' Nh' o e
    rcases src with ⟨o', e'⟩ | ⟨o', hm, hs⟩
    · rw [kh _ _ e'] at e; cases e; exact kh' _ _ e'
    · rw [(Nh _ (hs _ _ _ hJ)).1] at e; cases e; exact (Nh' _ (hs _ _ _ hJ')).1
  have tail : ∀ {h : Heap} {oI : Obj} {l : List (Addr × Obj)}, News h₀ env.locals h ((I, oI) :: l) → News h₀ env.locals h l := fun N p hp => N p (List.mem_cons_of_mem _ hp)
  refine for_inv W (fun i s' => St i s'.heap ∧ ∃ oI, TurnEnd h₀ env.locals s₁ I oI (J i) s') ?_ (fun i s h => h.1) ?_ ?_
  · exact ⟨st, oI, m, news, h2, tk2, rfl, F, N, off₀, h0⟩
  · rintro i v s' h₁ tk hi ⟨st', oI, m', news', h', tk', rfl, F', N', off, hJ⟩ hP st₁ hk
    have kI : ∀ b o, b ≠ I → h'.get? b = some o → h₁.get? b = some o := fun b o hb e => hk b o (by simpa using hb) e
    obtain ⟨oI', eI'⟩ := hIo _ _ st₁
    have F₁ : Fr h₀ env.locals h₁ m' := ⟨F'.ns.at' fun o e => kI _ o (Ne.symm hIL) e, fun b o e => kI b o (fun q => by rw [q, hI0] at e; cases e) (F'.keep b o e), F'.above⟩
    have N₁ : News h₀ env.locals h₁ ((I, oI') :: news') := fun p hp => by
      rcases List.mem_cons.mp hp with rfl | hp
      · exact ⟨eI', hIL, hI0⟩
      · exact ⟨kI _ _ (off p hp) (tail N' p hp).1, (tail N' p hp).2⟩
    refine wpAny_mono (turn i v m' news' oI' h₁ tk hi hP hJ F₁ N₁ off) (fun _ s₃ h₃ => wpAny_mono h₃ (fun f s₄ h₄ => ?_) fun _ _ e => e) fun _ _ e => e
    have fin : TurnEnd h₀ env.locals s₁ I oI' (J (i + 1)) s₄ → St (i + 1) s₄.heap ∧ ∃ oI, TurnEnd h₀ env.locals s₁ I oI (J (i + 1)) s₄ := by
      rintro ⟨m₄, news₄, g₄, tk₄, rfl, F₄, N₄, off₄, hJ₄⟩
      refine ⟨W.frame _ _ _ st₁ fun b hb o e => ?_, oI', m₄, news₄, g₄, tk₄, rfl, F₄, N₄, off₄, hJ₄⟩
      rcases hax b hb with rfl | rfl
      · rw [eI'] at e; cases e; exact (N₄ _ (List.mem_cons_self)).1
      · exact srcK _ _ _ _ _ _ _ _ hJ hJ₄ F₁.keep (tail N₁) F₄.keep (tail N₄) o e
    cases f with
    | next => exact fin h₄
    | cont => exact fin h₄
    | brk => exact h₄
    | ret v => exact h₄
  · rintro s' h₁ tk ⟨st', oI, m', news', h', tk', rfl, F', N', off, hJ⟩ hk
    have kI : ∀ b o, b ≠ I → h'.get? b = some o → h₁.get? b = some o := fun b o hb e => hk b o (by simpa using hb) e
    exact done h₁ tk m' news' hJ ⟨F'.ns.at' fun o e => kI _ o (Ne.symm hIL) e, fun b o e => kI b o (fun q => by rw [q, hI0] at e; cases e) (F'.keep b o e), F'.above⟩ fun p hp => ⟨kI _ _ (off p hp) (tail N' p hp).1, (tail N' p hp).2⟩
/-- a for loop in a frame, by an invariant over the locals and the ledger -/
theorem for_fr {h₀ : Heap} {x : Str} {px : Pos} {body : List Stmt} {xv : Value} {ax : Addr} {n : Nat} {P : Nat → Value → Prop} {Q : Flow → Shared → Prop} {E : Value → Shared → Prop} {s₁ : Shared} {m : Str → Option Value} {news : List (Addr × Obj)}
    (F : Fr h₀ env.locals s₁.heap m) (N : News h₀ env.locals s₁.heap news) (hit : IterOf w A xv ax s₁ n P)
    (J : Nat → (Str → Option Value) → List (Addr × Obj) → Prop) (h0 : J 0 m news)
    (src : (∃ o, h₀.get? ax = some o) ∨ (∃ o, (ax, o) ∈ news ∧ ∀ i m' news', J i m' news' → (ax, o) ∈ news'))
    (turn : ∀ i v m₁ news₁ I oI h₁ tk₁, i < n → P i v → J i m₁ news₁ → Fr h₀ env.locals h₁ m₁ → News h₀ env.locals h₁ ((I, oI) :: news₁) → s₁.heap.objs.size ≤ I → (∀ p ∈ news₁, p.1 ≠ I) →
      wpAny (model prog w) A (storeName env x v) (fun _ s₃ => wpAny (model prog w) A (execs body env) (fun f s₄ => match f with | .next | .cont => TurnEnd h₀ env.locals s₁ I oI (J (i + 1)) s₄ | .brk => Q .next s₄ | .ret v => Q (.ret v) s₄) (fun _ _ => False) s₃) (fun _ _ => False) { s₁ with heap := h₁, toks := tk₁ })
    (done : ∀ h' tk m' news', J n m' news' → Fr h₀ env.locals h' m' → News h₀ env.locals h' news' → Q .next { s₁ with heap := h', toks := tk }) :
    wpAny (model prog w) A (pyIter xv) (fun it s₂ => codeAny (model prog w) A (.forLoop (.Name x px) it body [] env) (fun r s' => match r with | .ok f => Q f s' | .error e => cameBackBy (model prog w) A env E e s') s₂) E s₁ := by
  refine hit _ _ fun I fp St h2 k2 hI hI2 hfp hax hIo _ W st => ?_
  have lL : @LT.lt Nat _ env.locals s₁.heap.objs.size := F.ns.lt
  have hIL : I ≠ env.locals := Nat.ne_of_gt (Nat.lt_of_lt_of_le lL hI)
  have hI0 : h₀.get? I = none := by
    cases e : h₀.get? I with
    | none => rfl
    | some o => exact absurd (Heap.lt_size (F.keep _ _ e)) (Nat.not_lt.mpr hI)
  obtain ⟨oI, eI⟩ := hIo _ _ st
  refine for_core (oI := oI) (tk2 := s₁.toks) (fr_keeps F k2) (fun p hp => ?_) (fun p hp => Nat.ne_of_lt (Nat.lt_of_lt_of_le (Heap.lt_size (N p hp).1) hI)) W st hIo hax J h0 src (fun i v m₁ news₁ oI h₁ tk₁ a b c d e f => turn i v m₁ news₁ I oI h₁ tk₁ a b c d e hI f) done
  rcases List.mem_cons.mp hp with rfl | hp
  · exact ⟨eI, hIL, hI0⟩
  · exact news_keeps N k2 p hp
/-- a list's iterator from a place on -/
theorem walks_from {I ax : Addr} {items : Array Value} (hh : A.handled = none) (hne : ax ≠ I) (k : Nat) (hk : k ≤ items.size) :
    Walks prog w A I [I, ax] [I] (items.size - k) (fun i v => items[k + i]? = some v) (fun i h => h.IsListIter I ax (k + i) ∧ h.IsList ax items) :=
  let W := Walks.list (prog := prog) (w := w) hh I ax hne items
  { sub := W.sub, frame := fun i h h' st hk => W.frame (k + i) h h' st hk,
    item := fun i s Q E hi st hQ => W.item (k + i) s Q E (by omega) st fun v h' tk hP st' hk => hQ v h' tk hP st' hk,
    done := fun s Q E st hQ => W.done s Q E (by have e : k + (items.size - k) = items.size := by omega
                                                rw [e] at st; exact st) hQ,
    self := fun i s Q E st hQ => W.self (k + i) s Q E st hQ }
end
end Mine
end
/-! Str1 -/
section
open PySem PySem.W PyProof.Rows PySem.Calls PySem.Builtin PySem.Builtin.Str
set_option maxRecDepth 100000
set_option linter.unusedVariables false
namespace Mine
section
variable {w : World} {A : Around} {s : Shared}
theorem push_does {v : Value} {h : Heap} {o : Obj} (hf : o.isFreed = false) : Keeps h (h.push o) ∧ h.objs.size ≤ (h.push o).objs.size ∧ Led h (h.push o) [(h.objs.size, o)] :=
  ⟨fun b o e => Heap.get?_push_of_some _ e, by rw [Heap.size_push]; omega, fun p hp => by
    rcases List.mem_cons.mp hp with rfl | hp
    · exact ⟨Heap.get?_push_size _ hf, Heap.get?_none_of_le (Nat.le_refl _)⟩
    · cases hp⟩
/-- a list of texts, fresh -/
noncomputable abbrev NewStrs (xs : List PySem.Str) (v : Value) (tl : List (Addr × Obj)) : Prop := ∃ D vals n, v = .ref D ∧ tl = [(D, W.listOf vals.toArray n)] ∧ StrsAre vals xs
theorem split_does {x y : PySem.Str} {t u : Tok} (hy : (y.length == 0) = false) (hsz : x.length + 2 ≤ sizeLine) : Does w A (call (.builtin "str.split") [.str x t, .str y u]) s (NewStrs (Txt.split x y)) := by
  intro Q E h
  have hn : (partsBetween x (occurrences x y 0 x.length (x.length + 1)) y.length).length ≤ sizeLine := by
    have e1 := StrLaws.occ_length_le x y 0 x.length (x.length + 1)
    rw [length_partsBetween]; omega
  have fin : ∀ (l : List (PySem.Str × Tok)) (k : Nat), l.map (·.1) = Txt.split x y → Q (.ref s.heap.objs.size) { s with heap := s.heap.push { cls := .type "list", data := .seq (strValues l).toArray }, toks := k } := fun l k e => by
    obtain ⟨a, b, c⟩ := push_does (v := .none) (h := s.heap) (o := { cls := .type "list", data := .seq (strValues l).toArray }) rfl
    exact h _ _ _ _ a b c ⟨_, _, _, rfl, rfl, e ▸ strsAre_of_values l⟩
  cases h1 : (decide (x.length < y.length) || decide (strKind x < strKind y))
  · cases hf : (occurrences x y 0 x.length (x.length + 1)).isEmpty
    · refine call_meets F.slot_str_split (typeIs_str _ _ _) F.entry_str_split (F.args_str_split_2 _ _) (meets_str_split_sep x y t u h1 hy hf (by omega) hn) ?_
      show wants Q E _ { s with toks := _, heap := s.heap.push { cls := .type "list", data := .seq (strsFrom s.toks (partsBetween x (occurrences x y 0 x.length (x.length + 1)) y.length)).toArray } }
      rw [strsFrom_eq]
      exact fin (numbered s.toks _) _ ((numbered_texts _ _).trans ((if_neg (ne_true_of_eq_false h1)).trans (if_neg (ne_true_of_eq_false hf))).symm)
    · exact call_meets F.slot_str_split (typeIs_str _ _ _) F.entry_str_split (F.args_str_split_2 _ _) (meets_str_split_not_found x y t u h1 hy hf)
        (fin [(x, t)] s.toks ((if_neg (ne_true_of_eq_false h1)).trans (if_pos hf)).symm)
  · exact call_meets F.slot_str_split (typeIs_str _ _ _) F.entry_str_split (F.args_str_split_2 _ _) (meets_str_split_cannot_occur x y t u h1)
      (fin [(x, t)] s.toks (if_pos h1).symm)
theorem same_does {α : Type} {t : Sem α} {P : α → List (Addr × Obj) → Prop} (h : ∀ Q E, (∀ a k, P a [] → Q a { s with toks := k }) → wpAny (model prog w) A t Q E s) : Does w A t s P :=
  fun Q E q => h Q E fun a k p => q a [] s.heap k (fun _ _ e => e) (Nat.le_refl _) Led.nil p
theorem join_does {D : Addr} {items : Array Value} {x : PySem.Str} {t : Tok} {ys : List PySem.Str} (hl : s.heap.IsList D items) (hi : StrsAre items.toList ys) (hsep : x.length ≤ 64) (hok : (ys.map (·.length)).sum + ys.length * 64 ≤ 16777216) :
    Does w A (call (.builtin "str.join") [.str x t, .ref D]) s (fun v _ => ∃ t', v = .str (Txt.join x ys) t') :=
  same_does fun Q E q => join_listC hl hi hsep hok fun t' k => q _ k ⟨_, rfl⟩
end
end Mine
end
/-! ListL -/
section
open PySem PySem.W PyProof.Rows PySem.Calls
set_option maxRecDepth 100000
set_option linter.unusedVariables false
namespace Mine
section
variable {w : World} {A : Around} {s : Shared} {E : Value → Shared → Prop} {h₀ : Heap} {L l : Addr} {m : Str → Option Value} {news news' : List (Addr × Obj)} {vals : List Value} {n : Nat}
theorem led_list (N : News h₀ L s.heap news) (hm : (l, W.listOf vals.toArray n) ∈ news) : s.heap.IsList l vals.toArray := ⟨_, (N _ hm).1, rfl, _, rfl⟩
theorem truthy_led {Q : Bool → Shared → Prop} (N : News h₀ L s.heap news) (hm : (l, W.listOf vals.toArray n) ∈ news) (hz : vals.length ≤ 1000000) (h : Q (!vals.isEmpty) { s with toks := s.toks + 1 + 1 }) :
    wpAny (model prog w) A (truthy (.ref l)) Q E s :=
  wpAny_truthy_list (led_list N hm) (by simp; omega) (by simpa using h)
theorem truthy_nil {Q : Bool → Shared → Prop} (N : News h₀ L s.heap news) (hm : (l, W.listOf ([] : List Value).toArray n) ∈ news) (h : Q false { s with toks := s.toks + 1 + 1 }) :
    wpAny (model prog w) A (truthy (.ref l)) Q E s := truthy_led N hm (by simp) h
theorem truthy_snoc {Q : Bool → Shared → Prop} {x : Value} (N : News h₀ L s.heap news) (hm : (l, W.listOf (vals ++ [x]).toArray n) ∈ news) (hz : vals.length ≤ 1000) (h : Q true { s with toks := s.toks + 1 + 1 }) :
    wpAny (model prog w) A (truthy (.ref l)) Q E s := truthy_led N hm (by simp; omega) ((show (!(vals ++ [x]).isEmpty) = true by simp) ▸ h)
/-- the last item, by -1 -/
theorem last_led {value slice : Expr} {Q : Value → Shared → Prop} {x : Value} {u : Tok} (N : News h₀ L s.heap news) (hm : (l, W.listOf (vals ++ [x]).toArray n) ∈ news) (h : Q x s)
    (hs : subscripted slice false (.ref l) (.int (-1) u) = operate [.ref l, .int (-1) u] (getItem (.ref l) (.int (-1) u))) :
    wpAny (model prog w) A (subscriptTail value slice (.ref l) (.int (-1) u)) Q E s :=
  tail_any (led_list N hm).typeIs slot_list_getitem.lookup (wpAny_getItem_list_neg (led_list N hm) (by omega) (by simp; omega) (by omega) (by
    have e : (-1 + (((vals ++ [x]).toArray.size : Nat) : Int)).toNat = vals.length := by simp; omega
    rw [e]; simp) h) hs
theorem pop_2 {I : Addr} {oI : Obj} {rest : List (Addr × Obj)} {Q : Value → Shared → Prop} {x : Value} (F : Fr h₀ L s.heap m) (N : News h₀ L s.heap ((I, oI) :: (l, W.listOf (vals ++ [x]).toArray n) :: rest)) (hI : I ≠ l) (hr : ∀ p ∈ rest, p.1 ≠ l) (hz : vals.length ≤ 1000)
    (h : ∀ h', Fr h₀ L h' m → News h₀ L h' ((I, oI) :: (l, W.listOf vals.toArray (n + 1)) :: rest) → Q x { s with heap := h' }) : wpAny (model prog w) A (call (.builtin "list.pop") [.ref l]) Q E s :=
  kl_pop F N (p := vals) (y := x) (by simpa using kpa_last x vals) (.tail hI (.head hr)) (by simp [sizeLine]; omega) h
theorem append_2 {I : Addr} {oI : Obj} {rest : List (Addr × Obj)} {Q : Value → Shared → Prop} {x : Value} (F : Fr h₀ L s.heap m) (N : News h₀ L s.heap ((I, oI) :: (l, W.listOf vals.toArray n) :: rest)) (hI : I ≠ l) (hr : ∀ p ∈ rest, p.1 ≠ l) (hz : vals.length ≤ 1000)
    (h : ∀ h', Fr h₀ L h' m → News h₀ L h' ((I, oI) :: (l, W.listOf (vals ++ [x]).toArray (n + 1)) :: rest) → Q .none { s with heap := h' }) : wpAny (model prog w) A (call (.builtin "list.append") [.ref l, x]) Q E s := by
  refine append_K F N (.tail hI (.head hr)) (fun h' F' N' => h h' F' ?_) (by simp [sizeLine]; omega)
  rw [List.push_toArray] at N'
  exact N'
theorem strs_snoc {us : List Value} {x : Value} {acc : List Str} (h : StrsAre (us ++ [x]) acc) : ∃ acc' z tz, acc = acc' ++ [z] ∧ x = .str z tz ∧ StrsAre us acc' := by
  induction us generalizing acc with
  | nil =>
    cases h with
    | cons y t h => cases h; exact ⟨[], y, t, rfl, rfl, .nil⟩
  | cons u us ih =>
    cases h with
    | cons y t h =>
      obtain ⟨acc', z, tz, rfl, e, h'⟩ := ih h
      exact ⟨y :: acc', z, tz, rfl, e, .cons y t h'⟩
end
end Mine
end
/-! Eq1 -/
section
open PySem PySem.W PyProof.Rows PySem.Calls
set_option maxRecDepth 100000
set_option linter.unusedVariables false
namespace Mine
open AutoSeq1 (wpAny_loadPart')
open MeetsSeq MeetsSeq2 MeetsSeq3 SeqAt

/-- Lists of texts in order: as Python's < of lists. -/
noncomputable def ltL : List Str → List Str → Bool
  | [], [] => false
  | [], _ :: _ => true
  | _ :: _, [] => false
  | x :: xs, y :: ys => if x == y then ltL xs ys else decide (x.cps.toList < y.cps.toList)

theorem strsAre_get {vals : List Value} {xs : List Str} (h : StrsAre vals xs) {i : Nat} {x : Str} {r : List Str} (hd : xs.drop i = x :: r) :
    ∃ t, vals[i]? = some (.str x t) ∧ xs.drop (i + 1) = r := by
  induction h generalizing i with
  | nil => simp at hd
  | cons y t h ih =>
    cases i with
    | zero => simp at hd; exact ⟨t, by simp [hd.1], by simp [hd.2]⟩
    | succ i => simpa using ih (by simpa using hd)
theorem strsAre_none {vals : List Value} {xs : List Str} (h : StrsAre vals xs) {i : Nat} (hd : xs.drop i = []) :
    vals[i]? = none ∧ vals.length = xs.length ∧ xs.length ≤ i := by
  have hl : vals.length = xs.length := by
    clear hd
    induction h with
    | nil => rfl
    | cons y t h ih => simp [ih]
  have : xs.length ≤ i := by simpa using hd
  exact ⟨by simp; omega, hl, this⟩
theorem strsAre_len {vals : List Value} {xs : List Str} (h : StrsAre vals xs) : vals.length = xs.length := by
  induction h with
  | nil => rfl
  | cons y t h ih => simp [ih]

theorem strsAre_inj {V : List Value} {xs ys : List Str} (hx : StrsAre V xs) (hy : StrsAre V ys) : xs = ys := by
  induction hx generalizing ys with
  | nil => cases hy; rfl
  | cons y t h ih => cases hy with | cons _ _ h2 => rw [ih h2]
theorem rc_lt_str {prog : Program} {w : World} {A : Around} {E : Value → Shared → Prop} {s : Shared} {x y : Str} {t u : Tok} {Q : Value → Shared → Prop}
    (h : Q (.bool (decide (x.cps.toList < y.cps.toList))) s) : wpAny (model prog w) A (richCompare .Lt (.str x t) (.str y u)) Q E s := PyProof.Rows.lt_str h
theorem rc_gt_str {prog : Program} {w : World} {A : Around} {E : Value → Shared → Prop} {s : Shared} {x y : Str} {t u : Tok} {Q : Value → Shared → Prop}
    (h : Q (.bool (decide (y.cps.toList < x.cps.toList))) s) : wpAny (model prog w) A (richCompare .Gt (.str x t) (.str y u)) Q E s := by
  show wpAny _ _ (compareOp .Gt (.str x t) (.str y u)) Q E s
  exact compareOp_gives (op := .Gt) (typeIs_str s x t) (typeIs_str s y u) F.slot_str_gt F.entry_str_gt (F.args_str_gt_2 _ _) (gives_str_gt x y t u) (fun e => nomatch e) h

theorem lt_loop (l b : Addr) (V W : List Value) (n n2 : Nat) (dd dd2 : Option Addr) (sl sl2 : Array (Option Value)) (xs ys : List Str) (hx : StrsAre V xs) (hy : StrsAre W ys) (k : Nat) :
    ∀ i : Nat, xs.length - i = k → Meets (Builtin.«list.__eq__.loop» ⟨[.ref l, .ref b, rawInt i, rawInt 0], []⟩)
      (fun A R s => s.heap.get? l = some { cls := .type "list", dict := dd, data := .seq V.toArray n, slots := sl } ∧ s.heap.get? b = some { cls := .type "list", dict := dd2, data := .seq W.toArray n2, slots := sl2 } ∧
        i ≤ xs.length ∧ i ≤ ys.length ∧
        R (.ok (.ret (.bool (ltL (xs.drop i) (ys.drop i))))) s) := by
  induction k with
  | zero =>
    intro i hk prog w A R s h
    obtain ⟨hp, g, d, tk, os⟩ := s; obtain ⟨hl, hb, q1, q2, h⟩ := h
    wp_walk using wpAny_loadPart' hl, wpAny_loadPart' hb
    obtain ⟨e1, e2, e3⟩ := strsAre_none hx (i := i) (by simp; omega)
    have hi1 : V.toArray[((i : Nat) : Int).toNat]? = none := by simpa using e1
    rw [hi1]
    wp_walk using wpAny_loadPart' hl, wpAny_loadPart' hb
    have hly := strsAre_len hy
    show R (.ok (.ret (.bool (decide (V.toArray.size < W.toArray.size))))) _
    have e4 : xs.drop i = [] := by simp; omega
    rw [e4] at h
    cases hd : ys.drop i with
    | nil =>
      rw [hd] at h
      have : ys.length ≤ i := by simpa using hd
      have e5 : decide (V.toArray.size < W.toArray.size) = false := by simp; omega
      rw [e5]; exact h
    | cons y r =>
      rw [hd] at h
      have : i < ys.length := by
        have := congrArg List.length hd
        simp at this; omega
      have e5 : decide (V.toArray.size < W.toArray.size) = true := by simp; omega
      rw [e5]; exact h
  | succ k ih =>
    intro i hk prog w A R s h
    obtain ⟨hp, g, d, tk, os⟩ := s; obtain ⟨hl, hb, q1, q2, h⟩ := h
    wp_walk using wpAny_loadPart' hl, wpAny_loadPart' hb
    have hlx := strsAre_len hx
    have hly := strsAre_len hy
    cases hdx : xs.drop i with
    | nil => simp at hdx; omega
    | cons x r =>
    obtain ⟨t, e1, e2⟩ := strsAre_get hx hdx
    have hi1 : V.toArray[((i : Nat) : Int).toNat]? = some (.str x t) := by simpa using e1
    cases hdy : ys.drop i with
    | nil =>
      obtain ⟨e3, e4, e5⟩ := strsAre_none hy hdy
      have hi2 : W.toArray[((i : Nat) : Int).toNat]? = none := by simpa using e3
      rw [hi1, hi2]
      wp_walk using wpAny_loadPart' hl, wpAny_loadPart' hb
      show R (.ok (.ret (.bool (decide (V.toArray.size < W.toArray.size))))) _
      have e6 : decide (V.toArray.size < W.toArray.size) = false := by simp; omega
      rw [hdx, hdy] at h
      rw [e6]; exact h
    | cons y r2 =>
    obtain ⟨u, e3, e4⟩ := strsAre_get hy hdy
    have hi2 : W.toArray[((i : Nat) : Int).toNat]? = some (.str y u) := by simpa using e3
    have hc : ((i : Int) + 1) = ((i + 1 : Nat) : Int) := by push_cast; rfl
    rw [hi1, hi2]
    rw [hdx, hdy] at h
    have s1 : i < xs.length := by omega
    have s2 : i < ys.length := by
        have := congrArg List.length hdy
        simp at this; omega
    refine wpAny_bind (eqBool_str ?_)
    cases hb' : (x == y) with
    | true =>
      wp_walk
      rw [hc]
      exact ⟨plainId_quiet plain_eq_loop _, codeAny_builtin entry_eq_loop (by
        rw [Around.under_plainId plain_eq_loop _]
        exact ih (i + 1) (by omega) prog w A R _ ⟨hl, hb, s1, s2, by rw [e2, e4]; simpa [ltL, hb'] using h⟩)⟩
    | false =>
      wp_walk using wpAny_loadPart' hl, wpAny_loadPart' hb
      rw [hi1, hi2]
      refine wpAny_bind (rc_lt_str ?_)
      wp_walk
      simpa [ltL, hb'] using h

theorem beq_sym' {x y : Str} {b : Bool} (h : (x == y) = b) : (y == x) = b := by rw [← h, Bool.eq_iff_iff]; simp only [beq_iff_eq]; exact eq_comm
theorem gt_loop (l b : Addr) (V W : List Value) (n n2 : Nat) (dd dd2 : Option Addr) (sl sl2 : Array (Option Value)) (xs ys : List Str) (hx : StrsAre V xs) (hy : StrsAre W ys) (k : Nat) :
    ∀ i : Nat, xs.length - i = k → Meets (Builtin.«list.__eq__.loop» ⟨[.ref l, .ref b, rawInt i, rawInt 4], []⟩)
      (fun A R s => s.heap.get? l = some { cls := .type "list", dict := dd, data := .seq V.toArray n, slots := sl } ∧ s.heap.get? b = some { cls := .type "list", dict := dd2, data := .seq W.toArray n2, slots := sl2 } ∧
        i ≤ xs.length ∧ i ≤ ys.length ∧
        R (.ok (.ret (.bool (ltL (ys.drop i) (xs.drop i))))) s) := by
  induction k with
  | zero =>
    intro i hk prog w A R s h
    obtain ⟨hp, g, d, tk, os⟩ := s; obtain ⟨hl, hb, q1, q2, h⟩ := h
    wp_walk using wpAny_loadPart' hl, wpAny_loadPart' hb
    obtain ⟨e1, e2, e3⟩ := strsAre_none hx (i := i) (by simp; omega)
    have hi1 : V.toArray[((i : Nat) : Int).toNat]? = none := by simpa using e1
    rw [hi1]
    wp_walk using wpAny_loadPart' hl, wpAny_loadPart' hb
    have hly := strsAre_len hy
    show R (.ok (.ret (.bool (decide (V.toArray.size > W.toArray.size))))) _
    have e4 : xs.drop i = [] := by simp; omega
    rw [e4] at h
    cases hd : ys.drop i with
    | nil =>
      rw [hd] at h
      have : ys.length ≤ i := by simpa using hd
      have e5 : decide (V.toArray.size > W.toArray.size) = false := by simp; omega
      rw [e5]; exact h
    | cons y r =>
      rw [hd] at h
      have : i < ys.length := by
        have := congrArg List.length hd
        simp at this; omega
      have e5 : decide (V.toArray.size > W.toArray.size) = false := by simp; omega
      rw [e5]; exact h
  | succ k ih =>
    intro i hk prog w A R s h
    obtain ⟨hp, g, d, tk, os⟩ := s; obtain ⟨hl, hb, q1, q2, h⟩ := h
    wp_walk using wpAny_loadPart' hl, wpAny_loadPart' hb
    have hlx := strsAre_len hx
    have hly := strsAre_len hy
    cases hdx : xs.drop i with
    | nil => simp at hdx; omega
    | cons x r =>
    obtain ⟨t, e1, e2⟩ := strsAre_get hx hdx
    have hi1 : V.toArray[((i : Nat) : Int).toNat]? = some (.str x t) := by simpa using e1
    cases hdy : ys.drop i with
    | nil =>
      obtain ⟨e3, e4, e5⟩ := strsAre_none hy hdy
      have hi2 : W.toArray[((i : Nat) : Int).toNat]? = none := by simpa using e3
      rw [hi1, hi2]
      wp_walk using wpAny_loadPart' hl, wpAny_loadPart' hb
      show R (.ok (.ret (.bool (decide (V.toArray.size > W.toArray.size))))) _
      have e6 : decide (V.toArray.size > W.toArray.size) = true := by simp; omega
      rw [hdx, hdy] at h
      rw [e6]; exact h
    | cons y r2 =>
    obtain ⟨u, e3, e4⟩ := strsAre_get hy hdy
    have hi2 : W.toArray[((i : Nat) : Int).toNat]? = some (.str y u) := by simpa using e3
    have hc : ((i : Int) + 1) = ((i + 1 : Nat) : Int) := by push_cast; rfl
    rw [hi1, hi2]
    rw [hdx, hdy] at h
    have s1 : i < xs.length := by omega
    have s2 : i < ys.length := by
        have := congrArg List.length hdy
        simp at this; omega
    refine wpAny_bind (eqBool_str ?_)
    cases hb' : (x == y) with
    | true =>
      wp_walk
      rw [hc]
      exact ⟨plainId_quiet plain_eq_loop _, codeAny_builtin entry_eq_loop (by
        rw [Around.under_plainId plain_eq_loop _]
        exact ih (i + 1) (by omega) prog w A R _ ⟨hl, hb, s1, s2, by rw [e2, e4]; simpa [ltL, hb', beq_sym' hb'] using h⟩)⟩
    | false =>
      wp_walk using wpAny_loadPart' hl, wpAny_loadPart' hb
      rw [hi1, hi2]
      refine wpAny_bind (rc_gt_str ?_)
      wp_walk
      simpa [ltL, hb', beq_sym' hb'] using h

theorem list_lt_S (l b : Addr) (V W : List Value) (n n2 : Nat) (dd dd2 : Option Addr) (sl sl2 : Array (Option Value)) (xs ys : List Str) (hx : StrsAre V xs) (hy : StrsAre W ys) :
    Meets (Builtin.«list.__lt__» ⟨[.ref l, .ref b], []⟩)
      (fun A R s => s.heap.get? l = some { cls := .type "list", dict := dd, data := .seq V.toArray n, slots := sl } ∧ s.heap.get? b = some { cls := .type "list", dict := dd2, data := .seq W.toArray n2, slots := sl2 } ∧
        R (.ok (.ret (.bool (ltL xs ys)))) s) := by
  intro prog w A R s h
  obtain ⟨hp, g, d, tk, os⟩ := s; obtain ⟨hl, hb, h⟩ := h
  have f3 := AutoSeq1.sub_list_list
  wp_walk using wpAny_loadPart' hl, wpAny_loadPart' hb
  exact ⟨plainId_quiet plain_eq_loop _, codeAny_builtin entry_eq_loop (by
    rw [Around.under_plainId plain_eq_loop _]
    exact lt_loop l b V W n n2 dd dd2 sl sl2 xs ys hx hy _ 0 rfl prog w A R _ ⟨hl, hb, Nat.zero_le _, Nat.zero_le _, by simpa using h⟩)⟩
theorem list_gt_S (l b : Addr) (V W : List Value) (n n2 : Nat) (dd dd2 : Option Addr) (sl sl2 : Array (Option Value)) (xs ys : List Str) (hx : StrsAre V xs) (hy : StrsAre W ys) :
    Meets (Builtin.«list.__gt__» ⟨[.ref l, .ref b], []⟩)
      (fun A R s => s.heap.get? l = some { cls := .type "list", dict := dd, data := .seq V.toArray n, slots := sl } ∧ s.heap.get? b = some { cls := .type "list", dict := dd2, data := .seq W.toArray n2, slots := sl2 } ∧
        R (.ok (.ret (.bool (ltL ys xs)))) s) := by
  intro prog w A R s h
  obtain ⟨hp, g, d, tk, os⟩ := s; obtain ⟨hl, hb, h⟩ := h
  have f3 := AutoSeq1.sub_list_list
  wp_walk using wpAny_loadPart' hl, wpAny_loadPart' hb
  exact ⟨plainId_quiet plain_eq_loop _, codeAny_builtin entry_eq_loop (by
    rw [Around.under_plainId plain_eq_loop _]
    exact gt_loop l b V W n n2 dd dd2 sl sl2 xs ys hx hy _ 0 rfl prog w A R _ ⟨hl, hb, Nat.zero_le _, Nat.zero_le _, by simpa using h⟩)⟩

section
variable {prog : Program} {w : World} {A : Around} {E : Value → Shared → Prop} {s : Shared} {l b : Addr} {V W : List Value} {xs ys : List Str}
theorem rc_lt_S {Q : Value → Shared → Prop} (hl : s.heap.IsList l V.toArray) (hb : s.heap.IsList b W.toArray) (hx : StrsAre V xs) (hy : StrsAre W ys) (hu : A.units < cLine)
    (h : Q (.bool (ltL xs ys)) s) : wpAny (model prog w) A (richCompare .Lt (.ref l) (.ref b)) Q E s := by
  obtain ⟨⟨cls, dd, data, sl⟩, ho, hc, n, hd⟩ := id hl
  obtain ⟨⟨cls2, dd2, data2, sl2⟩, ho2, hc2, n2, hd2⟩ := id hb
  simp only at hc hd hc2 hd2
  subst hc hd hc2 hd2
  exact richCompare_meets_room (op := .Lt) ⟨_, ho, rfl⟩ ⟨_, ho2, rfl⟩ F.slot_list_lt F.entry_list_lt (F.args_list_lt_2 _ _) (list_lt_S l b V W n n2 dd dd2 sl sl2 xs ys hx hy)
    ⟨ho, ho2, show Value.bool (ltL xs ys) ≠ Value.notImplemented ∧ Q (.bool (ltL xs ys)) s from ⟨(fun x => nomatch x), h⟩⟩ hu
theorem rc_gt_S {Q : Value → Shared → Prop} (hl : s.heap.IsList l V.toArray) (hb : s.heap.IsList b W.toArray) (hx : StrsAre V xs) (hy : StrsAre W ys) (hu : A.units < cLine)
    (h : Q (.bool (ltL ys xs)) s) : wpAny (model prog w) A (richCompare .Gt (.ref l) (.ref b)) Q E s := by
  obtain ⟨⟨cls, dd, data, sl⟩, ho, hc, n, hd⟩ := id hl
  obtain ⟨⟨cls2, dd2, data2, sl2⟩, ho2, hc2, n2, hd2⟩ := id hb
  simp only at hc hd hc2 hd2
  subst hc hd hc2 hd2
  exact richCompare_meets_room (op := .Gt) ⟨_, ho, rfl⟩ ⟨_, ho2, rfl⟩ F.slot_list_gt F.entry_list_gt (F.args_list_gt_2 _ _) (list_gt_S l b V W n n2 dd dd2 sl sl2 xs ys hx hy)
    ⟨ho, ho2, show Value.bool (ltL ys xs) ≠ Value.notImplemented ∧ Q (.bool (ltL ys xs)) s from ⟨(fun x => nomatch x), h⟩⟩ hu

theorem all_eq (hx : StrsAre V xs) (hy : StrsAre W ys) (hn : V.length = W.length) :
    ∃ e : Nat → Bool, (∀ (A : Around) (s : Shared) j (h1 : j < V.toArray.size) (h2 : j < W.toArray.size), EqAt A s V.toArray[j] W.toArray[j] (e j)) ∧ (List.range V.toArray.size).all e = (xs == ys) := by
  refine ⟨fun j => xs[j]? == ys[j]?, fun A s j h1 h2 => ?_, ?_⟩
  · have hlx := strsAre_len hx
    have hly := strsAre_len hy
    simp at h1 h2
    have k1 : j < xs.length := by omega
    have k2 : j < ys.length := by omega
    obtain ⟨t, e1, -⟩ := strsAre_get hx (List.drop_eq_getElem_cons k1)
    obtain ⟨u, e2, -⟩ := strsAre_get hy (List.drop_eq_getElem_cons k2)
    have e3 : V.toArray[j] = .str xs[j] t := by rw [List.getElem?_eq_getElem h1] at e1; simpa using e1
    have e4 : W.toArray[j] = .str ys[j] u := by rw [List.getElem?_eq_getElem h2] at e2; simpa using e2
    rw [e3, e4]
    have e5 : (xs[j]? == ys[j]?) = (xs[j] == ys[j]) := by rw [List.getElem?_eq_getElem k1, List.getElem?_eq_getElem k2]; rfl
    show EqAt _ _ _ _ (xs[j]? == ys[j]?)
    rw [e5]
    exact (eqGives_str _ _ _ _).at _ _
  · have hlx := strsAre_len hx
    have hly := strsAre_len hy
    rw [Bool.eq_iff_iff]
    simp only [List.all_eq_true, List.mem_range, beq_iff_eq]
    constructor
    · intro h
      apply List.ext_getElem? 
      intro i
      by_cases hi : i < xs.length
      · exact h i (by simpa using by omega)
      · rw [List.getElem?_eq_none (by omega), List.getElem?_eq_none (by omega)]
    · rintro rfl _ _; rfl

theorem strs_ne (hx : StrsAre V xs) (hy : StrsAre W ys) (hn : V.length ≠ W.length) : (xs == ys) = false := by
  have hlx := strsAre_len hx
  have hly := strsAre_len hy
  rw [beq_eq_false_iff_ne]
  rintro rfl; omega

theorem rc_eq_S (hl : s.heap.IsList l V.toArray) (hb : s.heap.IsList b W.toArray) (hx : StrsAre V xs) (hy : StrsAre W ys) (hu : A.units < cLine) :
    RcAt A s (.ref l) (.ref b) (xs == ys) := by
  by_cases hn : V.length = W.length
  · obtain ⟨e, he, ee⟩ := all_eq hx hy hn
    rw [← ee]
    exact RcAt.lists hl hb (by simpa using hn) hu (fun j h1 h2 => he _ _ j h1 h2)
  · rw [strs_ne hx hy hn]
    exact RcAt.lists_lengths hl hb (by simpa using hn) hu
theorem rc_ne_S (hl : s.heap.IsList l V.toArray) (hb : s.heap.IsList b W.toArray) (hx : StrsAre V xs) (hy : StrsAre W ys) (hu : A.units < cLine) :
    RcNeAt A s (.ref l) (.ref b) (xs != ys) := by
  by_cases hn : V.length = W.length
  · obtain ⟨e, he, ee⟩ := all_eq hx hy hn
    rw [bne, ← ee]
    exact RcNeAt.lists hl hb (by simpa using hn) hu (fun j h1 h2 => he _ _ j h1 h2)
  · rw [bne, strs_ne hx hy hn]
    exact RcNeAt.lists_lengths hl hb (by simpa using hn) hu
/-- Two lists of texts by eqBool (the same or not the same object). -/
theorem eqAt_S (hl : s.heap.IsList l V.toArray) (hb : s.heap.IsList b W.toArray) (hx : StrsAre V xs) (hy : StrsAre W ys) (hu : A.units < cLine) :
    EqAt A s (.ref l) (.ref b) (xs == ys) := by
  by_cases h : l = b
  · subst h
    have : (xs == ys) = true := by
      obtain ⟨o, ho, -, n, hd⟩ := id hl
      obtain ⟨o2, ho2, -, n2, hd2⟩ := id hb
      obtain rfl : o = o2 := by rw [ho] at ho2; exact Option.some.inj ho2
      rw [hd] at hd2
      injection hd2 with hv _
      obtain rfl : V = W := by simpa using hv
      rw [beq_iff_eq]
      exact strsAre_inj hx hy
    rw [this]; exact EqAt.same _
  · exact EqAt.of_refs h (rc_eq_S hl hb hx hy hu)
/-- A list against the empty list. -/
theorem rc_eq_nil (hl : s.heap.IsList l V.toArray) (hb : s.heap.IsList b #[]) (hu : A.units < cLine) :
    RcAt A s (.ref l) (.ref b) (decide (V = [])) := by
  cases V with
  | nil => simpa using RcAt.lists (e := fun _ => true) hl hb rfl hu (fun j h1 h2 => absurd h1 (by simp))
  | cons v r => simpa using RcAt.lists_lengths hl hb (by simp) hu
theorem ne_S {Q : Value → Shared → Prop} (hl : s.heap.IsList l V.toArray) (hb : s.heap.IsList b W.toArray) (hx : StrsAre V xs) (hy : StrsAre W ys) (hu : A.units < cLine)
    (h : Q (.bool (xs != ys)) s) : wpAny (model prog w) A (compareOp .NotEq (.ref l) (.ref b)) Q E s := rc_ne_S hl hb hx hy hu _ _ _ _ h
theorem eq_S {Q : Value → Shared → Prop} (hl : s.heap.IsList l V.toArray) (hb : s.heap.IsList b W.toArray) (hx : StrsAre V xs) (hy : StrsAre W ys) (hu : A.units < cLine)
    (h : Q (.bool (xs == ys)) s) : wpAny (model prog w) A (compareOp .Eq (.ref l) (.ref b)) Q E s := rc_eq_S hl hb hx hy hu _ _ _ _ h
theorem lt_S {Q : Value → Shared → Prop} (hl : s.heap.IsList l V.toArray) (hb : s.heap.IsList b W.toArray) (hx : StrsAre V xs) (hy : StrsAre W ys) (hu : A.units < cLine)
    (h : Q (.bool (ltL xs ys)) s) : wpAny (model prog w) A (compareOp .Lt (.ref l) (.ref b)) Q E s := rc_lt_S hl hb hx hy hu h
theorem gt_S {Q : Value → Shared → Prop} (hl : s.heap.IsList l V.toArray) (hb : s.heap.IsList b W.toArray) (hx : StrsAre V xs) (hy : StrsAre W ys) (hu : A.units < cLine)
    (h : Q (.bool (ltL ys xs)) s) : wpAny (model prog w) A (compareOp .Gt (.ref l) (.ref b)) Q E s := rc_gt_S hl hb hx hy hu h
theorem Rm.lt {d u : Nat} (r : Rm A d u) : A.units < cLine := Nat.lt_of_le_of_lt (Nat.le_add_right _ _) r.uni
end
end Mine
end
/-! Iter1 -/
section
open PySem PySem.W PyProof.Rows PySem.Calls
set_option maxRecDepth 100000
set_option linter.unusedVariables false
namespace Mine
section
variable {w : World} {A : Around} {s : Shared} {E : Value → Shared → Prop} {h₀ : Heap} {L P I : Addr} {m : Str → Option Value} {news : List (Addr × Obj)} {items : Array Value}
/-- a list's iterator as an object -/
noncomputable def LiObj (o : Obj) (P : Addr) (i : Nat) : Prop := o.cls = .type "list_iterator" ∧ o.data = .fields #[.ref P, .int i 0]
theorem LiObj.at {o : Obj} {i : Nat} {h : Heap} (l : LiObj o P i) (e : h.get? I = some o) : h.IsListIter I P i := ⟨o, e, l.1, l.2⟩
theorem iter_led {Q : Value → Shared → Prop} (F : Fr h₀ L s.heap m) (N : News h₀ L s.heap news) (hl : s.heap.IsList P items)
    (h : ∀ I oI h', Fr h₀ L h' m → News h₀ L h' ((I, oI) :: news) → (∀ p ∈ news, p.1 ≠ I) → P ≠ I → LiObj oI P 0 → Q (.ref I) { s with heap := h' }) :
    wpAny (model prog w) A (call (.builtin "iter") [.ref P]) Q E s := by
  have hP : P < s.heap.objs.size := by obtain ⟨o, e, _⟩ := hl; exact Heap.lt_size e
  refine call_function_entry (by decide +kernel) (by decide +kernel) kdk_entry_iter (kdk_args_iter _) ?_
  unfold Builtin.«iter»
  refine wpAny_bind (m := someArgs "iter" 1 2 _) (wpAny_of_eq (a := [Value.ref P]) (by first | rfl | kernel_rfl!) ?_)
  show wpAny _ _ (pyIter (.ref P) >>= _) _ _ _
  refine wpAny_bind (wpAny_pyIter_list hl ?_)
  exact wpAny_pure ⟨_, rfl, h _ _ _ (F.push _) (News.push F N _ rfl) (fun q hq => Nat.ne_of_lt (Heap.lt_size (N q hq).1)) (Nat.ne_of_lt hP) ⟨rfl, rfl⟩⟩
theorem next_led {Q : Value → Shared → Prop} {oI : Obj} {i : Nat} {x : Value} (F : Fr h₀ L s.heap m) (N : News h₀ L s.heap ((I, oI) :: news)) (off : ∀ p ∈ news, p.1 ≠ I) (hlo : LiObj oI P i) (hl : s.heap.IsList P items) (hx : items[i]? = some x)
    (h : ∀ oI' h', Fr h₀ L h' m → News h₀ L h' ((I, oI') :: news) → LiObj oI' P (i + 1) → Q x { s with heap := h' }) :
    wpAny (model prog w) A (call (.builtin "next") [.ref I]) Q E s := by
  have hit := hlo.at (N _ List.mem_cons_self).1
  have fin : ∀ h', h'.IsListIter I P (i + 1) → Heap.SameBut I s.heap h' → Q x { s with heap := h' } := fun h' hi hs => by
    have hz := N (I, oI) List.mem_cons_self
    obtain ⟨o', e', r⟩ := id hi
    refine h o' h' (F.change hs hz.2.1 hz.2.2) (fun p hp => ?_) r
    rcases List.mem_cons.mp hp with rfl | hp
    · exact ⟨e', hz.2⟩
    · have q := N p (List.mem_cons_of_mem _ hp)
      exact ⟨hs.extBut _ _ (off p hp) q.1, q.2⟩
  obtain ⟨o, ho, hc, hd⟩ := id hit
  obtain ⟨ol, hol, _, nl, hdl⟩ := hl
  refine call_function_entry (by decide +kernel) (by decide +kernel) kdk_entry_next (kdk_args_next _) ?_
  unfold Builtin.«next»
  refine wpAny_bind (m := someArgs "next" 1 2 _) (wpAny_of_eq (a := [Value.ref I]) (by first | rfl | kernel_rfl!) ?_)
  dsimp only [List.headD]
  refine wpAny_bind (wpAny_specialOf hit.typeIs slot_listiter_next.lookup ?_)
  simp only [Option.isNone, Bool.false_eq_true, if_false]
  refine wpAny_bind (wpAny_callSpecial?_slot (name := Str.ofString "__next__") hit.typeIs slot_listiter_next
    (wpAny_call_entry slot_listiter_next hit.typeIs entry_listiter_next ?_ (args_listiter_next _)))
  show wpAny _ _ (field (.ref I) 0 >>= _) _ _ s
  refine wpAny_bind (wpAny_field ho hd (x := .ref P) rfl ?_)
  show wpAny _ _ (if (Value.ref P == Value.none) = true then _ else _) _ _ s
  rw [if_neg (show ¬ ((Value.ref P == Value.none) = true) from Bool.false_ne_true)]
  show wpAny _ _ (field (.ref I) 1 >>= _) _ _ s
  refine wpAny_bind (wpAny_field ho hd (x := .int i 0) rfl ?_)
  show wpAny _ _ (seqItems? (.ref P) >>= _) _ _ s
  refine wpAny_bind (wpAny_seqItems hol hdl ?_)
  simp only [Int.toNat_natCast, hx]
  refine wpAny_bind (wpAny_setField ho hd (by simp) (wpAny_pure ⟨x, rfl, wpAny_pure ⟨_, rfl, ?_⟩⟩))
  exact fin _ ⟨_, Heap.get?_update_self _ ho (Obj.isFreed_of_fields (Obj.data_mapFields hd _)), (Obj.cls_mapFields ..).trans hc, by
    rw [Obj.data_mapFields hd]; simp [rawInt]⟩ (Heap.SameBut.update ..)
end
end Mine
end
/-! J1 -/
section
open PySem PySem.W PyProof.Rows PySem.Calls
set_option maxRecDepth 100000
set_option linter.unusedVariables false
namespace Mine

/-- a name holds a text -/
noncomputable def HasS (m : Str → Option Value) (x : Str) (v : Str) : Prop := ∃ t, m x = some (.str v t)
theorem HasS.now {m : Str → Option Value} {x v : Str} {t : Tok} : HasS (fun y => if y = x then some (.str v t) else m y) x v := ⟨t, if_pos rfl⟩
theorem HasS.next {m : Str → Option Value} {x z v : Str} {u : Option Value} (h : HasS m x v) (hne : x ≠ z) : HasS (fun y => if y = z then u else m y) x v := let ⟨t, e⟩ := h; ⟨t, (if_neg hne).trans e⟩
local macro_rules | `(tactic| walk_at "has_s") => `(tactic| (repeat (first | exact HasS.now | assumption | refine HasS.next ?_ (by decide))))
noncomputable def joinS (a b : Str) : Str := if Txt.startswith b "/" = true then b else if (a.length : Int) ≠ 0 then (if Txt.endswith a "/" = true then a ++ b else a ++ ("/" ++ b)) else b
theorem joinS_1 {a b : Str} (h : Txt.startswith b "/" = true) : joinS a b = b := by unfold joinS; rw [if_pos h]
theorem joinS_2 {a b : Str} (h : Txt.startswith b "/" = false) (h1 : (a.length : Int) ≠ 0) (h2 : Txt.endswith a "/" = true) : joinS a b = a ++ b := by unfold joinS; rw [if_neg (by rw [h]; decide), if_pos h1, if_pos h2]
theorem joinS_3 {a b : Str} (h : Txt.startswith b "/" = false) (h1 : (a.length : Int) ≠ 0) (h2 : Txt.endswith a "/" = false) : joinS a b = a ++ ("/" ++ b) := by unfold joinS; rw [if_neg (by rw [h]; decide), if_pos h1, if_neg (by rw [h2]; decide)]
theorem joinS_4 {a b : Str} (h : Txt.startswith b "/" = false) (h1 : (a.length : Int) = 0) : joinS a b = b := by unfold joinS; rw [if_neg (by rw [h]; decide), if_neg (fun hn => hn h1)]

local macro_rules | `(tactic| walk_at "exec For Name Name cons nil") => `(tactic| (k_dflt (refine wpAny_For ?_)))

set_option maxHeartbeats 8000000 in
theorem join_ok {w : World} {A : Around} {s : Shared} {a b : Str} {t u : Tok} 
   (C : Cx w s.heap) (r : Rm A 5 50) (ha : a.length ≤ 1000) (hb : b.length ≤ 1000) : Does w A (call (.ref 115) [.str a t, .str b u]) s (fun v _ => ∃ t', v = .str (joinS a b) t') := by
  intro Q E h
  have hd := r.dep
  refine enterStar (vs := [.str b u]) (binds := fun D => [("a", .str a t), ("p", .ref D)]) C (by k_is) (by k_is) (by omega) rfl (by show 1 ≤ _; decide) (by decide) (fun D => locs rfl) rfl rfl rfl (fun h₁ L D p loose mean mg mb F N X T => ?_)
  (repeat' (first | (k_unfold; (try dsimp only)) | (k_end; kc_close) | ((with_reducible show wpAny _ _ (PySem.call (PySem.Value.ref _) _ _) _ _ _); with_reducible (refine Does.fr0 (get_sep_ok (cx_of (by assumption) (by assumption) (by assumption)) (by simp only [depth_deeper]; omega)) (by assumption) (by assumption) ?_; (intro _ _ _ _ _ _ e'; obtain ⟨_, e'⟩ := e'; subst e'); (try k_sweep))) | ((with_reducible show wpAny _ _ (PySem.call (PySem.Value.ref _) _ _) _ _ _); with_reducible (refine Does.fr0 (fspath_ok (cx_of (by assumption) (by assumption) (by assumption)) (by simp only [depth_deeper]; omega)) (by assumption) (by assumption) ?_; (intro _ _ _ _ _ _ e'; subst e'); (try k_sweep))) | walk1 | (dsimp only; (first | ((with_reducible show wpAny _ _ (PySem.call (PySem.Value.ref _) _ _) _ _ _); with_reducible (refine Does.fr0 (get_sep_ok (cx_of (by assumption) (by assumption) (by assumption)) (by simp only [depth_deeper]; omega)) (by assumption) (by assumption) ?_; (intro _ _ _ _ _ _ e'; obtain ⟨_, e'⟩ := e'; subst e'); (try k_sweep))) | ((with_reducible show wpAny _ _ (PySem.call (PySem.Value.ref _) _ _) _ _ _); with_reducible (refine Does.fr0 (fspath_ok (cx_of (by assumption) (by assumption) (by assumption)) (by simp only [depth_deeper]; omega)) (by assumption) (by assumption) ?_; (intro _ _ _ _ _ _ e'; subst e'); (try k_sweep))) | walk1)) | (leave1; (try dsimp only)) | fail "no step"))
  rename Fr _ _ _ _ => F1
  rename News _ _ _ _ => N1
  refine for_fr F1 N1 (iterOf_tuple (its := #[.str b u]) r.hh ⟨_, News.get N1 (.head _), rfl, _, rfl⟩)
    (fun i m' news' => (D, ({ cls := .type "tuple", data := .seq #[.str b u] } : Obj)) ∈ news' ∧ HasS m' "path" (if i = 0 then a else joinS a b) ∧ HasS m' "sep" "/")
    ⟨.head _, ⟨_, rfl⟩, ⟨_, rfl⟩⟩ (.inr ⟨_, .head _, fun i m' news' x => x.1⟩) ?_ ?_
  · rintro i v m₁ news₁ I oI h₁ tk₁ hi hP ⟨hD, ⟨t1, hp⟩, ⟨t2, hs⟩⟩ F2 N2 hI off
    obtain rfl : i = 0 := by simp at hi; exact hi
    obtain rfl : v = .str b u := by simpa using hP.symm
    simp only [if_true] at hp
    clear hP F1 N1
    have hs' : HasS m₁ "sep" "/" := ⟨_, hs⟩
    (repeat' (first | (k_unfold; (try dsimp only)) | (k_end; kc_close) | ((with_reducible show wpAny _ _ (PySem.call (PySem.Value.ref _) _ _) _ _ _); with_reducible (refine Does.fr0 (get_sep_ok (cx_of (by assumption) (by assumption) (by assumption)) (by simp only [depth_deeper]; omega)) (by assumption) (by assumption) ?_; (intro _ _ _ _ _ _ e'; obtain ⟨_, e'⟩ := e'; subst e'); (try k_sweep))) | ((with_reducible show wpAny _ _ (PySem.call (PySem.Value.ref _) _ _) _ _ _); with_reducible (refine Does.fr0 (fspath_ok (cx_of (by assumption) (by assumption) (by assumption)) (by simp only [depth_deeper]; omega)) (by assumption) (by assumption) ?_; (intro _ _ _ _ _ _ e'; subst e'); (try k_sweep))) | walk1 | (dsimp only; (first | ((with_reducible show wpAny _ _ (PySem.call (PySem.Value.ref _) _ _) _ _ _); with_reducible (refine Does.fr0 (get_sep_ok (cx_of (by assumption) (by assumption) (by assumption)) (by simp only [depth_deeper]; omega)) (by assumption) (by assumption) ?_; (intro _ _ _ _ _ _ e'; obtain ⟨_, e'⟩ := e'; subst e'); (try k_sweep))) | ((with_reducible show wpAny _ _ (PySem.call (PySem.Value.ref _) _ _) _ _ _); with_reducible (refine Does.fr0 (fspath_ok (cx_of (by assumption) (by assumption) (by assumption)) (by simp only [depth_deeper]; omega)) (by assumption) (by assumption) ?_; (intro _ _ _ _ _ _ e'; subst e'); (try k_sweep))) | walk1)) | ((with_reducible show wpAny _ _ (loadName _ _) _ _ _); with_reducible (k_dflt (refine' ldn ?k1 ?k2 ?_; (case k1 => assumption); (case k2 => ((try dsimp only); (repeat rw [if_neg (by decide)]); assumption))))) | ((with_reducible show wpAny _ _ (eval (PySem.Expr.Name _ _) _) _ _ _); with_reducible (k_dflt (refine' ld ?k1 ?k2 ?_; (case k1 => assumption); (case k2 => ((try dsimp only); (repeat rw [if_neg (by decide)]); assumption))))) | (leave1; (try dsimp only)) | fail "no step"))
    all_goals (refine ⟨_, _, _, _, rfl, by assumption, by assumption, off, hD, ?_, by walk_at "has_s"⟩)
    all_goals (rw [if_neg (by omega)])
    · rw [joinS_1 (by assumption)]; walk_at "has_s"
    · rw [joinS_2 (by assumption) (by assumption) (by assumption)]; walk_at "has_s"
    · rw [joinS_3 (by assumption) (by assumption) (by assumption)]; walk_at "has_s"
    · rw [joinS_4 (by assumption) (by assumption)]; walk_at "has_s"
  · rintro h' tk m' news' ⟨hD, ⟨t1, hp⟩, ⟨t2, hs⟩⟩ F2 N2
    clear F1 N1
    have hp : m' "path" = some (.str (joinS a b) t1) := hp
    (repeat' (first | (k_unfold; (try dsimp only)) | (k_end; kc_close) | walk1 | (dsimp only; (first | walk1)) | ((with_reducible show wpAny _ _ (eval (PySem.Expr.Name _ _) _) _ _ _); with_reducible (k_dflt (refine' ld ?k1 ?k2 ?_; (case k1 => assumption); (case k2 => ((try dsimp only); (repeat rw [if_neg (by decide)]); assumption))))) | (leave1; (try dsimp only)) | fail "no step"))
    exact h _ [] _ _ (Fr.keep (by assumption)) (fr_le (by assumption)) Led.nil ⟨_, rfl⟩
end Mine
end
/-! S1 -/
section
open PySem PySem.W PyProof.Rows PySem.Calls
set_option maxRecDepth 100000
set_option linter.unusedVariables false
namespace Mine

/-- splitroot's root and rest -/
noncomputable def rootS (a : Str) : Str × Str :=
  if (Txt.slice a none (some 1) != "/") = true then ("", a)
  else if (Txt.slice a (some 1) (some 2) != "/") = true then ("/", Txt.slice a (some 1) none)
  else if (Txt.slice a (some 2) (some 3) == "/") = true then ("/", Txt.slice a (some 1) none)
  else (Txt.slice a none (some 2), Txt.slice a (some 2) none)
theorem ff {b : Bool} (h : b = false) : ¬ b = true := by rw [h]; decide
theorem rootS_1 {a : Str} (h : (Txt.slice a none (some 1) != "/") = true) : rootS a = (("" : Str), a) := by unfold rootS; rw [if_pos h]
theorem rootS_2 {a : Str} (h : (Txt.slice a none (some 1) != "/") = false) (h2 : (Txt.slice a (some 1) (some 2) != "/") = true) : rootS a = (("/" : Str), Txt.slice a (some 1) none) := by unfold rootS; rw [if_neg (ff h), if_pos h2]
theorem rootS_3 {a : Str} (h : (Txt.slice a none (some 1) != "/") = false) (h2 : (Txt.slice a (some 1) (some 2) != "/") = false) (h3 : (Txt.slice a (some 2) (some 3) == "/") = true) : rootS a = (("/" : Str), Txt.slice a (some 1) none) := by unfold rootS; rw [if_neg (ff h), if_neg (ff h2), if_pos h3]
theorem rootS_4 {a : Str} (h : (Txt.slice a none (some 1) != "/") = false) (h2 : (Txt.slice a (some 1) (some 2) != "/") = false) (h3 : (Txt.slice a (some 2) (some 3) == "/") = false) : rootS a = (Txt.slice a none (some 2), Txt.slice a (some 2) none) := by unfold rootS; rw [if_neg (ff h), if_neg (ff h2), if_neg (ff h3)]

set_option maxHeartbeats 8000000 in
theorem splitroot_ok {w : World} {A : Around} {s : Shared} {a : Str} {t : Tok} 
   (C : Cx w s.heap) (r : Rm A 5 50) (ha : a.length ≤ 1000) :
   Does w A (call (.ref 122) [.str a t]) s (fun v tl => ∃ D t0 t1 t2, v = .ref D ∧ tl = [(D, ({ cls := .type "tuple", data := .seq #[.str "" t0, .str (rootS a).1 t1, .str (rootS a).2 t2] } : Obj))] ∧ (rootS a).1.length ≤ 1000 ∧ (rootS a).2.length ≤ 1000) := by
  intro Q E h
  have hd := r.dep
  refine enter (binds := [("p", .str a t)]) C (by k_is) (by k_is) (by omega) (BindsTo.of_eq rfl) (by decide) (locs rfl) rfl rfl rfl (fun h₁ p loose mean mg mb F N X T => ?_)
  (repeat' (first | (k_unfold; (try dsimp only)) | (k_end; kc_close) | ((with_reducible show wpAny _ _ (PySem.call (PySem.Value.ref _) _ _) _ _ _); with_reducible (refine Does.fr0 (fspath_ok (cx_of (by assumption) (by assumption) (by assumption)) (by simp only [depth_deeper]; omega)) (by assumption) (by assumption) ?_; (intro _ _ _ _ _ _ e'; subst e'); (try k_sweep))) | walk1 | (dsimp only; (first | ((with_reducible show wpAny _ _ (PySem.call (PySem.Value.ref _) _ _) _ _ _); with_reducible (refine Does.fr0 (fspath_ok (cx_of (by assumption) (by assumption) (by assumption)) (by simp only [depth_deeper]; omega)) (by assumption) (by assumption) ?_; (intro _ _ _ _ _ _ e'; subst e'); (try k_sweep))) | walk1)) | (leave1; (try dsimp only)) | fail "no step"))
  · refine h _ _ _ _ (Fr.keep (by assumption)) (fr_le (by assumption)) (news_led (by assumption)) ?_
    rw [rootS_1 (by assumption)]; exact ⟨_, _, _, _, rfl, rfl, Nat.zero_le _, ha⟩
  · refine h _ _ _ _ (Fr.keep (by assumption)) (fr_le (by assumption)) (news_led (by assumption)) ?_
    rw [rootS_2 (by assumption) (by assumption)]; exact ⟨_, _, _, _, rfl, rfl, (by decide : (Str.ofString "/").length ≤ 1000), by dsimp only; omega⟩
  · refine h _ _ _ _ (Fr.keep (by assumption)) (fr_le (by assumption)) (news_led (by assumption)) ?_
    rw [rootS_3 (by assumption) (by assumption) (by assumption)]; exact ⟨_, _, _, _, rfl, rfl, (by decide : (Str.ofString "/").length ≤ 1000), by dsimp only; omega⟩
  · refine h _ _ _ _ (Fr.keep (by assumption)) (fr_le (by assumption)) (news_led (by assumption)) ?_
    rw [rootS_4 (by assumption) (by assumption) (by assumption)]; exact ⟨_, _, _, _, rfl, rfl, by dsimp only; omega, by dsimp only; omega⟩
end Mine
end
/-! N1 -/
section
open PySem PySem.W PyProof.Rows PySem.Calls
set_option maxRecDepth 100000
set_option linter.unusedVariables false
namespace Mine
local macro_rules | `(tactic| walk_at "call ref") => `(tactic| (refine Does.fr (splitroot_ok (cx_of (by assumption) (by assumption) (by assumption)) (Rm.deeper (by assumption)) (by assumption)) (by assumption) (by assumption) ?_; (intro v' tl' h' tk' F' N' e'; obtain ⟨D', t0', t1', t2', e1', e2', l1', l2'⟩ := e'; subst e1'; subst e2'); (try dsimp only [List.cons_append, List.nil_append] at N'); (try k_sweep)))
local macro_rules | `(tactic| walk_at "exec For Name Name cons nil") => `(tactic| (k_dflt (refine wpAny_For ?_)))
local macro_rules | `(tactic| walk_at "call builtin:str.split") => `(tactic| (refine Does.fr (split_does (by decide) (by first | omega | (simp only [sizeLine]; omega))) (by assumption) (by assumption) ?_; (intro v' tl' h' tk' F' N' e'; obtain ⟨S', vals', n', e1', e2', hxs'⟩ := e'; subst e1'; subst e2'); (try dsimp only [List.cons_append, List.nil_append] at N'); (try k_sweep)))
local macro_rules | `(tactic| walk_at "has_r") => `(tactic| ((try dsimp only); (repeat rw [if_neg (by decide)]); assumption))
local macro_rules | `(tactic| walk_at "has_s") => `(tactic| (repeat (first | exact HasS.now | assumption | refine HasS.next ?_ (by decide))))

/-- one component -/
noncomputable def stepN (ini : Str) (acc : List Str) (c : Str) : List Str :=
  if c.length = 0 ∨ c = "." then acc
  else if c ≠ ".." ∨ (ini.length = 0 ∧ acc = []) ∨ acc.getLast? = some ".." then acc ++ [c]
  else acc.dropLast
noncomputable def normS (a : Str) : Str :=
  if a.length = 0 then "." else
    let p := (rootS a).1 ++ Txt.join "/" ((Txt.split (rootS a).2 "/").foldl (stepN (rootS a).1) [])
    if p.length = 0 then "." else p

section
variable {ini c z : Str} {acc acc' : List Str} {us us' : List Value} {t : Tok} {x : Value}
theorem sn_skip0 (h : StrsAre us acc) (hc : (c.length : Int) = 0) : StrsAre us (stepN ini acc c) := by
  unfold stepN; rw [if_pos (.inl (by omega))]; exact h
theorem sn_skip1 (h : StrsAre us acc) (hc : (c == ".") = true) : StrsAre us (stepN ini acc c) := by
  unfold stepN; rw [if_pos (.inr (eq_of_beq hc))]; exact h
theorem sn_no (hc : (c.length : Int) ≠ 0) (h1 : (c == ".") = false) : ¬ (c.length = 0 ∨ c = ".") := not_or.mpr ⟨by omega, ne_of_beq_false h1⟩
theorem sn_add (h : StrsAre us acc) (hc : (c.length : Int) ≠ 0) (h1 : (c == ".") = false) (h2 : (c != "..") = true) : StrsAre (us ++ [.str c t]) (stepN ini acc c) := by
  unfold stepN; rw [if_neg (sn_no hc h1), if_pos (.inl (by simpa using h2))]; exact StrsAre.append' h (.cons _ _ .nil)
theorem sn_add0 (hc : (c.length : Int) ≠ 0) (h1 : (c == ".") = false) (hi : (ini.length : Int) = 0) : StrsAre ([] ++ [.str c t]) (stepN ini [] c) := by
  unfold stepN; rw [if_neg (sn_no hc h1), if_pos (.inr (.inl ⟨by omega, rfl⟩))]; exact .cons _ _ .nil
theorem sn_addz (h : StrsAre us (acc' ++ [z])) (hc : (c.length : Int) ≠ 0) (h1 : (c == ".") = false) (hz : (z == "..") = true) : StrsAre (us ++ [.str c t]) (stepN ini (acc' ++ [z]) c) := by
  unfold stepN; rw [if_neg (sn_no hc h1), if_pos (.inr (.inr (by rw [eq_of_beq hz]; simp)))]; exact StrsAre.append' h (.cons _ _ .nil)
theorem sn_nil (hc : (c.length : Int) ≠ 0) (h1 : (c == ".") = false) (h2 : (c != "..") = false) (hi : (ini.length : Int) ≠ 0) : StrsAre [] (stepN ini [] c) := by
  unfold stepN; rw [if_neg (sn_no hc h1), if_neg]
  · exact .nil
  · rintro (x | ⟨x, y⟩ | x)
    · exact x (by simpa using h2)
    · omega
    · simp at x
theorem sn_pop (h : StrsAre us' acc') (hc : (c.length : Int) ≠ 0) (h1 : (c == ".") = false) (h2 : (c != "..") = false) (hz : (z == "..") = false) : StrsAre us' (stepN ini (acc' ++ [z]) c) := by
  unfold stepN; rw [if_neg (sn_no hc h1), if_neg]
  · simpa using h
  · rintro (x | ⟨x, y⟩ | x)
    · exact x (by simpa using h2)
    · simp at y
    · simp at x; subst x; simp at hz
end
theorem join_is (sep : Str) (ys : List Str) : Txt.join sep ys = Str.join sep ys := StrLaws.glued_eq_join sep ys
theorem fold_short {ini : Str} {k : Nat} {xs acc : List Str} (h : ∀ x ∈ xs, x.length ≤ k) (ha : ∀ x ∈ acc, x.length ≤ k) : ∀ x ∈ xs.foldl (stepN ini) acc, x.length ≤ k := by
  induction xs generalizing acc with
  | nil => exact ha
  | cons y ys ih =>
    refine ih (fun x hx => h x (.tail _ hx)) fun x hx => ?_
    unfold stepN at hx
    split at hx
    · exact ha x hx
    · split at hx
      · rcases List.mem_append.mp hx with hx | hx
        · exact ha x hx
        · rw [List.mem_singleton.mp hx]; exact h y (.head _)
      · exact ha x (List.dropLast_subset _ hx)
theorem sum_short {k : Nat} {xs : List Str} (h : ∀ x ∈ xs, x.length ≤ k) : (xs.map (·.length)).sum ≤ xs.length * k := by
  induction xs with
  | nil => simp
  | cons y ys ih =>
    have h1 := h y (.head _)
    have h2 := ih fun x hx => h x (.tail _ hx)
    simp only [List.map_cons, List.sum_cons, List.length_cons]
    rw [Nat.add_mul]; omega
theorem turn_end {h₀ : Heap} {L : Addr} {s₁ : Shared} {I : Addr} {oI : Obj} {J : (Str → Option Value) → List (Addr × Obj) → Prop} {m' : Str → Option Value} {news' : List (Addr × Obj)} {h' : Heap} {tk' : Nat} (F : Fr h₀ L h' m') (N : News h₀ L h' ((I, oI) :: news')) (off : ∀ p ∈ news', p.1 ≠ I) (hJ : J m' news') :
    TurnEnd h₀ L s₁ I oI J { s₁ with heap := h', toks := tk' } := ⟨m', news', h', tk', rfl, F, N, off, hJ⟩

set_option maxHeartbeats 8000000 in
theorem normpath_ok {w : World} {A : Around} {s : Shared} {a : Str} {t : Tok} 
   (C : Cx w s.heap) (r0 : Rm A 10 100) (ha : a.length ≤ 1000) (hn : (Txt.split (rootS a).2 "/").length ≤ 1000) : Does w A (call (.ref 129) [.str a t]) s (fun v tl => ∃ t', v = .str (normS a) t') := by
  intro Q E h
  obtain ⟨ah, ad, af, ag, au⟩ := A
  obtain rfl : ah = none := r0.hh
  have hd := r0.dep
  dsimp only at hd
  have r : Rm { depth := ad, frames := af, guards := ag, units := au } (5 + 1) (50 + 3) := r0.le (by decide) (by decide)
  refine enter (binds := [("path", .str a t)]) C (by k_is) (by k_is) (by dsimp only; omega) (BindsTo.of_eq rfl) (by decide) (locs rfl) rfl rfl rfl (fun h₁ p loose mean mg mb F N X T => ?_)
  (repeat' (first | (k_unfold; (try dsimp only)) | (k_end; kc_close) | ((with_reducible show wpAny _ _ (eval (PySem.Expr.Name _ _) _) _ _ _); with_reducible (k_dflt (refine' ld ?k1 ?k2 ?_; (case k1 => with_reducible assumption); (case k2 => ((try dsimp only); (repeat rw [if_neg (by decide)]); with_reducible assumption))))) | ((with_reducible show wpAny _ _ (PySem.call (PySem.Value.ref _) _ _) _ _ _); with_reducible (refine Does.fr0 (fspath_ok (cx_of (by assumption) (by assumption) (by assumption)) (by simp only [depth_deeper]; omega)) (by assumption) (by assumption) ?_; (intro _ _ _ _ _ _ e'; subst e'); (try k_sweep))) | walk1 | (dsimp only; (first | ((with_reducible show wpAny _ _ (eval (PySem.Expr.Name _ _) _) _ _ _); with_reducible (k_dflt (refine' ld ?k1 ?k2 ?_; (case k1 => with_reducible assumption); (case k2 => ((try dsimp only); (repeat rw [if_neg (by decide)]); with_reducible assumption))))) | ((with_reducible show wpAny _ _ (PySem.call (PySem.Value.ref _) _ _) _ _ _); with_reducible (refine Does.fr0 (fspath_ok (cx_of (by assumption) (by assumption) (by assumption)) (by simp only [depth_deeper]; omega)) (by assumption) (by assumption) ?_; (intro _ _ _ _ _ _ e'; subst e'); (try k_sweep))) | walk1)) | (leave1; (try dsimp only)) | fail "no step"))
  · rename Fr _ _ _ _ => F1
    rename News _ _ _ _ => N1
    rename StrsAre _ _ => hxs
    rename_i D' t0 t1 t2 l1' l2' g1 g2 g3 g4 g5 tkx S' vals n0 g6 NC g7 hlt g8
    dsimp only at F1 N1 ⊢
    have N2 : News s.heap s.heap.objs.size g8 [(NC, W.listOf #[] 0), (S', W.listOf vals.toArray n0)] := fun p hp => N1 p (by
      rcases List.mem_cons.mp hp with rfl | hp
      · exact .head _
      · exact .tail _ (by rcases List.mem_cons.mp hp with rfl | hp; exact .head _; cases hp))
    refine for_fr F1 N2 (iterOf_list (its := vals.toArray) rfl ⟨_, News.get N2 (.tail _ (.head _)), rfl, _, rfl⟩)
      (fun i m' news' => ∃ us n, news' = [(NC, W.listOf us.toArray n), (S', W.listOf vals.toArray n0)] ∧ StrsAre us (((Txt.split (rootS a).2 "/").take i).foldl (stepN (rootS a).1) []) ∧ us.length ≤ i ∧
        m' "new_comps" = some (.ref NC) ∧ HasS m' "dot" "." ∧ HasS m' "dotdot" ".." ∧ HasS m' "initial_slashes" (rootS a).1 ∧ HasS m' "sep" "/")
      ⟨[], 0, rfl, .nil, Nat.le_refl _, rfl, ⟨_, rfl⟩, ⟨_, rfl⟩, ⟨_, rfl⟩, ⟨_, rfl⟩⟩ (.inr ⟨_, .tail _ (.head _), fun i m' news' ⟨_, _, e, _⟩ => by rw [e]; exact .tail _ (.head _)⟩) ?_ ?_
    · rintro i v m₁ news₁ I oI h₁ tk₁ hi hP ⟨us, n, rfl, hus, hul, hnc, ⟨td, hdot⟩, ⟨tdd, hdd⟩, ⟨ti, hini⟩, ⟨ts, hsep⟩⟩ F2 N3 hI off
      clear F1 N1 N2
      obtain ⟨c, tc, rfl, hc⟩ := StrsAre.item hxs i v (by simpa using hP)
      rw [List.take_succ, hc]
      simp only [Option.toList, List.foldl_append, List.foldl_cons, List.foldl_nil]
      generalize hacc : ((Txt.split (rootS a).2 "/").take i).foldl (stepN (rootS a).1) [] = acc at hus ⊢
      have hcl : c.length ≤ 1000 := Nat.le_trans (part_short (List.mem_of_getElem? hc)) (by assumption)
      have hNI : NC ≠ I := off _ (.head _)
      have off' : ∀ o : Obj, ∀ p ∈ [(NC, o), (S', W.listOf vals.toArray n0)], p.1 ≠ I := fun o p hp => by
        rcases List.mem_cons.mp hp with rfl | hp
        · exact hNI
        · exact off p (.tail _ hp)
      have hNS : ∀ p ∈ [(S', W.listOf vals.toArray n0)], p.1 ≠ NC := fun p hp => by
        rcases List.mem_cons.mp hp with rfl | hp
        · exact Nat.ne_of_lt hlt.1
        · cases hp
      have hvl : vals.length ≤ 1000 := by rw [hxs.length]; exact hn
      have hi' : i < 1000 := by simp at hi; omega
      clear hI hacc hP
      have hd1 : HasS m₁ "dot" "." := ⟨_, hdot⟩
      have hd2 : HasS m₁ "dotdot" ".." := ⟨_, hdd⟩
      have hd3 : HasS m₁ "initial_slashes" (rootS a).1 := ⟨_, hini⟩
      have hd4 : HasS m₁ "sep" "/" := ⟨_, hsep⟩
      obtain rfl | ⟨us', x, rfl⟩ : us = [] ∨ ∃ us' x, us = us' ++ [x] := by
        rcases us.eq_nil_or_concat with e | ⟨us', x, e⟩
        · exact .inl e
        · exact .inr ⟨us', x, by rw [e, List.concat_eq_append]⟩
      · obtain rfl : acc = [] := by cases hus; rfl
        (repeat' (first | (k_unfold; (try dsimp only)) | (k_end; kc_close) | ((with_reducible show wpAny _ _ (PySem.call (PySem.Value.builtin "list.append") _ _) _ _ _); with_reducible (k_dflt (refine append_2 (by with_reducible assumption) (by with_reducible assumption) (Ne.symm (by with_reducible assumption)) (by with_reducible assumption) (by first | with_reducible assumption | (simp; done)) ?_); intro _ _ _; (try k_sweep))) | ((with_reducible show wpAny _ _ (truthy (PySem.Value.ref _)) _ _ _); with_reducible (k_dflt (first | refine truthy_nil (by assumption) (by k_mem) ?_ | refine truthy_snoc (by assumption) (by k_mem) (by assumption) ?_))) | ((with_reducible show wpAny _ _ (eval (PySem.Expr.Name _ _) _) _ _ _); with_reducible (k_dflt (refine' ld ?k1 ?k2 ?_; (case k1 => with_reducible assumption); (case k2 => ((try dsimp only); (repeat rw [if_neg (by decide)]); with_reducible assumption))))) | walk1 | (dsimp only; (first | ((with_reducible show wpAny _ _ (PySem.call (PySem.Value.builtin "list.append") _ _) _ _ _); with_reducible (k_dflt (refine append_2 (by with_reducible assumption) (by with_reducible assumption) (Ne.symm (by with_reducible assumption)) (by with_reducible assumption) (by first | with_reducible assumption | (simp; done)) ?_); intro _ _ _; (try k_sweep))) | ((with_reducible show wpAny _ _ (truthy (PySem.Value.ref _)) _ _ _); with_reducible (k_dflt (first | refine truthy_nil (by assumption) (by k_mem) ?_ | refine truthy_snoc (by assumption) (by k_mem) (by assumption) ?_))) | ((with_reducible show wpAny _ _ (eval (PySem.Expr.Name _ _) _) _ _ _); with_reducible (k_dflt (refine' ld ?k1 ?k2 ?_; (case k1 => with_reducible assumption); (case k2 => ((try dsimp only); (repeat rw [if_neg (by decide)]); with_reducible assumption))))) | walk1)) | (leave1; (try dsimp only)) | fail "no step"))
        all_goals (refine turn_end (by assumption) (by assumption) (off' _) ⟨_, _, rfl, ?_, ?_, (by walk_at "has_r"), (by walk_at "has_s"), (by walk_at "has_s"), (by walk_at "has_s"), (by walk_at "has_s")⟩)
        all_goals (clear F2 N3)
        all_goals first
          | (simp only [List.length_append, List.length_cons, List.length_nil] at hul ⊢; omega)
          | exact sn_skip0 hus (by with_reducible assumption)
          | exact sn_skip1 hus (by with_reducible assumption)
          | exact sn_add hus (by with_reducible assumption) (by with_reducible assumption) (by with_reducible assumption)
          | exact sn_add0 (by with_reducible assumption) (by with_reducible assumption) (by with_reducible assumption)
          | exact sn_addz hus (by with_reducible assumption) (by with_reducible assumption) (by with_reducible assumption)
          | exact sn_nil (by with_reducible assumption) (by with_reducible assumption) (by with_reducible assumption) (by with_reducible assumption)
          | exact sn_pop hus' (by with_reducible assumption) (by with_reducible assumption) (by with_reducible assumption) (by with_reducible assumption)
      · obtain ⟨acc', z, tz, rfl, rfl, hus'⟩ : ∃ acc' z tz, acc = acc' ++ [z] ∧ x = .str z tz ∧ StrsAre us' acc' := strs_snoc hus
        have hul' : us'.length ≤ 1000 := by simp at hul; omega
        have hul2 : (us' ++ [Value.str z tz]).length ≤ 1000 := by simp at hul ⊢; omega
        (repeat' (first | (k_unfold; (try dsimp only)) | (k_end; kc_close) | ((with_reducible show wpAny _ _ (PySem.call (PySem.Value.builtin "list.pop") _ _) _ _ _); with_reducible (k_dflt (refine pop_2 (by with_reducible assumption) (by with_reducible assumption) (Ne.symm (by with_reducible assumption)) (by with_reducible assumption) (by with_reducible assumption) ?_); intro _ _ _; (try k_sweep))) | ((with_reducible show wpAny _ _ (PySem.call (PySem.Value.builtin "list.append") _ _) _ _ _); with_reducible (k_dflt (refine append_2 (by with_reducible assumption) (by with_reducible assumption) (Ne.symm (by with_reducible assumption)) (by with_reducible assumption) (by first | with_reducible assumption | (simp; done)) ?_); intro _ _ _; (try k_sweep))) | ((with_reducible show wpAny _ _ (subscriptTail (PySem.Expr.Name ..) (PySem.Expr.UnaryOp ..) (PySem.Value.ref _) (PySem.Value.int _ _)) _ _ _); with_reducible (k_dflt (refine last_led (by assumption) (by k_mem) ?_ (by with_unfolding_all rfl)))) | ((with_reducible show wpAny _ _ (truthy (PySem.Value.ref _)) _ _ _); with_reducible (k_dflt (first | refine truthy_nil (by assumption) (by k_mem) ?_ | refine truthy_snoc (by assumption) (by k_mem) (by assumption) ?_))) | ((with_reducible show wpAny _ _ (eval (PySem.Expr.Name _ _) _) _ _ _); with_reducible (k_dflt (refine' ld ?k1 ?k2 ?_; (case k1 => with_reducible assumption); (case k2 => ((try dsimp only); (repeat rw [if_neg (by decide)]); with_reducible assumption))))) | walk1 | (dsimp only; (first | ((with_reducible show wpAny _ _ (PySem.call (PySem.Value.builtin "list.pop") _ _) _ _ _); with_reducible (k_dflt (refine pop_2 (by with_reducible assumption) (by with_reducible assumption) (Ne.symm (by with_reducible assumption)) (by with_reducible assumption) (by with_reducible assumption) ?_); intro _ _ _; (try k_sweep))) | ((with_reducible show wpAny _ _ (PySem.call (PySem.Value.builtin "list.append") _ _) _ _ _); with_reducible (k_dflt (refine append_2 (by with_reducible assumption) (by with_reducible assumption) (Ne.symm (by with_reducible assumption)) (by with_reducible assumption) (by first | with_reducible assumption | (simp; done)) ?_); intro _ _ _; (try k_sweep))) | ((with_reducible show wpAny _ _ (subscriptTail (PySem.Expr.Name ..) (PySem.Expr.UnaryOp ..) (PySem.Value.ref _) (PySem.Value.int _ _)) _ _ _); with_reducible (k_dflt (refine last_led (by assumption) (by k_mem) ?_ (by with_unfolding_all rfl)))) | ((with_reducible show wpAny _ _ (truthy (PySem.Value.ref _)) _ _ _); with_reducible (k_dflt (first | refine truthy_nil (by assumption) (by k_mem) ?_ | refine truthy_snoc (by assumption) (by k_mem) (by assumption) ?_))) | ((with_reducible show wpAny _ _ (eval (PySem.Expr.Name _ _) _) _ _ _); with_reducible (k_dflt (refine' ld ?k1 ?k2 ?_; (case k1 => with_reducible assumption); (case k2 => ((try dsimp only); (repeat rw [if_neg (by decide)]); with_reducible assumption))))) | walk1)) | (leave1; (try dsimp only)) | fail "no step"))
        all_goals (refine turn_end (by assumption) (by assumption) (off' _) ⟨_, _, rfl, ?_, ?_, (by walk_at "has_r"), (by walk_at "has_s"), (by walk_at "has_s"), (by walk_at "has_s"), (by walk_at "has_s")⟩)
        all_goals (clear F2 N3)
        all_goals first
          | (simp only [List.length_append, List.length_cons, List.length_nil] at hul ⊢; omega)
          | exact sn_skip0 hus (by with_reducible assumption)
          | exact sn_skip1 hus (by with_reducible assumption)
          | exact sn_add hus (by with_reducible assumption) (by with_reducible assumption) (by with_reducible assumption)
          | exact sn_add0 (by with_reducible assumption) (by with_reducible assumption) (by with_reducible assumption)
          | exact sn_addz hus (by with_reducible assumption) (by with_reducible assumption) (by with_reducible assumption)
          | exact sn_nil (by with_reducible assumption) (by with_reducible assumption) (by with_reducible assumption) (by with_reducible assumption)
          | exact sn_pop hus' (by with_reducible assumption) (by with_reducible assumption) (by with_reducible assumption) (by with_reducible assumption)
    · rintro h' tk m' news' ⟨us, n, rfl, hus, hul, hnc, ⟨td, hdot⟩, ⟨tdd, hdd⟩, ⟨ti, hini⟩, ⟨ts, hsep⟩⟩ F2 N3
      clear F1 N1 N2
      have F2 : Fr s.heap s.heap.objs.size h' m' := F2
      have N3 : News s.heap s.heap.objs.size h' [(NC, W.listOf us.toArray n), (S', W.listOf vals.toArray n0)] := N3
      have hvl : vals.length = (Txt.split (rootS a).2 "/").length := hxs.length
      rw [List.size_toArray, hvl, List.take_length] at hus
      rw [List.size_toArray, hvl] at hul
      have hsh := fold_short (ini := (rootS a).1) (xs := Txt.split (rootS a).2 "/") (acc := []) (k := 1000) (fun x hx => Nat.le_trans (part_short hx) (by assumption)) (fun x hx => nomatch hx)
      generalize hys : (Txt.split (rootS a).2 "/").foldl (stepN (rootS a).1) [] = ys at hus hsh
      have hyl : ys.length ≤ 1000 := by rw [← hus.length]; omega
      have hsum := sum_short hsh
      have hj : (Txt.join "/" ys).length ≤ 2000000 := by
        have e : Txt.join "/" ys = Str.join "/" ys := join_is _ _
        rw [e]
        have := StrLaws.join_length_le "/" ys
        have e1 : (Str.ofString "/").length = 1 := by decide
        rw [e1] at this
        omega
      have hok : (ys.map (·.length)).sum + ys.length * 64 ≤ 16777216 := by omega
      (repeat' (first | (k_unfold; (try dsimp only)) | (k_end; kc_close) | ((with_reducible show wpAny _ _ (PySem.call (PySem.Value.builtin "str.join") _ _) _ _ _); (first | with_reducible (refine Does.fr0 (join_does (led_list (by with_reducible assumption) (.head _)) (by assumption) (by decide) (by with_reducible assumption)) (by with_reducible assumption) (by with_reducible assumption) ?_; (intro _ _ _ _ _ _ e'; obtain ⟨_, e'⟩ := e'; subst e'); (try k_sweep)) | (refine Does.fr0 (join_does (led_list (by with_reducible assumption) (.head _)) (by assumption) (by decide) (by with_reducible assumption)) (by with_reducible assumption) (by with_reducible assumption) ?_; (intro _ _ _ _ _ _ e'; obtain ⟨_, e'⟩ := e'; subst e'); (try k_sweep)))) | ((with_reducible show wpAny _ _ (eval (PySem.Expr.Name _ _) _) _ _ _); with_reducible (k_dflt (refine' ld ?k1 ?k2 ?_; (case k1 => with_reducible assumption); (case k2 => ((try dsimp only); (repeat rw [if_neg (by decide)]); with_reducible assumption))))) | walk1 | (dsimp only; (first | ((with_reducible show wpAny _ _ (PySem.call (PySem.Value.builtin "str.join") _ _) _ _ _); (first | with_reducible (refine Does.fr0 (join_does (led_list (by with_reducible assumption) (.head _)) (by assumption) (by decide) (by with_reducible assumption)) (by with_reducible assumption) (by with_reducible assumption) ?_; (intro _ _ _ _ _ _ e'; obtain ⟨_, e'⟩ := e'; subst e'); (try k_sweep)) | (refine Does.fr0 (join_does (led_list (by with_reducible assumption) (.head _)) (by assumption) (by decide) (by with_reducible assumption)) (by with_reducible assumption) (by with_reducible assumption) ?_; (intro _ _ _ _ _ _ e'; obtain ⟨_, e'⟩ := e'; subst e'); (try k_sweep)))) | ((with_reducible show wpAny _ _ (eval (PySem.Expr.Name _ _) _) _ _ _); with_reducible (k_dflt (refine' ld ?k1 ?k2 ?_; (case k1 => with_reducible assumption); (case k2 => ((try dsimp only); (repeat rw [if_neg (by decide)]); with_reducible assumption))))) | walk1)) | (leave1; (try dsimp only)) | fail "no step"))
      · refine h _ [] _ _ (Fr.keep (by assumption)) (fr_le (by assumption)) Led.nil ?_
        unfold normS; rw [if_neg (by omega), hys]; dsimp only; rw [if_neg (by omega)]; exact ⟨_, rfl⟩
      · refine h _ [] _ _ (Fr.keep (by assumption)) (fr_le (by assumption)) Led.nil ?_
        unfold normS; rw [if_neg (by omega), hys]; dsimp only; rw [if_pos (by omega)]; exact ⟨_, rfl⟩
  · refine h _ [] _ _ (Fr.keep (by assumption)) (fr_le (by assumption)) Led.nil ?_
    unfold normS; rw [if_pos (by omega)]; exact ⟨_, rfl⟩
end Mine
end
/-! R1 -/
section
open PySem PySem.W PyProof.Rows PySem.Calls
set_option maxRecDepth 100000
set_option linter.unusedVariables false
namespace Mine
/-- what a called value must tell of itself -/
noncomputable def Kept (w : World) (h : Heap) (f : Value) : Prop := ∃ k, (k = Keeper.frame ∨ k = Keeper.machine ∨ k = Keeper.boundFrame) ∧ Looks (model prog w) h (keeperOf f) k
theorem callWith_P {w : World} {A : Around} {E : Value → Shared → Prop} {s : Shared} {env : Env} {pos : Pos} {f : Value} {first : List Value} {Q : Value → Shared → Prop} {P : Heap → Prop} {e : Expr} {rest : List Expr}
    (hk : ∀ h, P h → Kept w h f) (h : wpAny (model prog w) A (spliced (backTo pos (starEach (e :: rest) env))) (fun vs s₁ => P s₁.heap ∧ wpAny (model prog w) A (call f (first ++ vs)) Q E s₁) E s)
    (he : starEach (e :: rest) env = (false, eval e env) :: starEach rest env := by rfl) (hplain : (backTo pos (starEach rest env)).any (·.1) = false := by rfl) :
    wpAny (model prog w) A (callWith pos f first (backTo pos (starEach (e :: rest) env)) []) Q E s := by
  rw [he] at h ⊢
  exact callWith_of (by show ((false || (backTo pos (starEach rest env)).any (·.1)) || false) = false; rw [hplain]; rfl) hk (evalArgs_plain h)
theorem isl_keep {h₀ h : Heap} {L P : Addr} {m : Str → Option Value} {items : Array Value} (hl : h₀.IsList P items) (F : Fr h₀ L h m) : h.IsList P items := let ⟨o, e, r⟩ := hl; ⟨o, F.keep _ _ e, r⟩

local macro_rules | `(tactic| walk_at "exec For Name Name cons nil") => `(tactic| (k_dflt (refine wpAny_For ?_)))

local macro_rules | `(tactic| walk_at "has_r") => `(tactic| ((try dsimp only); (repeat rw [if_neg (by decide)]); assumption))

set_option maxHeartbeats 8000000 in
theorem reduce3_ok {w : World} {A : Around} {s : Shared} {fa P : Addr} {vals : List Value} {xs : List Str} {a : Str} {t : Tok} (Inv : Nat → Str → Prop)
   (C : Cx w s.heap) (r0 : Rm A 20 200) (hl : s.heap.IsList P vals.toArray) (hxs : StrsAre vals xs) (h0 : Inv 0 a)
   (hk : ∀ h, Keeps s.heap h → Kept w h (.ref fa))
   (hf : ∀ i a b t u env s', Keeps s.heap s'.heap → xs[i]? = some b → Inv i a → Does w (A.deeper env) (call (.ref fa) [.str a t, .str b u]) s' (fun v _ => ∃ a' t', v = .str a' t' ∧ Inv (i + 1) a')) :
   Does w A (call (.ref 150) [.ref fa, .ref P, .str a t]) s (fun v tl => ∃ b t', v = .str b t' ∧ Inv xs.length b) := by
  intro Q E h
  obtain ⟨ah, ad, af, ag, au⟩ := A
  obtain rfl : ah = none := r0.hh
  have hd := r0.dep
  dsimp only at hd
  refine enter (binds := [("function", .ref fa), ("sequence", .ref P), ("initial", .str a t)]) C (by k_is) (by k_is) (by dsimp only; omega) (binds_K C.X rfl (by k_is) rfl rfl rfl) (by decide) (locs rfl) rfl rfl rfl (fun h₁ p loose mean mg mb F N X T => ?_)
  (repeat' (first | (k_unfold; (try dsimp only)) | (k_end; kc_close) | ((with_reducible show wpAny _ _ (compareOp PySem.CmpOp.Is _ _) _ _ _); with_reducible (first | refine wpAny_is_other rfl (fun e => nomatch e) ?_ | refine wpAny_is_ref_self ?_)) | ((with_reducible show wpAny _ _ (eval (PySem.Expr.Name _ _) _) _ _ _); with_reducible (k_dflt (refine' ld ?k1 ?k2 ?_; (case k1 => with_reducible assumption); (case k2 => ((try dsimp only); (repeat rw [if_neg (by decide)]); with_reducible assumption))))) | ((with_reducible show wpAny _ _ (PySem.call (PySem.Value.builtin "iter") _ _) _ _ _); with_reducible (k_dflt (refine iter_led (by with_reducible assumption) (by with_reducible assumption) (isl_keep (by with_reducible assumption) (by with_reducible assumption)) ?_); intro _ _ _ _ _ _ _ _; (try k_sweep))) | walk1 | (dsimp only; (first | ((with_reducible show wpAny _ _ (compareOp PySem.CmpOp.Is _ _) _ _ _); with_reducible (first | refine wpAny_is_other rfl (fun e => nomatch e) ?_ | refine wpAny_is_ref_self ?_)) | ((with_reducible show wpAny _ _ (eval (PySem.Expr.Name _ _) _) _ _ _); with_reducible (k_dflt (refine' ld ?k1 ?k2 ?_; (case k1 => with_reducible assumption); (case k2 => ((try dsimp only); (repeat rw [if_neg (by decide)]); with_reducible assumption))))) | ((with_reducible show wpAny _ _ (PySem.call (PySem.Value.builtin "iter") _ _) _ _ _); with_reducible (k_dflt (refine iter_led (by with_reducible assumption) (by with_reducible assumption) (isl_keep (by with_reducible assumption) (by with_reducible assumption)) ?_); intro _ _ _ _ _ _ _ _; (try k_sweep))) | walk1)) | (leave1; (try dsimp only)) | fail "no step"))
  rename Fr _ _ _ _ => F1
  rename News _ _ _ _ => N1
  rename LiObj _ _ _ => lo1
  rename ((_ : Addr) ≠ _) => ne1
  refine wpAny_pyIter_listiter (lo1.at (News.get N1 (.head _))) ?_
  refine for_core (s₁ := s) F1 N1 (fun _ h => by cases h) (walks_from (items := vals.toArray) rfl ne1 0 (Nat.zero_le _)) ⟨lo1.at (News.get N1 (.head _)), isl_keep hl F1⟩ (fun i h st => by obtain ⟨o, e, _⟩ := st.1; exact ⟨o, e⟩) (fun b hb => by simpa using hb)
    (fun i m' news' => news' = [] ∧ (∃ b t', m' "value" = some (.str b t') ∧ Inv (0 + i) b) ∧ m' "function" = some (.ref fa)) ⟨rfl, ⟨_, _, rfl, h0⟩, rfl⟩ (.inl (by obtain ⟨o, e, _⟩ := hl; exact ⟨o, e⟩)) ?_ ?_
  · rintro i v m₁ news₁ oI h₁ tk₁ hi hP ⟨rfl, ⟨b, tb, hv, hI⟩, hfn⟩ F2 N2 off
    clear F1 N1 lo1
    obtain ⟨c, tc, rfl, hc⟩ := StrsAre.item hxs (0 + i) v (by simpa using hP)
    (repeat' (first | (k_unfold; (try dsimp only)) | (k_end; kc_close) | ((with_reducible show wpAny _ _ (callWith _ (PySem.Value.ref _) _ _ _) _ _ _); with_reducible (k_dflt (refine callWith_P (P := fun h => Keeps _ h) (by with_reducible assumption) ?_))) | ((with_reducible show wpAny _ _ (eval (PySem.Expr.Name _ _) _) _ _ _); with_reducible (k_dflt (refine' ld ?k1 ?k2 ?_; (case k1 => with_reducible assumption); (case k2 => ((try dsimp only); (repeat rw [if_neg (by decide)]); with_reducible assumption))))) | walk1 | (dsimp only; (first | ((with_reducible show wpAny _ _ (callWith _ (PySem.Value.ref _) _ _ _) _ _ _); with_reducible (k_dflt (refine callWith_P (P := fun h => Keeps _ h) (by with_reducible assumption) ?_))) | ((with_reducible show wpAny _ _ (eval (PySem.Expr.Name _ _) _) _ _ _); with_reducible (k_dflt (refine' ld ?k1 ?k2 ?_; (case k1 => with_reducible assumption); (case k2 => ((try dsimp only); (repeat rw [if_neg (by decide)]); with_reducible assumption))))) | walk1)) | (leave1; (try dsimp only)) | fail "no step"))
    refine Does.fr0 (hf (0 + i) _ _ _ _ _ _ (Fr.keep (by with_reducible assumption)) hc hI) (by with_reducible assumption) (by with_reducible assumption) ?_
    rintro v' tl' h' tk' F' N' ⟨a', t', rfl, hI'⟩
    k_steps
    exact turn_end (by assumption) (by assumption) off ⟨rfl, ⟨_, _, rfl, by rw [← Nat.add_assoc]; exact hI'⟩, by walk_at "has_r"⟩
  · rintro h' tk m' news' ⟨rfl, ⟨b, tb, hv, hI⟩, hfn⟩ F2 N2
    clear F1 N1 lo1
    have F2 : Fr s.heap s.heap.objs.size h' m' := F2
    (repeat' (first | (k_unfold; (try dsimp only)) | (k_end; kc_close) | ((with_reducible show wpAny _ _ (eval (PySem.Expr.Name _ _) _) _ _ _); with_reducible (k_dflt (refine' ld ?k1 ?k2 ?_; (case k1 => with_reducible assumption); (case k2 => ((try dsimp only); (repeat rw [if_neg (by decide)]); with_reducible assumption))))) | walk1 | (dsimp only; (first | ((with_reducible show wpAny _ _ (eval (PySem.Expr.Name _ _) _) _ _ _); with_reducible (k_dflt (refine' ld ?k1 ?k2 ?_; (case k1 => with_reducible assumption); (case k2 => ((try dsimp only); (repeat rw [if_neg (by decide)]); with_reducible assumption))))) | walk1)) | (leave1; (try dsimp only)) | fail "no step"))
    refine h _ [] _ _ (Fr.keep (by assumption)) (fr_le (by assumption)) Led.nil ⟨_, _, rfl, ?_⟩
    have e : vals.toArray.size = xs.length := by rw [List.size_toArray]; exact hxs.length
    rw [e] at hI
    simpa using hI

set_option maxHeartbeats 8000000 in
theorem reduce2_ok {w : World} {A : Around} {s : Shared} {fa P : Addr} {vals : List Value} {xs : List Str} {x0 : Str} (Inv : Nat → Str → Prop)
   (C : Cx w s.heap) (r0 : Rm A 20 200) (hl : s.heap.IsList P vals.toArray) (hxs : StrsAre vals xs) (hx0 : xs[0]? = some x0) (h0 : Inv 1 x0)
   (hk : ∀ h, Keeps s.heap h → Kept w h (.ref fa))
   (hf : ∀ i a b t u env s', Keeps s.heap s'.heap → xs[i]? = some b → Inv i a → Does w (A.deeper env) (call (.ref fa) [.str a t, .str b u]) s' (fun v _ => ∃ a' t', v = .str a' t' ∧ Inv (i + 1) a')) :
   Does w A (call (.ref 150) [.ref fa, .ref P]) s (fun v tl => ∃ b t', v = .str b t' ∧ Inv xs.length b) := by
  intro Q E h
  obtain ⟨ah, ad, af, ag, au⟩ := A
  obtain rfl : ah = none := r0.hh
  have hd := r0.dep
  dsimp only at hd
  obtain ⟨tx, ex⟩ := StrsAre.at hxs hx0
  have ex : vals.toArray[0]? = some (.str x0 tx) := by simpa using ex
  have hpos : 1 ≤ vals.toArray.size := by
    obtain ⟨h1, _⟩ := Array.getElem?_eq_some_iff.mp ex
    omega
  refine enter (binds := [("function", .ref fa), ("sequence", .ref P), ("initial", .ref 142)]) C (by k_is) (by k_is) (by dsimp only; omega) (binds_K C.X rfl (by k_is) rfl rfl rfl) (by decide) (locs rfl) rfl rfl rfl (fun h₁ p loose mean mg mb F N X T => ?_)
  (repeat' (first | (k_unfold; (try dsimp only)) | (k_end; kc_close) | ((with_reducible show wpAny _ _ (PySem.call (PySem.Value.builtin "next") _ _) _ _ _); with_reducible (k_dflt (refine next_led (by with_reducible assumption) (by with_reducible assumption) (by with_reducible assumption) (by with_reducible assumption) (isl_keep (by with_reducible assumption) (by with_reducible assumption)) (by with_reducible assumption) ?_); intro _ _ _ _ _; (try k_sweep))) | ((with_reducible show wpAny _ _ (eval (PySem.Expr.Name _ _) _) _ _ _); with_reducible (k_dflt (refine' ld ?k1 ?k2 ?_; (case k1 => with_reducible assumption); (case k2 => ((try dsimp only); (repeat rw [if_neg (by decide)]); with_reducible assumption))))) | ((with_reducible show wpAny _ _ (PySem.call (PySem.Value.builtin "iter") _ _) _ _ _); with_reducible (k_dflt (refine iter_led (by with_reducible assumption) (by with_reducible assumption) (isl_keep (by with_reducible assumption) (by with_reducible assumption)) ?_); intro _ _ _ _ _ _ _ _; (try k_sweep))) | walk1 | (dsimp only; (first | ((with_reducible show wpAny _ _ (PySem.call (PySem.Value.builtin "next") _ _) _ _ _); with_reducible (k_dflt (refine next_led (by with_reducible assumption) (by with_reducible assumption) (by with_reducible assumption) (by with_reducible assumption) (isl_keep (by with_reducible assumption) (by with_reducible assumption)) (by with_reducible assumption) ?_); intro _ _ _ _ _; (try k_sweep))) | ((with_reducible show wpAny _ _ (eval (PySem.Expr.Name _ _) _) _ _ _); with_reducible (k_dflt (refine' ld ?k1 ?k2 ?_; (case k1 => with_reducible assumption); (case k2 => ((try dsimp only); (repeat rw [if_neg (by decide)]); with_reducible assumption))))) | ((with_reducible show wpAny _ _ (PySem.call (PySem.Value.builtin "iter") _ _) _ _ _); with_reducible (k_dflt (refine iter_led (by with_reducible assumption) (by with_reducible assumption) (isl_keep (by with_reducible assumption) (by with_reducible assumption)) ?_); intro _ _ _ _ _ _ _ _; (try k_sweep))) | walk1)) | (leave1; (try dsimp only)) | fail "no step"))
  rename Fr _ _ _ _ => F1
  rename News _ _ _ _ => N1
  rename LiObj _ _ _ => lo1
  rename ((_ : Addr) ≠ _) => ne1
  refine wpAny_pyIter_listiter (lo1.at (News.get N1 (.head _))) ?_
  refine for_core (s₁ := s) F1 N1 (fun _ h => by cases h) (walks_from (items := vals.toArray) rfl ne1 1 hpos) ⟨lo1.at (News.get N1 (.head _)), isl_keep hl F1⟩ (fun i h st => by obtain ⟨o, e, _⟩ := st.1; exact ⟨o, e⟩) (fun b hb => by simpa using hb)
    (fun i m' news' => news' = [] ∧ (∃ b t', m' "value" = some (.str b t') ∧ Inv (1 + i) b) ∧ m' "function" = some (.ref fa)) ⟨rfl, ⟨_, _, rfl, h0⟩, rfl⟩ (.inl (by obtain ⟨o, e, _⟩ := hl; exact ⟨o, e⟩)) ?_ ?_
  · rintro i v m₁ news₁ oI h₁ tk₁ hi hP ⟨rfl, ⟨b, tb, hv, hI⟩, hfn⟩ F2 N2 off
    clear F1 N1 lo1
    obtain ⟨c, tc, rfl, hc⟩ := StrsAre.item hxs (1 + i) v (by simpa using hP)
    (repeat' (first | (k_unfold; (try dsimp only)) | (k_end; kc_close) | ((with_reducible show wpAny _ _ (callWith _ (PySem.Value.ref _) _ _ _) _ _ _); with_reducible (k_dflt (refine callWith_P (P := fun h => Keeps _ h) (by with_reducible assumption) ?_))) | ((with_reducible show wpAny _ _ (eval (PySem.Expr.Name _ _) _) _ _ _); with_reducible (k_dflt (refine' ld ?k1 ?k2 ?_; (case k1 => with_reducible assumption); (case k2 => ((try dsimp only); (repeat rw [if_neg (by decide)]); with_reducible assumption))))) | walk1 | (dsimp only; (first | ((with_reducible show wpAny _ _ (callWith _ (PySem.Value.ref _) _ _ _) _ _ _); with_reducible (k_dflt (refine callWith_P (P := fun h => Keeps _ h) (by with_reducible assumption) ?_))) | ((with_reducible show wpAny _ _ (eval (PySem.Expr.Name _ _) _) _ _ _); with_reducible (k_dflt (refine' ld ?k1 ?k2 ?_; (case k1 => with_reducible assumption); (case k2 => ((try dsimp only); (repeat rw [if_neg (by decide)]); with_reducible assumption))))) | walk1)) | (leave1; (try dsimp only)) | fail "no step"))
    refine Does.fr0 (hf (1 + i) _ _ _ _ _ _ (Fr.keep (by with_reducible assumption)) hc hI) (by with_reducible assumption) (by with_reducible assumption) ?_
    rintro v' tl' h' tk' F' N' ⟨a', t', rfl, hI'⟩
    k_steps
    exact turn_end (by assumption) (by assumption) off ⟨rfl, ⟨_, _, rfl, by rw [← Nat.add_assoc]; exact hI'⟩, by walk_at "has_r"⟩
  · rintro h' tk m' news' ⟨rfl, ⟨b, tb, hv, hI⟩, hfn⟩ F2 N2
    clear F1 N1 lo1
    have F2 : Fr s.heap s.heap.objs.size h' m' := F2
    (repeat' (first | (k_unfold; (try dsimp only)) | (k_end; kc_close) | ((with_reducible show wpAny _ _ (eval (PySem.Expr.Name _ _) _) _ _ _); with_reducible (k_dflt (refine' ld ?k1 ?k2 ?_; (case k1 => with_reducible assumption); (case k2 => ((try dsimp only); (repeat rw [if_neg (by decide)]); with_reducible assumption))))) | walk1 | (dsimp only; (first | ((with_reducible show wpAny _ _ (eval (PySem.Expr.Name _ _) _) _ _ _); with_reducible (k_dflt (refine' ld ?k1 ?k2 ?_; (case k1 => with_reducible assumption); (case k2 => ((try dsimp only); (repeat rw [if_neg (by decide)]); with_reducible assumption))))) | walk1)) | (leave1; (try dsimp only)) | fail "no step"))
    refine h _ [] _ _ (Fr.keep (by assumption)) (fr_le (by assumption)) Led.nil ⟨_, _, rfl, ?_⟩
    have e : vals.toArray.size = xs.length := by rw [List.size_toArray]; exact hxs.length
    rw [e] at hI
    have e1 : 1 + (xs.length - 1) = xs.length := by rw [e] at hpos; omega
    rw [e1] at hI; exact hI
end Mine
end
/-! M1 -/
section
open PySem PySem.W PyProof.Rows PySem.Calls
set_option maxRecDepth 100000
set_option linter.unusedVariables false
namespace Mine
section
variable {w : World} {A : Around} {R : Result → Shared → Prop} {I : Addr} {fp wr : List Addr} {G : Array GenState → Array GenState → Prop} {n : Nat} {P : Nat → Value → Prop} {St : Nat → Shared → Prop}

/-- A list of lists of texts, as it stands in the heap. -/
structure RowsIn (h : Heap) (vs : List Value) (xss : List (List Str)) : Prop where
  len : vs.length = xss.length
  item : ∀ {i : Nat} {v : Value}, vs[i]? = some v → ∃ a V xs, v = .ref a ∧ h.IsList a (List.toArray V) ∧ StrsAre V xs ∧ xss[i]? = some xs
theorem IsL.keep {h h' : Heap} {a : Addr} {its : Array Value} (l : h.IsList a its) (k : Keeps h h') : h'.IsList a its := let ⟨o, e, r⟩ := l; ⟨o, k _ _ e, r⟩
theorem RowsIn.keep {h h' : Heap} {vs : List Value} {xss : List (List Str)} (r : RowsIn h vs xss) (k : Keeps h h') : RowsIn h' vs xss :=
  ⟨r.len, fun e => let ⟨a, V, xs, e1, e2, e3, e4⟩ := r.item e; ⟨a, V, xs, e1, IsL.keep e2 k, e3, e4⟩⟩
noncomputable def btLt (xss : List (List Str)) (i j : Nat) : Bool := ltL (xss[i]?.getD []) (xss[j]?.getD [])
noncomputable def btGt (xss : List (List Str)) (i j : Nat) : Bool := ltL (xss[j]?.getD []) (xss[i]?.getD [])

theorem min_loop (W : WalksS prog w A.in1 I fp wr G n P St) (bt : Nat → Nat → Bool) (S : Addr) (hSf : S ∉ fp) (KH : Heap → Prop)
    (hK : ∀ h h' : Heap, KH h → (∀ b o, b ∉ S :: wr → h.get? b = some o → h'.get? b = some o) → KH h')
    (hcmp : ∀ i j vi vj (s : Shared) (Q E : Value → Shared → Prop), KH s.heap → P i vi → P j vj → Q (.bool (bt i j)) s → wpAny (model prog w) A.in1 (richCompare .Lt vi vj) Q E s) :
    ∀ (k j : Nat) (s : Shared) (vb : Value) (c : Nat), n - (j + 1) = k → j + 1 ≤ n → St (j + 1) s → KH s.heap → P (argBest bt j) vb →
    s.heap.get? S = some { cls := .type "list", dict := none, data := .seq #[vb, vb] c, slots := #[] } →
    (∀ v s', P (argBest bt (n - 1)) v → Moved (S :: wr) G s s' → (∃ o, s'.heap.get? S = some o) → R (.ok (.ret v)) s') → codeAny (model prog w) A (.builtin "min.loop" ⟨[.ref I, .none, .ref S], []⟩) R s := by
  have hSw : S ∉ wr := fun h => hSf (W.sub _ h)
  have hsub : ∀ b ∈ wr, b ∈ S :: wr := fun b hb => List.mem_cons_of_mem _ hb
  have hname : (toString "min" ++ toString ".loop" : String) = "min.loop" := by decide
  have notS : ∀ {b : Addr}, b ∉ S :: wr → S ≠ b := fun hb h => hb (by rw [h]; exact List.mem_cons_self)
  intro k
  induction k with
  | zero =>
    intro j s vb c hk hj hst hkh hPb hS hR
    have hin : j + 1 = n := by omega
    refine codeAny_builtin F.entry_min_loop ?_
    rw [Around.under_plainId F.plain_min_loop _]
    show wpAny _ A.in1 (seqItems? (.ref S) >>= _) _ _ s
    refine wpAny_bind (wpAny_seqItems hS rfl ?_)
    show wpAny _ A.in1 (tryCatch (pyNext (.ref I)) _ >>= _) _ _ s
    refine wpAny_bind (wpAny_tryCatch (W.done s _ _ (hin ▸ hst) fun s' hm => ?_))
    have hS' := hm.heap S _ hSw hS
    show wpAny _ A.in1 (updateSeq S (fun _ => #[]) >>= _) _ _ _
    refine wpAny_bind ?_
    refine wpAny_updateSeq hS' rfl (wpAny_bind (wpAny_letGo (wpAny_pure ?_)))
    exact hR vb _ (by rw [← hin]; exact hPb) ((hm.mono hsub).then_heap (tk := s'.toks) (Nat.le_refl _) fun b o hb e => (Heap.get?_update_other _ _ (notS hb)).trans e) ⟨_, Heap.get?_update_self _ hS' rfl⟩
  | succ k ih =>
    intro j s vb c hk hj hst hkh hPb hS hR
    have hlt : j + 1 < n := by omega
    refine codeAny_builtin F.entry_min_loop ?_
    rw [Around.under_plainId F.plain_min_loop _]
    show wpAny _ A.in1 (seqItems? (.ref S) >>= _) _ _ s
    refine wpAny_bind (wpAny_seqItems hS rfl ?_)
    show wpAny _ A.in1 (tryCatch (pyNext (.ref I)) _ >>= _) _ _ s
    refine wpAny_bind (wpAny_tryCatch (W.item (j + 1) s _ _ hlt hst fun v s' hP hst' hm => ?_))
    have hS' := hm.heap S _ hSw hS
    have hkh' : KH s'.heap := hK _ _ hkh fun b o hb e => hm.heap b o (fun x => hb (hsub b x)) e
    show wpAny _ A.in1 (tryCatch (holding [v, v] (richCompare .Lt v vb >>= _)) _ >>= _) _ _ _
    refine wpAny_bind (wpAny_tryCatch (wpAny_holding (wpAny_bind (hcmp (j + 1) (argBest bt j) v vb _ _ _ hkh' hP hPb ?_))))
    refine wpAny_bind (wpAny_holding (wpAny_truthy_bool ?_))
    refine wpAny_bind (wpAny_letGo (wpAny_pure ?_))
    cases hb : bt (j + 1) (argBest bt j) with
    | true =>
      simp only [if_true]
      refine wpAny_bind ?_
      refine wpAny_updateSeq hS' rfl (wpAny_bind (wpAny_letGo ?_))
      rw [hname]
      refine wpAny_pure ⟨plainId_quiet F.plain_min_loop _, ih (j + 1) _ v _ (by omega) hlt (W.frame _ s' _ s'.toks hst' (Nat.le_refl _) fun b hbf o e => ?_)
        (hK _ _ hkh' fun b o hb e => (Heap.get?_update_other _ _ (notS hb)).trans e) (by simp only [argBest, hb, if_true]; exact hP) (Heap.get?_update_self _ hS' rfl)
        fun v' s'' hP' hm'' hS'' => ?_⟩
      · exact (Heap.get?_update_other _ _ (fun h : S = b => hSf (by rw [h]; exact hbf))).trans e
      · exact hR v' s'' hP' (Moved.trans W.gtrans ((hm.mono hsub).then_heap (by first | exact Nat.le_refl _ | exact Nat.le_succ _ | omega) fun b o hb e => (Heap.get?_update_other _ _ (notS hb)).trans e) hm'') hS''
    | false =>
      simp only [Bool.false_eq_true, if_false]
      refine wpAny_bind (wpAny_letGo ?_)
      rw [hname]
      refine wpAny_pure ⟨plainId_quiet F.plain_min_loop _, ih (j + 1) _ vb c (by omega) hlt hst' hkh' (by simp only [argBest, hb, Bool.false_eq_true, if_false]; exact hPb) hS' fun v' s'' hP' hm'' hS'' => ?_⟩
      exact hR v' s'' hP' (Moved.trans W.gtrans (hm.mono hsub) hm'') hS''

theorem max_loop (W : WalksS prog w A.in1 I fp wr G n P St) (bt : Nat → Nat → Bool) (S : Addr) (hSf : S ∉ fp) (KH : Heap → Prop)
    (hK : ∀ h h' : Heap, KH h → (∀ b o, b ∉ S :: wr → h.get? b = some o → h'.get? b = some o) → KH h')
    (hcmp : ∀ i j vi vj (s : Shared) (Q E : Value → Shared → Prop), KH s.heap → P i vi → P j vj → Q (.bool (bt i j)) s → wpAny (model prog w) A.in1 (richCompare .Gt vi vj) Q E s) :
    ∀ (k j : Nat) (s : Shared) (vb : Value) (c : Nat), n - (j + 1) = k → j + 1 ≤ n → St (j + 1) s → KH s.heap → P (argBest bt j) vb →
    s.heap.get? S = some { cls := .type "list", dict := none, data := .seq #[vb, vb] c, slots := #[] } →
    (∀ v s', P (argBest bt (n - 1)) v → Moved (S :: wr) G s s' → (∃ o, s'.heap.get? S = some o) → R (.ok (.ret v)) s') → codeAny (model prog w) A (.builtin "max.loop" ⟨[.ref I, .none, .ref S], []⟩) R s := by
  have hSw : S ∉ wr := fun h => hSf (W.sub _ h)
  have hsub : ∀ b ∈ wr, b ∈ S :: wr := fun b hb => List.mem_cons_of_mem _ hb
  have hname : (toString "max" ++ toString ".loop" : String) = "max.loop" := by decide
  have notS : ∀ {b : Addr}, b ∉ S :: wr → S ≠ b := fun hb h => hb (by rw [h]; exact List.mem_cons_self)
  intro k
  induction k with
  | zero =>
    intro j s vb c hk hj hst hkh hPb hS hR
    have hin : j + 1 = n := by omega
    refine codeAny_builtin F.entry_max_loop ?_
    rw [Around.under_plainId F.plain_max_loop _]
    show wpAny _ A.in1 (seqItems? (.ref S) >>= _) _ _ s
    refine wpAny_bind (wpAny_seqItems hS rfl ?_)
    show wpAny _ A.in1 (tryCatch (pyNext (.ref I)) _ >>= _) _ _ s
    refine wpAny_bind (wpAny_tryCatch (W.done s _ _ (hin ▸ hst) fun s' hm => ?_))
    have hS' := hm.heap S _ hSw hS
    show wpAny _ A.in1 (updateSeq S (fun _ => #[]) >>= _) _ _ _
    refine wpAny_bind ?_
    refine wpAny_updateSeq hS' rfl (wpAny_bind (wpAny_letGo (wpAny_pure ?_)))
    exact hR vb _ (by rw [← hin]; exact hPb) ((hm.mono hsub).then_heap (tk := s'.toks) (Nat.le_refl _) fun b o hb e => (Heap.get?_update_other _ _ (notS hb)).trans e) ⟨_, Heap.get?_update_self _ hS' rfl⟩
  | succ k ih =>
    intro j s vb c hk hj hst hkh hPb hS hR
    have hlt : j + 1 < n := by omega
    refine codeAny_builtin F.entry_max_loop ?_
    rw [Around.under_plainId F.plain_max_loop _]
    show wpAny _ A.in1 (seqItems? (.ref S) >>= _) _ _ s
    refine wpAny_bind (wpAny_seqItems hS rfl ?_)
    show wpAny _ A.in1 (tryCatch (pyNext (.ref I)) _ >>= _) _ _ s
    refine wpAny_bind (wpAny_tryCatch (W.item (j + 1) s _ _ hlt hst fun v s' hP hst' hm => ?_))
    have hS' := hm.heap S _ hSw hS
    have hkh' : KH s'.heap := hK _ _ hkh fun b o hb e => hm.heap b o (fun x => hb (hsub b x)) e
    show wpAny _ A.in1 (tryCatch (holding [v, v] (richCompare .Gt v vb >>= _)) _ >>= _) _ _ _
    refine wpAny_bind (wpAny_tryCatch (wpAny_holding (wpAny_bind (hcmp (j + 1) (argBest bt j) v vb _ _ _ hkh' hP hPb ?_))))
    refine wpAny_bind (wpAny_holding (wpAny_truthy_bool ?_))
    refine wpAny_bind (wpAny_letGo (wpAny_pure ?_))
    cases hb : bt (j + 1) (argBest bt j) with
    | true =>
      simp only [if_true]
      refine wpAny_bind ?_
      refine wpAny_updateSeq hS' rfl (wpAny_bind (wpAny_letGo ?_))
      rw [hname]
      refine wpAny_pure ⟨plainId_quiet F.plain_max_loop _, ih (j + 1) _ v _ (by omega) hlt (W.frame _ s' _ s'.toks hst' (Nat.le_refl _) fun b hbf o e => ?_)
        (hK _ _ hkh' fun b o hb e => (Heap.get?_update_other _ _ (notS hb)).trans e) (by simp only [argBest, hb, if_true]; exact hP) (Heap.get?_update_self _ hS' rfl)
        fun v' s'' hP' hm'' hS'' => ?_⟩
      · exact (Heap.get?_update_other _ _ (fun h : S = b => hSf (by rw [h]; exact hbf))).trans e
      · exact hR v' s'' hP' (Moved.trans W.gtrans ((hm.mono hsub).then_heap (by first | exact Nat.le_refl _ | exact Nat.le_succ _ | omega) fun b o hb e => (Heap.get?_update_other _ _ (notS hb)).trans e) hm'') hS''
    | false =>
      simp only [Bool.false_eq_true, if_false]
      refine wpAny_bind (wpAny_letGo ?_)
      rw [hname]
      refine wpAny_pure ⟨plainId_quiet F.plain_max_loop _, ih (j + 1) _ vb c (by omega) hlt hst' hkh' (by simp only [argBest, hb, Bool.false_eq_true, if_false]; exact hPb) hS' fun v' s'' hP' hm'' hS'' => ?_⟩
      exact hR v' s'' hP' (Moved.trans W.gtrans (hm.mono hsub) hm'') hS''

theorem min_first (W : WalksS prog w A.in1 I fp wr G n P St) (bt : Nat → Nat → Bool) (S : Addr) (hSf : S ∉ fp) (KH : Heap → Prop)
    (hK : ∀ h h' : Heap, KH h → (∀ b o, b ∉ S :: wr → h.get? b = some o → h'.get? b = some o) → KH h')
    (hcmp : ∀ i j vi vj (s : Shared) (Q E : Value → Shared → Prop), KH s.heap → P i vi → P j vj → Q (.bool (bt i j)) s → wpAny (model prog w) A.in1 (richCompare .Lt vi vj) Q E s)
    (hn : 0 < n) {s : Shared} {c : Nat} (hst : St 0 s) (hkh : KH s.heap)
    (hS : s.heap.get? S = some { cls := .type "list", dict := none, data := .seq #[] c, slots := #[] })
    (hR : ∀ v s', P (argBest bt (n - 1)) v → Moved (S :: wr) G s s' → (∃ o, s'.heap.get? S = some o) → R (.ok (.ret v)) s') : codeAny (model prog w) A (.builtin "min.loop" ⟨[.ref I, .none, .ref S], []⟩) R s := by
  have hSw : S ∉ wr := fun h => hSf (W.sub _ h)
  have hsub : ∀ b ∈ wr, b ∈ S :: wr := fun b hb => List.mem_cons_of_mem _ hb
  have hname : (toString "min" ++ toString ".loop" : String) = "min.loop" := by decide
  have notS : ∀ {b : Addr}, b ∉ S :: wr → S ≠ b := fun hb h => hb (by rw [h]; exact List.mem_cons_self)
  refine codeAny_builtin F.entry_min_loop ?_
  rw [Around.under_plainId F.plain_min_loop _]
  show wpAny _ A.in1 (seqItems? (.ref S) >>= _) _ _ s
  refine wpAny_bind (wpAny_seqItems hS rfl ?_)
  show wpAny _ A.in1 (tryCatch (pyNext (.ref I)) _ >>= _) _ _ s
  refine wpAny_bind (wpAny_tryCatch (W.item 0 s _ _ hn hst fun v s' hP hst' hm => ?_))
  have hS' := hm.heap S _ hSw hS
  have hkh' : KH s'.heap := hK _ _ hkh fun b o hb e => hm.heap b o (fun x => hb (hsub b x)) e
  show wpAny _ A.in1 (updateSeq S (fun _ => #[v, v]) >>= _) _ _ _
  refine wpAny_bind ?_
  refine wpAny_updateSeq hS' rfl ?_
  rw [hname]
  refine wpAny_pure ⟨plainId_quiet F.plain_min_loop _, min_loop W bt S hSf KH hK hcmp _ 0 _ v _ rfl hn (W.frame _ s' _ s'.toks hst' (Nat.le_refl _) fun b hbf o e => ?_)
    (hK _ _ hkh' fun b o hb e => (Heap.get?_update_other _ _ (notS hb)).trans e) hP (Heap.get?_update_self _ hS' rfl) fun v' s'' hP' hm'' hS'' => ?_⟩
  · exact (Heap.get?_update_other _ _ (fun h : S = b => hSf (by rw [h]; exact hbf))).trans e
  · exact hR v' s'' hP' (Moved.trans W.gtrans ((hm.mono hsub).then_heap (by first | exact Nat.le_refl _ | exact Nat.le_succ _ | omega) fun b o hb e => (Heap.get?_update_other _ _ (notS hb)).trans e) hm'') hS''

theorem min_rows {s : Shared} {l : Addr} {vs : List Value} {xss : List (List Str)} (hh : A.handled = none) (hl : s.heap.IsList l vs.toArray) (hr : RowsIn s.heap vs xss) (hne : 0 < xss.length) (hu : A.units + 10 < cLine) :
    Does w A (call (.builtin "min") [.ref l]) s (fun v _ => vs[argBest (btLt xss) (xss.length - 1)]? = some v) := by
  intro Q E q
  have hname : (toString "min" ++ toString ".loop" : String) = "min.loop" := by decide
  have hlt : l < s.heap.objs.size := by obtain ⟨o, e, _⟩ := hl; exact Heap.lt_size e
  refine call_function_tree F.kind_min F.plain_min F.entry_min (F.args_min1 _) ?_
  show wpAny _ A.in1 (Builtin.Builtins.bindParams "min" ["key", "default"] 0 ⟨[], []⟩ >>= _) _ _ s
  refine wpAny_bind (wpAny_of_eq (show Builtin.Builtins.bindParams "min" ["key", "default"] 0 ⟨[], []⟩ = pure [none, none] from rfl) ?_)
  refine wpAny_bind (wpAny_pure ?_)
  refine wpAny_bind (wpAny_pyIter_list hl ?_)
  refine wpAny_bind (wpAny_newObj_type ?_)
  rw [hname]
  have W := (Walks.list (prog := prog) (w := w) (A := A.in1) hh s.heap.objs.size l (Nat.ne_of_lt hlt) vs.toArray).toS
  have z1 : (s.heap.push { cls := .type "list_iterator", data := .fields #[.ref l, .int 0 0] }).objs.size = s.heap.objs.size + 1 := Heap.size_push ..
  refine wpAny_pure ⟨plainId_quiet F.plain_min_loop _, min_first W (btLt xss) _ (fun hm => ?_) (fun h => Keeps s.heap h) (fun h h' k kk b o e => kk b o (fun hm => ?_) (k b o e)) (fun i j vi vj s' Q' E' k pi pj hq => ?_) (by simpa [hr.len] using hne) ⟨⟨_, Heap.get?_push_of_some _ (Heap.get?_push_size _ rfl), rfl, rfl⟩, (hl.push _).push _⟩ (fun b o e => Heap.get?_push_of_some _ (Heap.get?_push_of_some _ e)) (Heap.get?_push_size _ rfl) fun v s' hP hm hS' => ?_⟩
  · rw [z1] at hm
    simp only [List.mem_cons, List.not_mem_nil, or_false] at hm
    rcases hm with hm | hm
    · exact absurd hm (Nat.succ_ne_self _)
    · rw [← hm] at hlt; exact Nat.not_succ_lt_self hlt
  · have hb := Heap.lt_size e
    rw [z1] at hm
    simp only [List.mem_cons, List.not_mem_nil, or_false] at hm
    rcases hm with hm | hm
    · rw [hm] at hb; exact (Nat.not_succ_lt_self hb).elim
    · rw [hm] at hb; exact absurd hb (Nat.lt_irrefl _)
  · obtain ⟨a, V, xs, rfl, la, sa, ea⟩ := hr.item (by simpa using pi)
    obtain ⟨b, V2, ys, rfl, lb, sb, eb⟩ := hr.item (by simpa using pj)
    have hq' : Q' (.bool (ltL xs ys)) s' := by have := hq; simp only [btLt, ea, eb, Option.getD_some] at this; exact this
    exact rc_lt_S (IsL.keep la k) (IsL.keep lb k) sa sb (by show A.units + 1 < _; omega) hq'
  · have e : s' = { s with heap := s'.heap, toks := s'.toks } := by
      obtain ⟨a1, a2, a3, a4, a5⟩ := s'
      have := hm.gens; have := hm.drawn; have := hm.os
      simp_all
    rw [e]
    have kk : Keeps s.heap s'.heap := fun b o e => hm.heap b o (fun hm => by
      have hb := Heap.lt_size e
      rw [z1] at hm
      simp only [List.mem_cons, List.not_mem_nil, or_false] at hm
      rcases hm with hm | hm
      · rw [hm] at hb; exact (Nat.not_succ_lt_self hb).elim
      · rw [hm] at hb; exact absurd hb (Nat.lt_irrefl _)) (Heap.get?_push_of_some _ (Heap.get?_push_of_some _ e))
    exact q v [] _ _ kk (by obtain ⟨o, e⟩ := hS'; have := Heap.lt_size e; rw [z1] at this; exact Nat.le_of_lt (Nat.lt_of_succ_lt this)) Led.nil (by simpa [hr.len] using hP)

theorem max_first (W : WalksS prog w A.in1 I fp wr G n P St) (bt : Nat → Nat → Bool) (S : Addr) (hSf : S ∉ fp) (KH : Heap → Prop)
    (hK : ∀ h h' : Heap, KH h → (∀ b o, b ∉ S :: wr → h.get? b = some o → h'.get? b = some o) → KH h')
    (hcmp : ∀ i j vi vj (s : Shared) (Q E : Value → Shared → Prop), KH s.heap → P i vi → P j vj → Q (.bool (bt i j)) s → wpAny (model prog w) A.in1 (richCompare .Gt vi vj) Q E s)
    (hn : 0 < n) {s : Shared} {c : Nat} (hst : St 0 s) (hkh : KH s.heap)
    (hS : s.heap.get? S = some { cls := .type "list", dict := none, data := .seq #[] c, slots := #[] })
    (hR : ∀ v s', P (argBest bt (n - 1)) v → Moved (S :: wr) G s s' → (∃ o, s'.heap.get? S = some o) → R (.ok (.ret v)) s') : codeAny (model prog w) A (.builtin "max.loop" ⟨[.ref I, .none, .ref S], []⟩) R s := by
  have hSw : S ∉ wr := fun h => hSf (W.sub _ h)
  have hsub : ∀ b ∈ wr, b ∈ S :: wr := fun b hb => List.mem_cons_of_mem _ hb
  have hname : (toString "max" ++ toString ".loop" : String) = "max.loop" := by decide
  have notS : ∀ {b : Addr}, b ∉ S :: wr → S ≠ b := fun hb h => hb (by rw [h]; exact List.mem_cons_self)
  refine codeAny_builtin F.entry_max_loop ?_
  rw [Around.under_plainId F.plain_max_loop _]
  show wpAny _ A.in1 (seqItems? (.ref S) >>= _) _ _ s
  refine wpAny_bind (wpAny_seqItems hS rfl ?_)
  show wpAny _ A.in1 (tryCatch (pyNext (.ref I)) _ >>= _) _ _ s
  refine wpAny_bind (wpAny_tryCatch (W.item 0 s _ _ hn hst fun v s' hP hst' hm => ?_))
  have hS' := hm.heap S _ hSw hS
  have hkh' : KH s'.heap := hK _ _ hkh fun b o hb e => hm.heap b o (fun x => hb (hsub b x)) e
  show wpAny _ A.in1 (updateSeq S (fun _ => #[v, v]) >>= _) _ _ _
  refine wpAny_bind ?_
  refine wpAny_updateSeq hS' rfl ?_
  rw [hname]
  refine wpAny_pure ⟨plainId_quiet F.plain_max_loop _, max_loop W bt S hSf KH hK hcmp _ 0 _ v _ rfl hn (W.frame _ s' _ s'.toks hst' (Nat.le_refl _) fun b hbf o e => ?_)
    (hK _ _ hkh' fun b o hb e => (Heap.get?_update_other _ _ (notS hb)).trans e) hP (Heap.get?_update_self _ hS' rfl) fun v' s'' hP' hm'' hS'' => ?_⟩
  · exact (Heap.get?_update_other _ _ (fun h : S = b => hSf (by rw [h]; exact hbf))).trans e
  · exact hR v' s'' hP' (Moved.trans W.gtrans ((hm.mono hsub).then_heap (by first | exact Nat.le_refl _ | exact Nat.le_succ _ | omega) fun b o hb e => (Heap.get?_update_other _ _ (notS hb)).trans e) hm'') hS''

theorem max_rows {s : Shared} {l : Addr} {vs : List Value} {xss : List (List Str)} (hh : A.handled = none) (hl : s.heap.IsList l vs.toArray) (hr : RowsIn s.heap vs xss) (hne : 0 < xss.length) (hu : A.units + 10 < cLine) :
    Does w A (call (.builtin "max") [.ref l]) s (fun v _ => vs[argBest (btGt xss) (xss.length - 1)]? = some v) := by
  intro Q E q
  have hname : (toString "max" ++ toString ".loop" : String) = "max.loop" := by decide
  have hlt : l < s.heap.objs.size := by obtain ⟨o, e, _⟩ := hl; exact Heap.lt_size e
  refine call_function_tree F.kind_max F.plain_max F.entry_max (F.args_max1 _) ?_
  show wpAny _ A.in1 (Builtin.Builtins.bindParams "max" ["key", "default"] 0 ⟨[], []⟩ >>= _) _ _ s
  refine wpAny_bind (wpAny_of_eq (show Builtin.Builtins.bindParams "max" ["key", "default"] 0 ⟨[], []⟩ = pure [none, none] from rfl) ?_)
  refine wpAny_bind (wpAny_pure ?_)
  refine wpAny_bind (wpAny_pyIter_list hl ?_)
  refine wpAny_bind (wpAny_newObj_type ?_)
  rw [hname]
  have W := (Walks.list (prog := prog) (w := w) (A := A.in1) hh s.heap.objs.size l (Nat.ne_of_lt hlt) vs.toArray).toS
  have z1 : (s.heap.push { cls := .type "list_iterator", data := .fields #[.ref l, .int 0 0] }).objs.size = s.heap.objs.size + 1 := Heap.size_push ..
  refine wpAny_pure ⟨plainId_quiet F.plain_max_loop _, max_first W (btGt xss) _ (fun hm => ?_) (fun h => Keeps s.heap h) (fun h h' k kk b o e => kk b o (fun hm => ?_) (k b o e)) (fun i j vi vj s' Q' E' k pi pj hq => ?_) (by simpa [hr.len] using hne) ⟨⟨_, Heap.get?_push_of_some _ (Heap.get?_push_size _ rfl), rfl, rfl⟩, (hl.push _).push _⟩ (fun b o e => Heap.get?_push_of_some _ (Heap.get?_push_of_some _ e)) (Heap.get?_push_size _ rfl) fun v s' hP hm hS' => ?_⟩
  · rw [z1] at hm
    simp only [List.mem_cons, List.not_mem_nil, or_false] at hm
    rcases hm with hm | hm
    · exact absurd hm (Nat.succ_ne_self _)
    · rw [← hm] at hlt; exact Nat.not_succ_lt_self hlt
  · have hb := Heap.lt_size e
    rw [z1] at hm
    simp only [List.mem_cons, List.not_mem_nil, or_false] at hm
    rcases hm with hm | hm
    · rw [hm] at hb; exact (Nat.not_succ_lt_self hb).elim
    · rw [hm] at hb; exact absurd hb (Nat.lt_irrefl _)
  · obtain ⟨a, V, xs, rfl, la, sa, ea⟩ := hr.item (by simpa using pi)
    obtain ⟨b, V2, ys, rfl, lb, sb, eb⟩ := hr.item (by simpa using pj)
    have hq' : Q' (.bool (ltL ys xs)) s' := by have := hq; simp only [btGt, ea, eb, Option.getD_some] at this; exact this
    exact rc_gt_S (IsL.keep la k) (IsL.keep lb k) sa sb (by show A.units + 1 < _; omega) hq'
  · have e : s' = { s with heap := s'.heap, toks := s'.toks } := by
      obtain ⟨a1, a2, a3, a4, a5⟩ := s'
      have := hm.gens; have := hm.drawn; have := hm.os
      simp_all
    rw [e]
    have kk : Keeps s.heap s'.heap := fun b o e => hm.heap b o (fun hm => by
      have hb := Heap.lt_size e
      rw [z1] at hm
      simp only [List.mem_cons, List.not_mem_nil, or_false] at hm
      rcases hm with hm | hm
      · rw [hm] at hb; exact (Nat.not_succ_lt_self hb).elim
      · rw [hm] at hb; exact absurd hb (Nat.lt_irrefl _)) (Heap.get?_push_of_some _ (Heap.get?_push_of_some _ e))
    exact q v [] _ _ kk (by obtain ⟨o, e⟩ := hS'; have := Heap.lt_size e; rw [z1] at this; exact Nat.le_of_lt (Nat.lt_of_succ_lt this)) Led.nil (by simpa [hr.len] using hP)
end
end Mine
end
/-! M2 -/
section
open PySem PySem.W PyProof.Rows PySem.Calls
set_option maxRecDepth 100000
set_option linter.unusedVariables false
namespace Mine
open SeqAt
section
variable {w : World} {A : Around}
theorem isList_inj {h : Heap} {a : Addr} {V W : List Value} (x : h.IsList a V.toArray) (y : h.IsList a W.toArray) : V = W := by
  obtain ⟨o, ho, -, n, hd⟩ := x
  obtain ⟨o2, ho2, -, n2, hd2⟩ := y
  obtain rfl : o = o2 := by rw [ho] at ho2; exact Option.some.inj ho2
  rw [hd] at hd2
  injection hd2 with hv _
  simpa using hv
noncomputable def IsRow (h : Heap) (ys : List Str) (v : Value) : Prop := ∃ a V, v = .ref a ∧ h.IsList a (List.toArray V) ∧ StrsAre V ys
open Classical in
noncomputable def isRow (h : Heap) (ys : List Str) (v : Value) : Bool := decide (IsRow h ys v)
theorem isRow_eq {h : Heap} {a : Addr} {V : List Value} {xs ys : List Str} (l : h.IsList a V.toArray) (x : StrsAre V xs) : isRow h ys (.ref a) = (xs == ys) := by
  unfold isRow
  rw [Bool.eq_iff_iff]
  simp only [decide_eq_true_eq, beq_iff_eq]
  constructor
  · rintro ⟨b, W, e, lb, y⟩
    cases e
    obtain rfl := isList_inj l lb
    exact strsAre_inj x y
  · rintro rfl; exact ⟨a, V, rfl, l, x⟩
theorem RowsIn.tail {h : Heap} {v : Value} {vs : List Value} {xs : List Str} {xss : List (List Str)} (r : RowsIn h (v :: vs) (xs :: xss)) : RowsIn h vs xss :=
  ⟨by have := r.len; simpa using this, fun {i v} e => by have := r.item (i := i + 1) (v := v) (by simpa using e); simpa using this⟩
theorem count_isRow {h : Heap} {ys : List Str} : ∀ {vs : List Value} {xss : List (List Str)}, RowsIn h vs xss → vs.countP (isRow h ys) = xss.count ys
  | [], xss, r => by have := r.len; cases xss with | nil => rfl | cons _ _ => simp at this
  | v :: vs, [], r => by have := r.len; simp at this
  | v :: vs, xs :: xss, r => by
    obtain ⟨a, V, xs', rfl, la, sa, ea⟩ := r.item (i := 0) (v := v) rfl
    obtain rfl : xs = xs' := by simpa using ea
    rw [List.countP_cons, count_isRow r.tail, isRow_eq la sa, List.count_cons]
theorem count_rows {s : Shared} {l b : Addr} {vs W : List Value} {xss : List (List Str)} {ys : List Str} (hl : s.heap.IsList l vs.toArray) (hr : RowsIn s.heap vs xss) (hb : s.heap.IsList b W.toArray) (hy : StrsAre W ys) (hu : A.units + 5 < cLine) :
    Does w A (call (.builtin "list.count") [.ref l, .ref b]) s (fun v _ => ∃ t, v = .int (xss.count ys : Nat) t) := by
  refine same_does fun Q E q => ?_
  obtain ⟨⟨cls, dd, data, sl⟩, ho, hc, n, hd⟩ := id hl
  simp only at hc hd
  subst hc hd
  refine call_meets PySem.F.slot_list_count ⟨_, ho, rfl⟩ PySem.F.entry_list_count (PySem.F.args_list_count_2 _ _) (list_countAt l vs.toArray n dd sl (.ref b) (isRow s.heap ys)) ⟨ho, fun y hy' => ?_, ?_⟩
  · obtain ⟨i, hi⟩ := List.getElem?_of_mem (by simpa using hy')
    obtain ⟨a, V, xs, rfl, la, sa, ea⟩ := hr.item hi
    rw [isRow_eq la sa]
    exact eqAt_S la hb sa hy (by show A.units + 1 < _; omega)
  · have e := count_isRow (ys := ys) hr
    show Q _ _
    dsimp only
    rw [e]
    exact q _ _ ⟨_, rfl⟩
end
end Mine
end
/-! Map1 -/
section
open PySem PySem.W PyProof.Rows PySem.Calls
set_option maxRecDepth 100000
set_option linter.unusedVariables false
namespace Mine
section
theorem owner_map : Manifest.owners.lookup (String.ofList ['p', 'a', 'm'].reverse) = some Manifest.sig_map := by kernel_rfl
theorem slot_map_init : Slot "map" "__init__" "object.__init__" :=
  .of (owner := "object") (n := "__init__") (by rw [typeLookup_type, builtinLookup_eq_fast]; kernel_rfl) (by decide +kernel) (by decide +kernel) (by decide +kernel)
    (by decide +kernel) (by rw [isSubtype_type]; kernel_rfl)
theorem slot_map_iter : Slot "map" "__iter__" "map.__iter__" :=
  .of (owner := "map") (n := "__iter__") (by rw [typeLookup_type, builtinLookup_eq_fast]; kernel_rfl) (by decide +kernel) (by decide +kernel) (by decide +kernel)
    (by decide +kernel) (by rw [isSubtype_type]; kernel_rfl)
theorem args_map_iter_1 (a : Value) : argsOk "map.__iter__" ⟨[a], []⟩ := by
  unfold argsOk; rw [signature?_of (id := "map.__iter__") (n := ['_', '_', 'r', 'e', 't', 'i', '_', '_']) (o := ['p', 'a', 'm']) (by kernel_rfl) owner_map]; kernel_rfl
theorem slot_map_next : Slot "map" "__next__" "map.__next__" :=
  .of (owner := "map") (n := "__next__") (by rw [typeLookup_type, builtinLookup_eq_fast]; kernel_rfl) (by decide +kernel) (by decide +kernel) (by decide +kernel)
    (by decide +kernel) (by rw [isSubtype_type]; kernel_rfl)
theorem entry_map_next : entryFor table "map.__next__" = some Builtin.«map.__next__» := entryFor_of_tree (by kernel_rfl)
theorem args_map_next_1 (a : Value) : argsOk "map.__next__" ⟨[a], []⟩ := by
  unfold argsOk; rw [signature?_of (id := "map.__next__") (n := ['_', '_', 't', 'x', 'e', 'n', '_', '_']) (o := ['p', 'a', 'm']) (by kernel_rfl) owner_map]; kernel_rfl
theorem entry_map_iter : entryFor table "map.__iter__" = some Builtin.«dict_keyiterator.__iter__» :=
  entryFor_alias (id' := "dict_keyiterator.__iter__") (by kernel_rfl) (by first | rfl | decide +kernel | (unfold String.splitOn; simp +decide [String.splitOnAux])) (by decide +kernel) (by kernel_rfl)
theorem mro_map : mroOf (.type "map") = pure [.type "map", .type "object"] := by rw [mroOf_type]; kernel_rfl
theorem lookup_map_new : typeLookup (.type "map") "__new__" = pure (some (.builtin "map.__new__")) := by rw [typeLookup_type, builtinLookup_eq_fast]; kernel_rfl
theorem called_map : TypeCalled "map" "map.__new__" "object.__init__" :=
  ⟨by decide +kernel, by decide +kernel, ⟨_, _, mro_map⟩, madeBy_type mro_map lookup_map_new (by decide +kernel), by decide +kernel, by rw [isSubtype_type]; kernel_rfl, slot_map_init⟩
theorem typeCall_map_2 (a b : Value) : checkTypeCall "map" ⟨[a, b], []⟩ = pure () := by kernel_rfl
theorem newCall_map_2 (a b : Value) : checkBuiltinCall "map.__new__" ⟨[.type "map", a, b], []⟩ = pure () := by kernel_rfl
theorem entry_map_new : entryFor table "map.__new__" = some Builtin.«map.__new__» := entryFor_of_tree (by kernel_rfl)
theorem sub_map : isSubtype (.type "map") (.type "map") = pure true := by rw [isSubtype_type]; kernel_rfl
theorem map_no_len : typeLookup (.type "map") "__len__" = pure none := by rw [typeLookup_type, builtinLookup_eq_fast]; kernel_rfl
theorem map_no_hint : typeLookup (.type "map") "__length_hint__" = pure none := by rw [typeLookup_type, builtinLookup_eq_fast]; kernel_rfl
end
end Mine
end
/-! Map2 -/
section
open PySem PySem.W PyProof.Rows PySem.Calls
set_option maxRecDepth 100000
set_option linter.unusedVariables false
namespace Mine
/-- a map object over one list iterator -/
noncomputable abbrev IsMap (h : Heap) (z TI : Addr) (f : Value) : Prop := h.get? z = some { cls := .type "map", dict := none, data := .fields #[.ref TI, f], slots := #[] }
noncomputable abbrev IsOne (h : Heap) (T : Addr) (a : Value) : Prop := h.get? T = some { cls := .type "tuple", data := .seq #[a] }
noncomputable abbrev mapH1 (h : Heap) (l : Addr) : Heap := h.push { cls := .type "list_iterator", data := .fields #[.ref l, .int 0 0] }
noncomputable abbrev mapH2 (h : Heap) (l : Addr) : Heap := (mapH1 h l).push { cls := .type "tuple", data := .seq #[.ref h.objs.size] }
noncomputable abbrev mapH3 (h : Heap) (l : Addr) (f : Value) : Heap := (mapH2 h l).push { cls := .type "map", data := .fields #[.ref (mapH1 h l).objs.size, f] }
theorem meets_map_new (l : Addr) (f : Value) (xs : Array Value) :
    Meets (Builtin.«map.__new__» ⟨[.type "map", f, .ref l], []⟩) (fun _ R s => s.heap.IsList l xs ∧
      R (.ok (.ret (.ref (mapH2 s.heap l).objs.size))) { s with heap := mapH3 s.heap l f }) :=
  .of_wp fun prog w A R s h => by
    obtain ⟨hp, g, d, tk, os⟩ := s; obtain ⟨hl, h⟩ := h
    have hsub := sub_map
    have hL : Heap.IsList (Shared.heap ⟨hp, g, d, tk, os⟩) l xs := hl
    wp_walk using wpAny_pyIter_list hL
    exact ⟨_, rfl, h⟩
section
variable {w : World} {A : Around} {E : Value → Shared → Prop} {s : Shared}
theorem map_next_item {z TI it l : Addr} {k : Nat} {xs : Array Value} {x f : Value} {Q : Value → Shared → Prop}
    (hz : IsMap s.heap z TI f) (hTI : IsOne s.heap TI (.ref it)) (h1 : s.heap.IsListIter it l k) (hl : s.heap.IsList l xs) (hx : xs[k]? = some x) (ne : z ≠ it)
    (hf : ∀ h', h'.IsListIter it l (k + 1) → Heap.SameBut it s.heap h' → wpAny (model prog w) A (call f [x]) Q E { s with heap := h' }) :
    wpAny (model prog w) A (Builtin.«map.__next__» ⟨[.ref z], []⟩) (fun fin s' => ∃ v, fin = .done (.ret v) ∧ Q v s') E s := by
  show wpAny _ _ (field (.ref z) 0 >>= _) _ _ _
  refine wpAny_bind (wpAny_field hz rfl (x := .ref TI) rfl ?_)
  refine wpAny_bind (wpAny_seqItems hTI rfl ?_)
  refine wpAny_bind ?_
  simp only [← Array.forIn_toList, List.forIn_cons, List.forIn_nil]
  refine wpAny_bind (wpAny_bind (wpAny_holding (wpAny_nextOf_list_item h1 hl hx fun h₁ h1' hs => wpAny_pure (wpAny_pure ?_))))
  refine wpAny_bind (wpAny_field (hs.extBut _ _ ne hz) rfl (x := f) rfl ?_)
  refine wpAny_bind (wpAny_holding (wpAny_mono (hf h₁ h1' hs) (fun v s' hq => ?_) fun _ _ x => x))
  exact wpAny_bind (wpAny_letGo (wpAny_pure ⟨_, rfl, hq⟩))
end
end Mine
end
/-! Map3 -/
section
open PySem PySem.W PyProof.Rows PySem.Calls
set_option maxRecDepth 100000
set_option linter.unusedVariables false
namespace Mine
section
variable {w : World} {A : Around} {E : Value → Shared → Prop} {s : Shared}
theorem map_next_end {z TI it l : Addr} {k : Nat} {xs : Array Value} {f : Value} {Q : Fin → Shared → Prop} (hh : A.handled = none)
    (hz : IsMap s.heap z TI f) (hTI : IsOne s.heap TI (.ref it)) (h1 : s.heap.IsListIter it l k) (hl : s.heap.IsList l xs) (hx : xs[k]? = none)
    (hE : ∀ h' e, (∀ c o, c ≠ it → s.heap.get? c = some o → h'.get? c = some o) → (∃ o, h'.get? e = some o ∧ o.cls = .type "StopIteration") → E (.ref e) { s with heap := h' }) :
    wpAny (model prog w) A (Builtin.«map.__next__» ⟨[.ref z], []⟩) Q E s := by
  show wpAny _ _ (field (.ref z) 0 >>= _) _ _ _
  refine wpAny_bind (wpAny_field hz rfl (x := .ref TI) rfl ?_)
  refine wpAny_bind (wpAny_seqItems hTI rfl ?_)
  refine wpAny_bind ?_
  simp only [← Array.forIn_toList, List.forIn_cons, List.forIn_nil]
  exact wpAny_bind (wpAny_bind (wpAny_holding (wpAny_nextOf_list_end hh h1 hl hx fun h₂ e hs₂ he => hE h₂ e (fun c o hc x => hs₂ _ _ hc x) he)))
theorem pyNext_map_item {z TI it l : Addr} {k : Nat} {xs : Array Value} {x f : Value} {Q : Option Value → Shared → Prop}
    (hz : IsMap s.heap z TI f) (hTI : IsOne s.heap TI (.ref it)) (h1 : s.heap.IsListIter it l k) (hl : s.heap.IsList l xs) (hx : xs[k]? = some x) (ne : z ≠ it)
    (hf : ∀ h', h'.IsListIter it l (k + 1) → Heap.SameBut it s.heap h' → wpAny (model prog w) A.in1 (call f [x]) (fun v => Q (some v)) (fun _ _ => False) { s with heap := h' }) :
    wpAny (model prog w) A (pyNext (.ref z)) Q E s := by
  have hT : s.TypeIs (.ref z) "map" := ⟨_, hz, rfl⟩
  unfold pyNext
  exact wpAny_bind (wpAny_attempt (wpAny_callSpecial?_slot (name := Str.ofString "__next__") hT slot_map_next
    (wpAny_call_entry slot_map_next hT entry_map_next
      (wpAny_mono (map_next_item hz hTI h1 hl hx ne hf) (fun fin s' h => let ⟨v, e, q⟩ := h; ⟨v, e, wpAny_pure q⟩) fun _ _ x => x.elim) (args_map_next_1 _))))
theorem pyNext_map_end {z TI it l : Addr} {k : Nat} {xs : Array Value} {f : Value} {Q : Option Value → Shared → Prop} (hh : A.handled = none)
    (hz : IsMap s.heap z TI f) (hTI : IsOne s.heap TI (.ref it)) (h1 : s.heap.IsListIter it l k) (hl : s.heap.IsList l xs) (hx : xs[k]? = none)
    (hQ : ∀ h', (∀ c o, c ≠ it → s.heap.get? c = some o → h'.get? c = some o) → Q none { s with heap := h' }) :
    wpAny (model prog w) A (pyNext (.ref z)) Q E s := by
  have hT : s.TypeIs (.ref z) "map" := ⟨_, hz, rfl⟩
  unfold pyNext
  refine wpAny_bind (wpAny_attempt (wpAny_callSpecial?_slot (name := Str.ofString "__next__") hT slot_map_next
    (wpAny_call_entry slot_map_next hT entry_map_next (map_next_end hh hz hTI h1 hl hx fun h' e hk he => ?_) (args_map_next_1 _))))
  obtain ⟨o, ho, hc⟩ := he
  refine wpAny_bind (wpAny_isInstance (T := "StopIteration") (b := true) ⟨o, ho, hc⟩ isSubtype_stop ?_)
  exact wpAny_pure (hQ _ hk)
theorem pyIter_map {z TI : Addr} {f : Value} {Q : Value → Shared → Prop} (hz : IsMap s.heap z TI f) (h : Q (.ref z) s) : wpAny (model prog w) A (pyIter (.ref z)) Q E s := by
  have hT : s.TypeIs (.ref z) "map" := ⟨_, hz, rfl⟩
  refine wpAny_pyIter_slot hT slot_map_iter (wpAny_call_entry slot_map_iter hT entry_map_iter ?_ (args_map_iter_1 _))
  show wpAny _ _ (ret (.ref z)) _ _ s
  exact wpAny_pure ⟨_, rfl, "map", _, hT, slot_map_next.lookup, h⟩
end
end Mine
end
/-! Map4 -/
section
open PySem PySem.W PyProof.Rows PySem.Calls
set_option maxRecDepth 100000
set_option linter.unusedVariables false
namespace Mine
section
variable {w : World} {A : Around} {E : Value → Shared → Prop} {s : Shared}
theorem walks_map (hh : A.handled = none) {g : Heap} {z TI it l : Addr} {xs : Array Value} {f : Value} {P : Nat → Value → Prop} (hl : g.IsList l xs) (hg : g.get? it = none) (hzi : z ≠ it) (hTi : TI ≠ it)
    (hf : ∀ i x (s : Shared), xs[i]? = some x → Keeps g s.heap → Does w A.in1 (call f [x]) s (fun v _ => P i v)) :
    WalksS prog w A z (z :: TI :: it :: List.range g.objs.size) [it] (fun a b => b = a) xs.size P
      (fun i s => Keeps g s.heap ∧ IsMap s.heap z TI f ∧ IsOne s.heap TI (.ref it) ∧ s.heap.IsListIter it l i) where
  sub := fun b hb => by simp at hb; simp [hb]
  grefl := fun _ => rfl
  gtrans := fun _ _ _ h1 h2 => h2.trans h1
  frame := fun i s h' tk st _ hk => by
    obtain ⟨k, a1, a2, a3⟩ := st
    refine ⟨fun b o e => hk b ?_ o (k b o e), hk z (by simp) _ a1, hk TI (by simp) _ a2, a3.at fun o e => hk it (by simp) o e⟩
    have : b ∈ List.range g.objs.size := List.mem_range.mpr (Heap.lt_size e)
    exact .tail _ (.tail _ (.tail _ this))
  item := fun i s Q E hi st hQ => by
    obtain ⟨k, a1, a2, a3⟩ := st
    refine wpAny_with_toks (Nat.le_refl s.toks) ?_
    refine pyNext_map_item a1 a2 a3 (IsL.keep hl k) (Array.getElem?_eq_getElem hi) hzi fun h' h1 hs => ?_
    have k' : Keeps g h' := fun b o e => hs.extBut b o (ne_of_none hg e).symm (k b o e)
    refine hf i _ { s with heap := h' } (Array.getElem?_eq_getElem hi) k' _ _ fun v tl h'' tk kk zz ll hp htk => ?_
    exact hQ v _ hp ⟨fun b o e => kk b o (k' b o e), kk _ _ (hs.extBut _ _ hzi a1), kk _ _ (hs.extBut _ _ hTi a2), h1.at fun o e => kk _ o e⟩
      ⟨fun b o hb e => kk b o (hs.extBut b o (by simpa using hb) e), rfl, rfl, rfl, htk⟩
  done := fun s Q E st hQ => by
    obtain ⟨k, a1, a2, a3⟩ := st
    refine wpAny_with_toks (Nat.le_refl s.toks) ?_
    exact pyNext_map_end hh a1 a2 a3 (IsL.keep hl k) (Array.getElem?_eq_none (Nat.le_refl _)) fun h' hk htk => hQ _ ⟨fun b o hb e => hk b o (by simpa using hb) e, rfl, rfl, rfl, htk⟩
  self := fun i s Q E st hQ => pyIter_map st.2.1 hQ
end
end Mine
end
/-! Map5 -/
section
open PySem PySem.W PyProof.Rows PySem.Calls
set_option maxRecDepth 100000
set_option linter.unusedVariables false
namespace Mine
section
variable {prog : Program} {w : World} {A : Around} {E : Value → Shared → Prop} {s : Shared} {I : Addr} {fp wr : List Addr} {G : Array GenState → Array GenState → Prop} {n : Nat} {P : Nat → Value → Prop} {St : Nat → Shared → Prop}
/-- the items of a map object -/
theorem collect_map {Q : List Value → Shared → Prop} (W : WalksS prog w A.in1 I fp wr G n P St) (hT : ∀ i s, St i s → s.TypeIs (.ref I) "map") (hst : St 0 s) (hfp : ∀ b ∈ fp, @LT.lt Nat _ b s.heap.objs.size) (hI : I ∈ fp) (hn : n ≤ sizeLine)
    (hQ : ∀ s' acc, Moved wr G s s' → ItemsOf P acc n → Q acc.toList s') : wpAny (model prog w) A (collect (.ref I)) Q E s := by
  generalize hS : s.heap.objs.size = S at hfp
  have hSf : S ∉ fp := fun hm => Nat.lt_irrefl _ (hfp _ hm)
  have hSI : S ≠ I := fun e => hSf (e ▸ hI)
  let o0 : Obj := { cls := .type "list", data := .seq ([] : List Value).toArray }
  have g0 : (s.heap.push o0).get? S = some o0 := hS ▸ Heap.get?_push_size _ rfl
  have st1 : St 0 { s with heap := s.heap.push o0 } := W.frame 0 s (s.heap.push o0) s.toks hst (Nat.le_refl _) fun b _ o e => Heap.get?_push_of_some _ e
  -- a list that takes one item and gives it back
  let h2 := ((s.heap.push o0).update S (Obj.mapSeq (·.push Value.none))).update S (Obj.mapSeq (·.pop))
  have g1 := Heap.get?_update_self (Obj.mapSeq (·.push Value.none)) g0 rfl
  have g2 := Heap.get?_update_self (Obj.mapSeq (·.pop)) g1 rfl
  have same : ∀ b o, b ≠ S → (s.heap.push o0).get? b = some o → h2.get? b = some o := fun b o hb e => (Heap.get?_update_other _ _ (Ne.symm hb)).trans ((Heap.get?_update_other _ _ (Ne.symm hb)).trans e)
  have st2 : St 0 { s with heap := h2 } := W.frame 0 { s with heap := s.heap.push o0 } h2 s.toks st1 (Nat.le_refl _) fun b hb o e => same b o (fun q => hSf (q ▸ hb)) e
  unfold collect
  refine wpAny_bind (wpAny_runValue (codeAny_builtin F.entry_proto_collect ?_))
  rw [Around.under_plainId F.plain_proto_collect _]
  show wpAny _ A.in1 (newList [] >>= fun l => again (.builtin "list.__iadd__" ⟨[l, .ref I], []⟩)) _ _ s
  refine wpAny_bind (wpAny_newObj_type ?_)
  refine wpAny_pure ⟨plainId_quiet F.plain_list_iadd _, codeAny_builtin F.entry_list_iadd ?_⟩
  rw [Around.under_plainId F.plain_list_iadd _, hS]
  show wpAny _ A.in1 (Builtin.List.listExtendWith (.ref S) (.ref I) (.ref S)) _ _ { s with heap := s.heap.push o0 }
  unfold Builtin.List.listExtendWith
  refine wpAny_bind (wpAny_typeOf (hT 0 _ st1) ?_)
  have e1 : Builtin.List.listSameRef (.ref S) (.ref I) = false := by simp [Builtin.List.listSameRef, hSI]
  have e2 : (Value.type "map" == Value.type "list") = false := by decide
  have e3 : (Value.type "map" == Value.type "tuple") = false := by decide
  simp only [e1, e2, e3, Bool.or_false, Bool.false_eq_true, if_false]
  refine wpAny_bind (W.self 0 _ _ _ st1 (wpAny_bind (wpAny_holding ?_)))
  unfold Builtin.List.listLengthHint
  refine wpAny_bind (wpAny_specialOf (hT 0 _ st1) map_no_len ?_)
  show wpAny _ A.in1 (specialOf (Value.ref I) (Str.ofString "__length_hint__") >>= _) _ _ _
  refine wpAny_bind (wpAny_specialOf (hT 0 _ st1) map_no_hint (wpAny_pure ?_))
  show wpAny _ A.in1 (rule "list.extend.makes-room" >>= fun _ => (updateSeq S (·.push .none) >>= fun _ => updateSeq S (·.pop)) >>= fun _ => again (.builtin "list.extend.loop" ⟨[.ref S, .ref I, .ref S], []⟩)) _ _ _
  refine wpAny_bind (wpAny_rule (wpAny_bind (wpAny_bind (wpAny_updateSeq g0 rfl (wpAny_updateSeq g1 rfl ?_)))))
  refine wpAny_pure ⟨plainId_quiet F.plain_extend_loop _, codeAny_extend_loopS W hn S hSf _ n 0 { s with heap := h2 } _ _ rfl (Nat.zero_le _) st2 g2 (ItemsOf.nil P) fun s' acc' c' hm hS' hacc => ?_⟩
  refine wpAny_bind (wpAny_load hS' (wpAny_pure (hQ s' acc' ?_ hacc)))
  have m0 : Moved (S :: wr) G { s with heap := s.heap.push o0, toks := s.toks } { s with heap := h2, toks := s.toks } := (Moved.refl W.grefl).then_heap (Nat.le_refl _) fun b o hb e => same b o (fun q => hb (by rw [q]; exact List.mem_cons_self)) e
  have := Moved.trans W.gtrans m0 hm
  rw [← hS] at this
  exact Moved.drop_new (o := o0) (tk := s.toks) this (Nat.le_refl _)
end
end Mine
end
/-! Map6 -/
section
open PySem PySem.W PyProof.Rows PySem.Calls
set_option maxRecDepth 100000
set_option linter.unusedVariables false
namespace Mine
theorem args_object_init_3 (a b c : Value) : argsOk "object.__init__" ⟨[a, b, c], []⟩ := by
  unfold argsOk; rw [signature?_of (id := "object.__init__") (n := ['_', '_', 't', 'i', 'n', 'i', '_', '_']) (o := ['t', 'c', 'e', 'j', 'b', 'o']) (by kernel_rfl) F.owner_object]; kernel_rfl
section
variable {w : World} {A : Around} {E : Value → Shared → Prop} {s : Shared}
theorem call_map_new {f : Value} {l : Addr} {xs : Array Value} {Q : Value → Shared → Prop} (hl : s.heap.IsList l xs)
    (h : Q (.ref (mapH2 s.heap l).objs.size) { s with heap := mapH3 s.heap l f }) : wpAny (model prog w) A (call (.type "map") [f, .ref l]) Q E s :=
  callType_new called_map (by decide) (typeCall_map_2 _ _) (newCall_map_2 _ _) (fun obj => args_object_init_3 obj _ _) entry_map_new
    (meets_map_new l f xs) ⟨hl, ⟨_, Heap.get?_push_size _ rfl, rfl⟩, h⟩
theorem mapH_facts (h : Heap) (l : Addr) (f : Value) :
    Keeps h (mapH3 h l f) ∧ h.objs.size ≤ (mapH3 h l f).objs.size ∧ IsMap (mapH3 h l f) (mapH2 h l).objs.size (mapH1 h l).objs.size f ∧ IsOne (mapH3 h l f) (mapH1 h l).objs.size (.ref h.objs.size) ∧ (mapH3 h l f).IsListIter h.objs.size l 0 := by
  refine ⟨fun b o e => Heap.get?_push_of_some _ (Heap.get?_push_of_some _ (Heap.get?_push_of_some _ e)), by simp only [Heap.size_push]; omega, Heap.get?_push_size _ rfl, Heap.get?_push_of_some _ (Heap.get?_push_size _ rfl), ?_⟩
  exact ⟨_, Heap.get?_push_of_some _ (Heap.get?_push_of_some _ (Heap.get?_push_size _ rfl)), rfl, rfl⟩
end
section
variable {prog : Program} {w : World} {A : Around} {E : Value → Shared → Prop} {s : Shared}
variable {I : Addr} {fp wr : List Addr} {G : Array GenState → Array GenState → Prop} {n : Nat} {P : Nat → Value → Prop} {St : Nat → Shared → Prop}
theorem code_tuple_new_map {Q₁ : Value → Shared → Prop} (W : WalksS prog w A.in1.in1 I fp wr G n P St) (hT : ∀ i s, St i s → s.TypeIs (.ref I) "map") (hst : St 0 s) (hfp : ∀ b ∈ fp, @LT.lt Nat _ b s.heap.objs.size) (hI : I ∈ fp) (hsz : n ≤ sizeLine)
    (h : ∀ s' acc, Moved wr G s s' → ItemsOf P acc n → Q₁ (.ref s'.heap.objs.size) { s' with heap := s'.heap.push { cls := .type "tuple", data := .seq acc } }) :
    codeAny (model prog w) A (.call (.builtin "tuple.__new__") ⟨[.type "tuple", .ref I], []⟩) (wants Q₁ E) s := by
  refine codeAny_of_tree ?_
  show wpAny _ A.in1 (do checkBuiltinCall "tuple.__new__" ⟨[.type "tuple", .ref I], []⟩; again (.builtin "tuple.__new__" ⟨[.type "tuple", .ref I], []⟩)) _ _ s
  refine wpAny_bind (wpAny_of_eq (F.newCall_tuple_1 _) (wpAny_pure ⟨plainId_quiet F.plain_tuple_new _, codeAny_builtin F.entry_tuple_new ?_⟩))
  rw [Around.under_plainId F.plain_tuple_new _]
  have hsub := sub_tuple_self
  have hinit := init_tuple_lookup
  have hmh := madeHere_tuple
  have hTI := hT 0 s hst
  wp_walk using wpAny_typeOf hTI, collect_map W hT hst hfp hI hsz
  intro s' acc hm hacc
  show wpAny _ _ (Builtin.Tuple.tupleExact acc.toList.toArray >>= fun v => ret v) _ _ _
  unfold Builtin.Tuple.tupleExact
  refine wpAny_bind (wpAny_newObj_type ?_ (by show acc.toList.toArray.size ≤ sizeLine; simp only [Array.toArray_toList]; rw [hacc.1]; exact hsz))
  refine wpAny_pure ?_
  have e : acc.toList.toArray = acc := by simp
  rw [e]
  exact h s' acc hm hacc
theorem call_tuple_map {Q : Value → Shared → Prop} (W : WalksS prog w A.in1.in1.in1 I fp wr G n P St) (hT : ∀ i s, St i s → s.TypeIs (.ref I) "map") (hst : St 0 s) (hfp : ∀ b ∈ fp, @LT.lt Nat _ b s.heap.objs.size) (hI : I ∈ fp) (hsz : n ≤ sizeLine)
    (hQ : ∀ s' acc, Moved wr G s s' → ItemsOf P acc n → Q (.ref s'.heap.objs.size) { s' with heap := s'.heap.push { cls := .type "tuple", data := .seq acc } }) :
    wpAny (model prog w) A (call (.type "tuple") [.ref I]) Q E s := by
  refine callType_codes (Q₁ := fun obj s₁ => s₁.TypeIs obj "tuple" ∧ Q obj s₁) F.called_tuple (F.typeCall_tuple_1 _) F.entry_object_init
    (code_tuple_new_map W hT hst hfp hI hsz fun s' acc hm hacc => ⟨⟨_, Heap.get?_push_size _ rfl, rfl⟩, hQ s' acc hm hacc⟩) fun obj s₁ h₁ => ?_
  exact ⟨h₁.1, F.args_object_init_2 obj _, object_init_meets F.called_tuple.init.lookup F.called_tuple.made (by decide) prog w A.in1 _ s₁ ⟨h₁.1, rfl, h₁.2⟩⟩
end
section
variable {w : World} {A : Around} {E : Value → Shared → Prop} {s : Shared} {h₀ : Heap} {L : Addr} {m : Str → Option Value} {news : List (Addr × Obj)}
noncomputable abbrev mapO (TI : Addr) (f : Value) : Obj := { cls := .type "map", dict := none, data := .fields #[.ref TI, f], slots := #[] }
noncomputable abbrev oneO (a : Value) : Obj := { cls := .type "tuple", data := .seq #[a] }
noncomputable abbrev liO (l : Addr) : Obj := { cls := .type "list_iterator", data := .fields #[.ref l, .int 0 0] }
theorem map_new_F {f : Value} {l : Addr} {xs : Array Value} {Q : Value → Shared → Prop} (F : Fr h₀ L s.heap m) (N : News h₀ L s.heap news) (hl : s.heap.IsList l xs)
    (h : ∀ z TI it h', z ≠ it → TI ≠ it → L ≠ it → L < z → h₀.objs.size ≤ z → (∀ p ∈ news, p.1 ≠ it) → Fr h₀ L h' m → News h₀ L h' ((z, mapO TI f) :: (TI, oneO (.ref it)) :: (it, liO l) :: news) → Q (.ref z) { s with heap := h' }) :
    wpAny (model prog w) A (call (.type "map") [f, .ref l]) Q E s := by
  refine call_map_new hl ?_
  obtain ⟨k, z, a1, a2, a3⟩ := mapH_facts s.heap l f
  obtain ⟨oL, _, _, eL, _⟩ := id F.ns
  have hL := Heap.lt_size eL
  have h1 : (mapH1 s.heap l).objs.size = s.heap.objs.size + 1 := Heap.size_push ..
  have h2 : (mapH2 s.heap l).objs.size = s.heap.objs.size + 2 := by rw [Heap.size_push, h1]
  have hn : ∀ b, s.heap.objs.size ≤ b → b ≠ L ∧ h₀.get? b = none := fun b hb => ⟨fun e => by rw [e] at hb; exact absurd hL (Nat.not_lt.mpr hb), none_of F.keep (Heap.get?_none_of_le hb)⟩
  have ne2 : ((mapH2 s.heap l).objs.size : Addr) ≠ s.heap.objs.size := by rw [h2]; omega
  have ne1 : ((mapH1 s.heap l).objs.size : Addr) ≠ s.heap.objs.size := by rw [h1]; omega
  refine h (mapH2 s.heap l).objs.size (mapH1 s.heap l).objs.size s.heap.objs.size (mapH3 s.heap l f) ne2 ne1 (Nat.ne_of_lt hL) (by rw [h2]; exact Nat.lt_of_lt_of_le hL (by omega)) (by rw [h2]; exact Nat.le_trans (fr_le F) (by omega)) (fun p hp => Nat.ne_of_lt (Heap.lt_size (N p hp).1)) (fr_keeps F k) ?_
  intro q hq
  rcases List.mem_cons.mp hq with rfl | hq
  · exact ⟨a1, hn _ (by rw [h2]; omega)⟩
  rcases List.mem_cons.mp hq with rfl | hq
  · exact ⟨a2, hn _ (by rw [h1]; omega)⟩
  rcases List.mem_cons.mp hq with rfl | hq
  · exact ⟨Heap.get?_push_of_some _ (Heap.get?_push_of_some _ (Heap.get?_push_size _ rfl)), hn _ (Nat.le_refl _)⟩
  · exact news_keeps N k _ hq
theorem tuple_map_F {f : Value} {l z TI it : Addr} {vals : List Value} {Q : Value → Shared → Prop} (hh : A.handled = none) (F : Fr h₀ L s.heap m) (N : News h₀ L s.heap ((z, mapO TI f) :: (TI, oneO (.ref it)) :: (it, liO l) :: news))
    (hl : h₀.IsList l vals.toArray) (hz : z ≠ it) (hT : TI ≠ it) (hLi : L ≠ it) (hLz : L < z) (h0z : h₀.objs.size ≤ z) (hn : ∀ p ∈ news, p.1 ≠ it) (hsz : vals.length ≤ sizeLine)
    (hf : ∀ (i : Nat) x (s : Shared), vals[i]? = some x → Keeps h₀ s.heap → Does w A.in1.in1.in1.in1 (call f [x]) s (fun v _ => v = x))
    (h : ∀ D h' tk, Fr h₀ L h' m → News h₀ L h' ((D, { cls := .type "tuple", data := .seq vals.toArray }) :: news) → Q (.ref D) { s with heap := h', toks := tk }) :
    wpAny (model prog w) A (call (.type "tuple") [.ref z]) Q E s := by
  obtain ⟨hp, gg, d, tk, os⟩ := s
  have kg : Keeps h₀ (hideAll hp [it]) := fun b o e => hideAll_get _ (F.keep b o e) (fun hm => by
    rw [List.mem_singleton.mp hm, (N (it, liO l) (.tail _ (.tail _ (.head _)))).2.2] at e; cases e)
  have kg' : Keeps (hideAll hp [it]) hp := fun b o e => of_hideAll _ e
  have ez := (N _ (.head _)).1
  have eT := (N _ (.tail _ (.head _))).1
  have ei := (N _ (.tail _ (.tail _ (.head _)))).1
  have W := walks_map (w := w) (A := A.in1.in1.in1) (f := f) (TI := TI) (P := fun i v => vals[i]? = some v) (xs := vals.toArray) hh (IsL.keep hl kg) (hideAll_none [it] (.head _)) hz hT
    (fun i x s' hx k => (hf i x s' (by simpa using hx) (fun b o e => k b o (kg b o e))).mono fun v _ e => by rw [e]; simpa using hx)
  refine call_tuple_map W (fun i s' st => ⟨_, st.2.1, rfl⟩) ⟨kg', ez, eT, _, ei, rfl, rfl⟩ (fun b hb => ?_) (.head _) (by simpa using hsz) fun s' acc hm hacc => ?_
  · rcases List.mem_cons.mp hb with rfl | hb
    · exact Heap.lt_size ez
    rcases List.mem_cons.mp hb with rfl | hb
    · exact Heap.lt_size eT
    rcases List.mem_cons.mp hb with rfl | hb
    · exact Heap.lt_size ei
    · have := List.mem_range.mp hb
      rw [hideAll_size] at this
      exact this
  · have ea : acc = vals.toArray := by
      apply Array.ext_getElem?
      intro j
      by_cases hj : j < acc.size
      · have e1 : acc[j]? = some acc[j] := Array.getElem?_eq_getElem hj
        rw [e1, List.getElem?_toArray]
        exact (hacc.2 j _ e1).symm
      · have h1 := hacc.1
        simp at h1
        rw [Array.getElem?_eq_none (by omega), List.getElem?_toArray, List.getElem?_eq_none (by omega)]
    subst ea
    obtain ⟨hp', gg', d', tk', os'⟩ := s'
    obtain ⟨m1, m2, m3, m4, m5⟩ := hm
    cases m2; cases m3; cases m4
    have hzl : z < hp'.objs.size := Heap.lt_size (m1 z _ (by simpa using hz) ez)
    have kk : ∀ b o, b ≠ it → hp.get? b = some o → (hp'.push { cls := .type "tuple", data := .seq vals.toArray }).get? b = some o := fun b o hb e => Heap.get?_push_of_some _ (m1 b o (by simpa using hb) e)
    refine h _ _ _ ⟨?_, fun b o e => ?_, F.above⟩ fun q hq => ?_
    · obtain ⟨oL, iL1, iL2, eL, iL3⟩ := id F.ns
      exact ⟨oL, iL1, iL2, kk _ _ hLi eL, iL3⟩
    · refine kk b o (fun q => ?_) (F.keep b o e)
      rw [q, (N (it, liO l) (.tail _ (.tail _ (.head _)))).2.2] at e; cases e
    · rcases List.mem_cons.mp hq with rfl | hq
      · exact ⟨Heap.get?_push_size _ rfl, fun e => by
          have e' : hp'.objs.size = L := e
          rw [← e'] at hLz
          exact absurd hLz (Nat.not_lt.mpr (Nat.le_of_lt hzl)), Heap.get?_none_of_le (Nat.le_trans h0z (Nat.le_of_lt hzl))⟩
      · have := N q (.tail _ (.tail _ (.tail _ hq)))
        exact ⟨kk _ _ (hn q hq) this.1, this.2⟩
end
end Mine
end
/-! Set1 -/
section
open PySem PySem.W PyProof.Rows PySem.Calls
set_option maxRecDepth 100000
set_option linter.unusedVariables false
namespace Mine
noncomputable def setT0 (led : Bool) : SetTable := { mask := 7, place := #[], dummies := #[], finger := 0, led := led, moves := 0, plain := true }
noncomputable def bI (b : Bool) : Int := if b then 1 else 0
noncomputable def setT1 (led b : Bool) : SetTable := { mask := 7, place := #[if b then 1 else 0], dummies := #[], finger := 0, led := led, moves := 0, plain := true }
noncomputable abbrev setO0 (led : Bool) : Obj := { cls := .type "set", data := .set #[] 0 (setT0 led) }
noncomputable abbrev setO1 (led b : Bool) : Obj := { cls := .type "set", data := .set #[(bI b, .bool b)] 1 (setT1 led b) }
theorem slot_bool_hash' : Slot "bool" "__hash__" "int.__hash__" :=
  .of (owner := "int") (n := "__hash__") (by rw [typeLookup_type, builtinLookup_eq_fast]; kernel_rfl) (by decide +kernel) (by decide +kernel) (by decide +kernel)
    (by first | exact .inl (by decide +kernel) | exact .inr (by decide +kernel)) (by rw [isSubtype_type]; kernel_rfl)
section
variable {prog : Program} {w : World} {A : Around} {E : Value → Shared → Prop} {s : Shared}
theorem typeIs_bool' {b : Bool} : s.TypeIs (.bool b) "bool" := rfl
theorem pyHash_bool {b : Bool} {Q : Int → Shared → Prop} (h : Q (bI b) { s with toks := s.toks + 1 }) : wpAny (model prog w) A (pyHash (.bool b)) Q E s := by
  unfold pyHash
  have hv : [Value.bool b].any Value.onHeap = false := rfl
  refine wpAny_bind ?_
  rw [cRoomFor, if_neg (by rw [hv]; exact Bool.false_ne_true)]; refine wpAny_pure ?_
  refine wpAny_bind (wpAny_specialOf (typeIs_bool' (s := s)) slot_bool_hash'.lookup ?_)
  show wpAny _ _ (if (some (Value.builtin "int.__hash__") == some Value.none) = true then _ else _) Q E s
  rw [if_neg (by rw [beq_builtin_none]; exact Bool.false_ne_true)]
  refine wpAny_bind (wpAny_specialOf (typeIs_bool' (s := s)) slot_bool_hash'.lookup ?_)
  show wpAny _ _ (callSpecialIfBoundUnlessNone? (.bool b) "__hash__" _ >>= _) Q E s
  refine wpAny_bind (wpAny_callSpecialIfBoundUnlessNone?_slot (typeIs_bool' (s := s)) slot_bool_hash'
    (wpAny_call_entry slot_bool_hash' (typeIs_bool' (s := s)) entry_int_hash ?_ (args_int_hash _)))
  cases b
  · show wpAny _ _ (do ret (← mkInt 0)) _ _ s
    refine wpAny_ret_mkInt ?_
    exact wpAny_pure h
  · show wpAny _ _ (do ret (← mkInt 1)) _ _ s
    refine wpAny_ret_mkInt ?_
    exact wpAny_pure h
theorem eqBool_same {b : Bool} {Q : Bool → Shared → Prop} (h : Q true s) : wpAny (model prog w) A (eqBool (.bool b) (.bool b)) Q E s := by
  unfold eqBool
  show wpAny _ _ (if (Value.bool b == Value.bool b) = true then _ else _) Q E s
  rw [if_pos (by cases b <;> rfl)]
  exact wpAny_bind (wpAny_rule (wpAny_pure h))
end
end Mine
end
/-! Set2 -/
section
open PySem PySem.W PyProof.Rows PySem.Calls
set_option maxRecDepth 100000
set_option linter.unusedVariables false
namespace Mine
section
variable {prog : Program} {w : World} {A : Around} {E : Value → Shared → Prop} {s : Shared}
theorem call_add_body {a : Addr} {o : Obj} {b : Bool} {Q : Value → Shared → Prop} (ho : s.heap.get? a = some o) (hc : o.cls = .type "set")
    (h : wpAny (model prog w) A.in1 (setAddHashed a (.bool b) (bI b)) (fun _ s' => Q .none s') (fun _ _ => False) { s with toks := s.toks + 1 }) : wpAny (model prog w) A (call (.builtin "set.add") [.ref a, .bool b]) Q E s := by
  refine wpAny_call_entry F.slot_set_add (⟨o, ho, hc⟩ : s.TypeIs (.ref a) "set") F.entry_set_add ?_ (F.args_set_add_2 _ _)
  unfold Builtin.«set.add» Builtin.Frozenset.oneOther
  simp only [List.isEmpty_nil, bind_assoc]
  unfold Builtin.Frozenset.addrOf setAdd
  refine wpAny_bind (wpAny_pure ?_)
  try dsimp only
  refine wpAny_bind (wpAny_pure ?_)
  try dsimp only
  refine wpAny_bind ?_
  refine wpAny_holding ?_
  refine wpAny_bind (pyHash_bool ?_)
  refine wpAny_mono h (fun _ s' hq => ?_) fun _ _ e => e.elim
  show wpAny _ _ (ret Value.none) _ _ _
  exact wpAny_pure ⟨_, rfl, hq⟩
theorem layNew0 (led b : Bool) : layNew (setT0 led) #[] (bI b) (.bool b) = (#[(bI b, .bool b)], setT1 led b, false, false) := by cases led <;> cases b <;> decide
theorem tooFull1 (led b : Bool) : (setT1 led b).tooFull = false := by cases led <;> cases b <;> decide
theorem add_bool_first {a : Addr} {led b : Bool} {Q : Value → Shared → Prop} (ho : s.heap.get? a = some (setO0 led))
    (h : Q .none { s with heap := s.heap.update a (Obj.putSet #[(bI b, .bool b)] (setT1 led b)), toks := s.toks + 1 }) : wpAny (model prog w) A (call (.builtin "set.add") [.ref a, .bool b]) Q E s := by
  refine call_add_body ho rfl ?_
  have ho' : Heap.get? (Shared.heap { s with toks := s.toks + 1 }) a = some (setO0 led) := ho
  unfold setAddHashed setAddHashedIn
  refine wpAny_holding (wpAny_bind (wpAny_setState_of ho' rfl rfl ?_))
  show wpAny _ _ (if byScan (.bool b) #[] = true then _ else _) _ _ _
  rw [if_pos (by cases b <;> first | decide | simp [byScan, Value.scannable, scanBound])]
  unfold setAddByScan
  refine wpAny_bind ?_
  refine wpAny_bind (wpAny_rule ?_)
  refine wpAny_bind (wpAny_pure (a := ScanMet.absent) ?_)
  rw [layNew0]
  refine wpAny_bind (wpAny_pure (a := ()) ?_)
  refine wpAny_bind (wpAny_pure (a := true) ?_)
  show wpAny _ _ (storeSet a _ (setT1 led b) >>= _) _ _ _
  refine wpAny_bind (wpAny_storeSet_of ho' rfl ?_ (by show 1 ≤ sizeLine; decide))
  show wpAny _ _ (if (!false && (setT1 led b).tooFull) = true then _ else _) _ _ _
  rw [tooFull1, if_neg (by decide)]
  exact wpAny_pure (wpAny_pure h)
theorem add_bool_again {a : Addr} {led b : Bool} {Q : Value → Shared → Prop} (ho : s.heap.get? a = some (setO1 led b))
    (h : Q .none { s with toks := s.toks + 1 }) : wpAny (model prog w) A (call (.builtin "set.add") [.ref a, .bool b]) Q E s := by
  refine call_add_body ho rfl ?_
  have ho' : Heap.get? (Shared.heap { s with toks := s.toks + 1 }) a = some (setO1 led b) := ho
  have hf : (setT1 led b).fits 1 = true := by cases led <;> cases b <;> decide
  unfold setAddHashed setAddHashedIn
  refine wpAny_holding (wpAny_bind (wpAny_setState_of ho' rfl hf ?_))
  show wpAny _ _ (if byScan (.bool b) #[(bI b, .bool b)] = true then _ else _) _ _ _
  rw [if_pos (by cases b <;> first | decide | simp [byScan, Value.scannable, scanBound])]
  unfold setAddByScan
  refine wpAny_bind ?_
  refine wpAny_bind (wpAny_rule ?_)
  refine wpAny_bind ?_
  show wpAny _ _ (if (bI b == bI b) = true then _ else _) _ _ _
  rw [if_pos (by simp)]
  unfold setEpoch
  refine wpAny_bind (wpAny_bind (wpAny_setState_of ho' rfl hf (wpAny_pure ?_)))
  refine wpAny_bind (eqBool_same ?_)
  exact wpAny_pure (wpAny_pure (wpAny_pure h))
theorem putSet_O1 (led b : Bool) : Obj.putSet #[(bI b, .bool b)] (setT1 led b) (setO0 led) = setO1 led b := rfl
theorem newSet_set {Q : Value → Shared → Prop} (h : Q (.ref s.heap.objs.size) { s with heap := s.heap.push (setO0 (!w.params.followText "set-order")) }) : wpAny (model prog w) A (newSet (.type "set")) Q E s := by
  unfold newSet setsByText
  refine wpAny_bind (wpAny_bind (wpAny_askSetting (wpAny_pure ?_)))
  dsimp only
  simp only [newObj]
  exact wpAny_bind (wpAny_alloc (wpAny_pure h))
end
end Mine
end
/-! Set3 -/
section
open PySem PySem.W PyProof.Rows PySem.Calls
set_option maxRecDepth 100000
set_option linter.unusedVariables false
namespace Mine
theorem owner_set_iterator : Manifest.owners.lookup (String.ofList ['r', 'o', 't', 'a', 'r', 'e', 't', 'i', '_', 't', 'e', 's'].reverse) = some Manifest.sig_set_iterator := by kernel_rfl
theorem slot_setiter_next : Slot "set_iterator" "__next__" "set_iterator.__next__" :=
  .of (owner := "set_iterator") (n := "__next__") (by rw [typeLookup_type, builtinLookup_eq_fast]; kernel_rfl) (by decide +kernel) (by decide +kernel) (by decide +kernel)
    (by decide +kernel) (by rw [isSubtype_type]; kernel_rfl)
theorem entry_setiter_next : entryFor table "set_iterator.__next__" = some Builtin.«set_iterator.__next__» := entryFor_of_tree (by kernel_rfl)
theorem args_setiter_next_1 (a : Value) : argsOk "set_iterator.__next__" ⟨[a], []⟩ := by
  unfold argsOk; rw [signature?_of (id := "set_iterator.__next__") (n := ['_', '_', 't', 'x', 'e', 'n', '_', '_']) (o := ['r', 'o', 't', 'a', 'r', 'e', 't', 'i', '_', 't', 'e', 's']) (by kernel_rfl) owner_set_iterator]; kernel_rfl
theorem entry_set_iter : entryFor table "set.__iter__" = some Builtin.«frozenset.__iter__» :=
  entryFor_alias (id' := "frozenset.__iter__") (by kernel_rfl) rfl (by decide +kernel) (by kernel_rfl)
noncomputable abbrev setI (i0 i1 : Int) (v : Value) : Obj := { cls := .type "set_iterator", data := .fields #[.int i0 0, .int i1 0, v, .int 1 0, .int 1 0] }
section
variable {prog : Program} {w : World} {A : Around} {E : Value → Shared → Prop} {s : Shared}
theorem fits1 (led b : Bool) : (setT1 led b).fits 1 = true := by cases led <;> cases b <;> decide
theorem pyIter_set1 {a : Addr} {led b : Bool} {Q : Value → Shared → Prop} (ho : s.heap.get? a = some (setO1 led b))
    (h : Q (.ref s.heap.objs.size) { s with heap := s.heap.push (setI 0 0 (.ref a)) }) : wpAny (model prog w) A (pyIter (.ref a)) Q E s := by
  have hT : s.TypeIs (.ref a) "set" := ⟨_, ho, rfl⟩
  refine wpAny_pyIter_slot hT F.slot_set_iter (wpAny_call_entry F.slot_set_iter hT entry_set_iter ?_ (F.args_set_iter_1 _))
  show wpAny _ _ (Builtin.Frozenset.sizeOf a >>= _) _ _ s
  refine wpAny_bind ?_
  unfold Builtin.Frozenset.sizeOf setEntries
  refine wpAny_bind (wpAny_bind (wpAny_setState_of ho rfl (fits1 _ _) (wpAny_pure (wpAny_pure ?_))))
  refine wpAny_bind ?_
  unfold setDrawn setsByText
  refine wpAny_bind (wpAny_setState_of ho rfl (fits1 _ _) ?_)
  refine wpAny_bind (wpAny_bind (wpAny_askSetting (wpAny_pure ?_)))
  refine wpAny_pure ?_
  have e : ∀ c : Bool, (!c && (!(setT1 led b).plain && decide (1 > 1))) = false := by intro c; cases c <;> rfl
  show wpAny _ _ (if (!w.params.followText "set-order" && (!(setT1 led b).plain && decide (1 > 1))) = true then _ else _) _ _ s
  rw [e, if_neg Bool.false_ne_true]
  refine wpAny_bind (wpAny_pure ?_)
  refine wpAny_bind ?_
  unfold setEpoch
  refine wpAny_bind (wpAny_setState_of ho rfl (fits1 _ _) (wpAny_pure ?_))
  refine wpAny_bind (wpAny_newObj_type (wpAny_pure ⟨_, rfl, "set_iterator", _, ⟨_, Heap.get?_push_size _ rfl, rfl⟩, slot_setiter_next.lookup, h⟩))
end
end Mine
end
/-! Set4 -/
section
open PySem PySem.W PyProof.Rows PySem.Calls
set_option maxRecDepth 100000
set_option linter.unusedVariables false
namespace Mine
section
variable {prog : Program} {w : World} {A : Around} {E : Value → Shared → Prop} {s : Shared}
/-- the place behind the one item -/
noncomputable def nxt1 (w : World) (b : Bool) : Nat := if w.params.followText "set-order" = true then 0 else (if b then 1 else 0) + 1
noncomputable abbrev setW (w : World) (b : Bool) : Obj := setO1 (!w.params.followText "set-order") b
theorem pick_one {α : Type} (f : Nat → Nat) (x : α) : pickOrder f #[x] = #[x] := by
  show pickOrder.go f 1 0 [x] #[] = #[x]
  simp [pickOrder.go, Nat.mod_one]
theorem setNext_item {a : Addr} {b : Bool} {Q : Option (Value × Nat) → Shared → Prop} (ho : s.heap.get? a = some (setW w b)) (h : Q (some (.bool b, nxt1 w b)) s) :
    wpAny (model prog w) A (setNext a 0 0 1) Q E s := by
  unfold setNext
  refine wpAny_bind (wpAny_setState_of ho rfl (fits1 _ _) ?_)
  unfold setsByText
  refine wpAny_bind (wpAny_bind (wpAny_askSetting (wpAny_pure ?_)))
  show wpAny _ _ (if w.params.followText "set-order" = true then _ else _) _ _ s
  cases e : w.params.followText "set-order"
  · rw [if_neg (by decide)]
    have h' : Q (some (.bool b, (if b then 1 else 0) + 1)) s := by simpa [nxt1, e] using h
    cases b <;> exact wpAny_pure h'
  · rw [if_pos rfl]
    have h' : Q (some (.bool b, 0)) s := by simpa [nxt1, e] using h
    unfold setWalk setsByText
    refine wpAny_bind (wpAny_bind (wpAny_setState_of ho rfl (fits1 _ _) ?_))
    refine wpAny_bind (wpAny_bind (wpAny_askSetting (wpAny_pure ?_)))
    show wpAny _ _ (if w.params.followText "set-order" = true then _ else _) _ _ s
    rw [e, if_pos rfl]
    refine wpAny_bind (wpAny_askSetting (wpAny_pure ?_))
    rw [pick_one]
    exact wpAny_pure h'
theorem setNext_end {a : Addr} {b : Bool} {Q : Option (Value × Nat) → Shared → Prop} (ho : s.heap.get? a = some (setW w b)) (h : Q none s) :
    wpAny (model prog w) A (setNext a (nxt1 w b) 1 1) Q E s := by
  unfold setNext
  refine wpAny_bind (wpAny_setState_of ho rfl (fits1 _ _) ?_)
  unfold setsByText
  refine wpAny_bind (wpAny_bind (wpAny_askSetting (wpAny_pure ?_)))
  show wpAny _ _ (if w.params.followText "set-order" = true then _ else _) _ _ s
  cases e : w.params.followText "set-order"
  · rw [if_neg (by decide)]
    have e2 : nxt1 w b = (if b then 1 else 0) + 1 := by simp [nxt1, e]
    rw [e2]
    cases b <;> exact wpAny_pure h
  · rw [if_pos rfl]
    unfold setWalk setsByText
    refine wpAny_bind (wpAny_bind (wpAny_setState_of ho rfl (fits1 _ _) ?_))
    refine wpAny_bind (wpAny_bind (wpAny_askSetting (wpAny_pure ?_)))
    show wpAny _ _ (if w.params.followText "set-order" = true then _ else _) _ _ s
    rw [e, if_pos rfl]
    refine wpAny_bind (wpAny_askSetting (wpAny_pure ?_))
    rw [pick_one]
    exact wpAny_pure h
theorem next_set_item {I a : Addr} {b : Bool} {Q : Option Value → Shared → Prop} (ho : s.heap.get? a = some (setW w b)) (hI : s.heap.get? I = some (setI 0 0 (.ref a)))
    (h : ∀ h', h'.get? I = some (setI (nxt1 w b) 1 (.ref a)) → Heap.SameBut I s.heap h' → Q (some (.bool b)) { s with heap := h' }) : wpAny (model prog w) A (pyNext (.ref I)) Q E s := by
  have hT : s.TypeIs (.ref I) "set_iterator" := ⟨_, hI, rfl⟩
  unfold pyNext
  refine wpAny_bind (wpAny_attempt (wpAny_callSpecial?_slot (name := Str.ofString "__next__") hT slot_setiter_next
    (wpAny_call_entry slot_setiter_next hT entry_setiter_next ?_ (args_setiter_next_1 _))))
  show wpAny _ _ (fieldsOf (.ref I) >>= _) _ _ s
  refine wpAny_bind (wpAny_fieldsOf hI rfl ?_)
  show wpAny _ _ (setEntries a >>= _) _ _ s
  unfold setEntries
  refine wpAny_bind (wpAny_bind (wpAny_setState_of ho rfl (fits1 _ _) (wpAny_pure ?_)))
  show wpAny _ _ (setNext a 0 0 1 >>= _) _ _ s
  refine wpAny_bind (setNext_item ho ?_)
  show wpAny _ _ (setField (.ref I) 0 _ >>= _) _ _ s
  refine wpAny_bind (wpAny_setField_rec hI (by simp) fun h1 e1 s1 => ?_)
  refine wpAny_bind (wpAny_setField_rec e1 (by simp) fun h2 e2 s2 => ?_)
  exact wpAny_pure ⟨_, rfl, wpAny_pure (h h2 e2 (s1.trans s2))⟩
theorem next_set_end {I a : Addr} {b : Bool} {Q : Option Value → Shared → Prop} (hh : A.handled = none) (ho : s.heap.get? a = some (setW w b)) (hI : s.heap.get? I = some (setI (nxt1 w b) 1 (.ref a)))
    (h : ∀ h', Heap.ExtBut I s.heap h' → Q none { s with heap := h' }) : wpAny (model prog w) A (pyNext (.ref I)) Q E s := by
  have hT : s.TypeIs (.ref I) "set_iterator" := ⟨_, hI, rfl⟩
  unfold pyNext
  refine wpAny_bind (wpAny_attempt (wpAny_callSpecial?_slot (name := Str.ofString "__next__") hT slot_setiter_next
    (wpAny_call_entry slot_setiter_next hT entry_setiter_next ?_ (args_setiter_next_1 _))))
  show wpAny _ _ (fieldsOf (.ref I) >>= _) _ _ s
  refine wpAny_bind (wpAny_fieldsOf hI rfl ?_)
  show wpAny _ _ (setEntries a >>= _) _ _ s
  unfold setEntries
  refine wpAny_bind (wpAny_bind (wpAny_setState_of ho rfl (fits1 _ _) (wpAny_pure ?_)))
  show wpAny _ _ (setNext a (nxt1 w b) 1 1 >>= _) _ _ s
  refine wpAny_bind (setNext_end ho ?_)
  show wpAny _ _ (setField (.ref I) 2 _ >>= _) _ _ s
  refine wpAny_bind (wpAny_setField hI rfl (by simp) ?_)
  show wpAny _ _ (newExc (.type "StopIteration") [] >>= _) _ _ _
  refine wpAny_bind ?_
  simp only [newExc, newTuple]
  refine wpAny_bind (wpAny_newObj_type ?_ (by size_fits))
  refine wpAny_bind (m := firstArgMember _ _) (wpAny_of_eq (a := Value.none) (by first | rfl | (simp only [firstArgMember]; rfl)) ?_)
  refine wpAny_newObj_type ?_ (by size_fits)
  simp only [raiseNew]
  refine wpAny_bind (wpAny_handled ?_)
  rw [show A.in1.handled = none from hh]
  refine wpAny_bind (wpAny_pure (wpAny_throw ?_))
  refine wpAny_bind (wpAny_isInstance (T := "StopIteration") (b := true) ⟨_, Heap.get?_push_size _ rfl, rfl⟩ isSubtype_stop ?_)
  exact wpAny_pure (h _ (((Heap.SameBut.update ..).extBut.push _).push _))
theorem unpackItems_set1 {a : Addr} {b : Bool} {Q : List Value → Shared → Prop} (hh : A.handled = none) (ho : s.heap.get? a = some (setW w b))
    (hQ : ∀ h', Keeps s.heap h' → Q [.bool b] { s with heap := h' }) : wpAny (model prog w) A (unpackItems (.ref a) 1 none) Q E s := by
  have hT : s.TypeIs (.ref a) "set" := ⟨_, ho, rfl⟩
  have hlt : a ≠ s.heap.objs.size := Nat.ne_of_lt (Heap.lt_size ho)
  unfold unpackItems
  refine wpAny_bind ?_
  unfold notIterableAtAll
  refine wpAny_bind (wpAny_specialOf hT F.slot_set_iter.lookup ?_)
  refine wpAny_pure ?_
  simp only [Bool.false_eq_true, if_false]
  refine wpAny_bind (wpAny_holding (pyIter_set1 ho ?_))
  refine wpAny_bind (wpAny_holding ?_)
  unfold draw
  refine wpAny_bind (next_set_item (I := s.heap.objs.size) (a := a) (b := b) (Heap.get?_push_of_some _ ho) (Heap.get?_push_size _ rfl) fun h1 e1 s1 => ?_)
  refine wpAny_bind (wpAny_holding (wpAny_pure ?_))
  refine wpAny_pure ?_
  rw [if_neg (by simp)]
  have ho1 : h1.get? a = some (setW w b) := s1.extBut _ _ hlt (Heap.get?_push_of_some _ ho)
  refine wpAny_bind (wpAny_holding (next_set_end (a := a) (b := b) hh ho1 e1 fun h2 x2 => ?_))
  simp only [Option.isSome_none, Bool.false_eq_true, if_false]
  exact wpAny_pure (hQ h2 fun c o e => x2 c o (Nat.ne_of_lt (Heap.lt_size e)) (s1.extBut c o (Nat.ne_of_lt (Heap.lt_size e)) (Heap.get?_push_of_some _ e)))
theorem assign_Tuple_set1 {env : Env} {elts : List Expr} {x1} {pos : Pos} {a : Addr} {b : Bool} {Q : Unit → Shared → Prop} (hh : A.handled = none) (ho : s.heap.get? a = some (setW w b))
    (hn : (assignEach elts env).length = 1) (hstar : (assignEach elts env).findIdx? (·.1) = none)
    (h : ∀ h', Keeps s.heap h' → wpAny (model prog w) A (assignInOrder ((assignEach elts env).map (·.2)) [.bool b]) Q E { s with heap := h' }) :
    wpAny (model prog w) A (assign (.Tuple elts x1 pos) env (.ref a)) Q E s := by
  rw [arm_assign_Tuple]
  refine wpAny_bind (wpAny_standAt ?_)
  unfold unpack
  rw [hn, hstar]
  exact wpAny_bind (wpAny_holding (unpackItems_set1 hh ho h))
theorem inOrder_one {t : Value → Sem Unit} {x : Value} {Q : Unit → Shared → Prop} (h : wpAny (model prog w) A (t x) Q E s) : wpAny (model prog w) A (assignInOrder [t] [x]) Q E s := by
  unfold assignInOrder
  refine wpAny_bind (wpAny_holding (wpAny_mono h (fun u s' hq => ?_) fun _ _ e => e))
  cases u
  exact wpAny_pure hq
theorem assign_Tuple_one {env : Env} {x : Str} {px pos : Pos} {x1} {a : Addr} {b : Bool} {Q : Unit → Shared → Prop} (hh : A.handled = none) (ho : s.heap.get? a = some (setW w b))
    (h : ∀ h', Keeps s.heap h' → wpAny (model prog w) A (assign (.Name x px) env (.bool b)) Q E { s with heap := h' }) :
    wpAny (model prog w) A (assign (.Tuple [.Name x px] x1 pos) env (.ref a)) Q E s :=
  assign_Tuple_set1 hh ho rfl rfl fun h' k => inOrder_one (h h' k)
end
end Mine
end
/-! Comp4 -/
section
open PySem PySem.W PyProof.Rows PySem.Calls
set_option maxRecDepth 100000
set_option linter.unusedVariables false
namespace Mine
section
variable {w : World} {A : Around} {env : Env}
/-- the end of an element, in the frame of the block -/
noncomputable def EltEndG (g₀ : Heap) (s₁ : Shared) (C I : Addr) (oI : Obj) (D : Addr) (oD : Obj) (Rr : List (Addr × Obj) → Prop) (s₅ : Shared) : Prop :=
  ∃ h' tk' m' tl', s₅ = { s₁ with heap := h', toks := tk' } ∧ Fr g₀ C h' m' ∧ News g₀ C h' ((I, oI) :: (D, oD) :: tl') ∧ (∀ p ∈ tl', p.1 ≠ I ∧ p.1 ≠ D) ∧ Rr tl'
theorem elt_endG {g₀ : Heap} {s₁ : Shared} {C I : Addr} {oI : Obj} {D : Addr} {oD : Obj} {Rr : List (Addr × Obj) → Prop} {h' : Heap} {tk' : Nat} {m' : Str → Option Value} {tl' : List (Addr × Obj)} (F : Fr g₀ C h' m') (N : News g₀ C h' ((I, oI) :: (D, oD) :: tl')) (off : ∀ p ∈ tl', p.1 ≠ I ∧ p.1 ≠ D) (hR : Rr tl') :
    EltEndG g₀ s₁ C I oI D oD Rr { s₁ with heap := h', toks := tk' } := ⟨h', tk', m', tl', rfl, F, N, off, hR⟩
/-- one turn, walked in the block's own frame -/
noncomputable def TurnG (w : World) (A : Around) (env : Env) (scope : Scope) (cl : List (Str × Addr)) (x : Str) (ifs : List Expr) (elt : Expr) (g₀ : Heap) (s₁ : Shared) (n : Nat) (P : Nat → Value → Prop) (R : Nat → List Value → List (Addr × Obj) → Prop) : Prop :=
  ∀ i v ys tl C m₃ h₃ tk₃ I oI D, i < n → P i v → R i ys tl → Fr g₀ C h₃ m₃ → News g₀ C h₃ ((I, oI) :: (D, lst ys) :: tl) → m₃ x = some v → (∀ p ∈ tl, p.1 ≠ I ∧ p.1 ≠ D) → I ≠ D →
    wpAny (model prog w) A (forIn ifs true fun c r => if r = true then do let ok ← isTrue c (compEnvC scope cl C env) (eval c (compEnvC scope cl C env)); pure (ForInStep.yield ok) else pure (ForInStep.yield r))
      (fun ok s₄ => if ok = true then wpAny (model prog w) A (eval elt (compEnvC scope cl C env)) (fun y s₅ => EltEndG g₀ s₁ C I oI D (lst ys) (R (i + 1) (ys ++ [y])) s₅) (fun _ _ => False) s₄ else EltEndG g₀ s₁ C I oI D (lst ys) (R (i + 1) ys) s₄) (fun _ _ => False) { s₁ with heap := h₃, toks := tk₃ }

theorem comp_blockG {elt iter : Expr} {x : Str} {px : Pos} {ifs : List Expr} {scope : Scope} {cl : List (Str × Addr)} {pos : Pos} {s₁ : Shared} {g₀ g₂ : Heap} {tl₀ : List (Addr × Obj)} {I : Addr} {fp : List Addr} {n : Nat} {P : Nat → Value → Prop} {St : Nat → Heap → Prop} {E : Value → Shared → Prop}
    {ax : Addr} {RR : Value → Addr → Result → Shared → Prop} (W : Walks prog w A I fp [I] n P St) (k12 : Keeps g₀ g₂) (z12 : g₀.objs.size ≤ g₂.objs.size) (hI : g₀.objs.size ≤ I) (hI2 : I < g₂.objs.size) (hst : St 0 g₂) (hIo : ∀ i h, St i h → ∃ o, h.get? I = some o) (hax : ∀ b ∈ fp, b = I ∨ b = ax) (haxs : (∃ o, g₀.get? ax = some o) ∨ fp = [I]) (hfp : ∀ b ∈ fp, b < g₂.objs.size) (hsz : n ≤ sizeLine)
    (hcell : ∀ y ∈ scope.names, y.2 ≠ .cell) (hkind : scope.kind = .function) (hx : scope.names.lookup x = some .local)
    (R : Nat → List Value → List (Addr × Obj) → Prop) (ht0 : ∀ p ∈ tl₀, g₂.get? p.1 = some p.2 ∧ g₀.get? p.1 = none ∧ p.1 < g₀.objs.size) (h0 : R 0 [] tl₀) (hlen : ∀ i ys tl, R i ys tl → ys.length ≤ i) (turn : TurnG w A env scope cl x ifs elt g₀ s₁ n P R)
    (hRR : ∀ D C h tk m' ys tl, Keeps g₀ h → g₀.objs.size ≤ h.objs.size → g₀.objs.size ≤ D → g₀.objs.size ≤ C → C ≠ D → h.get? D = some (lst ys) → h.Ns C m' → Led g₀ h tl → (∀ p ∈ tl, p.1 ≠ C ∧ p.1 ≠ D) → R n ys tl → RR (.ref D) C (.ok .next) { s₁ with heap := h, toks := tk }) :
    wpAny (model prog w) A (newList []) (fun acc s₃ => wpAny (model prog w) A (newFunctionEnv scope env.globals cl [] env.qual none .none (some env)) (fun cenv s₄ =>
      codeAny (model prog w) A (.compStart (.ListComp elt [⟨.Name x px, iter, ifs, 0⟩] scope pos) 0 (.ref I) acc { cenv with scope := relabel scope env }) (RR acc cenv.locals) s₄) E s₃) E { s₁ with heap := g₂ } := by
  refine wpAny_newObj_type (wpAny_newFunctionEnv hcell (by intro y hy; simp at hy) (fun h₁ hns₁ hsb₁ => ?_) hkind)
  dsimp only at hns₁ hsb₁ ⊢
  generalize hH2 : g₂.push { cls := .type "list", dict := none, data := .seq ([] : List Value).toArray } = H2 at hns₁ hsb₁ ⊢
  have hC : H2.objs.size = g₂.objs.size + 1 := by rw [← hH2, Heap.size_push]
  generalize hCC : H2.objs.size = C at *
  generalize hDD : g₂.objs.size = D at *
  have hDC : D ≠ C := by omega
  have hI2n : @LT.lt Nat _ I D := hI2
  have hIn : @LE.le Nat _ g₀.objs.size I := hI
  have old : ∀ b o, g₂.get? b = some o → h₁.get? b = some o := fun b o e => hsb₁.extBut b o (by have h1 : @LT.lt Nat _ b g₂.objs.size := Heap.lt_size e; exact Nat.ne_of_lt (by omega)) (Heap.get?_push_of_some _ (hH2 ▸ Heap.get?_push_of_some _ e))
  have hacc : h₁.get? D = some (lst []) := hsb₁.extBut _ _ hDC (Heap.get?_push_of_some _ (hH2 ▸ hDD ▸ Heap.get?_push_size _ rfl))
  have hst₁ : St 0 h₁ := W.frame _ _ _ hst fun b _ o e => old b o e
  have hCf : C ∉ fp := fun hm => by have h1 : @LT.lt Nat _ _ _ := hfp _ hm; omega
  have hDf : D ∉ fp := fun hm => by have h1 : @LT.lt Nat _ _ _ := hfp _ hm; omega
  have hIC : I ≠ C := Nat.ne_of_lt (by omega)
  have hID : I ≠ D := Nat.ne_of_lt hI2n
  have n₀ : ∀ b : Addr, @LE.le Nat _ g₀.objs.size b → g₀.get? b = none := fun b hb => Heap.get?_none_of_le hb
  obtain ⟨oI₁, eI₁⟩ := hIo _ _ hst₁
  have F₁ : Fr g₀ C h₁ _ := ⟨hns₁, fun b o e => old b o (k12 b o e), by omega⟩
  have N₁ : News g₀ C h₁ ((I, oI₁) :: (D, lst []) :: tl₀) := fun p hp => by
    rcases List.mem_cons.mp hp with rfl | hp
    · exact ⟨eI₁, hIC, n₀ _ hIn⟩
    · rcases List.mem_cons.mp hp with rfl | hp
      · exact ⟨hacc, hDC, n₀ _ (by omega)⟩
      · have h9 : @LT.lt Nat _ p.1 g₀.objs.size := (ht0 p hp).2.2
        exact ⟨old _ _ (ht0 p hp).1, Nat.ne_of_lt (by omega), (ht0 p hp).2.1⟩
  have loop : ∀ s₃ : Shared, s₃ = { s₁ with heap := h₁, toks := s₁.toks + ([] : List (Str × Value)).length } →
      codeAny (model prog w) A (.compLoop (.ListComp elt [⟨.Name x px, iter, ifs, 0⟩] scope pos) 0 (.ref I) (.ref D) (compEnvC scope cl C env)) (RR (.ref D) C) s₃ := by
    rintro s₃ rfl
    refine codeAny_compLoop_tests
      (fun k s' => ∃ i ys oI, i ≤ n ∧ k = n + 1 - i ∧ St i s'.heap ∧ s'.heap.get? I = some oI ∧ EltEndG g₀ s₁ C I oI D (lst ys) (R i ys) s') ?_ (n + 1)
      ⟨0, [], oI₁, Nat.zero_le _, rfl, hst₁, eI₁, elt_endG F₁ N₁ (fun p hp => by have h9 : @LT.lt Nat _ p.1 g₀.objs.size := (ht0 p hp).2.2; exact ⟨Nat.ne_of_lt (by omega), Nat.ne_of_lt (by omega)⟩) h0⟩
    rintro k s' ⟨i, ys, oI, hi, rfl, hst', eI', h', tk, m', tl, rfl, F', N', off, hR⟩
    have NI : ∀ {g : Heap} {a : Obj} {b : Obj} {l : List (Addr × Obj)}, News g₀ C g ((I, a) :: (D, b) :: l) → ∀ p ∈ l, g.get? p.1 = some p.2 ∧ p.1 ≠ C ∧ g₀.get? p.1 = none := fun N p hp => N p (.tail _ (.tail _ hp))
    by_cases hlt : i < n
    · refine W.item i _ _ _ hlt hst' fun v h₂ tk₂ hPv hst₂ hk₂ => ?_
      have kI : ∀ b o, b ≠ I → h'.get? b = some o → h₂.get? b = some o := fun b o hb e => hk₂ b o (by simpa using hb) e
      refine wpAny_assign_Name (wpAny_storeName_local (lookup_relabel_local hx) (F'.ns.at' fun o e => kI _ o (Ne.symm hIC) e) (fun h₃ hn₃ hs₃ => ?_) (by simp [compEnvC, relabel, hkind]))
      have kC : ∀ b o, b ≠ C → h₂.get? b = some o → h₃.get? b = some o := fun b o hb e => hs₃.extBut b o hb e
      have hst₃ : St (i + 1) h₃ := W.frame _ _ _ hst₂ fun b hb o e => kC b o (fun q => hCf (q ▸ hb)) e
      obtain ⟨oI₃, eI₃⟩ := hIo _ _ hst₃
      have F₃ : Fr g₀ C h₃ _ := ⟨hn₃, fun b o e => by
        have hb : @LT.lt Nat _ b g₀.objs.size := Heap.lt_size e
        exact kC b o (Nat.ne_of_lt (by omega)) (kI b o (Nat.ne_of_lt (by omega)) (F'.keep b o e)), F'.above⟩
      have hD' := N' (D, lst ys) (.tail _ (.head _))
      have N₃ : News g₀ C h₃ ((I, oI₃) :: (D, lst ys) :: tl) := fun p hp => by
        rcases List.mem_cons.mp hp with rfl | hp
        · exact ⟨eI₃, hIC, n₀ _ hIn⟩
        · rcases List.mem_cons.mp hp with rfl | hp
          · exact ⟨kC _ _ hDC (kI _ _ (Ne.symm hID) hD'.1), hD'.2⟩
          · exact ⟨kC _ _ (NI N' p hp).2.1 (kI _ _ (off p hp).1 (NI N' p hp).1), (NI N' p hp).2⟩
      -- the heap behind an element: the iterator stands, the source stands
      have back : ∀ {g : Heap} {mm : Str → Option Value} {b : Obj} {l : List (Addr × Obj)}, Fr g₀ C g mm → News g₀ C g ((I, oI₃) :: (D, b) :: l) → St (i + 1) g := fun {g mm b l} Fg Ng => W.frame _ _ _ hst₃ fun c hc o e => by
        rcases hax c hc with rfl | rfl
        · rw [eI₃] at e; cases e; exact (Ng _ (.head _)).1
        · rcases haxs with ⟨o', e'⟩ | hf
          · rw [F₃.keep _ _ e'] at e; cases e; exact Fg.keep _ _ e'
          · rw [hf] at hc; obtain rfl := List.mem_singleton.mp hc; rw [eI₃] at e; cases e; exact (Ng _ (.head _)).1
      refine wpAny_mono (turn i v ys tl C _ h₃ _ I oI₃ D hlt hPv hR F₃ N₃ (by simp) off hID) (fun ok s₄ hok => ?_) fun _ _ e => e.elim
      cases ok with
      | false =>
        simp only [Bool.false_eq_true, if_false] at hok ⊢
        obtain ⟨h₄, tk₄, m₄, tl₄, rfl, F₄, N₄, off₄, hR₄⟩ := hok
        exact ⟨n + 1 - (i + 1), turn_lt hlt, i + 1, ys, oI₃, hlt, rfl, back F₄ N₄, (N₄ _ (.head _)).1, elt_endG F₄ N₄ off₄ hR₄⟩
      | true =>
        simp only [if_true] at hok ⊢
        refine wpAny_mono hok (fun y s₅ h₅ => ?_) fun _ _ e => e.elim
        obtain ⟨h₄, tk₄, m₄, tl₄, rfl, F₄, N₄, off₄, hR₄⟩ := h₅
        have hD₄ := N₄ (D, lst ys) (.tail _ (.head _))
        refine append_at (hsz := by show ys.toArray.size ≤ sizeLine; rw [List.size_toArray]; exact Nat.le_trans (hlen _ _ _ hR) (Nat.le_trans hi hsz)) hD₄.1 fun h₆ hs₆ hD₆ => ?_
        have k₆ : ∀ b o, b ≠ D → h₄.get? b = some o → h₆.get? b = some o := fun b o hb e => hs₆.extBut b o hb e
        have F₆ : Fr g₀ C h₆ m₄ := F₄.change hs₆ hDC (n₀ _ (by omega))
        have N₆ : News g₀ C h₆ ((I, oI₃) :: (D, lst (ys ++ [y])) :: tl₄) := fun p hp => by
          rcases List.mem_cons.mp hp with rfl | hp
          · exact ⟨k₆ _ _ hID (N₄ _ (.head _)).1, hIC, n₀ _ hIn⟩
          · rcases List.mem_cons.mp hp with rfl | hp
            · exact ⟨hD₆.trans (congrArg some (lst_snoc ys y)), hDC, n₀ _ (by omega)⟩
            · exact ⟨k₆ _ _ (off₄ p hp).2 (NI N₄ p hp).1, (NI N₄ p hp).2⟩
        exact ⟨n + 1 - (i + 1), turn_lt hlt, i + 1, ys ++ [y], oI₃, hlt, rfl, back F₆ N₆, (N₆ _ (.head _)).1, elt_endG F₆ N₆ off₄ hR₄⟩
    · obtain rfl : i = n := by omega
      refine W.done _ _ _ hst' fun h₂ tk₂ hk₂ => ?_
      have kI : ∀ b o, b ≠ I → h'.get? b = some o → h₂.get? b = some o := fun b o hb e => hk₂ b o (by simpa using hb) e
      have hD₂ := kI _ _ (Ne.symm hID) (N' (D, lst ys) (.tail _ (.head _))).1
      refine hRR D C h₂ tk₂ m' ys tl (fun b o e => kI b o (by have h1 : @LT.lt Nat _ b g₀.objs.size := Heap.lt_size e; exact Nat.ne_of_lt (by omega)) (F'.keep b o e)) (by have h1 : @LT.lt Nat _ D h₂.objs.size := Heap.lt_size hD₂; omega) (by omega) (by omega) (Ne.symm hDC) hD₂ (F'.ns.at' fun o e => kI _ o (Ne.symm hIC) e) (fun p hp => ⟨kI _ _ (off p hp).1 (NI N' p hp).1, (NI N' p hp).2.2⟩) (fun p hp => ⟨(NI N' p hp).2.1, (off p hp).2⟩) hR
  exact codeAny_compStart_list (loop _ rfl) (W.self 0 _ _ _ hst₁ (loop _ rfl))
/-- what the source's value must be; tl₀ are objects that a turn may change -/
noncomputable def CompAtG (w : World) (A : Around) (env : Env) (scope : Scope) (cl : List (Str × Addr)) (x : Str) (ifs : List Expr) (elt : Expr) (Fin : Heap → Shared → List Value → List (Addr × Obj) → Prop) (xv : Value) (s₁ : Shared) : Prop :=
  ∃ g₀ tl₀ n P R ax, Keeps g₀ s₁.heap ∧ g₀.objs.size = s₁.heap.objs.size ∧ Led g₀ s₁.heap tl₀ ∧ ((∃ o, g₀.get? ax = some o) ∨ g₀ = s₁.heap) ∧ IterOf w A xv ax s₁ n P ∧ n ≤ sizeLine ∧ R 0 [] tl₀ ∧ (∀ i ys tl, R i ys tl → ys.length ≤ i) ∧ TurnG w A env scope cl x ifs elt g₀ s₁ n P R ∧ ∀ ys tl, R n ys tl → Fin g₀ s₁ ys tl
theorem assignCompG {h₀ : Heap} {elt iter : Expr} {x y : Str} {px py : Pos} {ifs : List Expr} {scope : Scope} {cl : List (Str × Addr)} {pos spos : Pos} {Q : Flow → Shared → Prop} {E : Value → Shared → Prop} {s : Shared}
    (hsw : swapsWith (.ListComp elt [⟨.Name x px, iter, ifs, 0⟩] scope pos) (some (.Name y py)) spos.line env = pure true)
    (hclos : closureFor scope env = pure cl) (hcell : ∀ y ∈ scope.names, y.2 ≠ .cell) (hkind : scope.kind = .function)
    (hnames : ∀ y ∈ scope.names, y.2 = .local → scope.names.lookup y.1 = some .local) (hx : scope.names.lookup x = some .local)
    (hy : env.kindOf y = some .local) (hp : (env.scope.kind == .class || (env.scope.kind == .module && env.locals != env.globals)) = false)
    (h : wpAny (model prog w) A (eval iter env) (CompAtG w A env scope cl x ifs elt (fun g₀ s₁ ys tl => ∃ m news, Fr h₀ env.locals g₀ m ∧ News h₀ env.locals g₀ news ∧
      ∀ D h tk, Fr h₀ env.locals h (fun z => if z = y then some (.ref D) else m z) → News h₀ env.locals h ((D, lst ys) :: (tl ++ news)) → g₀.objs.size ≤ D → Q .next { s₁ with heap := h, toks := tk })) E s)
    (hs : ∀ x, foldedSetIterable iter env x = pure x := by intro _; rfl) :
    wpAny (model prog w) A (exec (.Assign [.Name y py] (.ListComp elt [⟨.Name x px, iter, ifs, 0⟩] scope pos) spos) env) Q E s := by
  rw [exec_Assign_Name_used _ _ _ _ hsw]
  refine wpAny_bind (wpAny_standAt (wpAny_bind ?_))
  show wpAny _ A (do let _ ← comprehension (.ListComp elt [⟨.Name x px, iter, ifs, 0⟩] scope pos) scope env _ (newList []) false (eval iter env) (some (assign (.Name y py) env))) _ _ s
  refine wpAny_bind (wpAny_mono (wpAny_comprehension_free (use := some (assign (.Name y py) env)) (Q := fun _ s' => Q .next s') rfl hs hclos hkind hnames
    (wpAny_mono h (fun xv s₁ h₁ => ?_) fun _ _ e => e)) (fun _ s' hq => wpAny_pure (wpAny_pure hq)) fun _ _ e => e)
  obtain ⟨g₀, tl₀, n, P, R, ax, kg₀, zg₀, lg₀, axg, hit, hsz, h0, hlen, turn, fin⟩ := h₁
  refine hit _ _ fun I fp St h' k hI hI2 hfp hax hIo haxs W st => ?_
  have hI' : @LE.le Nat _ g₀.objs.size I := by rw [zg₀]; exact hI
  refine comp_blockG (tl₀ := tl₀) W (fun b o e => k b o (kg₀ b o e)) (by have h1 : @LT.lt Nat _ I h'.objs.size := hI2; omega) hI' hI2 st hIo hax (axg.elim .inl (fun e => by subst e; exact haxs)) hfp hsz hcell hkind hx R (fun p hp => ⟨k _ _ (lg₀ p hp).1, (lg₀ p hp).2, by rw [zg₀]; exact Heap.lt_size (lg₀ p hp).1⟩) h0 hlen turn ?_
  intro D C h₂ tk m' ys tl k₂ z₂ hD hC hCD hd hn hL hoff hR
  obtain ⟨m, news, F, N, fin⟩ := fin ys tl hR
  have F₂ := fr_keeps F k₂
  have N₂ := news_keeps N k₂
  have lL : @LT.lt Nat _ env.locals g₀.objs.size := F.ns.lt
  have hCL : C ≠ env.locals := Nat.ne_of_gt (Nat.lt_of_lt_of_le lL hC)
  have hDL : D ≠ env.locals := Nat.ne_of_gt (Nat.lt_of_lt_of_le lL hD)
  have new : ∀ b : Addr, @LE.le Nat _ g₀.objs.size b → h₀.get? b = none := fun b hb => none_of F.keep (Heap.get?_none_of_le hb)
  show wpAny _ A (assign (.Name y py) env (.ref D)) _ _ _
  refine wpAny_assign_Name (wpAny_storeName_local hy F₂.ns (fun h₃ hn₃ hs₃ => ?_) hp)
  refine ⟨m', hn.sameBut hs₃ hCL, fun h₄ hs₄ => fin D h₄ _ ?_ (fun p hp => ?_) hD⟩
  · exact ⟨hn₃.sameBut hs₄ (Ne.symm hCL), fun b o e => hs₄.extBut b o (fun q => by rw [q, new C hC] at e; cases e) ((F₂.set hn₃ hs₃).keep b o e), F₂.above⟩
  · have z : ∀ q : Addr × Obj, q.1 ≠ C → q.1 ≠ env.locals → h₂.get? q.1 = some q.2 → h₄.get? q.1 = some q.2 := fun q a b e => hs₄.extBut _ _ a (hs₃.extBut _ _ b e)
    rcases List.mem_cons.mp hp with rfl | hp
    · exact ⟨z _ (Ne.symm hCD) hDL hd, hDL, new D hD⟩
    · rcases List.mem_append.mp hp with hp | hp
      · have hbL : p.1 ≠ env.locals := by obtain ⟨oL, _, _, e, _⟩ := F.ns; exact ne_of_none (hL p hp).2 e
        exact ⟨z _ (hoff p hp).1 hbL (hL p hp).1, hbL, none_of F.keep (hL p hp).2⟩
      · have hb : @LT.lt Nat _ p.1 g₀.objs.size := Heap.lt_size (N p hp).1
        exact ⟨z _ (Nat.ne_of_lt (Nat.lt_of_lt_of_le hb hC)) (N p hp).2.1 (N₂ p hp).1, (N p hp).2⟩
/-- the end of an element: nothing changes -/
noncomputable def EltEnd (s₁ : Shared) (C I : Addr) (oI : Obj) (D : Addr) (oD : Obj) (Rr : List (Addr × Obj) → Prop) (s₅ : Shared) : Prop := EltEndG s₁.heap s₁ C I oI D oD Rr s₅
theorem elt_end {s₁ : Shared} {C I : Addr} {oI : Obj} {D : Addr} {oD : Obj} {Rr : List (Addr × Obj) → Prop} {h' : Heap} {tk' : Nat} {m' : Str → Option Value} {tl' : List (Addr × Obj)} (F : Fr s₁.heap C h' m') (N : News s₁.heap C h' ((I, oI) :: (D, oD) :: tl')) (off : ∀ p ∈ tl', p.1 ≠ I ∧ p.1 ≠ D) (hR : Rr tl') :
    EltEnd s₁ C I oI D oD Rr { s₁ with heap := h', toks := tk' } := elt_endG F N off hR
/-- one turn, walked in the block's own frame -/
noncomputable def TurnK (w : World) (A : Around) (env : Env) (scope : Scope) (cl : List (Str × Addr)) (x : Str) (ifs : List Expr) (elt : Expr) (s₁ : Shared) (n : Nat) (P : Nat → Value → Prop) (R : Nat → List Value → List (Addr × Obj) → Prop) : Prop :=
  ∀ i v ys tl C m₃ h₃ tk₃ I oI D, i < n → P i v → R i ys tl → Fr s₁.heap C h₃ m₃ → News s₁.heap C h₃ ((I, oI) :: (D, lst ys) :: tl) → m₃ x = some v → (∀ p ∈ tl, p.1 ≠ I ∧ p.1 ≠ D) → I ≠ D →
    wpAny (model prog w) A (forIn ifs true fun c r => if r = true then do let ok ← isTrue c (compEnvC scope cl C env) (eval c (compEnvC scope cl C env)); pure (ForInStep.yield ok) else pure (ForInStep.yield r))
      (fun ok s₄ => if ok = true then wpAny (model prog w) A (eval elt (compEnvC scope cl C env)) (fun y s₅ => EltEnd s₁ C I oI D (lst ys) (R (i + 1) (ys ++ [y])) s₅) (fun _ _ => False) s₄ else EltEnd s₁ C I oI D (lst ys) (R (i + 1) ys) s₄) (fun _ _ => False) { s₁ with heap := h₃, toks := tk₃ }

/-- what the source's value must be -/
noncomputable def CompAtK (w : World) (A : Around) (env : Env) (scope : Scope) (cl : List (Str × Addr)) (x : Str) (ifs : List Expr) (elt : Expr) (Fin : Shared → List Value → List (Addr × Obj) → Prop) (xv : Value) (s₁ : Shared) : Prop :=
  ∃ n P R ax, IterOf w A xv ax s₁ n P ∧ n ≤ sizeLine ∧ R 0 [] [] ∧ (∀ i ys tl, R i ys tl → ys.length ≤ i) ∧ TurnK w A env scope cl x ifs elt s₁ n P R ∧ ∀ ys tl, R n ys tl → Fin s₁ ys tl
theorem listCompK {elt iter : Expr} {x : Str} {px : Pos} {ifs : List Expr} {scope : Scope} {cl : List (Str × Addr)} {pos : Pos} {Q : Value → Shared → Prop} {E : Value → Shared → Prop} {s : Shared}
    (hclos : closureFor scope env = pure cl) (hcell : ∀ y ∈ scope.names, y.2 ≠ .cell) (hkind : scope.kind = .function)
    (hnames : ∀ y ∈ scope.names, y.2 = .local → scope.names.lookup y.1 = some .local) (hx : scope.names.lookup x = some .local)
    (h : wpAny (model prog w) A (eval iter env) (CompAtK w A env scope cl x ifs elt (fun s₁ ys tl => ∀ D h tk, Keeps s₁.heap h → s₁.heap.objs.size ≤ h.objs.size → Led s₁.heap h ((D, lst ys) :: tl) → Q (.ref D) { s₁ with heap := h, toks := tk })) E s)
    (hs : ∀ x, foldedSetIterable iter env x = pure x := by intro _; rfl) :
    wpAny (model prog w) A (eval (.ListComp elt [⟨.Name x px, iter, ifs, 0⟩] scope pos) env) Q E s := by
  rw [eval_ListComp]
  refine wpAny_comprehension_free (use := none) rfl hs hclos hkind hnames (wpAny_mono h (fun xv s₁ h₁ => ?_) fun _ _ e => e)
  obtain ⟨n, P, R, ax, hit, hsz, h0, hlen, turn, fin⟩ := h₁
  refine hit _ _ fun I fp St h' k hI hI2 hfp hax hIo haxs W st => ?_
  refine comp_blockG (g₀ := s₁.heap) (tl₀ := []) W k (by have h1 : @LT.lt Nat _ I h'.objs.size := hI2; have h2 : @LE.le Nat _ s₁.heap.objs.size I := hI; omega) hI hI2 st hIo hax haxs hfp hsz hcell hkind hx R (fun p hp => nomatch hp) h0 hlen turn ?_
  intro D C h₂ tk m' ys tl k₂ z₂ hD hC hCD hd hn hL hoff hR
  refine ⟨m', hn, fun h₃ hs₃ => fin ys tl hR D h₃ tk (fun b o e => hs₃.extBut b o (by have h1 : @LT.lt Nat _ b s₁.heap.objs.size := Heap.lt_size e; have h2 : @LE.le Nat _ s₁.heap.objs.size C := hC; exact Nat.ne_of_lt (by omega)) (k₂ b o e)) ?_ fun p hp => ?_⟩
  · have e := hs₃.extBut D _ (Ne.symm hCD) hd
    have h1 : @LT.lt Nat _ D h₃.objs.size := Heap.lt_size e
    have h2 : @LE.le Nat _ s₁.heap.objs.size D := hD
    omega
  · rcases List.mem_cons.mp hp with rfl | hp
    · exact ⟨hs₃.extBut D _ (Ne.symm hCD) hd, Heap.get?_none_of_le hD⟩
    · exact ⟨hs₃.extBut _ _ (hoff p hp).1 (hL p hp).1, (hL p hp).2⟩
theorem assignCompK {h₀ : Heap} {elt iter : Expr} {x y : Str} {px py : Pos} {ifs : List Expr} {scope : Scope} {cl : List (Str × Addr)} {pos spos : Pos} {Q : Flow → Shared → Prop} {E : Value → Shared → Prop} {s : Shared}
    (hsw : swapsWith (.ListComp elt [⟨.Name x px, iter, ifs, 0⟩] scope pos) (some (.Name y py)) spos.line env = pure true)
    (hclos : closureFor scope env = pure cl) (hcell : ∀ y ∈ scope.names, y.2 ≠ .cell) (hkind : scope.kind = .function)
    (hnames : ∀ y ∈ scope.names, y.2 = .local → scope.names.lookup y.1 = some .local) (hx : scope.names.lookup x = some .local)
    (hy : env.kindOf y = some .local) (hp : (env.scope.kind == .class || (env.scope.kind == .module && env.locals != env.globals)) = false)
    (h : wpAny (model prog w) A (eval iter env) (CompAtK w A env scope cl x ifs elt (fun s₁ ys tl => ∃ m news, Fr h₀ env.locals s₁.heap m ∧ News h₀ env.locals s₁.heap news ∧
      ∀ D h tk, Fr h₀ env.locals h (fun z => if z = y then some (.ref D) else m z) → News h₀ env.locals h ((D, lst ys) :: (tl ++ news)) → s₁.heap.objs.size ≤ D → Q .next { s₁ with heap := h, toks := tk })) E s)
    (hs : ∀ x, foldedSetIterable iter env x = pure x := by intro _; rfl) :
    wpAny (model prog w) A (exec (.Assign [.Name y py] (.ListComp elt [⟨.Name x px, iter, ifs, 0⟩] scope pos) spos) env) Q E s := by
  refine assignCompG (h₀ := h₀) hsw hclos hcell hkind hnames hx hy hp (wpAny_mono h (fun xv s₁ h₁ => ?_) fun _ _ e => e) hs
  obtain ⟨n, P, R, ax, hit, hsz, h0, hlen, turn, fin⟩ := h₁
  exact ⟨s₁.heap, [], n, P, R, ax, fun _ _ e => e, rfl, (fun p hp => nomatch hp), .inr rfl, hit, hsz, h0, hlen, turn, fin⟩
end
end Mine
end
/-! Set5 -/
section
open PySem PySem.W PyProof.Rows PySem.Calls
set_option maxRecDepth 100000
set_option linter.unusedVariables false
namespace Mine
theorem compTurn_set (elt target iter : Expr) (scope : Scope) (pos : Pos) (it acc : Value) (env : Env) :
    compTurn (.SetComp elt [⟨target, iter, [], 0⟩] scope pos) 0 it acc env = (standAt iter.pos >>= fun _ => pyNext it >>= fun r => match r with
      | none => pure (.done .next)
      | some v => letOwnedTupleGo target it v >>= fun _ => assign target env v >>= fun _ =>
        (eval elt env >>= fun x => standAt elt.pos >>= fun _ => call (.builtin "set.add") [acc, x] >>= fun _ => pure ()) >>= fun _ =>
          again (.compLoop (.SetComp elt [⟨target, iter, [], 0⟩] scope pos) 0 it acc env)) := by rfl
section
variable {w : World} {A : Around} {E : Value → Shared → Prop} {R : Result → Shared → Prop} {s : Shared}
theorem compLoop_set {elt target iter : Expr} {scope : Scope} {pos : Pos} {it acc : Value} {env : Env} (I : Nat → Shared → Prop)
    (turn : ∀ n s, I n s → wpAny (model prog w) A (pyNext it) (fun r s₁ => match r with
      | none => R (.ok .next) s₁
      | some v => wpAny (model prog w) A (assign target env v) (fun _ s₂ => wpAny (model prog w) A (eval elt env) (fun x s₄ =>
              wpAny (model prog w) A (call (.builtin "set.add") [acc, x]) (fun _ s₅ => ∃ m, m < n ∧ I m s₅) (fun _ _ => False) s₄) (fun _ _ => False) s₂) (fun _ _ => False) s₁) (fun _ _ => False) s)
    (n : Nat) (h : I n s) (ht : ∀ v, letOwnedTupleGo target it v = pure () := by intro _; rfl) :
    codeAny (model prog w) A (.compLoop (.SetComp elt [⟨target, iter, [], 0⟩] scope pos) 0 it acc env) R s := by
  refine codeAny_loop rfl I (fun n s hI => ?_) n h
  show wpAny _ A ((compTurn (.SetComp elt [⟨target, iter, [], 0⟩] scope pos) 0 it acc env).onRaise (fun x => do noteFrame x env; theTreesLotGoes x)) _ _ s
  refine wpAny_noted ?_
  rw [compTurn_set]
  refine wpAny_bind (wpAny_standAt (wpAny_bind (wpAny_mono (turn n s hI) (fun r s₁ h₁ => ?_) fun _ _ h' => h'.elim)))
  cases r with
  | none => exact wpAny_pure h₁
  | some v =>
    refine wpAny_bind (wpAny_of_eq (ht v) ?_)
    refine wpAny_bind (wpAny_mono h₁ (fun _ s₂ h₂ => ?_) fun _ _ h' => h'.elim)
    refine wpAny_bind (wpAny_bind (wpAny_mono h₂ (fun x s₄ h₄ => ?_) fun _ _ h' => h'.elim))
    exact wpAny_bind (wpAny_standAt (wpAny_bind (wpAny_mono h₄ (fun _ s₅ h₅ => wpAny_pure (wpAny_pure ⟨rfl, h₅⟩)) fun _ _ h' => h'.elim)))
theorem compStart_set {elt target iter : Expr} {scope : Scope} {pos : Pos} {it acc : Value} {env : Env}
    (h0 : codeAny (model prog w) A (.compLoop (.SetComp elt [⟨target, iter, [], 0⟩] scope pos) 0 it acc env) R s)
    (h : wpAny (model prog w) A (pyIter it) (fun it' s' => codeAny (model prog w) A (.compLoop (.SetComp elt [⟨target, iter, [], 0⟩] scope pos) 0 it' acc env) R s') (fun _ _ => False) s) :
    codeAny (model prog w) A (.compStart (.SetComp elt [⟨target, iter, [], 0⟩] scope pos) 0 it acc env) R s := by
  refine codeAny_of_tree ?_
  show wpAny _ _ ((compStart (.SetComp elt [⟨target, iter, [], 0⟩] scope pos) 0 it acc env).onRaise (fun x => do noteFrame x env; standAt theWindowsPlace)) _ _ s
  refine wpAny_notedAt ?_
  unfold compStart
  show wpAny _ _ (ask >>= _) _ _ s
  refine wpAny_bind (wpAny_askSetting (wpAny_ite ?_))
  split
  · first
      | exact wpAny_bind (wpAny_pure (wpAny_pure (And.intro rfl h0)))
      | exact wpAny_pure (And.intro rfl h0)
  · refine wpAny_bind (wpAny_rule ?_)
    show wpAny _ _ (standAt iter.pos >>= _) _ _ s
    exact wpAny_bind (wpAny_standAt (wpAny_bind (wpAny_mono h (fun it' s' h' => wpAny_pure (And.intro rfl h')) fun _ _ x => x.elim)))
end
end Mine
end
/-! Set6 -/
section
open PySem PySem.W PyProof.Rows PySem.Calls
set_option maxRecDepth 100000
set_option linter.unusedVariables false
namespace Mine
/-- the set behind i turns -/
noncomputable def setAt (w : World) (b : Bool) (i : Nat) : Obj := if i = 0 then setO0 (!w.params.followText "set-order") else setW w b
section
variable {w : World} {A : Around} {env : Env}
/-- one turn of the set comprehension, walked in the block's own frame -/
noncomputable def TurnB (w : World) (A : Around) (env : Env) (scope : Scope) (cl : List (Str × Addr)) (x : Str) (elt : Expr) (s₁ : Shared) (n : Nat) (P : Nat → Value → Prop) (b : Bool) : Prop :=
  ∀ i v C m₃ h₃ tk₃ I oI D oD, i < n → P i v → Fr s₁.heap C h₃ m₃ → News s₁.heap C h₃ [(I, oI), (D, oD)] → m₃ x = some v → I ≠ D →
    wpAny (model prog w) A (eval elt (compEnvC scope cl C env)) (fun y s₅ => y = .bool b ∧ EltEnd s₁ C I oI D oD (fun tl => tl = []) s₅) (fun _ _ => False) { s₁ with heap := h₃, toks := tk₃ }
/-- what the source's value must be -/
noncomputable def CompAtB (w : World) (A : Around) (env : Env) (scope : Scope) (cl : List (Str × Addr)) (x : Str) (elt : Expr) (b : Bool) (Fin : Shared → Prop) (xv : Value) (s₁ : Shared) : Prop :=
  ∃ n P ax, IterOf w A xv ax s₁ n P ∧ 0 < n ∧ TurnB w A env scope cl x elt s₁ n P b ∧ Fin s₁
theorem setCompK {elt iter : Expr} {x : Str} {px : Pos} {scope : Scope} {cl : List (Str × Addr)} {pos : Pos} {b : Bool} {Q : Value → Shared → Prop} {E : Value → Shared → Prop} {s : Shared}
    (hclos : closureFor scope env = pure cl) (hcell : ∀ y ∈ scope.names, y.2 ≠ .cell) (hkind : scope.kind = .function)
    (hnames : ∀ y ∈ scope.names, y.2 = .local → scope.names.lookup y.1 = some .local) (hx : scope.names.lookup x = some .local)
    (h : wpAny (model prog w) A (eval iter env) (CompAtB w A env scope cl x elt b (fun s₁ => ∀ D h tk, Keeps s₁.heap h → s₁.heap.objs.size ≤ h.objs.size → Led s₁.heap h [(D, setW w b)] → Q (.ref D) { s₁ with heap := h, toks := tk })) E s)
    (hs : ∀ x, foldedSetIterable iter env x = pure x := by intro _; rfl) :
    wpAny (model prog w) A (eval (.SetComp elt [⟨.Name x px, iter, [], 0⟩] scope pos) env) Q E s := by
  rw [arm_eval_SetComp]
  refine wpAny_comprehension_free (use := none) rfl hs hclos hkind hnames (wpAny_mono h (fun xv s₁ h₁ => ?_) fun _ _ e => e)
  obtain ⟨n, P, ax, hit, hn0, turn, fin⟩ := h₁
  refine hit _ _ fun I fp St g₂ k12 hI hI2 hfp hax hIo haxs W hst => ?_
  have hI2n' : @LT.lt Nat _ I g₂.objs.size := hI2
  have z12 : @LE.le Nat _ s₁.heap.objs.size g₂.objs.size := Nat.le_trans hI (Nat.le_of_lt hI2n')
  refine newSet_set (wpAny_newFunctionEnv hcell (by intro y hy; simp at hy) (fun h₁ hns₁ hsb₁ => ?_) hkind)
  dsimp only at hns₁ hsb₁ ⊢
  generalize hH2 : g₂.push (setO0 (!w.params.followText "set-order")) = H2 at hns₁ hsb₁ ⊢
  have hC : H2.objs.size = g₂.objs.size + 1 := by rw [← hH2, Heap.size_push]
  generalize hCC : H2.objs.size = C at *
  generalize hDD : g₂.objs.size = D at *
  have hDC : D ≠ C := by omega
  have hI2n : @LT.lt Nat _ I D := hI2
  have hIn : @LE.le Nat _ s₁.heap.objs.size I := hI
  have old : ∀ b o, g₂.get? b = some o → h₁.get? b = some o := fun b o e => hsb₁.extBut b o (by have h1 : @LT.lt Nat _ b g₂.objs.size := Heap.lt_size e; exact Nat.ne_of_lt (by omega)) (Heap.get?_push_of_some _ (hH2 ▸ Heap.get?_push_of_some _ e))
  have hacc : h₁.get? D = some (setAt w b 0) := hsb₁.extBut _ _ hDC (Heap.get?_push_of_some _ (hH2 ▸ hDD ▸ Heap.get?_push_size _ rfl))
  have hst₁ : St 0 h₁ := W.frame _ _ _ hst fun b _ o e => old b o e
  have hCf : C ∉ fp := fun hm => by have h1 : @LT.lt Nat _ _ _ := hfp _ hm; omega
  have hDf : D ∉ fp := fun hm => by have h1 : @LT.lt Nat _ _ _ := hfp _ hm; omega
  have hIC : I ≠ C := Nat.ne_of_lt (by omega)
  have hID : I ≠ D := Nat.ne_of_lt hI2n
  have n₀ : ∀ b : Addr, @LE.le Nat _ s₁.heap.objs.size b → s₁.heap.get? b = none := fun b hb => Heap.get?_none_of_le hb
  obtain ⟨oI₁, eI₁⟩ := hIo _ _ hst₁
  have F₁ : Fr s₁.heap C h₁ _ := ⟨hns₁, fun b o e => old b o (k12 b o e), by omega⟩
  have N₁ : News s₁.heap C h₁ [(I, oI₁), (D, setAt w b 0)] := fun p hp => by
    rcases List.mem_cons.mp hp with rfl | hp
    · exact ⟨eI₁, hIC, n₀ _ hIn⟩
    · rcases List.mem_cons.mp hp with rfl | hp
      · exact ⟨hacc, hDC, n₀ _ (by omega)⟩
      · cases hp
  have loop : ∀ s₃ : Shared, s₃ = { s₁ with heap := h₁, toks := s₁.toks + ([] : List (Str × Value)).length } →
      codeAny (model prog w) A (.compLoop (.SetComp elt [⟨.Name x px, iter, [], 0⟩] scope pos) 0 (.ref I) (.ref D) (compEnvC scope cl C env)) (compPost (model prog w) A E none Q (.ref D) C) s₃ := by
    rintro s₃ rfl
    refine compLoop_set
      (fun k s' => ∃ i oI, i ≤ n ∧ k = n + 1 - i ∧ St i s'.heap ∧ s'.heap.get? I = some oI ∧ EltEnd s₁ C I oI D (setAt w b i) (fun tl => tl = []) s') ?_ (n + 1)
      ⟨0, oI₁, Nat.zero_le _, rfl, hst₁, eI₁, elt_end F₁ N₁ (fun _ h => nomatch h) rfl⟩
    rintro k s' ⟨i, oI, hi, rfl, hst', eI', h', tk, m', tl, rfl, F', N', off, rfl⟩
    by_cases hlt : i < n
    · refine W.item i _ _ _ hlt hst' fun v h₂ tk₂ hPv hst₂ hk₂ => ?_
      have kI : ∀ b o, b ≠ I → h'.get? b = some o → h₂.get? b = some o := fun b o hb e => hk₂ b o (by simpa using hb) e
      refine wpAny_assign_Name (wpAny_storeName_local (lookup_relabel_local hx) (F'.ns.at' fun o e => kI _ o (Ne.symm hIC) e) (fun h₃ hn₃ hs₃ => ?_) (by simp [compEnvC, relabel, hkind]))
      have kC : ∀ b o, b ≠ C → h₂.get? b = some o → h₃.get? b = some o := fun b o hb e => hs₃.extBut b o hb e
      have hst₃ : St (i + 1) h₃ := W.frame _ _ _ hst₂ fun b hb o e => kC b o (fun q => hCf (q ▸ hb)) e
      obtain ⟨oI₃, eI₃⟩ := hIo _ _ hst₃
      have F₃ : Fr s₁.heap C h₃ _ := ⟨hn₃, fun b o e => by
        have hb : @LT.lt Nat _ b s₁.heap.objs.size := Heap.lt_size e
        exact kC b o (Nat.ne_of_lt (by omega)) (kI b o (Nat.ne_of_lt (by omega)) (F'.keep b o e)), F'.above⟩
      have hD' := N' (D, setAt w b i) (.tail _ (.head _))
      have N₃ : News s₁.heap C h₃ [(I, oI₃), (D, setAt w b i)] := fun p hp => by
        rcases List.mem_cons.mp hp with rfl | hp
        · exact ⟨eI₃, hIC, n₀ _ hIn⟩
        · rcases List.mem_cons.mp hp with rfl | hp
          · exact ⟨kC _ _ hDC (kI _ _ (Ne.symm hID) hD'.1), hD'.2⟩
          · cases hp
      have back : ∀ {g : Heap} {mm : Str → Option Value} {b : Obj} {l : List (Addr × Obj)}, Fr s₁.heap C g mm → News s₁.heap C g ((I, oI₃) :: (D, b) :: l) → St (i + 1) g := fun {g mm b l} Fg Ng => W.frame _ _ _ hst₃ fun c hc o e => by
        rcases hax c hc with rfl | rfl
        · rw [eI₃] at e; cases e; exact (Ng _ (.head _)).1
        · rcases haxs with ⟨o', e'⟩ | hf
          · rw [F₃.keep _ _ e'] at e; cases e; exact Fg.keep _ _ e'
          · rw [hf] at hc; obtain rfl := List.mem_singleton.mp hc; rw [eI₃] at e; cases e; exact (Ng _ (.head _)).1
      refine wpAny_mono (turn i v C _ h₃ _ I oI₃ D _ hlt hPv F₃ N₃ (by simp) hID) (fun y s₅ h₅ => ?_) fun _ _ e => e.elim
      obtain ⟨rfl, h₄, tk₄, m₄, tl₄, rfl, F₄, N₄, off₄, rfl⟩ := h₅
      have hD₄ := N₄ (D, setAt w b i) (.tail _ (.head _))
      have key : ∀ h₆, Heap.SameBut D h₄ h₆ → h₆.get? D = some (setW w b) → ∀ tk₆, ∃ m, m < n + 1 - i ∧ ∃ j oI, j ≤ n ∧ m = n + 1 - j ∧ St j h₆ ∧ h₆.get? I = some oI ∧ EltEnd s₁ C I oI D (setAt w b j) (fun tl => tl = []) { s₁ with heap := h₆, toks := tk₆ } := fun h₆ hs₆ hD₆ tk₆ => by
        have k₆ : ∀ b o, b ≠ D → h₄.get? b = some o → h₆.get? b = some o := fun b o hb e => hs₆.extBut b o hb e
        have F₆ : Fr s₁.heap C h₆ m₄ := F₄.change hs₆ hDC (n₀ _ (by omega))
        have N₆ : News s₁.heap C h₆ [(I, oI₃), (D, setAt w b (i + 1))] := fun p hp => by
          rcases List.mem_cons.mp hp with rfl | hp
          · exact ⟨k₆ _ _ hID (N₄ _ (.head _)).1, hIC, n₀ _ hIn⟩
          · rcases List.mem_cons.mp hp with rfl | hp
            · exact ⟨hD₆, hDC, n₀ _ (by omega)⟩
            · cases hp
        exact ⟨n + 1 - (i + 1), turn_lt hlt, i + 1, oI₃, hlt, rfl, back F₆ N₆, (N₆ _ (.head _)).1, elt_end F₆ N₆ (fun _ h => nomatch h) rfl⟩
      cases i with
      | zero => exact add_bool_first (led := !w.params.followText "set-order") hD₄.1 (key _ (Heap.SameBut.update ..) (Heap.get?_update_self _ hD₄.1 rfl) _)
      | succ i => exact add_bool_again (led := !w.params.followText "set-order") hD₄.1 (key _ (Heap.SameBut.refl _ _) hD₄.1 _)
    · obtain rfl : i = n := by omega
      refine W.done _ _ _ hst' fun h₂ tk₂ hk₂ => ?_
      have kI : ∀ b o, b ≠ I → h'.get? b = some o → h₂.get? b = some o := fun b o hb e => hk₂ b o (by simpa using hb) e
      have hD₂ := kI _ _ (Ne.symm hID) (N' (D, setAt w b i) (.tail _ (.head _))).1
      have hD₂ : h₂.get? D = some (setW w b) := by rw [hD₂]; unfold setAt; rw [if_neg (by omega)]
      have k₂ : Keeps s₁.heap h₂ := fun b o e => kI b o (by have h1 : @LT.lt Nat _ b s₁.heap.objs.size := Heap.lt_size e; exact Nat.ne_of_lt (by omega)) (F'.keep b o e)
      refine ⟨m', F'.ns.at' fun o e => kI _ o (Ne.symm hIC) e, fun h₃ hs₃ => fin D h₃ tk₂ (fun b o e => hs₃.extBut b o (by have h1 : @LT.lt Nat _ b s₁.heap.objs.size := Heap.lt_size e; exact Nat.ne_of_lt (by omega)) (k₂ b o e)) ?_ fun p hp => ?_⟩
      · have h1 : @LT.lt Nat _ D h₃.objs.size := Heap.lt_size (hs₃.extBut D _ hDC hD₂)
        omega
      · rcases List.mem_cons.mp hp with rfl | hp
        · exact ⟨hs₃.extBut D _ hDC hD₂, n₀ _ (by omega)⟩
        · cases hp
  exact compStart_set (loop _ rfl) (W.self 0 _ _ _ hst₁ (loop _ rfl))
end
end Mine
end
/-! C1 -/
section
open PySem PySem.W PyProof.Rows PySem.Calls
set_option maxRecDepth 100000
set_option linter.unusedVariables false
namespace Mine
/-- the way into a def whose names a comprehension or an inner def keeps -/
theorem enterC {w : World} {A : Around} {s : Shared} {f : Addr} {vals : List Value} {binds : List (Str × Value)} {name qual : Str} {params : Arguments} {body : List Stmt} {scope : Scope} {dV kV doc pm cdv ct oc : Value} {an od : Option Addr} {osl : Array (Option Value)}
    {Q E : Value → Shared → Prop} (C : Cx w s.heap)
    (ho : (Mine.hd.heap_39 w.params).lookup f = some ⟨oc, od, .func (fnOf name qual params body scope dV kV doc pm an cdv ct), osl⟩) (hcd : codeIn (Mine.hd.heap_39 w.params) cdv qual = true)
    (hroom : A.depth < recursionLimit) (hbind : BindsTo s (fnOf name qual params body scope dV kV doc pm an cdv ct) ⟨vals, []⟩ binds)
    (hkind : (binds.all fun y => scope.names.lookup y.1 == some .local || scope.names.lookup y.1 == some .cell) = true) (hnd : ((cellsFrom 0 scope.names []).map (·.1)).Nodup)
    (hco : scope.isCoroutine = false) (hgen : scope.isGenerator = false) (hk : scope.kind = .function)
    (h : ∀ h₁ tk cells p loose mean mg mb, Fr s.heap s.heap.objs.size h₁ (bindL (envOfC qual scope s.heap.objs.size f cdv).kindOf binds fun _ => none) → News s.heap s.heap.objs.size h₁ cells →
      CellsAre (bindC (envOfC qual scope s.heap.objs.size f cdv).kindOf binds fun _ => none) (cellsFrom (s.heap.objs.size + 1) scope.names []) cells → (Mine.hd.heap_39 w.params).In s.heap → Top p loose mean mg mb s.heap →
      wpAny (model prog w) (A.deeper (envOfC qual scope s.heap.objs.size f cdv)) (execs body (envOfC qual scope s.heap.objs.size f cdv))
        (fun fl s' => Q (match fl with | .ret v => v | _ => .none) s') (fun _ _ => False) { s with heap := h₁, toks := tk }) :
    wpAny (model prog w) A (call (.ref f) vals) Q E s := by
  obtain ⟨X, p, loose, mean, mg, mb, T⟩ := C
  refine wpAny_call (codeAny_call_function (fd := fnOf name qual params body scope dV kV doc pm an cdv ct) hroom (X _ _ ho) rfl hco hgen rfl (codeRec_of X hcd) (hbind _ _ _ _ ?_))
  refine wpAny_newFunctionEnv_cells hk (kindsX hkind _) fun env' he s' x => ?_
  subst he
  refine ⟨T.nolimit.keeps x.toInCall.keep, codeAny_func ?_⟩
  obtain ⟨h₁, tk, rfl, _⟩ := x.done
  have hk₁ := x.toInCall.keep
  obtain ⟨cells, NC, Y⟩ := Cl.news (h₀ := s.heap) (Nat.le_refl _) fun n c hm => ⟨x.cell n c (lookup_of_mem_nodup (cellsFrom_names scope.names 0 (s.heap.objs.size + 1) [] [] rfl ▸ hnd) hm), x.above n c hm⟩
  exact wpAny_mono (h h₁ tk cells p loose mean mg mb ⟨x.toInCall.ns, hk₁, Nat.le_refl _⟩ NC Y X T) (fun _ _ x => x) (fun _ _ x => x.elim)
/-- the texts of a row: by the figures to the base 3 -/
noncomputable def rowS (x : Int) : List Str := (List.range (x.fmod 4).toNat).map fun k => ([("a" : Str), "a-", "b"] : List Str).getD (((x.fdiv 4).fdiv (3 ^ k)).fmod 3).toNat Str.empty

theorem row_step {x : Int} {nn i : Nat} {j : Int} {ys : List Value} {t : Tok} (hrow : rowS x = (List.range nn).map fun k => ([("a" : Str), "a-", "b"] : List Str).getD (((x.fdiv 4).fdiv (3 ^ k)).fmod 3).toNat Str.empty) (hi : i < nn) (hE : ((x.fdiv 4).fdiv (3 ^ i)).fmod 3 = j)
    (hys : StrsAre ys ((rowS x).take i)) : StrsAre (ys ++ [.str (([("a" : Str), "a-", "b"] : List Str).getD j.toNat Str.empty) t]) ((rowS x).take (i + 1)) := by
  have e : (rowS x)[i]? = some (([("a" : Str), "a-", "b"] : List Str).getD j.toNat Str.empty) := by rw [hrow]; simp [hi, hE]
  rw [List.take_add_one, e]
  exact StrsAre.append' hys (.cons _ _ .nil)
set_option maxHeartbeats 8000000 in
theorem row_ok {w : World} {A : Around} {s : Shared} {x : Int} {t : Tok} (C : Cx w s.heap) (r0 : Rm A 40 400) :
   Does w A (call (.ref 162) [.int x t]) s (fun v tl => ∃ D vals n, v = .ref D ∧ tl = [(D, W.listOf vals.toArray n)] ∧ StrsAre vals (rowS x)) := by
  intro Q E h
  obtain ⟨ah, ad, af, ag, au⟩ := A
  obtain rfl : ah = none := r0.hh
  have hd := r0.dep
  dsimp only at hd
  refine enterC (binds := [("x", .int x t)]) C (by k_is) (by k_is) (by dsimp only; omega) (BindsTo.of_eq rfl) rfl (by decide) rfl rfl rfl (fun h₁ tk cells p loose mean mg mb F N Y X T => ?_)
  cases Y with
  | cons hc Y =>
  cases Y
  rename_i oc
  have hc : oc.data = .cell (some (.int x t)) := hc
  have hcell : h₁.IsCell (s.heap.objs.size + 1) (some (.int x t)) := ⟨_, (N _ (.head _)).1, hc⟩
  refine wpAny_execs_cons (wpAny_Return_some ?_)
  refine listCompK (cl := [("x", s.heap.objs.size + 1)]) rfl (by decide) rfl (by decide) rfl ?_
  (repeat' (first | (k_unfold; (try dsimp only)) | (k_end; kc_close) | ((with_reducible show wpAny _ _ (eval (PySem.Expr.Name _ _) _) _ _ _); with_reducible (k_dflt (first | refine ldVarK (Fr.ns (by assumption)) (by with_reducible assumption) ?_ | refine ldCellK rfl (Heap.IsCell.keeps (by with_reducible assumption) (Fr.keep (by assumption))) ?_))) | walk1 | (dsimp only; (first | ((with_reducible show wpAny _ _ (eval (PySem.Expr.Name _ _) _) _ _ _); with_reducible (k_dflt (first | refine ldVarK (Fr.ns (by assumption)) (by with_reducible assumption) ?_ | refine ldCellK rfl (Heap.IsCell.keeps (by with_reducible assumption) (Fr.keep (by assumption))) ?_))) | walk1)) | (leave1; (try dsimp only)) | fail "no step"))
  rename IsRange _ _ _ _ _ _ _ _ => hr
  rename (∀ (b : Addr) (o : Obj), Heap.get? _ b = some o → Heap.get? _ b = some o) => hkk
  have h0 : 0 ≤ x.fmod 4 := Int.fmod_nonneg_of_pos x (by omega)
  have h4 : x.fmod 4 < 4 := Int.fmod_lt_of_pos x (by omega)
  obtain ⟨nn, hnn⟩ : ∃ nn : Nat, x.fmod 4 = nn := ⟨(x.fmod 4).toNat, (Int.toNat_of_nonneg h0).symm⟩
  have hn4 : nn = 0 ∨ nn = 1 ∨ nn = 2 ∨ nn = 3 := by rw [hnn] at h0 h4; rcases four_z h0 h4 with h | h | h | h <;> cases h <;> simp
  have hn3 : nn ≤ 3 := by rcases hn4 with rfl | rfl | rfl | rfl <;> decide
  have hrow : rowS x = (List.range nn).map fun k => ([("a" : Str), "a-", "b"] : List Str).getD (((x.fdiv 4).fdiv (3 ^ k)).fmod 3).toNat Str.empty := by unfold rowS; rw [hnn]; rfl
  refine ⟨nn, _, fun i ys tl => tl = [] ∧ StrsAre ys ((rowS x).take i), _, iterOf_range rfl hr ?_ ?_, Nat.le_trans hn3 (by decide), ⟨rfl, .nil⟩, ?_, ?_, ?_⟩
  · rw [hnn]; have : nn = 0 ∨ nn = 1 ∨ nn = 2 ∨ nn = 3 := hn4
    rcases this with rfl | rfl | rfl | rfl <;> decide
  · rw [hnn]; have : nn = 0 ∨ nn = 1 ∨ nn = 2 ∨ nn = 3 := hn4
    rcases this with rfl | rfl | rfl | rfl <;> decide
  · rintro i ys tl ⟨_, hs⟩; rw [hs.length, List.length_take]; omega
  · rintro i v ys tl Ca m₃ h₃ tk₃ I oI D hi ⟨tv, rfl⟩ ⟨rfl, hys⟩ F3 N3 hm off hID
    have hcell3 := hcell.keeps hkk
    dsimp only at F3 N3 hcell3
    refine wpAny_tests_nil ?_
    rw [if_pos rfl]
    have hi3 : i = 0 ∨ i = 1 ∨ i = 2 := three (Nat.lt_of_lt_of_le hi hn3)
    rcases hi3 with rfl | rfl | rfl
    · replace hm : m₃ "k" = some (.int 0 tv) := hm
      (repeat' (first | (k_unfold; (try dsimp only)) | (k_end; kc_close) | ((with_reducible show wpAny _ _ (eval (PySem.Expr.Name _ _) _) _ _ _); with_reducible (k_dflt (first | refine ldVarK (Fr.ns (by assumption)) (by with_reducible assumption) ?_ | refine ldCellK rfl (Heap.IsCell.keeps (by with_reducible assumption) (Fr.keep (by assumption))) ?_))) | walk1 | (dsimp only; (first | ((with_reducible show wpAny _ _ (eval (PySem.Expr.Name _ _) _) _ _ _); with_reducible (k_dflt (first | refine ldVarK (Fr.ns (by assumption)) (by with_reducible assumption) ?_ | refine ldCellK rfl (Heap.IsCell.keeps (by with_reducible assumption) (Fr.keep (by assumption))) ?_))) | walk1)) | (leave1; (try dsimp only)) | fail "no step"))
      all_goals (rename News _ _ _ (_ :: _) => N9)
      · exact elt_end (by assumption) (fun p hp => N9 p (.tail _ hp)) (fun p hp => by cases hp) ⟨rfl, row_step (j := 0) hrow hi (by assumption) hys⟩
      · exact elt_end (by assumption) (fun p hp => N9 p (.tail _ hp)) (fun p hp => by cases hp) ⟨rfl, row_step (j := 1) hrow hi (by assumption) hys⟩
      · exact elt_end (by assumption) (fun p hp => N9 p (.tail _ hp)) (fun p hp => by cases hp) ⟨rfl, row_step (j := 2) hrow hi (by assumption) hys⟩
    · replace hm : m₃ "k" = some (.int 1 tv) := hm
      (repeat' (first | (k_unfold; (try dsimp only)) | (k_end; kc_close) | ((with_reducible show wpAny _ _ (eval (PySem.Expr.Name _ _) _) _ _ _); with_reducible (k_dflt (first | refine ldVarK (Fr.ns (by assumption)) (by with_reducible assumption) ?_ | refine ldCellK rfl (Heap.IsCell.keeps (by with_reducible assumption) (Fr.keep (by assumption))) ?_))) | walk1 | (dsimp only; (first | ((with_reducible show wpAny _ _ (eval (PySem.Expr.Name _ _) _) _ _ _); with_reducible (k_dflt (first | refine ldVarK (Fr.ns (by assumption)) (by with_reducible assumption) ?_ | refine ldCellK rfl (Heap.IsCell.keeps (by with_reducible assumption) (Fr.keep (by assumption))) ?_))) | walk1)) | (leave1; (try dsimp only)) | fail "no step"))
      all_goals (rename News _ _ _ (_ :: _) => N9)
      · exact elt_end (by assumption) (fun p hp => N9 p (.tail _ hp)) (fun p hp => by cases hp) ⟨rfl, row_step (j := 0) hrow hi (by assumption) hys⟩
      · exact elt_end (by assumption) (fun p hp => N9 p (.tail _ hp)) (fun p hp => by cases hp) ⟨rfl, row_step (j := 1) hrow hi (by assumption) hys⟩
      · exact elt_end (by assumption) (fun p hp => N9 p (.tail _ hp)) (fun p hp => by cases hp) ⟨rfl, row_step (j := 2) hrow hi (by assumption) hys⟩
    · replace hm : m₃ "k" = some (.int 2 tv) := hm
      (repeat' (first | (k_unfold; (try dsimp only)) | (k_end; kc_close) | ((with_reducible show wpAny _ _ (eval (PySem.Expr.Name _ _) _) _ _ _); with_reducible (k_dflt (first | refine ldVarK (Fr.ns (by assumption)) (by with_reducible assumption) ?_ | refine ldCellK rfl (Heap.IsCell.keeps (by with_reducible assumption) (Fr.keep (by assumption))) ?_))) | walk1 | (dsimp only; (first | ((with_reducible show wpAny _ _ (eval (PySem.Expr.Name _ _) _) _ _ _); with_reducible (k_dflt (first | refine ldVarK (Fr.ns (by assumption)) (by with_reducible assumption) ?_ | refine ldCellK rfl (Heap.IsCell.keeps (by with_reducible assumption) (Fr.keep (by assumption))) ?_))) | walk1)) | (leave1; (try dsimp only)) | fail "no step"))
      all_goals (rename News _ _ _ (_ :: _) => N9)
      · exact elt_end (by assumption) (fun p hp => N9 p (.tail _ hp)) (fun p hp => by cases hp) ⟨rfl, row_step (j := 0) hrow hi (by assumption) hys⟩
      · exact elt_end (by assumption) (fun p hp => N9 p (.tail _ hp)) (fun p hp => by cases hp) ⟨rfl, row_step (j := 1) hrow hi (by assumption) hys⟩
      · exact elt_end (by assumption) (fun p hp => N9 p (.tail _ hp)) (fun p hp => by cases hp) ⟨rfl, row_step (j := 2) hrow hi (by assumption) hys⟩
  · rintro ys tl ⟨rfl, hys⟩ D g tk' kg zg lg
    have hl : (rowS x).length = nn := by rw [hrow]; simp
    rw [← hl, List.take_length] at hys
    rename Fr _ _ _ _ => F9
    have k9 : Keeps s.heap g := fun b o e => kg b o (F9.keep b o e)
    exact h _ [(D, lst ys)] _ _ k9 (Nat.le_trans (fr_le F9) zg) (lg.elder F9.keep) ⟨D, ys, _, rfl, rfl, hys⟩
end Mine
end
/-! P0 -/
section
open PySem PySem.W PyProof.Rows PySem.Calls
set_option maxRecDepth 100000
set_option linter.unusedVariables false
namespace Mine
/-- the parts that count -/
noncomputable def keepC (c : Str) : Bool := !(c.length == 0) && (c != ".")
theorem keep_no {xs : List Str} {j : Nat} {d : Str} {us : List Value} (h : StrsAre us ((xs.take j).filter keepC)) (hd : xs[j]? = some d) (hk : keepC d = false) : StrsAre us ((xs.take (j + 1)).filter keepC) := by
  rw [List.take_add_one, hd, List.filter_append]
  simpa [hk] using h
theorem keep_yes {xs : List Str} {j : Nat} {d : Str} {us : List Value} {t : Tok} (h : StrsAre us ((xs.take j).filter keepC)) (hd : xs[j]? = some d) (hk : keepC d = true) : StrsAre (us ++ [.str d t]) ((xs.take (j + 1)).filter keepC) := by
  rw [List.take_add_one, hd, List.filter_append]
  simp only [Option.toList, List.filter_cons, hk, if_true, List.filter_nil]
  exact StrsAre.append' h (.cons _ _ .nil)
theorem keepC_0 {d : Str} (h : (d.length : Int) = 0) : keepC d = false := by
  have : d.length = 0 := by omega
  simp [keepC, this]
theorem keepC_1 {d : Str} (h : (d != ".") = false) : keepC d = false := by simp only [keepC, h, Bool.and_false]
theorem keepC_2 {d : Str} (h : (d.length : Int) ≠ 0) (h2 : (d != ".") = true) : keepC d = true := by
  have : d.length ≠ 0 := by omega
  simp [keepC, this, h2]
/-- a mark at which the walk stops -/
noncomputable def Stop (p : Prop) : Prop := p
theorem Stop.out {p : Prop} (h : Stop p) : p := h
theorem Stop.mk {p : Prop} (h : p) : Stop p := h
/-- a call's end in a frame; the new objects stand beside the old ones -/
theorem Does.frN {α : Type} {w : World} {A : Around} {t : Sem α} {s : Shared} {P : α → List (Addr × Obj) → Prop} {h₀ : Heap} {L : Addr} {m : Str → Option Value} {news : List (Addr × Obj)} {Q : α → Shared → Prop} {E : Value → Shared → Prop} (d : Does w A t s P)
    (F : Fr h₀ L s.heap m) (N : News h₀ L s.heap news) (h : ∀ a tl h' tk, Fr h₀ L h' m → News h₀ L h' (tl ++ news) → (∀ p ∈ tl, ∀ q ∈ news, p.1 ≠ q.1) → P a tl → Q a { s with heap := h', toks := tk }) : wpAny (model prog w) A t Q E s :=
  d Q E fun a tl h' tk k _ l p => h a tl h' tk (fr_keeps F k) (fun q hq => (List.mem_append.mp hq).elim
    (fun hq => ⟨(l q hq).1, by obtain ⟨oL, _, _, e, _⟩ := F.ns; exact ne_of_none (l q hq).2 e, none_of F.keep (l q hq).2⟩)
    fun hq => news_keeps N k q hq) (fun p hp q hq => ne_of_none (l p hp).2 (N q hq).1) p
/-- lists of texts that stand in a ledger -/
structure RowsLed (ys : List Value) (tl : List (Addr × Obj)) (xss : List (List Str)) : Prop where
  len : ys.length = xss.length
  item : ∀ {i : Nat} {v : Value}, ys[i]? = some v → ∃ a V n xs, v = .ref a ∧ (a, W.listOf (List.toArray V) n) ∈ tl ∧ StrsAre V xs ∧ xss[i]? = some xs
theorem RowsLed.nil : RowsLed [] [] [] := ⟨rfl, fun h => by simp at h⟩
theorem RowsLed.snoc {ys : List Value} {tl : List (Addr × Obj)} {xss : List (List Str)} {a : Addr} {V : List Value} {n : Nat} {xs : List Str} (r : RowsLed ys tl xss) (h : StrsAre V xs) : RowsLed (ys ++ [.ref a]) ((a, W.listOf V.toArray n) :: tl) (xss ++ [xs]) := by
  refine ⟨by simp [r.len], fun {i v} e => ?_⟩
  by_cases hi : i < ys.length
  · rw [List.getElem?_append_left hi] at e
    obtain ⟨a', V', n', xs', e1, e2, e3, e4⟩ := r.item e
    exact ⟨a', V', n', xs', e1, .tail _ e2, e3, by rw [List.getElem?_append_left (by rw [← r.len]; exact hi)]; exact e4⟩
  · rw [List.getElem?_append_right (by omega)] at e
    have hi' : i - ys.length = 0 := by
      cases h0 : i - ys.length with
      | zero => rfl
      | succ k => rw [h0] at e; simp at e
    rw [hi'] at e
    simp only [List.getElem?_cons_zero, Option.some.injEq] at e
    exact ⟨a, V, n, xs, e.symm, .head _, h, by rw [List.getElem?_append_right (by rw [← r.len]; omega), ← r.len, hi']; rfl⟩
theorem RowsLed.rowsN {h₀ h : Heap} {L : Addr} {ys : List Value} {tl news : List (Addr × Obj)} {xss : List (List Str)} (r : RowsLed ys tl xss) (N : News h₀ L h news) (hs : ∀ p ∈ tl, p ∈ news) : RowsIn h ys xss :=
  ⟨r.len, fun e => let ⟨a, V, n, xs, e1, e2, e3, e4⟩ := r.item e; ⟨a, V, xs, e1, ⟨_, (N _ (hs _ e2)).1, rfl, _, rfl⟩, e3, e4⟩⟩
noncomputable abbrev tupO (vals : List Value) : Obj := { cls := .type "tuple", data := .seq vals.toArray }
theorem truthy_tup1 {w : World} {A : Around} {E : Value → Shared → Prop} {s : Shared} {h₀ : Heap} {L D : Addr} {news : List (Addr × Obj)} {vals : List Value} {x : Value} {Q : Bool → Shared → Prop} (N : News h₀ L s.heap news) (hm : (D, tupO vals) ∈ news) (hx : vals[0]? = some x) (hsz : vals.length ≤ sizeLine)
   (h : Q true { s with toks := s.toks + 1 + 1 }) : wpAny (model prog w) A (truthy (.ref D)) Q E s :=
  truthy_tuple (items := vals.toArray) ⟨_, (N _ hm).1, rfl, _, rfl⟩ (by have : sizeLine = 16777216 := rfl; simp; omega) (by
    cases vals with
    | nil => simp at hx
    | cons a b => exact h)
theorem item_tup1 {w : World} {A : Around} {E : Value → Shared → Prop} {s : Shared} {h₀ : Heap} {L D : Addr} {news : List (Addr × Obj)} {vals : List Value} {x : Value} {u : Tok} {value slice : Expr} {Q : Value → Shared → Prop} (N : News h₀ L s.heap news) (hm : (D, tupO vals) ∈ news) (hx : vals[0]? = some x) (h : Q x s)
    (hs : subscripted slice false (.ref D) (.int 0 u) = operate [.ref D, .int 0 u] (getItem (.ref D) (.int 0 u)) := by with_unfolding_all rfl) :
    wpAny (model prog w) A (subscriptTail value slice (.ref D) (.int 0 u)) Q E s :=
  item_tupleT (l := vals) (j := 0) ⟨_, (N _ hm).1, rfl, _, rfl⟩ (by decide) (by decide) (by
    cases vals with
    | nil => simp at hx
    | cons a b => simp [seqIndex?]) hx h hs
end Mine
end
/-! Enum1 -/
section
open PySem PySem.W PyProof.Rows PySem.Calls
set_option maxRecDepth 100000
set_option linter.unusedVariables false
namespace Mine
section
variable {w : World} {A : Around} {env : Env}
/-- the end of a turn over an enumerate object -/
noncomputable def EnumNext (h₀ : Heap) (L : Addr) (s : Shared) (e it : Addr) (oe oi : Obj) (news : List (Addr × Obj)) (J : (Str → Option Value) → Prop) (s₂ : Shared) : Prop :=
  ∃ m₂ h₂ tk₂, s₂ = { s with heap := h₂, toks := tk₂ } ∧ Fr h₀ L h₂ m₂ ∧ News h₀ L h₂ ((e, oe) :: (it, oi) :: news) ∧ J m₂
/-- a for loop over an enumerate object of a list that the elder ledger keeps; it may break -/
theorem for_enum {h₀ : Heap} {xi xv : Str} {pi pv pt : Pos} {x1} {body : List Stmt} {e it l : Addr} {items : Array Value} {m : Str → Option Value} {news : List (Addr × Obj)} {ol : Obj} {Q : Flow → Shared → Prop} {E : Value → Shared → Prop} {s : Shared}
    (hh : A.handled = none) (hxi : env.kindOf xi = some .local) (hxv : env.kindOf xv = some .local)
    (hp : (env.scope.kind == .class || (env.scope.kind == .module && env.locals != env.globals)) = false)
    (F : Fr h₀ env.locals s.heap m) (N : News h₀ env.locals s.heap news) (hei : e ≠ it) (heL : e ≠ env.locals) (hiL : it ≠ env.locals) (he0 : h₀.get? e = none) (hi0 : h₀.get? it = none)
    (offe : ∀ p ∈ news, p.1 ≠ e) (offi : ∀ p ∈ news, p.1 ≠ it) (hlm : (l, ol) ∈ news) (hol : ∀ h : Heap, h.get? l = some ol → h.IsList l items)
    (he : IsEnum s.heap e it 0 .none) (hit : s.heap.IsListIter it l 0)
    (J : Nat → (Str → Option Value) → Prop) (h0 : J 0 m) (B : Shared → Prop) (fin : ∀ s₂, B s₂ → Q .next s₂)
    (turn : ∀ (i : Nat) v tk m₁ h₁ tk₁ oe oi, items[i]? = some v → J i m₁ → Fr h₀ env.locals h₁ (fun y => if y = xv then some v else if y = xi then some (.int i tk) else m₁ y) → News h₀ env.locals h₁ ((e, oe) :: (it, oi) :: news) →
      wpAny (model prog w) A (execs body env) (fun f s₂ => match f with
        | .next => EnumNext h₀ env.locals s e it oe oi news (J (i + 1)) s₂
        | .brk => B s₂
        | _ => False) (fun _ _ => False) { s with heap := h₁, toks := tk₁ })
    (done : ∀ h' tk m', J items.size m' → Fr h₀ env.locals h' m' → News h₀ env.locals h' news → B { s with heap := h', toks := tk }) :
    codeAny (model prog w) A (.forLoop (.Tuple [.Name xi pi, .Name xv pv] x1 pt) (.ref e) body [] env) (fun r s' => match r with | .ok f => Q f s' | .error x => cameBackBy (model prog w) A env E x s') s := by
  refine codeAny_forLoop_any
    (fun k s' => ∃ h' tk m' i old, s' = { s with heap := h', toks := tk } ∧ IsEnum h' e it ((i : Nat) : Int) old ∧ h'.IsListIter it l i ∧ Fr h₀ env.locals h' m' ∧ News h₀ env.locals h' news ∧ J i m' ∧ i ≤ items.size ∧ k = items.size + 1 - i) ?_ (items.size + 1)
    ⟨s.heap, s.toks, m, 0, .none, rfl, he, hit, F, N, h0, Nat.zero_le _, rfl⟩
  rintro k s' ⟨H, tk, m', i, old, rfl, he', hit', F', N', hJ, hi, rfl⟩
  have hl' : H.IsList l items := hol H (N' _ hlm).1
  cases hv : items[i]? with
  | none =>
    have hsz : i = items.size := Nat.le_antisymm hi (by simpa using hv)
    refine wpAny_pyNext_enum_end hh he' hit' hl' hv fun h₁ he₁ => wpAny_execs_nil ?_
    refine fin _ (done h₁ tk m' (hsz ▸ hJ) ⟨F'.ns.at' fun o x => he₁ _ o (Ne.symm hiL) x, fun b o x => he₁ b o (fun q => by rw [q, hi0] at x; cases x) (F'.keep b o x), F'.above⟩ fun p hp' => ⟨he₁ _ _ (offi p hp') (N' p hp').1, (N' p hp').2⟩)
  | some v =>
    have hlt : i < items.size := (Array.getElem?_eq_some_iff.mp hv).1
    have heH : @LT.lt Nat _ e H.objs.size := Heap.lt_size he'
    have hLH : @LT.lt Nat _ env.locals H.objs.size := F'.ns.lt
    obtain ⟨oi, hoi, _⟩ := id hit'
    have hiH : @LT.lt Nat _ it H.objs.size := Heap.lt_size hoi
    refine wpAny_pyNext_enum_item he' hit' hl' hv hei fun h₁ heo hit₁ ht₁ hz₁ hk₁ => ?_
    refine wpAny_letOwnedTupleGo_enum heo fun h₂ he₂ hs₂ => ?_
    replace hs₂ : Heap.SameBut e h₁ h₂ := hs₂
    have ht₂ : h₂.IsTuple H.objs.size #[.int i tk, v] := ⟨_, (hs₂.2 _ (Nat.ne_of_gt heH)).trans ht₁, rfl, _, rfl⟩
    have hz₂ : h₂.objs.size = H.objs.size + 1 := hs₂.1.trans hz₁
    refine wpAny_assign_Tuple hh ht₂ rfl rfl fun h₃ hx₃ => ?_
    replace hx₃ : Heap.ExtBut h₂.objs.size h₂ h₃ := hx₃
    have old₃ : ∀ b o, @LT.lt Nat _ b H.objs.size → h₂.get? b = some o → h₃.get? b = some o := fun b o hb x => hx₃ b o (by rw [hz₂]; exact Nat.ne_of_lt (Nat.lt_succ_of_lt hb)) x
    have old₂ : ∀ b o, b ≠ e → b ≠ it → H.get? b = some o → h₃.get? b = some o := fun b o hbe hbi x => old₃ b o (Heap.lt_size x) (hs₂.extBut b o hbe (hk₁ b o hbe hbi x))
    have hn₃ : h₃.Ns env.locals m' := F'.ns.at' fun o x => old₂ _ o (Ne.symm heL) (Ne.symm hiL) x
    show wpAny _ A (do holding [v] (assign (.Name xi pi) env (.int i tk)); do holding [] (assign (.Name xv pv) env v); pure ()) _ _ _
    refine wpAny_bind (wpAny_holding (wpAny_assign_Name (wpAny_storeName_local hxi hn₃ (fun h₄ hn₄ hs₄ => ?_) hp)))
    replace hs₄ : Heap.SameBut env.locals h₃ h₄ := hs₄
    refine wpAny_bind (wpAny_holding (wpAny_assign_Name (wpAny_storeName_local hxv hn₄ (fun h₅ hn₅ hs₅ => wpAny_pure ?_) hp)))
    replace hs₅ : Heap.SameBut env.locals h₄ h₅ := hs₅
    have up : ∀ b o, b ≠ env.locals → h₃.get? b = some o → h₅.get? b = some o := fun b o hb x => hs₅.extBut b o hb (hs₄.extBut b o hb x)
    have he₅ : h₅.get? e = some _ := up e _ heL (old₃ _ _ heH he₂)
    have hit₅ : h₅.IsListIter it l (i + 1) := ((hit₁.extBut hs₂.extBut (Ne.symm hei)).at fun o x => old₃ it o hiH x).at fun o x => up it o hiL x
    obtain ⟨oi₅, ei₅, ri₅⟩ := id hit₅
    have F₅ : Fr h₀ env.locals h₅ _ := ⟨hn₅, fun b o x => up b o (fun q => by
      have : @LE.le Nat _ h₀.objs.size env.locals := F'.above
      have h2 : @LT.lt Nat _ b h₀.objs.size := Heap.lt_size x
      rw [q] at h2; omega) (old₂ b o (fun q => by rw [q, he0] at x; cases x) (fun q => by rw [q, hi0] at x; cases x) (F'.keep b o x)), F'.above⟩
    have N₅ : News h₀ env.locals h₅ ((e, _) :: (it, oi₅) :: news) := fun p hp' => by
      rcases List.mem_cons.mp hp' with rfl | hp'
      · exact ⟨he₅, heL, he0⟩
      rcases List.mem_cons.mp hp' with rfl | hp'
      · exact ⟨ei₅, hiL, hi0⟩
      · exact ⟨up _ _ (N' p hp').2.1 (old₂ _ _ (offe p hp') (offi p hp') (N' p hp').1), (N' p hp').2⟩
    refine wpAny_mono (turn i v tk m' h₅ _ _ oi₅ hv hJ F₅ N₅) (fun f s₃ h₆ => ?_) fun _ _ x => x.elim
    cases f with
    | next =>
      obtain ⟨m₂, h₂', tk₂, rfl, F₂, N₂, hJ₂⟩ := h₆
      refine ⟨items.size + 1 - (i + 1), turn_lt hlt, h₂', tk₂, m₂, i + 1, v, rfl, ?_, ?_, F₂, fun p hp' => N₂ p (.tail _ (.tail _ hp')), hJ₂, hlt, rfl⟩
      · have : ((i + 1 : Nat) : Int) = (i : Int) + 1 := by push_cast; rfl
        rw [this]; exact (N₂ _ (.head _)).1
      · exact ⟨oi₅, (N₂ _ (.tail _ (.head _))).1, ri₅⟩
    | cont => exact h₆.elim
    | brk => exact fin _ h₆
    | ret v => exact h₆.elim
end
end Mine
end
/-! PL1 -/
section
open PySem PySem.W PyProof.Rows PySem.Calls
set_option maxRecDepth 100000
set_option linter.unusedVariables false
namespace Mine
theorem str_eq_of {x y : Str} (h : x.cps.toList = y.cps.toList) : x = y := by
  cases x; cases y
  simp only [Str.mk.injEq]
  exact Array.toList_inj.mp h
theorem ltL_irrefl : ∀ xs, ltL xs xs = false
  | [] => rfl
  | x :: xs => by simp [ltL, ltL_irrefl xs]
theorem ltL_trans : ∀ {xs ys zs}, ltL xs ys = true → ltL ys zs = true → ltL xs zs = true := by
  intro xs
  induction xs with
  | nil =>
    intro ys zs h1 h2
    cases ys with
    | nil => simp [ltL] at h1
    | cons y ys =>
      cases zs with
      | nil => simp [ltL] at h2
      | cons z zs => rfl
  | cons x xs ih =>
    intro ys zs h1 h2
    cases ys with
    | nil => simp [ltL] at h1
    | cons y ys =>
      cases zs with
      | nil => simp [ltL] at h2
      | cons z zs =>
        simp only [ltL] at h1 h2 ⊢
        by_cases e1 : (x == y) = true
        · have e1' : x = y := eq_of_beq e1
          subst e1'
          rw [if_pos e1] at h1
          by_cases e2 : (x == z) = true
          · rw [if_pos e2] at h2 ⊢; exact ih h1 h2
          · rw [if_neg e2] at h2 ⊢; exact h2
        · rw [if_neg e1] at h1
          by_cases e2 : (y == z) = true
          · have e2' : y = z := eq_of_beq e2
            subst e2'
            rw [if_neg e1]; exact h1
          · rw [if_neg e2] at h2
            have h3 : x.cps.toList < z.cps.toList := List.lt_trans (of_decide_eq_true h1) (of_decide_eq_true h2)
            have e3 : ¬ (x == z) = true := fun e => by
              have e' : x = z := eq_of_beq e
              subst e'
              exact List.lt_irrefl _ h3
            rw [if_neg e3]; exact decide_eq_true h3
theorem ltL_total : ∀ {xs ys}, ltL xs ys = false → ltL ys xs = false → xs = ys := by
  intro xs
  induction xs with
  | nil => intro ys h1 h2; cases ys with
    | nil => rfl
    | cons y ys => simp [ltL] at h1
  | cons x xs ih =>
    intro ys h1 h2
    cases ys with
    | nil => simp [ltL] at h2
    | cons y ys =>
      simp only [ltL] at h1 h2
      by_cases e1 : (x == y) = true
      · have e1' : x = y := eq_of_beq e1
        subst e1'
        rw [if_pos e1] at h1 h2
        rw [ih h1 h2]
      · have e2 : ¬ (y == x) = true := fun e => e1 (by have e' : y = x := eq_of_beq e; rw [e']; exact beq_self_eq_true _)
        rw [if_neg e1] at h1
        rw [if_neg e2] at h2
        have h3 := of_decide_eq_false h1
        have h4 := of_decide_eq_false h2
        exact absurd (by rw [str_eq_of (List.le_antisymm h4 h3)]; exact beq_self_eq_true _) e1
theorem ltL_asymm {xs ys : List Str} (h : ltL xs ys = true) : ltL ys xs = false := by
  cases e : ltL ys xs with
  | false => rfl
  | true => rw [← ltL_irrefl xs]; exact (ltL_trans h e).symm ▸ rfl
end Mine
end
/-! PL2 -/
section
open PySem PySem.W PyProof.Rows PySem.Calls
set_option maxRecDepth 100000
set_option linter.unusedVariables false
namespace Mine
noncomputable def rowAt (xss : List (List Str)) (i : Nat) : List Str := xss[i]?.getD []
theorem argMin_is (xss : List (List Str)) : ∀ n, argBest (btLt xss) n ≤ n ∧ ∀ j, j ≤ n → ltL (rowAt xss j) (rowAt xss (argBest (btLt xss) n)) = false := by
  intro n
  induction n with
  | zero => exact ⟨Nat.le_refl _, fun j hj => by
    obtain rfl : j = 0 := by omega
    exact ltL_irrefl _⟩
  | succ k ih =>
    obtain ⟨i1, i2⟩ := ih
    unfold argBest
    cases e : btLt xss (k + 1) (argBest (btLt xss) k) with
    | true =>
      rw [if_pos rfl]
      refine ⟨Nat.le_refl _, fun j hj => ?_⟩
      have e' : ltL (rowAt xss (k + 1)) (rowAt xss (argBest (btLt xss) k)) = true := e
      rcases Nat.lt_or_ge k j with h | h
      · obtain rfl : j = k + 1 := by omega
        exact ltL_irrefl _
      · cases e2 : ltL (rowAt xss j) (rowAt xss (k + 1)) with
        | false => rfl
        | true => rw [← i2 j h]; exact (ltL_trans e2 e').symm
    | false =>
      rw [if_neg (by decide)]
      refine ⟨Nat.le_succ_of_le i1, fun j hj => ?_⟩
      rcases Nat.lt_or_ge k j with h | h
      · obtain rfl : j = k + 1 := by omega
        exact e
      · exact i2 j h
theorem argMax_is (xss : List (List Str)) : ∀ n, argBest (btGt xss) n ≤ n ∧ ∀ j, j ≤ n → ltL (rowAt xss (argBest (btGt xss) n)) (rowAt xss j) = false := by
  intro n
  induction n with
  | zero => exact ⟨Nat.le_refl _, fun j hj => by
    obtain rfl : j = 0 := by omega
    exact ltL_irrefl _⟩
  | succ k ih =>
    obtain ⟨i1, i2⟩ := ih
    unfold argBest
    cases e : btGt xss (k + 1) (argBest (btGt xss) k) with
    | true =>
      rw [if_pos rfl]
      refine ⟨Nat.le_refl _, fun j hj => ?_⟩
      have e' : ltL (rowAt xss (argBest (btGt xss) k)) (rowAt xss (k + 1)) = true := e
      rcases Nat.lt_or_ge k j with h | h
      · obtain rfl : j = k + 1 := by omega
        exact ltL_irrefl _
      · cases e2 : ltL (rowAt xss (k + 1)) (rowAt xss j) with
        | false => rfl
        | true => rw [← i2 j h]; exact (ltL_trans e' e2).symm
    | false =>
      rw [if_neg (by decide)]
      refine ⟨Nat.le_succ_of_le i1, fun j hj => ?_⟩
      rcases Nat.lt_or_ge k j with h | h
      · obtain rfl : j = k + 1 := by omega
        exact e
      · exact i2 j h
/-- what two lists begin with -/
noncomputable def cpL : List Str → List Str → List Str
  | x :: xs, y :: ys => if x == y then x :: cpL xs ys else []
  | _, _ => []
theorem cpL_all : ∀ {xs ys : List Str}, xs <+: ys → cpL xs ys = xs := by
  intro xs
  induction xs with
  | nil => intro ys h; cases ys <;> rfl
  | cons x xs ih =>
    intro ys h
    cases ys with
    | nil => simp at h
    | cons y ys =>
      obtain ⟨rfl, h'⟩ := List.cons_prefix_cons.mp h
      simp [cpL, ih h']
theorem cpL_at : ∀ {i : Nat} {xs ys : List Str} {a b : Str}, xs.take i = ys.take i → xs[i]? = some a → ys[i]? = some b → (a != b) = true → cpL xs ys = xs.take i := by
  intro i
  induction i with
  | zero =>
    intro xs ys a b h ha hb hab
    cases xs with
    | nil => simp at ha
    | cons x xs =>
      cases ys with
      | nil => simp at hb
      | cons y ys =>
        simp only [List.getElem?_cons_zero, Option.some.injEq] at ha hb
        subst ha; subst hb
        have : ¬ (x == y) = true := by simpa using hab
        simp [cpL, this]
  | succ i ih =>
    intro xs ys a b h ha hb hab
    cases xs with
    | nil => simp at ha
    | cons x xs =>
      cases ys with
      | nil => simp at hb
      | cons y ys =>
        simp only [List.take_succ_cons, List.cons.injEq, List.getElem?_cons_succ] at h ha hb
        obtain ⟨rfl, h⟩ := h
        simp [cpL, ih h ha hb hab]
/-- the greater of two lists that agree so far has an item more -/
theorem more_of {i : Nat} {xs ys : List Str} {a : Str} (h : xs.take i = ys.take i) (ha : xs[i]? = some a) (hn : ltL ys xs = false) : ∃ b, ys[i]? = some b := by
  induction i generalizing xs ys with
  | zero =>
    cases xs with
    | nil => simp at ha
    | cons x xs =>
      cases ys with
      | nil => simp [ltL] at hn
      | cons y ys => exact ⟨y, rfl⟩
  | succ i ih =>
    cases xs with
    | nil => simp at ha
    | cons x xs =>
      cases ys with
      | nil => simp [ltL] at hn
      | cons y ys =>
        simp only [List.take_succ_cons, List.cons.injEq, List.getElem?_cons_succ] at h ha
        obtain ⟨rfl, h⟩ := h
        simp only [ltL, beq_self_eq_true, if_true] at hn
        obtain ⟨b, hb⟩ := ih h ha hn
        exact ⟨b, by simpa using hb⟩
end Mine
end
/-! So1 -/
section
open PySem PySem.W PyProof.Rows
set_option linter.unusedVariables false
namespace Mine
/-- the questions of a sorting tree lie in bounds, and its end, answered so, is as Q says -/
noncomputable def KAll {α : Type} (n : Nat) (ans : Nat → Nat → Bool) : KasT α → (α → Prop) → Prop
  | .ret a, Q => Q a
  | .ask i j k, Q => i < n ∧ j < n ∧ KAll n ans (k (ans i j)) Q
theorem KAll.bind {α β : Type} {n : Nat} {ans : Nat → Nat → Bool} {f : α → KasT β} {Q : β → Prop} : ∀ {t : KasT α}, KAll n ans t (fun a => KAll n ans (f a) Q) → KAll n ans (t.bind f) Q
  | .ret _, h => h
  | .ask i j k, h => ⟨h.1, h.2.1, KAll.bind h.2.2⟩
theorem KAll.mono {α : Type} {n : Nat} {ans : Nat → Nat → Bool} {Q Q' : α → Prop} (hq : ∀ a, Q a → Q' a) : ∀ {t : KasT α}, KAll n ans t Q → KAll n ans t Q'
  | .ret _, h => hq _ h
  | .ask i j k, h => ⟨h.1, h.2.1, KAll.mono hq h.2.2⟩
/-- a linear order -/
structure Lin {κ : Type} (lt : κ → κ → Bool) : Prop where
  irr : ∀ a, lt a a = false
  trans : ∀ {a b c}, lt a b = true → lt b c = true → lt a c = true
  tot : ∀ {a b}, lt a b = false → lt b a = false → a = b
section
variable {κ : Type} {lt : κ → κ → Bool}
theorem Lin.asymm (o : Lin lt) {a b : κ} (h : lt a b = true) : lt b a = false := by
  cases e : lt b a with
  | false => rfl
  | true => rw [← o.irr a]; exact (o.trans h e).symm
/-- a ≤ b, b ≤ c: a ≤ c -/
theorem Lin.le_trans (o : Lin lt) {a b c : κ} (h1 : lt b a = false) (h2 : lt c b = false) : lt c a = false := by
  cases e : lt c a with
  | false => rfl
  | true =>
    cases e2 : lt a b with
    | true => rw [← h2]; exact (o.trans e e2).symm
    | false => rw [o.tot e2 h1] at e; rw [← h2]; exact e.symm
theorem Lin.lt_of_lt_of_le (o : Lin lt) {a b c : κ} (h1 : lt a b = true) (h2 : lt c b = false) : lt a c = true := by
  cases e : lt a c with
  | true => rfl
  | false => rw [o.le_trans h2 e] at h1; cases h1
variable {n : Nat} {key : Nat → κ}
noncomputable def at0 (p : Array Nat) (k : Nat) : Nat := (p[k]?).getD 0
theorem at0_getD (p : Array Nat) (k : Nat) : p.getD k 0 = at0 p k := by simp [at0, Array.getD_eq_getD_getElem?]
noncomputable def KP (key : Nat → κ) (p : Array Nat) (k : Nat) : κ := key (at0 p k)
noncomputable def Vp (n : Nat) (p : Array Nat) : Prop := p.Perm (List.toArray (List.range n))
theorem Vp.size {p : Array Nat} (v : Vp n p) : p.size = n := by have := Array.Perm.size_eq v; simpa using this
theorem Vp.dom {p : Array Nat} (v : Vp n p) {k : Nat} (hk : k < n) : at0 p k < n := by
  have hs := v.size
  have h1 : k < p.size := by omega
  have e : p[k]? = some p[k] := Array.getElem?_eq_getElem h1
  unfold at0
  rw [e]
  have hm : p[k] ∈ p.toList := by simp
  have hm2 := (Array.perm_iff_toList_perm.mp v).mem_iff.mp hm
  simpa using hm2
theorem Vp.rev {p : Array Nat} (v : Vp n p) (i j : Nat) : Vp n (kas_rev p i j) := (mirror_perm _ _ _ _).trans v
theorem Vp.bub {p : Array Nat} (v : Vp n p) (k d : Nat) : Vp n (bubble p k d) := (bubble_perm _ _ _).trans v
theorem kp_rev {p : Array Nat} {i j : Nat} (hj : j ≤ p.size) (k : Nat) : KP key (kas_rev p i j) k = if i ≤ k ∧ k < j then KP key p (i + j - 1 - k) else KP key p k := by
  have e := getElem?_mirror_all (xs := p) (i := i) hj k
  unfold KP at0
  show key ((mirror p i j ((j - i) / 2))[k]?.getD 0) = _
  rw [e]
  by_cases h : i ≤ k ∧ k < j
  · rw [if_pos h, if_pos h]
  · rw [if_neg h, if_neg h]
theorem kp_rev_eq {p : Array Nat} {i j : Nat} (hj : j ≤ p.size) (heq : ∀ k, i ≤ k → k < j → KP key p k = KP key p (j - 1)) (k : Nat) : KP key (kas_rev p i j) k = KP key p k := by
  rw [kp_rev hj]
  by_cases h : i ≤ k ∧ k < j
  · rw [if_pos h, heq _ (by omega) (by omega), heq k h.1 h.2]
  · rw [if_neg h]
theorem kp_bub {p : Array Nat} {k l : Nat} (hk : k < p.size) (hl : l ≤ k) (j : Nat) : KP key (bubble p k (k - l)) j = if j = l then KP key p k else if l < j ∧ j ≤ k then KP key p (j - 1) else KP key p j := by
  have e := getElem?_bubble (xs := p) hk (k - l) (by omega) j
  have e2 : k - (k - l) = l := by omega
  rw [e2] at e
  unfold KP at0
  rw [e]
  by_cases h : j = l
  · rw [if_pos h, if_pos h]
  · rw [if_neg h, if_neg h]
    by_cases h2 : l < j ∧ j ≤ k
    · rw [if_pos h2, if_pos h2]
    · rw [if_neg h2, if_neg h2]
noncomputable def Asc (lt : κ → κ → Bool) (f : Nat → κ) (m : Nat) : Prop := ∀ i j, i ≤ j → j < m → lt (f j) (f i) = false
noncomputable def Dsc (lt : κ → κ → Bool) (f : Nat → κ) (m : Nat) : Prop := ∀ i j, i ≤ j → j < m → lt (f i) (f j) = false
theorem Asc.one (o : Lin lt) (f : Nat → κ) : Asc lt f 1 := fun i j h1 h2 => by
  obtain rfl : j = 0 := by omega
  obtain rfl : i = 0 := by omega
  exact o.irr _
theorem Asc.snoc (o : Lin lt) {f : Nat → κ} {m : Nat} (hm : 1 ≤ m) (h : Asc lt f m) (hs : lt (f m) (f (m - 1)) = false) : Asc lt f (m + 1) := fun i j h1 h2 => by
  by_cases hj : j = m
  · subst hj
    by_cases hi : i = j
    · subst hi; exact o.irr _
    · exact o.le_trans (h i (j - 1) (by omega) (by omega)) hs
  · exact h i j h1 (by omega)
theorem Dsc.snoc (o : Lin lt) {f : Nat → κ} {m : Nat} (hm : 1 ≤ m) (h : Dsc lt f m) (hs : lt (f (m - 1)) (f m) = false) : Dsc lt f (m + 1) := fun i j h1 h2 => by
  by_cases hj : j = m
  · subst hj
    by_cases hi : i = j
    · subst hi; exact o.irr _
    · exact o.le_trans hs (h i (j - 1) (by omega) (by omega))
  · exact h i j h1 (by omega)
noncomputable abbrev ansK (lt : κ → κ → Bool) (key : Nat → κ) (i j : Nat) : Bool := lt (key i) (key j)
theorem asc_ok (o : Lin lt) {p : Array Nat} (v : Vp n p) {Q : Nat → Prop} : ∀ (f a : Nat), 1 ≤ a → a + f ≤ n → Asc lt (KP key p) a →
    (∀ m, a ≤ m → m ≤ a + f → Asc lt (KP key p) m → (m < a + f → lt (KP key p m) (KP key p (m - 1)) = true) → Q m) → KAll n (ansK lt key) (kas_asc p f a) Q
  | 0, a, h1, h2, hs, hQ => hQ a (Nat.le_refl _) (Nat.le_refl _) hs (fun h => absurd h (by omega))
  | f + 1, a, h1, h2, hs, hQ => by
    unfold kas_asc
    rw [at0_getD, at0_getD]
    refine ⟨v.dom (by omega), v.dom (by omega), ?_⟩
    show KAll _ _ (if lt (KP key p a) (KP key p (a - 1)) = true then _ else _) _
    by_cases hc : lt (KP key p a) (KP key p (a - 1)) = true
    · rw [if_pos hc]
      exact hQ a (Nat.le_refl _) (by omega) hs (fun _ => hc)
    · rw [if_neg hc]
      have hc' : lt (KP key p a) (KP key p (a - 1)) = false := by simpa using hc
      exact asc_ok o v f (a + 1) (by omega) (by omega) (hs.snoc o h1 hc') fun m h3 h4 h5 h6 => hQ m (by omega) (by omega) h5 fun h => h6 (by omega)
theorem desc_ok (o : Lin lt) {Q : Array Nat × Nat × Nat → Prop} : ∀ (f : Nat) (p : Array Nat) (a q : Nat), Vp n p → 1 ≤ a → q + 1 ≤ a → a + f ≤ n → Dsc lt (KP key p) a → (∀ k, a - (q + 1) ≤ k → k < a → KP key p k = KP key p (a - 1)) →
    (∀ p' m q', Vp n p' → a ≤ m → m ≤ a + f → q' + 1 ≤ m → Dsc lt (KP key p') m → (∀ k, m - (q' + 1) ≤ k → k < m → KP key p' k = KP key p' (m - 1)) → Q (p', m, q')) → KAll n (ansK lt key) (kas_desc f p a q) Q
  | 0, p, a, q, v, h1, hq, h2, hd, he, hQ => hQ p a q v (Nat.le_refl _) (Nat.le_refl _) hq hd he
  | f + 1, p, a, q, v, h1, hq, h2, hd, he, hQ => by
    unfold kas_desc
    rw [at0_getD, at0_getD]
    refine ⟨v.dom (by omega), v.dom (by omega), ?_⟩
    show KAll _ _ (if lt (KP key p a) (KP key p (a - 1)) = true then _ else _) _
    by_cases hc : lt (KP key p a) (KP key p (a - 1)) = true
    · rw [if_pos hc]
      have hd2 := hd.snoc o h1 (o.asymm hc)
      by_cases hq0 : q > 0
      · rw [if_pos hq0]
        have hz : a ≤ p.size := by rw [v.size]; omega
        have e : KP key (kas_rev p (a - (q + 1)) a) = KP key p := funext fun k => kp_rev_eq hz he k
        refine desc_ok o f _ (a + 1) 0 (v.rev _ _) (by omega) (by omega) (by omega) (by rw [e]; exact hd2) (fun k h3 h4 => ?_) fun p' m q' v' h3 h4 h5 h6 h7 => hQ p' m q' v' (by omega) (by omega) h5 h6 h7
        obtain rfl : k = a := by omega
        rfl
      · rw [if_neg hq0]
        refine desc_ok o f p (a + 1) 0 v (by omega) (by omega) (by omega) hd2 (fun k h3 h4 => ?_) fun p' m q' v' h3 h4 h5 h6 h7 => hQ p' m q' v' (by omega) (by omega) h5 h6 h7
        obtain rfl : k = a := by omega
        rfl
    · rw [if_neg hc]
      have hc' : lt (KP key p a) (KP key p (a - 1)) = false := by simpa using hc
      refine ⟨v.dom (by omega), v.dom (by omega), ?_⟩
      show KAll _ _ (if lt (KP key p (a - 1)) (KP key p a) = true then _ else _) _
      by_cases hc2 : lt (KP key p (a - 1)) (KP key p a) = true
      · rw [if_pos hc2]
        exact hQ p a q v (Nat.le_refl _) (by omega) hq hd he
      · rw [if_neg hc2]
        have hc2' : lt (KP key p (a - 1)) (KP key p a) = false := by simpa using hc2
        have ee : KP key p a = KP key p (a - 1) := o.tot hc' hc2'
        refine desc_ok o f p (a + 1) (q + 1) v (by omega) (by omega) (by omega) (hd.snoc o h1 hc2') (fun k h3 h4 => ?_) fun p' m q' v' h3 h4 h5 h6 h7 => hQ p' m q' v' (by omega) (by omega) h5 h6 h7
        show KP key p k = KP key p a
        by_cases hk : k = a
        · rw [hk]
        · rw [ee]; exact he k (by omega) (by omega)
theorem tail3_ok (o : Lin lt) {p : Array Nat} {a : Nat} (v : Vp n p) (h1 : 1 ≤ a) (h2 : a ≤ n) (hd : Dsc lt (KP key p) a) {Q : Nat × Array Nat → Prop}
    (hQ : ∀ m p', Vp n p' → 1 ≤ m → m ≤ n → Asc lt (KP key p') m → Q (m, p')) : KAll n (ansK lt key) (kas_tail3 a n p) Q := by
  unfold kas_tail3
  have hz : a ≤ p.size := by rw [v.size]; omega
  refine KAll.bind (asc_ok o (v.rev 0 a) (n - a) a h1 (by omega) (fun i j hi hj => ?_) fun m h3 h4 h5 _ => hQ m _ (v.rev 0 a) (by omega) (by omega) h5)
  rw [kp_rev hz, kp_rev hz, if_pos (by omega), if_pos (by omega)]
  exact hd _ _ (by omega) (by omega)
theorem descPart_ok (o : Lin lt) {p : Array Nat} {a : Nat} (v : Vp n p) (h1 : 1 ≤ a) (h2 : a < n) (hd : Dsc lt (KP key p) (a + 1)) {Q : Nat × Array Nat → Prop}
    (hQ : ∀ m p', Vp n p' → 1 ≤ m → m ≤ n → Asc lt (KP key p') m → Q (m, p')) : KAll n (ansK lt key) (kas_descPart a n p) Q := by
  unfold kas_descPart
  refine KAll.bind (desc_ok o (n - (a + 1)) p (a + 1) 0 v (by omega) (by omega) (by omega) hd (fun k h3 h4 => ?_) fun p' m q' v' h3 h4 h5 h6 h7 => ?_)
  · obtain rfl : k = a := by omega
    rfl
  · dsimp only
    by_cases hq : q' > 0
    · rw [if_pos hq]
      have hz : m ≤ p'.size := by rw [v'.size]; omega
      have e : KP key (kas_rev p' (m - (q' + 1)) m) = KP key p' := funext fun k => kp_rev_eq hz h7 k
      exact tail3_ok o (v'.rev _ _) (by omega) (by omega) (by rw [e]; exact h6) hQ
    · rw [if_neg hq]
      exact tail3_ok o v' (by omega) (by omega) h6 hQ
theorem count_ok (o : Lin lt) {p : Array Nat} (v : Vp n p) (h1 : 1 ≤ n) {Q : Nat × Array Nat → Prop}
    (hQ : ∀ m p', Vp n p' → 1 ≤ m → m ≤ n → Asc lt (KP key p') m → Q (m, p')) : KAll n (ansK lt key) (kas_count n p) Q := by
  unfold kas_count
  refine KAll.bind (asc_ok o v (n - 1) 1 (Nat.le_refl _) (by omega) (Asc.one o _) fun m h3 h4 h5 h6 => ?_)
  by_cases hm : m = n
  · subst hm
    rw [if_pos (by simp)]
    exact hQ m p v h3 (by omega) h5
  · rw [if_neg (by simpa using hm)]
    have hdrop := h6 (by omega)
    by_cases hm1 : m > 1
    · rw [if_pos hm1, at0_getD, at0_getD]
      refine ⟨v.dom (by omega), v.dom (by omega), ?_⟩
      show KAll _ _ (if lt (KP key p 0) (KP key p (m - 1)) = true then _ else _) _
      by_cases hc : lt (KP key p 0) (KP key p (m - 1)) = true
      · rw [if_pos hc]
        exact hQ m p v h3 (by omega) h5
      · rw [if_neg hc]
        have hc' : lt (KP key p 0) (KP key p (m - 1)) = false := by simpa using hc
        have all : ∀ k, k < m → KP key p k = KP key p (m - 1) := fun k hk =>
          o.tot (o.le_trans (h5 k (m - 1) (by omega) (by omega)) (o.irr _) |> fun _ => o.le_trans hc' (h5 0 k (by omega) hk)) (h5 k (m - 1) (by omega) (by omega))
        have hz : m ≤ p.size := by rw [v.size]; omega
        have e : KP key (kas_rev p 0 m) = KP key p := funext fun k => kp_rev_eq hz (fun k _ hk => all k hk) k
        refine descPart_ok o (v.rev _ _) (by omega) (by omega) ?_ hQ
        rw [e]
        refine Dsc.snoc o (by omega) (fun i j hi hj => ?_) (o.asymm hdrop)
        rw [all i (by omega), all j hj]; exact o.irr _
    · rw [if_neg hm1]
      obtain rfl : m = 1 := by omega
      refine descPart_ok o v (by omega) (by omega) (Dsc.snoc o (by omega) (fun i j hi hj => ?_) (o.asymm hdrop)) hQ
      obtain rfl : j = 0 := by omega
      obtain rfl : i = 0 := by omega
      exact o.irr _
theorem place_ok (o : Lin lt) {p : Array Nat} {k : Nat} (v : Vp n p) (hk : k < n) (hs : Asc lt (KP key p) k) {Q : Nat → Prop}
    (hQ : ∀ l, l ≤ k → (∀ i, i < l → lt (KP key p k) (KP key p i) = false) → (∀ i, l ≤ i → i < k → lt (KP key p i) (KP key p k) = false) → Q l) : ∀ (f l r : Nat), l ≤ r → r ≤ k → r - l ≤ f →
    (∀ i, i < l → lt (KP key p k) (KP key p i) = false) → (∀ i, r ≤ i → i < k → lt (KP key p i) (KP key p k) = false) → KAll n (ansK lt key) (kas_place p k f l r) Q
  | 0, l, r, h1, h2, h3, h4, h5 => by
    obtain rfl : l = r := by omega
    exact hQ l (by omega) h4 h5
  | f + 1, l, r, h1, h2, h3, h4, h5 => by
    unfold kas_place
    by_cases hlr : l ≥ r
    · rw [if_pos hlr]
      obtain rfl : l = r := by omega
      exact hQ l (by omega) h4 h5
    · rw [if_neg hlr, at0_getD, at0_getD]
      refine ⟨v.dom (by omega), v.dom (by omega), ?_⟩
      show KAll _ _ (if lt (KP key p k) (KP key p ((l + r) / 2)) = true then _ else _) _
      by_cases hc : lt (KP key p k) (KP key p ((l + r) / 2)) = true
      · rw [if_pos hc]
        exact place_ok o v hk hs hQ f l ((l + r) / 2) (by omega) (by omega) (by omega) h4 fun i hi hik => o.le_trans (o.asymm hc) (hs _ _ hi hik)
      · rw [if_neg hc]
        have hc' : lt (KP key p k) (KP key p ((l + r) / 2)) = false := by simpa using hc
        exact place_ok o v hk hs hQ f ((l + r) / 2 + 1) r (by omega) (by omega) (by omega) (fun i hi => o.le_trans (hs i ((l + r) / 2) (by omega) (by omega)) hc') h5
theorem bin_ok (o : Lin lt) {Q : Array Nat → Prop} (hQ : ∀ p', Vp n p' → Asc lt (KP key p') n → Q p') : ∀ (f : Nat) (p : Array Nat) (k : Nat), Vp n p → k + f = n → Asc lt (KP key p) k → KAll n (ansK lt key) (kas_bin f p k) Q
  | 0, p, k, v, h, hs => by
    obtain rfl : k = n := by omega
    exact hQ p v hs
  | f + 1, p, k, v, h, hs => by
    unfold kas_bin
    refine KAll.bind (place_ok o v (by omega) hs (fun l hl h1 h2 => ?_) k 0 k (by omega) (Nat.le_refl _) (by omega) (fun i hi => absurd hi (by omega)) (fun i hi hk => absurd hk (by omega)))
    refine bin_ok o hQ f _ (k + 1) (v.bub _ _) (by omega) fun i j hi hj => ?_
    have hz : k < p.size := by rw [v.size]; omega
    rw [kp_bub hz hl, kp_bub hz hl]
    by_cases j1 : j = l
    · rw [if_pos j1]
      by_cases i1 : i = l
      · rw [if_pos i1]; exact o.irr _
      · rw [if_neg i1, if_neg (by omega)]
        exact h1 i (by omega)
    · rw [if_neg j1]
      by_cases j2 : l < j ∧ j ≤ k
      · rw [if_pos j2]
        by_cases i1 : i = l
        · rw [if_pos i1]; exact h2 _ (by omega) (by omega)
        · rw [if_neg i1]
          by_cases i2 : l < i ∧ i ≤ k
          · rw [if_pos i2]; exact hs _ _ (by omega) (by omega)
          · rw [if_neg i2]; exact hs _ _ (by omega) (by omega)
      · rw [if_neg j2, if_neg (by omega), if_neg (by omega)]
        exact hs _ _ hi (by omega)
/-- the sorting tree sorts -/
theorem sort_ok (o : Lin lt) (h1 : 1 ≤ n) {Q : Array Nat → Prop} (hQ : ∀ p', Vp n p' → Asc lt (KP key p') n → Q p') : KAll n (ansK lt key) (kas_sort n) Q := by
  unfold kas_sort
  refine KAll.bind (count_ok o (Array.Perm.refl _) h1 fun m p' v h3 h4 h5 => ?_)
  dsimp only
  by_cases hm : m < n
  · rw [if_pos hm]
    have e : max m 1 = m := by omega
    rw [e]
    exact bin_ok o hQ (n - m) p' m v (by omega) h5
  · rw [if_neg hm]
    obtain rfl : m = n := by omega
    exact hQ p' v h5
end
end Mine
end
/-! PL3 -/
section
open PySem PySem.W PyProof.Rows
set_option maxRecDepth 100000
set_option linter.unusedVariables false
namespace Mine
theorem ltL_lin : Lin ltL := ⟨ltL_irrefl, fun h1 h2 => ltL_trans h1 h2, fun h1 h2 => ltL_total h1 h2⟩
/-- P is the longest list that all of xss begin with -/
structure IsLcp (P : List Str) (xss : List (List Str)) : Prop where
  all : ∀ r ∈ xss, P <+: r
  max : ∀ Q : List Str, (∀ r ∈ xss, Q <+: r) → Q <+: P
theorem pre_antisymm {P Q : List Str} (h : P <+: Q) (k : Q <+: P) : P = Q := h.eq_of_length (Nat.le_antisymm h.length_le k.length_le)
theorem IsLcp.uniq {P Q : List Str} {xss : List (List Str)} (h : IsLcp P xss) (k : IsLcp Q xss) : P = Q := pre_antisymm (k.max P h.all) (h.max Q k.all)
theorem IsLcp.same {P : List Str} {xss yss : List (List Str)} (h : IsLcp P xss) (e : ∀ r, r ∈ xss ↔ r ∈ yss) : IsLcp P yss :=
  ⟨fun r hr => h.all r ((e r).mpr hr), fun Q hQ => h.max Q fun r hr => hQ r ((e r).mp hr)⟩
theorem cpL_pre : ∀ {xs ys : List Str}, cpL xs ys <+: xs
  | [], ys => by cases ys <;> exact List.nil_prefix
  | x :: xs, [] => List.nil_prefix
  | x :: xs, y :: ys => by
    unfold cpL
    by_cases h : (x == y) = true
    · rw [if_pos h]; exact List.cons_prefix_cons.mpr ⟨rfl, cpL_pre⟩
    · rw [if_neg h]; exact List.nil_prefix
theorem cpL_max : ∀ {Q xs ys : List Str}, Q <+: xs → Q <+: ys → Q <+: cpL xs ys
  | [], _, _, _, _ => List.nil_prefix
  | q :: Q, [], _, h, _ => by simp at h
  | q :: Q, x :: xs, [], _, h => by simp at h
  | q :: Q, x :: xs, y :: ys, h1, h2 => by
    have k1 := List.cons_prefix_cons.mp h1
    have k2 := List.cons_prefix_cons.mp h2
    have e : x = y := k1.1.symm.trans k2.1
    unfold cpL
    rw [if_pos (by rw [e]; exact beq_self_eq_true _)]
    exact List.cons_prefix_cons.mpr ⟨k1.1, cpL_max k1.2 k2.2⟩
/-- what the least and the greatest begin with, all between begin with -/
theorem cpL_mid : ∀ {xs ys zs : List Str}, ltL zs xs = false → ltL ys zs = false → cpL xs ys <+: zs
  | [], ys, zs, _, _ => by cases ys <;> exact List.nil_prefix
  | x :: xs, [], zs, _, _ => List.nil_prefix
  | x :: xs, y :: ys, zs, h1, h2 => by
    unfold cpL
    by_cases h : (x == y) = true
    · rw [if_pos h]
      obtain rfl : x = y := eq_of_beq h
      cases zs with
      | nil => simp [ltL] at h1
      | cons z zs =>
        simp only [ltL] at h1 h2
        by_cases e : (z == x) = true
        · obtain rfl : z = x := eq_of_beq e
          rw [if_pos (beq_self_eq_true _)] at h1 h2
          exact List.cons_prefix_cons.mpr ⟨rfl, cpL_mid h1 h2⟩
        · rw [if_neg e] at h1
          have e2 : ¬ (x == z) = true := fun q => e (by have q' : x = z := eq_of_beq q; rw [q']; exact beq_self_eq_true _)
          rw [if_neg e2] at h2
          have h3 := of_decide_eq_false h1
          have h4 := of_decide_eq_false h2
          exact absurd (by rw [str_eq_of (List.le_antisymm h4 h3)]; exact beq_self_eq_true _) e
    · rw [if_neg h]; exact List.nil_prefix
theorem rowAt_mem {xss : List (List Str)} {r : List Str} (h : r ∈ xss) : ∃ j, j < xss.length ∧ rowAt xss j = r := by
  obtain ⟨j, hj, e⟩ := List.getElem_of_mem h
  exact ⟨j, hj, by unfold rowAt; rw [List.getElem?_eq_getElem hj, e]; rfl⟩
theorem rowAt_in {xss : List (List Str)} {j : Nat} (h : j < xss.length) : rowAt xss j ∈ xss := by
  unfold rowAt; rw [List.getElem?_eq_getElem h]; exact List.getElem_mem h
theorem lcp_between {xss : List (List Str)} {a b : List Str} (ha : a ∈ xss) (hb : b ∈ xss) (h1 : ∀ r ∈ xss, ltL r a = false) (h2 : ∀ r ∈ xss, ltL b r = false) : IsLcp (cpL a b) xss :=
  ⟨fun r hr => cpL_mid (h1 r hr) (h2 r hr), fun Q hQ => cpL_max (hQ a ha) (hQ b hb)⟩
theorem lcp_minmax {xss : List (List Str)} (hn : 0 < xss.length) : IsLcp (cpL (rowAt xss (argBest (btLt xss) (xss.length - 1))) (rowAt xss (argBest (btGt xss) (xss.length - 1)))) xss := by
  obtain ⟨a1, a2⟩ := argMin_is xss (xss.length - 1)
  obtain ⟨b1, b2⟩ := argMax_is xss (xss.length - 1)
  refine lcp_between (rowAt_in (by omega)) (rowAt_in (by omega)) (fun r hr => ?_) (fun r hr => ?_)
  · obtain ⟨j, hj, rfl⟩ := rowAt_mem hr
    exact a2 j (by omega)
  · obtain ⟨j, hj, rfl⟩ := rowAt_mem hr
    exact b2 j (by omega)
theorem IsLcp.one (r : List Str) : IsLcp r [r] := ⟨fun q hq => by simp at hq; subst hq; exact List.prefix_refl _, fun Q hQ => hQ r (.head _)⟩
theorem IsLcp.snoc {P P' r : List Str} {xss : List (List Str)} (h : IsLcp P xss) (k : IsLcp P' [P, r]) : IsLcp P' (xss ++ [r]) := by
  refine ⟨fun q hq => ?_, fun Q hQ => k.max Q fun q hq => ?_⟩
  · rcases List.mem_append.mp hq with hq | hq
    · exact (k.all P (.head _)).trans (h.all q hq)
    · simp at hq; subst hq; exact k.all _ (.tail _ (.head _))
  · simp only [List.mem_cons, List.not_mem_nil, or_false] at hq
    rcases hq with rfl | rfl
    · exact h.max Q fun q hq => hQ q (List.mem_append_left _ hq)
    · exact hQ _ (List.mem_append_right _ (.head _))
/-- the first and the last of a sorted list tell of all -/
theorem lcp_ends {xss : List (List Str)} {P : List Str} (hs : Asc ltL (rowAt xss) xss.length) (hn : 0 < xss.length) (h : IsLcp P [rowAt xss 0, rowAt xss (xss.length - 1)]) : IsLcp P xss := by
  have e : IsLcp (cpL (rowAt xss 0) (rowAt xss (xss.length - 1))) xss := lcp_between (rowAt_in hn) (rowAt_in (by omega))
    (fun r hr => by obtain ⟨j, hj, rfl⟩ := rowAt_mem hr; exact hs 0 j (by omega) hj)
    (fun r hr => by obtain ⟨j, hj, rfl⟩ := rowAt_mem hr; exact hs j _ (by omega) (by omega))
  have h0 : ltL (rowAt xss (xss.length - 1)) (rowAt xss 0) = false := hs 0 _ (by omega) (by omega)
  have e2 : IsLcp (cpL (rowAt xss 0) (rowAt xss (xss.length - 1))) [rowAt xss 0, rowAt xss (xss.length - 1)] := lcp_between (.head _) (.tail _ (.head _))
    (fun r hr => by simp only [List.mem_cons, List.not_mem_nil, or_false] at hr; rcases hr with rfl | rfl; exact ltL_irrefl _; exact h0)
    (fun r hr => by simp only [List.mem_cons, List.not_mem_nil, or_false] at hr; rcases hr with rfl | rfl; exact h0; exact ltL_irrefl _)
  rw [h.uniq e2]; exact e
/-- the while loop's end: all agree below K, one parts at K -/
theorem lcp_shared {xss : List (List Str)} {r0 : List Str} {K : Nat} (h0 : r0 ∈ xss) (hb : ∀ k, k < K → ∀ r ∈ xss, (r.drop k).take 1 = (r0.drop k).take 1 ∧ k < r.length)
    (he : ∃ r ∈ xss, (r.drop K).take 1 ≠ (r0.drop K).take 1 ∨ r.length ≤ K) : IsLcp (r0.take K) xss := by
  have hlen : ∀ r ∈ xss, K ≤ r.length := fun r hr => by
    cases K with
    | zero => exact Nat.zero_le _
    | succ k => exact (hb k (Nat.lt_succ_self k) r hr).2
  have hget : ∀ r ∈ xss, ∀ k, k < K → r[k]? = r0[k]? := fun r hr k hk => by
    have e := (hb k hk r hr).1
    have e2 := congrArg (fun l : List Str => l[0]?) e
    simpa using e2
  have htake : ∀ r ∈ xss, r.take K = r0.take K := fun r hr => by
    apply List.ext_getElem?
    intro k
    by_cases hk : k < K
    · rw [List.getElem?_take_of_lt hk, List.getElem?_take_of_lt hk, hget r hr k hk]
    · rw [List.getElem?_eq_none (by rw [List.length_take]; omega), List.getElem?_eq_none (by rw [List.length_take]; omega)]
  refine ⟨fun r hr => by rw [← htake r hr]; exact List.take_prefix _ _, fun Q hQ => ?_⟩
  have hq0 := hQ r0 h0
  have hql : Q.length ≤ K := by
    obtain ⟨r, hr, hc⟩ := he
    rcases Nat.lt_or_ge K Q.length with hlt | hge
    · exfalso
      have h1 := hQ r hr
      rcases hc with hc | hc
      · apply hc
        obtain ⟨t, rfl⟩ := h1
        obtain ⟨t0, rfl⟩ := hq0
        rw [List.drop_append_of_le_length (Nat.le_of_lt hlt), List.drop_append_of_le_length (Nat.le_of_lt hlt)]
        have h2 : 1 ≤ (Q.drop K).length := by rw [List.length_drop]; omega
        rw [List.take_append_of_le_length h2, List.take_append_of_le_length h2]
      · have := h1.length_le; omega
    · exact hge
  have h2 := List.prefix_iff_eq_take.mp hq0
  rw [h2]
  have h3 : Q.length = min Q.length K := by omega
  rw [h3, ← List.take_take]
  exact List.take_prefix _ _
/-! the places of a sorted list -/
section
theorem count_take_lt {α : Type} [BEq α] [LawfulBEq α] {l : List α} {k : Nat} {x : α} (h : l[k]? = some x) : (l.take k).count x < l.count x := by
  have e : l.take (k + 1) = l.take k ++ [x] := by rw [List.take_add_one, h]; rfl
  have h1 : (l.take (k + 1)).count x ≤ l.count x := (List.take_sublist _ _).count_le _
  rw [e, List.count_append] at h1
  simp at h1; omega
theorem nth_of_count {α : Type} [BEq α] [LawfulBEq α] : ∀ {l : List α} {x : α} {j : Nat}, j < l.count x → ∃ k, l[k]? = some x ∧ (l.take k).count x = j
  | [], x, j, h => by simp at h
  | y :: l, x, j, h => by
    by_cases e : y = x
    · subst e
      cases j with
      | zero => exact ⟨0, rfl, rfl⟩
      | succ j =>
        rw [List.count_cons_self] at h
        obtain ⟨k, h1, h2⟩ := nth_of_count (l := l) (x := y) (j := j) (by omega)
        exact ⟨k + 1, by simpa using h1, by rw [List.take_succ_cons, List.count_cons_self, h2]⟩
    · rw [List.count_cons_of_ne e] at h
      obtain ⟨k, h1, h2⟩ := nth_of_count h
      exact ⟨k + 1, by simpa using h1, by rw [List.take_succ_cons, List.count_cons_of_ne e, h2]⟩
noncomputable def lessN (xss : List (List Str)) (x : List Str) : Nat := (xss.filter fun r => ltL r x).length
/-- the place of the k-th row -/
noncomputable def posN (xss : List (List Str)) (k : Nat) : Nat := lessN xss (rowAt xss k) + (xss.take k).count (rowAt xss k)
theorem less_count (xss : List (List Str)) (x : List Str) : lessN xss x + xss.count x ≤ xss.length := by
  induction xss with
  | nil => simp [lessN]
  | cons r xss ih =>
    unfold lessN at ih ⊢
    by_cases e : r = x
    · subst e
      rw [List.filter_cons_of_neg (by rw [ltL_irrefl]; decide), List.count_cons_self, List.length_cons]; omega
    · rw [List.count_cons_of_ne e, List.length_cons]
      by_cases h : ltL r x = true
      · rw [List.filter_cons_of_pos (p := fun r => ltL r x) h, List.length_cons]; omega
      · rw [List.filter_cons_of_neg (p := fun r => ltL r x) h]; omega
theorem pos_lt {xss : List (List Str)} {k : Nat} (hk : k < xss.length) : posN xss k < xss.length := by
  have h : xss[k]? = some (rowAt xss k) := by unfold rowAt; rw [List.getElem?_eq_getElem hk]; rfl
  have h1 := count_take_lt h
  have h2 := less_count xss (rowAt xss k)
  unfold posN; omega
theorem asc_split {S : List (List Str)} (hs : Asc ltL (rowAt S) S.length) {i : Nat} (hi : i < S.length) : lessN S (rowAt S i) ≤ i ∧ i < lessN S (rowAt S i) + S.count (rowAt S i) := by
  have eS : S = S.take i ++ S.drop i := (List.take_append_drop i S).symm
  have hrow : ∀ {j : Nat} {r : List Str}, S[j]? = some r → rowAt S j = r := fun h => by unfold rowAt; rw [h]; rfl
  constructor
  · have e : lessN S (rowAt S i) = ((S.take i).filter fun r => ltL r (rowAt S i)).length + ((S.drop i).filter fun r => ltL r (rowAt S i)).length := by
      unfold lessN
      conv => lhs; rw [eS]
      rw [List.filter_append, List.length_append]
      rw [← eS]
    have e2 : (S.drop i).filter (fun r => ltL r (rowAt S i)) = [] := by
      rw [List.filter_eq_nil_iff]
      intro r hr
      obtain ⟨j, hj⟩ := List.getElem?_of_mem hr
      rw [List.getElem?_drop] at hj
      have h1 := (List.getElem?_eq_some_iff.mp hj).1
      have := hs i (i + j) (by omega) h1
      rw [hrow hj] at this
      rw [this]; decide
    rw [e, e2]
    have := List.length_filter_le (fun r => ltL r (rowAt S i)) (S.take i)
    rw [List.length_take] at this
    simp only [List.length_nil]; omega
  · have key : ∀ l : List (List Str), (∀ r ∈ l, ltL (rowAt S i) r = false) → l.length ≤ lessN l (rowAt S i) + l.count (rowAt S i) := by
      intro l
      induction l with
      | nil => intro _; simp
      | cons r l ih =>
        intro h
        have h1 := ih fun q hq => h q (.tail _ hq)
        unfold lessN at h1 ⊢
        by_cases e : r = rowAt S i
        · rw [← e] at h1 ⊢
          rw [List.filter_cons_of_neg (by rw [ltL_irrefl]; decide), List.count_cons_self, List.length_cons]; omega
        · rw [List.count_cons_of_ne e, List.length_cons]
          have h2 : ltL r (rowAt S i) = true := by
            cases e2 : ltL r (rowAt S i) with
            | true => rfl
            | false => exact absurd (ltL_total e2 (h r (.head _))) e
          rw [List.filter_cons_of_pos (p := fun r => ltL r (rowAt S i)) h2, List.length_cons]; omega
    have h1 := key (S.take (i + 1)) fun r hr => by
      obtain ⟨j, hj⟩ := List.getElem?_of_mem hr
      have hjl := (List.getElem?_eq_some_iff.mp hj).1
      rw [List.length_take] at hjl
      rw [List.getElem?_take_of_lt (by omega)] at hj
      have := hs j i (by omega) hi
      rw [hrow hj] at this; exact this
    have h2 : lessN (S.take (i + 1)) (rowAt S i) ≤ lessN S (rowAt S i) := ((List.take_sublist _ _).filter _).length_le
    have h3 : (S.take (i + 1)).count (rowAt S i) ≤ S.count (rowAt S i) := (List.take_sublist _ _).count_le _
    rw [List.length_take] at h1
    omega
/-- each place of the sorted list is some row's place, and holds that row -/
theorem pos_all {S xss : List (List Str)} (hp : S.Perm xss) (hs : Asc ltL (rowAt S) S.length) {i : Nat} (hi : i < S.length) : ∃ k, xss[k]? = some (rowAt S i) ∧ posN xss k = i := by
  obtain ⟨h1, h2⟩ := asc_split hs hi
  have e1 : lessN S (rowAt S i) = lessN xss (rowAt S i) := (hp.filter _).length_eq
  have e2 : S.count (rowAt S i) = xss.count (rowAt S i) := hp.count_eq _
  rw [e1] at h1 h2
  rw [e2] at h2
  obtain ⟨k, h3, h4⟩ := nth_of_count (l := xss) (x := rowAt S i) (j := i - lessN xss (rowAt S i)) (by omega)
  have h5 : rowAt xss k = rowAt S i := by unfold rowAt at h3 ⊢; rw [h3]; rfl
  exact ⟨k, h3, by unfold posN; rw [h5, h4]; omega⟩
end
end Mine
end
/-! Sl1 -/
section
open PySem PySem.W PyProof.Rows PySem.Calls
set_option maxRecDepth 100000
set_option linter.unusedVariables false
namespace Mine
section
variable {w : World} {A : Around} {E : Value → Shared → Prop} {s : Shared} {h₀ : Heap} {L : Addr} {m : Str → Option Value} {news : List (Addr × Obj)} {l : Addr} {vals : List Value} {Q : Value → Shared → Prop} {value slice : Expr}
/-- l[i] -/
theorem item_at {i : Nat} {x : Value} {u : Tok} (hl : s.heap.IsList l vals.toArray) (hi : i < 1000) (hx : vals[i]? = some x) (h : Q x s)
    (hs : subscripted slice false (.ref l) (.int (i : Int) u) = operate [.ref l, .int (i : Int) u] (getItem (.ref l) (.int (i : Int) u)) := by with_unfolding_all rfl) :
    wpAny (model prog w) A (subscriptTail value slice (.ref l) (.int (i : Int) u)) Q E s :=
  tail_any hl.typeIs slot_list_getitem.lookup (wpAny_getItem_list hl (by omega) (by omega) (by simpa using hx) h) hs
/-- l[:i] -/
theorem slice_upto {i : Nat} {u : Tok} (F : Fr h₀ L s.heap m) (N : News h₀ L s.heap news) (hl : s.heap.IsList l vals.toArray) (hz : vals.length ≤ 10000)
    (h : ∀ D h', Fr h₀ L h' m → News h₀ L h' ((D, W.listOf (vals.take i).toArray 0) :: news) → (∀ p ∈ news, p.1 < D) → Q (.ref D) { s with heap := h' })
    (hs : subscripted slice false (.ref l) (.ref s.heap.objs.size) = operate [.ref s.heap.objs.size, .ref l] (getItem (.ref l) (.ref s.heap.objs.size)) := by with_unfolding_all rfl)
    (ht : ∀ r, letTemporaryGo value (.ref l) r = pure () := by intro _; with_unfolding_all rfl) :
    wpAny (model prog w) A (subscriptTail value slice (.ref l) (.ref s.heap.objs.size)) Q E { s with heap := s.heap.push { cls := .type "slice", data := .fields #[.none, .int (i : Int) u, .none] } } :=
  kmk_slice_lit F N hl .none (.int _ _) (by rw [slicePick_upto']) h hs ht (by rw [List.size_toArray]; exact Nat.le_trans hz (by decide))
theorem drop_take_one {α : Type} (l : List α) (k : Nat) : (l.drop (min k l.length)).take (min (k + 1) l.length - min k l.length) = (l.drop k).take 1 := by
  rcases Nat.lt_or_ge k l.length with h | h
  · have e1 : min k l.length = k := by omega
    have e2 : min (k + 1) l.length - k = 1 := by omega
    rw [e1, e2]
  · have e1 : min k l.length = l.length := by omega
    have e2 : min (k + 1) l.length - l.length = 0 := by omega
    rw [e1, e2, List.drop_eq_nil_of_le (Nat.le_refl _), List.drop_eq_nil_of_le h]; rfl
theorem pick_k1 (items : List Value) (k : Nat) : slicePick items.toArray (some (k : Int)) (some ((k : Int) + 1)) none = ((items.drop k).take 1).toArray := by
  rw [kms_pick_eq]
  have e : kms_pick items (some (k : Int)) (some ((k : Int) + 1)) = (items.drop (min k items.length)).take (min (k + 1) items.length - min k items.length) := by
    unfold kms_pick
    have e1 : kms_lo (some (k : Int)) items.length = min k items.length := by
      unfold kms_lo; dsimp only
      rw [if_neg (by omega)]; simp
    have e2 : kms_hi (some ((k : Int) + 1)) items.length = min (k + 1) items.length := by
      unfold kms_hi; dsimp only
      rw [if_neg (by omega)]; congr 1
    rw [e1, e2]
  rw [← drop_take_one, ← e]
/-- l[k:k+1] -/
theorem slice_one {k : Nat} {u u2 : Tok} (F : Fr h₀ L s.heap m) (N : News h₀ L s.heap news) (hl : s.heap.IsList l vals.toArray) (hz : vals.length ≤ 10000)
    (h : ∀ D h', Fr h₀ L h' m → News h₀ L h' ((D, W.listOf ((vals.drop k).take 1).toArray 0) :: news) → (∀ p ∈ news, p.1 < D) → Q (.ref D) { s with heap := h' })
    (hs : subscripted slice false (.ref l) (.ref s.heap.objs.size) = operate [.ref s.heap.objs.size, .ref l] (getItem (.ref l) (.ref s.heap.objs.size)) := by with_unfolding_all rfl)
    (ht : ∀ r, letTemporaryGo value (.ref l) r = pure () := by intro _; with_unfolding_all rfl) :
    wpAny (model prog w) A (subscriptTail value slice (.ref l) (.ref s.heap.objs.size)) Q E { s with heap := s.heap.push { cls := .type "slice", data := .fields #[.int (k : Int) u, .int ((k : Int) + 1) u2, .none] } } :=
  kmk_slice_lit F N hl (.int _ _) (.int _ _) (by rw [pick_k1]) h hs ht (by rw [List.size_toArray]; exact Nat.le_trans hz (by decide))
/-- a local's name, in any frame of a def -/
theorem ldC {env : Env} {x : Str} {pos : Pos} {v : Value} (F : Fr h₀ env.locals s.heap m) (hv : m x = some v) (h : Q v s) (hk : env.scope.kind = .function := by rfl) (hl : env.kindOf x = some .local := by rfl)
    (hd : (x == ("__debug__" : Str)) = false := by decide) : wpAny (model prog w) A (eval (.Name x pos) env) Q E s := wpAny_Name (wpAny_loadName_local hk hl F.ns hv h) hd
/-- a cell's name -/
theorem ldCC {env : Env} {x : Str} {pos : Pos} {v : Value} {c : Addr} {oc : Obj} (N : News h₀ L s.heap news) (hm : (c, oc) ∈ news) (he : oc.data = .cell (some v)) (hc : env.cells.lookup x = some c) (h : Q v s) (hk : env.scope.kind = .function := by rfl) (hl : env.kindOf x = some .cell := by rfl)
    (hd : (x == ("__debug__" : Str)) = false := by decide) : wpAny (model prog w) A (eval (.Name x pos) env) Q E s := wpAny_Name (wpAny_loadName_cell hk hl hc ⟨_, (N _ hm).1, he⟩ h) hd
end
theorem StrsAre.take' {vs : List Value} {xs : List Str} (h : StrsAre vs xs) (i : Nat) : StrsAre (vs.take i) (xs.take i) := by
  induction h generalizing i with
  | nil => simp; exact .nil
  | cons x t h ih => cases i with
    | zero => exact .nil
    | succ i => exact .cons _ _ (ih i)
theorem StrsAre.drop' {vs : List Value} {xs : List Str} (h : StrsAre vs xs) (i : Nat) : StrsAre (vs.drop i) (xs.drop i) := by
  induction h generalizing i with
  | nil => simp; exact .nil
  | cons x t h ih => cases i with
    | zero => exact .cons _ _ h
    | succ i => exact ih i
end Mine
end
/-! P1 -/
section
open PySem PySem.W PyProof.Rows PySem.Calls
set_option maxRecDepth 100000
set_option linter.unusedVariables false
namespace Mine
local macro_rules | `(tactic| walk_at "exec Assign cons ListComp") => `(tactic| (refine Stop.out ?_))
local macro_rules | `(tactic| walk_at "call builtin:min") => `(tactic| (refine Stop.out ?_))
local macro_rules | `(tactic| walk_at "call builtin:max") => `(tactic| (refine Stop.out ?_))
local macro_rules | `(tactic| walk_at "exec For Tuple Call") => `(tactic| (refine Stop.out ?_))
local macro_rules | `(tactic| walk_at "call type:enumerate") => `(tactic| (refine Stop.out ?_))
/-- behind the loop -/
noncomputable def CommonB (s : Shared) (L : Addr) (oc1 : Obj) (ia : Bool) (P : List Str) (s₂ : Shared) : Prop :=
  ∃ h' tk' m' c Vc nc, s₂ = { s with heap := h', toks := tk' } ∧ Fr s.heap L h' m' ∧ News s.heap L h' [(c, W.listOf (List.toArray Vc) nc), (L + 1, oc1)] ∧ m' "common" = some (.ref c) ∧ m' "isabs" = some (.bool ia) ∧ StrsAre Vc P
set_option maxHeartbeats 8000000 in
theorem commonpath_ok {w : World} {A : Around} {s : Shared} {l : Addr} {vals : List Value} {ps : List Str}
   (C : Cx w s.heap) (r0 : Rm A 30 300) (hl : s.heap.IsList l vals.toArray) (hps : StrsAre vals ps) (hn : 0 < ps.length) (hz : ps.length ≤ 100) (hx : ∀ p ∈ ps, p.length ≤ 100) {ia : Bool} (hia : ∀ p ∈ ps, Txt.startswith p "/" = ia) :
   Does w A (call (.ref 134) [.ref l]) s (fun v _ => ∃ t' P, v = .str ((if ia then ("/" : Str) else "") ++ Txt.join "/" P) t' ∧ IsLcp P (ps.map fun p => (Txt.split p "/").filter keepC)) := by
  intro Q E h
  obtain ⟨ah, ad, af, ag, au⟩ := A
  obtain rfl : ah = none := r0.hh
  have hd := r0.dep
  dsimp only at hd
  have hsz : vals.length ≤ sizeLine := by rw [hps.length]; exact Nat.le_trans hz (by decide)
  have hfs : ∀ (A' : Around) (hA : A'.depth = ad + 1) (i : Nat) x (s' : Shared), vals[i]? = some x → Keeps s.heap s'.heap → Does w A' (call (.ref 94) [x]) s' (fun v _ => v = x) := fun A' hA i x s' hx k => by
    obtain ⟨c, tc, rfl, _⟩ := StrsAre.item hps i x hx
    exact fspath_ok (C.keeps k) (by rw [hA]; omega)
  obtain ⟨p0, t0, hv0⟩ : ∃ p0 t0, vals[0]? = some (.str p0 t0) := by
    cases hps with
    | nil => simp at hn
    | cons x t h => exact ⟨x, t, rfl⟩
  refine enterC (binds := [("paths", .ref l)]) C (by k_is) (by k_is) (by dsimp only; omega) (BindsTo.of_eq rfl) rfl (by decide) rfl rfl rfl (fun h₁ tk cells p loose mean mg mb F N Y X T => ?_)
  cases Y with
  | cons hc Y =>
  cases Y with
  | cons hc2 Y =>
  cases Y
  (repeat' (first | (k_unfold; (try dsimp only)) | (k_end; kc_close) | ((with_reducible show wpAny _ _ (PySem.call (PySem.Value.type "tuple") _ _) _ _ _); with_reducible (k_dflt (refine tuple_map_F rfl (by assumption) (by assumption) (by with_reducible assumption) (by with_reducible assumption) (by with_reducible assumption) (by with_reducible assumption) (by with_reducible assumption) (by with_reducible assumption) (by with_reducible assumption) (by with_reducible assumption) ?_ ?_; (focus (rename ∀ (A' : Around), _ → ∀ (i : Nat), _ => hfs; exact hfs _ rfl)); intro _ _ _ _ _))) | ((with_reducible show wpAny _ _ (PySem.call (PySem.Value.type "map") _ _) _ _ _); with_reducible (k_dflt (refine map_new_F (by assumption) (by assumption) (isl_keep (by with_reducible assumption) (by assumption)) ?_; intro _ _ _ _ _ _ _ _ _ _ _ _))) | ((with_reducible show wpAny _ _ (eval (PySem.Expr.Name _ _) _) _ _ _); with_reducible (k_dflt (first | refine ldVarK (Fr.ns (by assumption)) (by with_reducible assumption) ?_ | refine ldCellK rfl (Heap.IsCell.keeps (by with_reducible assumption) (Fr.keep (by assumption))) ?_ | (refine' ldC (h₀ := _) ?k1 ?k2 ?_; (case k1 => assumption); (case k2 => ((try dsimp only); (repeat rw [if_neg (by decide)]); first | rfl | with_reducible assumption))) | refine ldCC (by with_reducible assumption) (by k_mem) (by with_reducible assumption) rfl ?_))) | ((with_reducible show wpAny _ _ (subscriptTail (PySem.Expr.Name ..) (PySem.Expr.Constant ..) (PySem.Value.ref _) (PySem.Value.int _ _)) _ _ _); with_reducible (k_dflt (refine item_tup1 (by with_reducible assumption) (by k_mem) (by with_reducible assumption) ?_))) | ((with_reducible show wpAny _ _ (truthy (PySem.Value.ref _)) _ _ _); with_reducible (k_dflt (refine truthy_tup1 (by with_reducible assumption) (by k_mem) (by with_reducible assumption) (by with_reducible assumption) ?_))) | walk1 | (dsimp only; (first | ((with_reducible show wpAny _ _ (PySem.call (PySem.Value.type "tuple") _ _) _ _ _); with_reducible (k_dflt (refine tuple_map_F rfl (by assumption) (by assumption) (by with_reducible assumption) (by with_reducible assumption) (by with_reducible assumption) (by with_reducible assumption) (by with_reducible assumption) (by with_reducible assumption) (by with_reducible assumption) (by with_reducible assumption) ?_ ?_; (focus (rename ∀ (A' : Around), _ → ∀ (i : Nat), _ => hfs; exact hfs _ rfl)); intro _ _ _ _ _))) | ((with_reducible show wpAny _ _ (PySem.call (PySem.Value.type "map") _ _) _ _ _); with_reducible (k_dflt (refine map_new_F (by assumption) (by assumption) (isl_keep (by with_reducible assumption) (by assumption)) ?_; intro _ _ _ _ _ _ _ _ _ _ _ _))) | ((with_reducible show wpAny _ _ (eval (PySem.Expr.Name _ _) _) _ _ _); with_reducible (k_dflt (first | refine ldVarK (Fr.ns (by assumption)) (by with_reducible assumption) ?_ | refine ldCellK rfl (Heap.IsCell.keeps (by with_reducible assumption) (Fr.keep (by assumption))) ?_ | (refine' ldC (h₀ := _) ?k1 ?k2 ?_; (case k1 => assumption); (case k2 => ((try dsimp only); (repeat rw [if_neg (by decide)]); first | rfl | with_reducible assumption))) | refine ldCC (by with_reducible assumption) (by k_mem) (by with_reducible assumption) rfl ?_))) | ((with_reducible show wpAny _ _ (subscriptTail (PySem.Expr.Name ..) (PySem.Expr.Constant ..) (PySem.Value.ref _) (PySem.Value.int _ _)) _ _ _); with_reducible (k_dflt (refine item_tup1 (by with_reducible assumption) (by k_mem) (by with_reducible assumption) ?_))) | ((with_reducible show wpAny _ _ (truthy (PySem.Value.ref _)) _ _ _); with_reducible (k_dflt (refine truthy_tup1 (by with_reducible assumption) (by k_mem) (by with_reducible assumption) (by with_reducible assumption) ?_))) | walk1)) | (leave1; (try dsimp only)) | fail "no step"))
  refine wpAny_Try_except ?_
  refine wpAny_execs_cons ?_
  rename_i c1 c2 zz TI it gM hzi hTi hLi hLz h0z hnn D gA tkA g1 F1 N1 u1 u2 g2 oc1 F2 N2 as2 g3 oc2 F3 N3 as3
  clear F1 N1 F2 N2 hzi hTi hLi hLz h0z hnn hc hc2
  replace F3 : Fr s.heap s.heap.objs.size g3 _ := F3
  replace N3 : News s.heap s.heap.objs.size g3 [(D, tupO vals), (s.heap.objs.size + 1 + 1, oc2), (s.heap.objs.size + 1, oc1)] := N3
  have hsep : g3.IsCell (s.heap.objs.size + 1) (some (.str "/" _)) := ⟨_, (N3 _ (.tail _ (.tail _ (.head _)))).1, as2⟩
  have hcur : g3.IsCell (s.heap.objs.size + 1 + 1) (some (.str "." _)) := ⟨_, (N3 _ (.tail _ (.head _))).1, as3⟩
  dsimp only at F3 N3 hsep hcur as2 as3 ⊢
  refine assignCompK (h₀ := s.heap) (cl := [("sep", s.heap.objs.size + 1)]) rfl rfl (by decide) rfl (by decide) rfl rfl rfl ?_
  (repeat' (first | (k_unfold; (try dsimp only)) | (k_end; kc_close) | ((with_reducible show wpAny _ _ (eval (PySem.Expr.Name _ _) _) _ _ _); with_reducible (k_dflt (first | refine ldVarK (Fr.ns (by assumption)) (by with_reducible assumption) ?_ | refine ldCellK rfl (Heap.IsCell.keeps (by with_reducible assumption) (Fr.keep (by assumption))) ?_ | (refine' ldC (h₀ := _) ?k1 ?k2 ?_; (case k1 => assumption); (case k2 => ((try dsimp only); (repeat rw [if_neg (by decide)]); first | rfl | with_reducible assumption))) | refine ldCC (by with_reducible assumption) (by k_mem) (by with_reducible assumption) rfl ?_))) | walk1 | (dsimp only; (first | ((with_reducible show wpAny _ _ (eval (PySem.Expr.Name _ _) _) _ _ _); with_reducible (k_dflt (first | refine ldVarK (Fr.ns (by assumption)) (by with_reducible assumption) ?_ | refine ldCellK rfl (Heap.IsCell.keeps (by with_reducible assumption) (Fr.keep (by assumption))) ?_ | (refine' ldC (h₀ := _) ?k1 ?k2 ?_; (case k1 => assumption); (case k2 => ((try dsimp only); (repeat rw [if_neg (by decide)]); first | rfl | with_reducible assumption))) | refine ldCC (by with_reducible assumption) (by k_mem) (by with_reducible assumption) rfl ?_))) | walk1)) | (leave1; (try dsimp only)) | fail "no step"))
  have hcx : Cx w g3 := C.keeps F3.keep
  have hts : vals.toArray.size = ps.length := by rw [List.size_toArray, hps.length]
  refine ⟨vals.toArray.size, _, fun i ys tl => ys.length = i ∧ RowsLed ys tl ((ps.take i).map fun p => Txt.split p "/"), D, iterOf_tuple rfl ⟨_, (N3 _ (.head _)).1, rfl, _, rfl⟩, ?_, ⟨rfl, .nil⟩, fun i ys tl h => Nat.le_of_eq h.1, ?_, ?_⟩
  · rw [List.size_toArray]; exact hsz
  · rintro i v ys tl CC m₃ h₃ tk₃ I oI DD hi hP ⟨hlen, hR⟩ F4 N4 hm off hID
    obtain ⟨c, tc, rfl, hc⟩ := StrsAre.item hps i v (by simpa using hP)
    have hcl : c.length ≤ 100 := hx c (List.mem_of_getElem? hc)
    dsimp only at F4 N4
    refine wpAny_tests_nil ?_
    rw [if_pos rfl]
    (repeat' (first | (k_unfold; (try dsimp only)) | (k_end; kc_close) | ((with_reducible show wpAny _ _ (PySem.call (PySem.Value.builtin "str.split") _ _) _ _ _); with_reducible (refine Does.frN (split_does (by decide) (by first | omega | (simp only [sizeLine]; omega))) (by assumption) (by assumption) ?_; (intro _ _ _ _ _ _ _ e'; obtain ⟨_, _, _, e1', e2', _⟩ := e'; subst e1'; subst e2'))) | ((with_reducible show wpAny _ _ (eval (PySem.Expr.Name _ _) _) _ _ _); with_reducible (k_dflt (first | refine ldVarK (Fr.ns (by assumption)) (by with_reducible assumption) ?_ | refine ldCellK rfl (Heap.IsCell.keeps (by with_reducible assumption) (Fr.keep (by assumption))) ?_ | (refine' ldC (h₀ := _) ?k1 ?k2 ?_; (case k1 => assumption); (case k2 => ((try dsimp only); (repeat rw [if_neg (by decide)]); first | rfl | with_reducible assumption))) | refine ldCC (by with_reducible assumption) (by k_mem) (by with_reducible assumption) rfl ?_))) | walk1 | (dsimp only; (first | ((with_reducible show wpAny _ _ (PySem.call (PySem.Value.builtin "str.split") _ _) _ _ _); with_reducible (refine Does.frN (split_does (by decide) (by first | omega | (simp only [sizeLine]; omega))) (by assumption) (by assumption) ?_; (intro _ _ _ _ _ _ _ e'; obtain ⟨_, _, _, e1', e2', _⟩ := e'; subst e1'; subst e2'))) | ((with_reducible show wpAny _ _ (eval (PySem.Expr.Name _ _) _) _ _ _); with_reducible (k_dflt (first | refine ldVarK (Fr.ns (by assumption)) (by with_reducible assumption) ?_ | refine ldCellK rfl (Heap.IsCell.keeps (by with_reducible assumption) (Fr.keep (by assumption))) ?_ | (refine' ldC (h₀ := _) ?k1 ?k2 ?_; (case k1 => assumption); (case k2 => ((try dsimp only); (repeat rw [if_neg (by decide)]); first | rfl | with_reducible assumption))) | refine ldCC (by with_reducible assumption) (by k_mem) (by with_reducible assumption) rfl ?_))) | walk1)) | (leave1; (try dsimp only)) | fail "no step"))
    rename_i h5 tk5 F5 S5 V5 n5 e5 N5 off5
    refine elt_end F5 (tl' := (S5, W.listOf V5.toArray n5) :: tl) (fun p hp => N5 p (by simp only [List.mem_cons, List.mem_append, List.not_mem_nil, or_false] at hp ⊢; rcases hp with hp | hp | hp | hp <;> simp [hp])) (fun p hp => ?_) ⟨by simp [hlen], ?_⟩
    · rcases List.mem_cons.mp hp with rfl | hp
      · exact ⟨off5 _ (.head _) (I, oI) (.head _), off5 _ (.head _) (DD, lst ys) (.tail _ (.head _))⟩
      · exact off p hp
    · rw [List.take_add_one, hc, List.map_append]
      exact hR.snoc e5
  · rintro ys tl ⟨hlen, hR⟩
    rw [hts, List.take_length] at hR
    refine ⟨_, _, F3, N3, fun D1 g4 tk4 F4 N4 hD1 => ?_⟩
    dsimp only at hD1
    replace F4 : Fr s.heap s.heap.objs.size g4 _ := F4
    have N5 : News s.heap s.heap.objs.size g4 ((D, tupO vals) :: (D1, lst ys) :: (s.heap.objs.size + 1 + 1, oc2) :: (s.heap.objs.size + 1, oc1) :: tl) := fun p hp => N4 p (by
      simp only [List.mem_cons, List.mem_append, List.not_mem_nil, or_false] at hp ⊢; rcases hp with hp | hp | hp | hp | hp <;> simp [hp])
    have hsep4 : g4.IsCell (s.heap.objs.size + 1) (some (.str "/" tk)) := ⟨_, (N5 _ (.tail _ (.tail _ (.tail _ (.head _))))).1, as2⟩
    clear N4 F3 N3 hsep hcur hcx
    dsimp only at F4 ⊢
    refine wpAny_execs_cons ?_
    refine wpAny_Try_except ?_
    refine wpAny_execs_cons ?_
    k_steps
    refine setCompK (b := ia) (cl := [("sep", s.heap.objs.size + 1)]) rfl (by decide) rfl (by decide) rfl ?_
    (repeat' (first | (k_unfold; (try dsimp only)) | (k_end; kc_close) | ((with_reducible show wpAny _ _ (eval (PySem.Expr.Name _ _) _) _ _ _); with_reducible (k_dflt (first | refine ldVarK (Fr.ns (by assumption)) (by with_reducible assumption) ?_ | refine ldCellK rfl (Heap.IsCell.keeps (by with_reducible assumption) (Fr.keep (by assumption))) ?_ | (refine' ldC (h₀ := _) ?k1 ?k2 ?_; (case k1 => assumption); (case k2 => ((try dsimp only); (repeat rw [if_neg (by decide)]); first | rfl | with_reducible assumption))) | refine ldCC (by with_reducible assumption) (by k_mem) (by with_reducible assumption) rfl ?_))) | walk1 | (dsimp only; (first | ((with_reducible show wpAny _ _ (eval (PySem.Expr.Name _ _) _) _ _ _); with_reducible (k_dflt (first | refine ldVarK (Fr.ns (by assumption)) (by with_reducible assumption) ?_ | refine ldCellK rfl (Heap.IsCell.keeps (by with_reducible assumption) (Fr.keep (by assumption))) ?_ | (refine' ldC (h₀ := _) ?k1 ?k2 ?_; (case k1 => assumption); (case k2 => ((try dsimp only); (repeat rw [if_neg (by decide)]); first | rfl | with_reducible assumption))) | refine ldCC (by with_reducible assumption) (by k_mem) (by with_reducible assumption) rfl ?_))) | walk1)) | (leave1; (try dsimp only)) | fail "no step"))
    refine ⟨vals.toArray.size, _, D, iterOf_tuple rfl ⟨_, (N5 _ (.head _)).1, rfl, _, rfl⟩, by omega, ?_, ?_⟩
    · rintro i v CC m₃ h₃ tk₃ I oI DD oD hi hP F6 N6 hm hID
      obtain ⟨c, tc, rfl, hc⟩ := StrsAre.item hps i v (by simpa using hP)
      have hci := hia c (List.mem_of_getElem? hc)
      have hcl : c.length ≤ 100 := hx c (List.mem_of_getElem? hc)
      dsimp only at F6 N6
      (repeat' (first | (k_unfold; (try dsimp only)) | (k_end; kc_close) | ((with_reducible show wpAny _ _ (eval (PySem.Expr.Name _ _) _) _ _ _); with_reducible (k_dflt (first | refine ldVarK (Fr.ns (by assumption)) (by with_reducible assumption) ?_ | refine ldCellK rfl (Heap.IsCell.keeps (by with_reducible assumption) (Fr.keep (by assumption))) ?_ | (refine' ldC (h₀ := _) ?k1 ?k2 ?_; (case k1 => assumption); (case k2 => ((try dsimp only); (repeat rw [if_neg (by decide)]); first | rfl | with_reducible assumption))) | refine ldCC (by with_reducible assumption) (by k_mem) (by with_reducible assumption) rfl ?_))) | walk1 | (dsimp only; (first | ((with_reducible show wpAny _ _ (eval (PySem.Expr.Name _ _) _) _ _ _); with_reducible (k_dflt (first | refine ldVarK (Fr.ns (by assumption)) (by with_reducible assumption) ?_ | refine ldCellK rfl (Heap.IsCell.keeps (by with_reducible assumption) (Fr.keep (by assumption))) ?_ | (refine' ldC (h₀ := _) ?k1 ?k2 ?_; (case k1 => assumption); (case k2 => ((try dsimp only); (repeat rw [if_neg (by decide)]); first | rfl | with_reducible assumption))) | refine ldCC (by with_reducible assumption) (by k_mem) (by with_reducible assumption) rfl ?_))) | walk1)) | (leave1; (try dsimp only)) | fail "no step"))
      · rw [hci]
      · exact elt_end F6 N6 (fun _ h => nomatch h) rfl
    · intro D2 g6 tk6 k6 z6 l6
      dsimp only at k6 z6 l6 ⊢
      have F6 := fr_keeps F4 k6
      have N6 := news_keeps N5 k6
      have hs2 := (l6 _ (.head _)).1
      clear F4 N5 hsep4 k6 z6 l6
      k_steps
      refine assign_Tuple_one rfl hs2 fun g7 k7 => ?_
      dsimp only at k7 ⊢
      have F7 := fr_keeps F6 k7
      have N7 := news_keeps N6 k7
      clear F6 N6 hs2
      k_steps
      rename_i g8 F8 N8
      refine Stop.mk ?_

      refine assignCompK (h₀ := s.heap) (cl := [("curdir", s.heap.objs.size + 1 + 1)]) rfl rfl (by decide) rfl (by decide) rfl rfl rfl ?_
      (repeat' (first | (k_unfold; (try dsimp only)) | (k_end; kc_close) | ((with_reducible show wpAny _ _ (eval (PySem.Expr.Name _ _) _) _ _ _); with_reducible (k_dflt (first | refine ldVarK (Fr.ns (by assumption)) (by with_reducible assumption) ?_ | refine ldCellK rfl (Heap.IsCell.keeps (by with_reducible assumption) (Fr.keep (by assumption))) ?_ | (refine' ldC (h₀ := _) ?k1 ?k2 ?_; (case k1 => assumption); (case k2 => ((try dsimp only); (repeat rw [if_neg (by decide)]); first | rfl | with_reducible assumption))) | refine ldCC (by with_reducible assumption) (by k_mem) (by with_reducible assumption) rfl ?_))) | walk1 | (dsimp only; (first | ((with_reducible show wpAny _ _ (eval (PySem.Expr.Name _ _) _) _ _ _); with_reducible (k_dflt (first | refine ldVarK (Fr.ns (by assumption)) (by with_reducible assumption) ?_ | refine ldCellK rfl (Heap.IsCell.keeps (by with_reducible assumption) (Fr.keep (by assumption))) ?_ | (refine' ldC (h₀ := _) ?k1 ?k2 ?_; (case k1 => assumption); (case k2 => ((try dsimp only); (repeat rw [if_neg (by decide)]); first | rfl | with_reducible assumption))) | refine ldCC (by with_reducible assumption) (by k_mem) (by with_reducible assumption) rfl ?_))) | walk1)) | (leave1; (try dsimp only)) | fail "no step"))
      have hrow8 : RowsIn g8 ys (ps.map fun p => Txt.split p "/") := hR.rowsN N8 (fun p hp => .tail _ (.tail _ (.tail _ (.tail _ hp))))
      have hcur8 : g8.IsCell (s.heap.objs.size + 1 + 1) (some (.str "." _)) := ⟨_, (N8 _ (.tail _ (.tail _ (.head _)))).1, as3⟩
      have hys : ys.toArray.size = ps.length := by rw [List.size_toArray, hlen, hts]
      refine ⟨ys.toArray.size, _, fun i zs tl2 => zs.length = i ∧ RowsLed zs tl2 ((ps.take i).map fun p => (Txt.split p "/").filter keepC), D1, iterOf_list rfl ⟨_, (N8 _ (.tail _ (.head _))).1, rfl, _, rfl⟩, ?_, ⟨rfl, .nil⟩, fun i zs tl h => Nat.le_of_eq h.1, ?_, ?_⟩
      · rw [hys]; exact Nat.le_trans hz (by decide)
      · rintro i v zs tl2 CC m₃ h₃ tk₃ I oI DD hi hP ⟨hlz, hRz⟩ F9 N9 hm off hID
        obtain ⟨a, V, xs, rfl, hla, hxa, hxi⟩ := hrow8.item (by simpa using hP)
        obtain ⟨c, hc, rfl⟩ : ∃ c, ps[i]? = some c ∧ Txt.split c "/" = xs := by simpa using hxi
        dsimp only at F9 N9
        refine wpAny_tests_nil ?_
        rw [if_pos rfl]
        have hla3 := IsL.keep hla F9.keep
        have hcur9 := hcur8.keeps F9.keep
        have hcl : c.length ≤ 100 := hx c (List.mem_of_getElem? hc)
        have hxl : (Txt.split c "/").length ≤ 102 := Nat.le_trans (split_le _ _) (by omega)
        refine listCompK (cl := [("curdir", s.heap.objs.size + 1 + 1)]) rfl (by decide) rfl (by decide) rfl ?_
        refine ldVarK F9.ns hm ?_
        refine ⟨V.toArray.size, _, fun j us tl3 => tl3 = [] ∧ us.length ≤ j ∧ StrsAre us (((Txt.split c "/").take j).filter keepC), a, iterOf_list rfl hla3, ?_, ⟨rfl, Nat.le_refl _, .nil⟩, fun j us tl h => h.2.1, ?_, ?_⟩
        · rw [List.size_toArray, hxa.length]; exact Nat.le_trans hxl (by decide)
        · rintro j v us tl3 C4 m₄ h₄ tk₄ I4 oI4 D4 hj hPj ⟨rfl, hul, hus⟩ F10 N10 hm4 off4 hID4
          obtain ⟨d, td, rfl, hd'⟩ := StrsAre.item hxa j v (by simpa using hPj)
          have hdl : d.length ≤ 1000 := Nat.le_trans (part_short (List.mem_of_getElem? hd')) (by omega)
          dsimp only at F10 N10
          refine wpAny_tests_one ?_
          (repeat' (first | (k_unfold; (try dsimp only)) | (k_end; kc_close) | ((with_reducible show wpAny _ _ (eval (PySem.Expr.Name _ _) _) _ _ _); with_reducible (k_dflt (first | refine ldVarK (Fr.ns (by assumption)) (by with_reducible assumption) ?_ | refine ldCellK rfl (Heap.IsCell.keeps (by with_reducible assumption) (Fr.keep (by assumption))) ?_ | (refine' ldC (h₀ := _) ?k1 ?k2 ?_; (case k1 => assumption); (case k2 => ((try dsimp only); (repeat rw [if_neg (by decide)]); first | rfl | with_reducible assumption))) | refine ldCC (by with_reducible assumption) (by k_mem) (by with_reducible assumption) rfl ?_))) | walk1 | (dsimp only; (first | ((with_reducible show wpAny _ _ (eval (PySem.Expr.Name _ _) _) _ _ _); with_reducible (k_dflt (first | refine ldVarK (Fr.ns (by assumption)) (by with_reducible assumption) ?_ | refine ldCellK rfl (Heap.IsCell.keeps (by with_reducible assumption) (Fr.keep (by assumption))) ?_ | (refine' ldC (h₀ := _) ?k1 ?k2 ?_; (case k1 => assumption); (case k2 => ((try dsimp only); (repeat rw [if_neg (by decide)]); first | rfl | with_reducible assumption))) | refine ldCC (by with_reducible assumption) (by k_mem) (by with_reducible assumption) rfl ?_))) | walk1)) | (leave1; (try dsimp only)) | fail "no step"))
          · exact elt_end F10 N10 off4 ⟨rfl, by simp only [List.length_append, List.length_singleton]; omega, keep_yes hus hd' (keepC_2 (by with_reducible assumption) (by with_reducible assumption))⟩
          · exact elt_end F10 N10 off4 ⟨rfl, by omega, keep_no hus hd' (keepC_1 (by with_reducible assumption))⟩
          · exact elt_end F10 N10 off4 ⟨rfl, by omega, keep_no hus hd' (keepC_0 (by with_reducible assumption))⟩
        · rintro us tl3 ⟨rfl, hul, hus⟩ D5 g5 tk5 k5 z5 l5
          rw [List.size_toArray, hxa.length, List.take_length] at hus
          have l5 := l5
          dsimp only at k5 z5 l5 ⊢
          have h5 := l5 _ (.head _)
          refine elt_end (fr_keeps F9 k5) (tl' := (D5, W.listOf us.toArray us.length) :: tl2) (fun p hp => ?_) (fun p hp => ?_) ⟨by simp [hlz], ?_⟩
          · simp only [List.mem_cons] at hp
            have hold : ∀ q, q ∈ (I, oI) :: (DD, lst zs) :: tl2 → g5.get? q.1 = some q.2 ∧ q.1 ≠ CC ∧ g8.get? q.1 = none := fun q hq => news_keeps N9 k5 q hq
            rcases hp with rfl | rfl | rfl | hp
            · exact hold _ (.head _)
            · exact hold _ (.tail _ (.head _))
            · exact ⟨h5.1, by obtain ⟨oL, _, _, e, _⟩ := F9.ns; exact ne_of_none h5.2 e, none_of F9.keep h5.2⟩
            · exact hold _ (.tail _ (.tail _ hp))
          · rcases List.mem_cons.mp hp with rfl | hp
            · exact ⟨ne_of_none h5.2 (N9 (I, oI) (.head _)).1, ne_of_none h5.2 (N9 (DD, lst zs) (.tail _ (.head _))).1⟩
            · exact off p hp
          · rw [List.take_add_one, hc, List.map_append]
            exact hRz.snoc hus
      · rintro zs tl2 ⟨hlz, hRz⟩
        rw [hys, List.take_length] at hRz
        refine ⟨_, _, F8, N8, fun D3 g9 tk9 F9 N9 hD3 => ?_⟩
        dsimp only at hD3
        replace F9 : Fr s.heap s.heap.objs.size g9 _ := F9
        have N10 : News s.heap s.heap.objs.size g9 ((D3, lst zs) :: (s.heap.objs.size + 1 + 1, oc2) :: (s.heap.objs.size + 1, oc1) :: tl2) := fun p hp => N9 p (by
          simp only [List.mem_cons, List.mem_append, List.not_mem_nil, or_false] at hp ⊢; rcases hp with hp | hp | hp | hp <;> simp [hp])
        clear N9 F8 N8 hrow8 hcur8 hR hlen hys hD3 k7
        generalize hxs : (ps.map fun p => (Txt.split p "/").filter keepC) = xss at hRz
        have hxn : 0 < xss.length := by rw [← hxs, List.length_map]; exact hn
        have hsep9 : g9.IsCell (s.heap.objs.size + 1) (some (.str "/" _)) := ⟨_, (N10 _ (.tail _ (.tail _ (.head _)))).1, as2⟩
        dsimp only at F9 ⊢
        refine wpAny_execs_cons ?_
        (repeat' (first | (k_unfold; (try dsimp only)) | (k_end; kc_close) | ((with_reducible show wpAny _ _ (eval (PySem.Expr.Name _ _) _) _ _ _); with_reducible (k_dflt (first | refine ldVarK (Fr.ns (by assumption)) (by with_reducible assumption) ?_ | refine ldCellK rfl (Heap.IsCell.keeps (by with_reducible assumption) (Fr.keep (by assumption))) ?_ | (refine' ldC (h₀ := _) ?k1 ?k2 ?_; (case k1 => assumption); (case k2 => ((try dsimp only); (repeat rw [if_neg (by decide)]); first | rfl | with_reducible assumption))) | refine ldCC (by with_reducible assumption) (by k_mem) (by with_reducible assumption) rfl ?_))) | walk1 | (dsimp only; (first | ((with_reducible show wpAny _ _ (eval (PySem.Expr.Name _ _) _) _ _ _); with_reducible (k_dflt (first | refine ldVarK (Fr.ns (by assumption)) (by with_reducible assumption) ?_ | refine ldCellK rfl (Heap.IsCell.keeps (by with_reducible assumption) (Fr.keep (by assumption))) ?_ | (refine' ldC (h₀ := _) ?k1 ?k2 ?_; (case k1 => assumption); (case k2 => ((try dsimp only); (repeat rw [if_neg (by decide)]); first | rfl | with_reducible assumption))) | refine ldCC (by with_reducible assumption) (by k_mem) (by with_reducible assumption) rfl ?_))) | walk1)) | (leave1; (try dsimp only)) | fail "no step"))
        refine Stop.mk ?_
        refine Does.fr0 (min_rows rfl ⟨_, (N10 _ (.head _)).1, rfl, _, rfl⟩ (hRz.rowsN N10 (fun p hp => .tail _ (.tail _ (.tail _ hp)))) hxn ?_) F9 N10 ?_
        · exact (Rm.deeper (r0.le (d' := 10 + 1) (u' := 10 + 3) (by decide) (by decide))).uni
        intro v1 tlv g10 tk10 F11 N11 hv1
        obtain ⟨a1, V1, n1, x1, rfl, hm1, hV1, hx1⟩ := hRz.item hv1
        (repeat' (first | (k_unfold; (try dsimp only)) | (k_end; kc_close) | ((with_reducible show wpAny _ _ (eval (PySem.Expr.Name _ _) _) _ _ _); with_reducible (k_dflt (first | refine ldVarK (Fr.ns (by assumption)) (by with_reducible assumption) ?_ | refine ldCellK rfl (Heap.IsCell.keeps (by with_reducible assumption) (Fr.keep (by assumption))) ?_ | (refine' ldC (h₀ := _) ?k1 ?k2 ?_; (case k1 => assumption); (case k2 => ((try dsimp only); (repeat rw [if_neg (by decide)]); first | rfl | with_reducible assumption))) | refine ldCC (by with_reducible assumption) (by k_mem) (by with_reducible assumption) rfl ?_))) | walk1 | (dsimp only; (first | ((with_reducible show wpAny _ _ (eval (PySem.Expr.Name _ _) _) _ _ _); with_reducible (k_dflt (first | refine ldVarK (Fr.ns (by assumption)) (by with_reducible assumption) ?_ | refine ldCellK rfl (Heap.IsCell.keeps (by with_reducible assumption) (Fr.keep (by assumption))) ?_ | (refine' ldC (h₀ := _) ?k1 ?k2 ?_; (case k1 => assumption); (case k2 => ((try dsimp only); (repeat rw [if_neg (by decide)]); first | rfl | with_reducible assumption))) | refine ldCC (by with_reducible assumption) (by k_mem) (by with_reducible assumption) rfl ?_))) | walk1)) | (leave1; (try dsimp only)) | fail "no step"))
        rename_i g11 F12 N12
        refine Stop.mk ?_
        refine Does.fr0 (max_rows rfl ⟨_, (N12 _ (.head _)).1, rfl, _, rfl⟩ (hRz.rowsN N12 (fun p hp => .tail _ (.tail _ (.tail _ hp)))) hxn ?_) F12 N12 ?_
        · exact (Rm.deeper (r0.le (d' := 10 + 1) (u' := 10 + 3) (by decide) (by decide))).uni
        intro v2 tlv2 g12 tk12 F13 N13 hv2
        obtain ⟨a2, V2, n2, x2, rfl, hm2, hV2, hx2⟩ := hRz.item hv2
        (repeat' (first | (k_unfold; (try dsimp only)) | (k_end; kc_close) | ((with_reducible show wpAny _ _ (eval (PySem.Expr.Name _ _) _) _ _ _); with_reducible (k_dflt (first | refine ldVarK (Fr.ns (by assumption)) (by with_reducible assumption) ?_ | refine ldCellK rfl (Heap.IsCell.keeps (by with_reducible assumption) (Fr.keep (by assumption))) ?_ | (refine' ldC (h₀ := _) ?k1 ?k2 ?_; (case k1 => assumption); (case k2 => ((try dsimp only); (repeat rw [if_neg (by decide)]); first | rfl | with_reducible assumption))) | refine ldCC (by with_reducible assumption) (by k_mem) (by with_reducible assumption) rfl ?_))) | walk1 | (dsimp only; (first | ((with_reducible show wpAny _ _ (eval (PySem.Expr.Name _ _) _) _ _ _); with_reducible (k_dflt (first | refine ldVarK (Fr.ns (by assumption)) (by with_reducible assumption) ?_ | refine ldCellK rfl (Heap.IsCell.keeps (by with_reducible assumption) (Fr.keep (by assumption))) ?_ | (refine' ldC (h₀ := _) ?k1 ?k2 ?_; (case k1 => assumption); (case k2 => ((try dsimp only); (repeat rw [if_neg (by decide)]); first | rfl | with_reducible assumption))) | refine ldCC (by with_reducible assumption) (by k_mem) (by with_reducible assumption) rfl ?_))) | walk1)) | (leave1; (try dsimp only)) | fail "no step"))
        refine Stop.mk ?_
        refine wpAny_For ?_
        (repeat' (first | (k_unfold; (try dsimp only)) | (k_end; kc_close) | ((with_reducible show wpAny _ _ (eval (PySem.Expr.Name _ _) _) _ _ _); with_reducible (k_dflt (first | refine ldVarK (Fr.ns (by assumption)) (by with_reducible assumption) ?_ | refine ldCellK rfl (Heap.IsCell.keeps (by with_reducible assumption) (Fr.keep (by assumption))) ?_ | (refine' ldC (h₀ := _) ?k1 ?k2 ?_; (case k1 => assumption); (case k2 => ((try dsimp only); (repeat rw [if_neg (by decide)]); first | rfl | with_reducible assumption))) | refine ldCC (by with_reducible assumption) (by k_mem) (by with_reducible assumption) rfl ?_))) | walk1 | (dsimp only; (first | ((with_reducible show wpAny _ _ (eval (PySem.Expr.Name _ _) _) _ _ _); with_reducible (k_dflt (first | refine ldVarK (Fr.ns (by assumption)) (by with_reducible assumption) ?_ | refine ldCellK rfl (Heap.IsCell.keeps (by with_reducible assumption) (Fr.keep (by assumption))) ?_ | (refine' ldC (h₀ := _) ?k1 ?k2 ?_; (case k1 => assumption); (case k2 => ((try dsimp only); (repeat rw [if_neg (by decide)]); first | rfl | with_reducible assumption))) | refine ldCC (by with_reducible assumption) (by k_mem) (by with_reducible assumption) rfl ?_))) | walk1)) | (leave1; (try dsimp only)) | fail "no step"))
        refine Stop.mk ?_
        rename_i g13 F14 N14 g14 F15 N15
        refine call_enumerate_list (IsL.keep (led_list (vals := V1) N15 (.tail _ (.tail _ (.tail _ hm1)))) (fun _ _ e => e)) ?_
        intro g16 he hit hz16 k16
        dsimp only at he hit hz16 k16
        have hL14 : @LT.lt Nat _ s.heap.objs.size g14.objs.size := F15.ns.lt
        have hx1' : rowAt xss (argBest (btLt xss) (xss.length - 1)) = x1 := by unfold rowAt; rw [hx1]; rfl
        have hx2' : rowAt xss (argBest (btGt xss) (xss.length - 1)) = x2 := by unfold rowAt; rw [hx2]; rfl
        have hlcp := lcp_minmax hxn
        rw [hx1', hx2'] at hlcp
        have hlt21 : ltL x2 x1 = false := by
          have := (argMin_is xss (xss.length - 1)).2 _ (argMax_is xss (xss.length - 1)).1
          rw [hx1', hx2'] at this; exact this
        have hxm : ∃ p, p ∈ ps ∧ (Txt.split p "/").filter keepC = x1 := by
          have h1 := List.mem_of_getElem? hx1
          rw [← hxs] at h1
          exact List.mem_map.mp h1
        obtain ⟨pp, hpp, hpx⟩ := hxm
        have hppl := hx pp hpp
        have hx1l : x1.length ≤ 102 := by
          have h2 := List.length_filter_le keepC (Txt.split pp "/")
          have h3 := split_le pp "/"
          rw [hpx] at h2
          omega
        have hx1c : ∀ c ∈ x1, c.length ≤ 101 := fun c hc => by
          rw [← hpx] at hc
          have := part_short (List.mem_filter.mp hc).1
          omega
        have N16 : News s.heap s.heap.objs.size g16 [(a1, W.listOf V1.toArray n1), (a2, W.listOf V2.toArray n2), (s.heap.objs.size + 1, oc1)] := fun p hp => news_keeps N15 k16 p (by
          simp only [List.mem_cons, List.not_mem_nil, or_false] at hp
          rcases hp with rfl | rfl | rfl
          · exact .tail _ (.tail _ (.tail _ hm1))
          · exact .tail _ (.tail _ (.tail _ hm2))
          · exact .tail _ (.tail _ (.head _)))
        have F16 := fr_keeps F15 k16
        have lt16 : ∀ p ∈ [(a1, W.listOf V1.toArray n1), (a2, W.listOf V2.toArray n2), (s.heap.objs.size + 1, oc1)], @LT.lt Nat _ p.1 g14.objs.size := fun p hp => by
          simp only [List.mem_cons, List.not_mem_nil, or_false] at hp
          rcases hp with rfl | rfl | rfl
          · exact Heap.lt_size (N15 _ (.tail _ (.tail _ (.tail _ hm1)))).1
          · exact Heap.lt_size (N15 _ (.tail _ (.tail _ (.tail _ hm2)))).1
          · exact Heap.lt_size (N15 _ (.tail _ (.tail _ (.head _)))).1
        clear F15 N15
        generalize hI14 : g14.objs.size = z14 at *
        refine wpAny_pyIter_enum he ?_
        refine for_enum (h₀ := s.heap) (l := a1) (items := V1.toArray) (ol := W.listOf V1.toArray n1) rfl rfl rfl rfl F16 N16 (Nat.ne_of_gt (Nat.lt_succ_self z14)) (Nat.ne_of_gt (Nat.lt_succ_of_lt hL14)) (Nat.ne_of_gt hL14)
          (Heap.get?_none_of_le (Nat.le_succ_of_le (Nat.le_of_lt hL14))) (Heap.get?_none_of_le (Nat.le_of_lt hL14)) (fun p hp => Nat.ne_of_lt (Nat.lt_succ_of_lt (lt16 p hp))) (fun p hp => Nat.ne_of_lt (lt16 p hp)) (.head _) (fun h e => ⟨_, e, rfl, _, rfl⟩) he hit
          (fun i m' => m' "common" = some (.ref a1) ∧ m' "s1" = some (.ref a1) ∧ m' "s2" = some (.ref a2) ∧ m' "isabs" = some (.bool ia) ∧ x1.take i = x2.take i) ⟨rfl, rfl, rfl, rfl, rfl⟩
          (CommonB s s.heap.objs.size oc1 ia (cpL x1 x2))
          ?fin ?turn ?done
        case fin =>
          rintro s₂ ⟨h', tk', m', c, Vc, nc, rfl, F20, N20, hcm, hab, hVc⟩
          dsimp only
          have hc1 : ∀ c ∈ cpL x1 x2, c.length ≤ 101 := fun c hc => hx1c c (cpL_pre.subset hc)
          have hc2 : (cpL x1 x2).length ≤ 102 := Nat.le_trans (cpL_pre (xs := x1) (ys := x2)).length_le hx1l
          have hok : ((cpL x1 x2).map (·.length)).sum + (cpL x1 x2).length * 64 ≤ 16777216 := by have := sum_short hc1; omega
          have hj : (Txt.join "/" (cpL x1 x2)).length ≤ 20000 := by
            rw [join_is]
            have := StrLaws.join_length_le "/" (cpL x1 x2)
            have e1 : (Str.ofString "/").length = 1 := by decide
            rw [e1] at this
            have := sum_short hc1
            omega
          generalize cpL x1 x2 = P at *
          clear hx1' hx2' N16 F16 he hit k16
          cases ia with
          | true =>
            (repeat' (first | (k_unfold; (try dsimp only)) | (k_end; kc_close) | ((with_reducible show wpAny _ _ (PySem.call (PySem.Value.builtin "str.join") _ _) _ _ _); (first | with_reducible (refine Does.fr0 (join_does (led_list (by with_reducible assumption) (by k_mem)) (by with_reducible assumption) (by decide) (by with_reducible assumption)) (by with_reducible assumption) (by with_reducible assumption) ?_; (intro _ _ _ _ _ _ e'; obtain ⟨_, e'⟩ := e'; subst e'); (try k_sweep)) | (refine Does.fr0 (join_does (led_list (by with_reducible assumption) (by k_mem)) (by with_reducible assumption) (by decide) (by with_reducible assumption)) (by with_reducible assumption) (by with_reducible assumption) ?_; (intro _ _ _ _ _ _ e'; obtain ⟨_, e'⟩ := e'; subst e'); (try k_sweep)))) | ((with_reducible show wpAny _ _ (eval (PySem.Expr.Name _ _) _) _ _ _); with_reducible (k_dflt (first | refine ldVarK (Fr.ns (by assumption)) (by with_reducible assumption) ?_ | refine ldCellK rfl (Heap.IsCell.keeps (by with_reducible assumption) (Fr.keep (by assumption))) ?_ | (refine' ldC (h₀ := _) ?k1 ?k2 ?_; (case k1 => assumption); (case k2 => ((try dsimp only); (repeat rw [if_neg (by decide)]); first | rfl | with_reducible assumption))) | refine ldCC (by with_reducible assumption) (by k_mem) (by with_reducible assumption) rfl ?_))) | walk1 | (dsimp only; (first | ((with_reducible show wpAny _ _ (PySem.call (PySem.Value.builtin "str.join") _ _) _ _ _); (first | with_reducible (refine Does.fr0 (join_does (led_list (by with_reducible assumption) (by k_mem)) (by with_reducible assumption) (by decide) (by with_reducible assumption)) (by with_reducible assumption) (by with_reducible assumption) ?_; (intro _ _ _ _ _ _ e'; obtain ⟨_, e'⟩ := e'; subst e'); (try k_sweep)) | (refine Does.fr0 (join_does (led_list (by with_reducible assumption) (by k_mem)) (by with_reducible assumption) (by decide) (by with_reducible assumption)) (by with_reducible assumption) (by with_reducible assumption) ?_; (intro _ _ _ _ _ _ e'; obtain ⟨_, e'⟩ := e'; subst e'); (try k_sweep)))) | ((with_reducible show wpAny _ _ (eval (PySem.Expr.Name _ _) _) _ _ _); with_reducible (k_dflt (first | refine ldVarK (Fr.ns (by assumption)) (by with_reducible assumption) ?_ | refine ldCellK rfl (Heap.IsCell.keeps (by with_reducible assumption) (Fr.keep (by assumption))) ?_ | (refine' ldC (h₀ := _) ?k1 ?k2 ?_; (case k1 => assumption); (case k2 => ((try dsimp only); (repeat rw [if_neg (by decide)]); first | rfl | with_reducible assumption))) | refine ldCC (by with_reducible assumption) (by k_mem) (by with_reducible assumption) rfl ?_))) | walk1)) | (leave1; (try dsimp only)) | fail "no step"))
            refine h _ [] _ _ (Fr.keep (by assumption)) (fr_le (by assumption)) Led.nil ⟨_, P, rfl, ?_⟩
            rw [hxs]; exact hlcp
          | false =>
            (repeat' (first | (k_unfold; (try dsimp only)) | (k_end; kc_close) | ((with_reducible show wpAny _ _ (PySem.call (PySem.Value.builtin "str.join") _ _) _ _ _); (first | with_reducible (refine Does.fr0 (join_does (led_list (by with_reducible assumption) (by k_mem)) (by with_reducible assumption) (by decide) (by with_reducible assumption)) (by with_reducible assumption) (by with_reducible assumption) ?_; (intro _ _ _ _ _ _ e'; obtain ⟨_, e'⟩ := e'; subst e'); (try k_sweep)) | (refine Does.fr0 (join_does (led_list (by with_reducible assumption) (by k_mem)) (by with_reducible assumption) (by decide) (by with_reducible assumption)) (by with_reducible assumption) (by with_reducible assumption) ?_; (intro _ _ _ _ _ _ e'; obtain ⟨_, e'⟩ := e'; subst e'); (try k_sweep)))) | ((with_reducible show wpAny _ _ (eval (PySem.Expr.Name _ _) _) _ _ _); with_reducible (k_dflt (first | refine ldVarK (Fr.ns (by assumption)) (by with_reducible assumption) ?_ | refine ldCellK rfl (Heap.IsCell.keeps (by with_reducible assumption) (Fr.keep (by assumption))) ?_ | (refine' ldC (h₀ := _) ?k1 ?k2 ?_; (case k1 => assumption); (case k2 => ((try dsimp only); (repeat rw [if_neg (by decide)]); first | rfl | with_reducible assumption))) | refine ldCC (by with_reducible assumption) (by k_mem) (by with_reducible assumption) rfl ?_))) | walk1 | (dsimp only; (first | ((with_reducible show wpAny _ _ (PySem.call (PySem.Value.builtin "str.join") _ _) _ _ _); (first | with_reducible (refine Does.fr0 (join_does (led_list (by with_reducible assumption) (by k_mem)) (by with_reducible assumption) (by decide) (by with_reducible assumption)) (by with_reducible assumption) (by with_reducible assumption) ?_; (intro _ _ _ _ _ _ e'; obtain ⟨_, e'⟩ := e'; subst e'); (try k_sweep)) | (refine Does.fr0 (join_does (led_list (by with_reducible assumption) (by k_mem)) (by with_reducible assumption) (by decide) (by with_reducible assumption)) (by with_reducible assumption) (by with_reducible assumption) ?_; (intro _ _ _ _ _ _ e'; obtain ⟨_, e'⟩ := e'; subst e'); (try k_sweep)))) | ((with_reducible show wpAny _ _ (eval (PySem.Expr.Name _ _) _) _ _ _); with_reducible (k_dflt (first | refine ldVarK (Fr.ns (by assumption)) (by with_reducible assumption) ?_ | refine ldCellK rfl (Heap.IsCell.keeps (by with_reducible assumption) (Fr.keep (by assumption))) ?_ | (refine' ldC (h₀ := _) ?k1 ?k2 ?_; (case k1 => assumption); (case k2 => ((try dsimp only); (repeat rw [if_neg (by decide)]); first | rfl | with_reducible assumption))) | refine ldCC (by with_reducible assumption) (by k_mem) (by with_reducible assumption) rfl ?_))) | walk1)) | (leave1; (try dsimp only)) | fail "no step"))
            refine h _ [] _ _ (Fr.keep (by assumption)) (fr_le (by assumption)) Led.nil ⟨_, P, rfl, ?_⟩
            rw [hxs]; exact hlcp
        case turn =>
          rintro i v tk' m₁ h₁ tk₁ oe oi hv ⟨j1, j2, j3, j4, j5⟩ F20 N20
          obtain ⟨c, tc, rfl, hc⟩ := StrsAre.item hV1 i v (by simpa using hv)
          obtain ⟨d, hd2⟩ := more_of j5 hc hlt21
          obtain ⟨td, hd3⟩ := StrsAre.at hV2 hd2
          have hil : i < x1.length := (List.getElem?_eq_some_iff.mp hc).1
          have hV1z : V1.length ≤ 10000 := by rw [hV1.length]; omega
          have hi1000 : i < 1000 := by omega
          replace F20 : Fr s.heap s.heap.objs.size h₁ _ := F20
          replace N20 : News s.heap s.heap.objs.size h₁ _ := N20
          clear N16 F16 he hit k16
          (repeat' (first | (k_unfold; (try dsimp only)) | (k_end; kc_close) | ((with_reducible show wpAny _ _ (subscriptTail (PySem.Expr.Name ..) (PySem.Expr.Slice ..) (PySem.Value.ref _) (PySem.Value.ref _)) _ _ _); with_reducible (k_dflt (refine slice_upto (by with_reducible assumption) (by with_reducible assumption) (led_list (by with_reducible assumption) (by k_mem)) (by with_reducible assumption) ?_); intro _ _ _ _ _)) | ((with_reducible show wpAny _ _ (subscriptTail (PySem.Expr.Name ..) (PySem.Expr.Name ..) (PySem.Value.ref _) (PySem.Value.int _ _)) _ _ _); with_reducible (k_dflt (refine item_at (led_list (by with_reducible assumption) (by k_mem)) (by with_reducible assumption) (by with_reducible assumption) ?_))) | ((with_reducible show wpAny _ _ (eval (PySem.Expr.Name _ _) _) _ _ _); with_reducible (k_dflt (first | refine ldVarK (Fr.ns (by assumption)) (by with_reducible assumption) ?_ | refine ldCellK rfl (Heap.IsCell.keeps (by with_reducible assumption) (Fr.keep (by assumption))) ?_ | (refine' ldC (h₀ := _) ?k1 ?k2 ?_; (case k1 => assumption); (case k2 => ((try dsimp only); (repeat rw [if_neg (by decide)]); first | rfl | with_reducible assumption))) | refine ldCC (by with_reducible assumption) (by k_mem) (by with_reducible assumption) rfl ?_))) | walk1 | (dsimp only; (first | ((with_reducible show wpAny _ _ (subscriptTail (PySem.Expr.Name ..) (PySem.Expr.Slice ..) (PySem.Value.ref _) (PySem.Value.ref _)) _ _ _); with_reducible (k_dflt (refine slice_upto (by with_reducible assumption) (by with_reducible assumption) (led_list (by with_reducible assumption) (by k_mem)) (by with_reducible assumption) ?_); intro _ _ _ _ _)) | ((with_reducible show wpAny _ _ (subscriptTail (PySem.Expr.Name ..) (PySem.Expr.Name ..) (PySem.Value.ref _) (PySem.Value.int _ _)) _ _ _); with_reducible (k_dflt (refine item_at (led_list (by with_reducible assumption) (by k_mem)) (by with_reducible assumption) (by with_reducible assumption) ?_))) | ((with_reducible show wpAny _ _ (eval (PySem.Expr.Name _ _) _) _ _ _); with_reducible (k_dflt (first | refine ldVarK (Fr.ns (by assumption)) (by with_reducible assumption) ?_ | refine ldCellK rfl (Heap.IsCell.keeps (by with_reducible assumption) (Fr.keep (by assumption))) ?_ | (refine' ldC (h₀ := _) ?k1 ?k2 ?_; (case k1 => assumption); (case k2 => ((try dsimp only); (repeat rw [if_neg (by decide)]); first | rfl | with_reducible assumption))) | refine ldCC (by with_reducible assumption) (by k_mem) (by with_reducible assumption) rfl ?_))) | walk1)) | (leave1; (try dsimp only)) | fail "no step"))
          · rename Fr _ _ _ _ => F9
            rename News _ _ _ _ => N9
            refine ⟨_, _, _, _, V1.take i, 0, rfl, F9, fun p hp => N9 p ?_, rfl, j4, ?_⟩
            · simp only [List.mem_cons, List.not_mem_nil, or_false] at hp ⊢
              rcases hp with rfl | rfl <;> simp
            · rw [cpL_at j5 hc hd2 (by assumption)]
              exact StrsAre.take' hV1 i
          · refine ⟨_, _, _, rfl, F20, N20, j1, j2, j3, j4, ?_⟩
            rename_i hcd
            have e : c = d := by simpa using hcd
            rw [List.take_add_one, List.take_add_one, j5, hc, hd2, e]
        case done =>
          rintro h' tk' m' ⟨j1, j2, j3, j4, j5⟩ F20 N20
          refine ⟨h', tk', m', a1, V1, n1, rfl, F20, fun p hp => N20 p ?_, j1, j4, ?_⟩
          · simp only [List.mem_cons, List.not_mem_nil, or_false] at hp ⊢
            rcases hp with rfl | rfl <;> simp
          · have e : V1.toArray.size = x1.length := by rw [List.size_toArray, hV1.length]
            rw [e, List.take_length] at j5
            rw [cpL_all (by rw [j5]; exact List.take_prefix _ _)]
            exact hV1
end Mine
end
/-! La1 -/
section
open PySem PySem.W PyProof.Rows PySem.Calls
set_option maxRecDepth 100000
set_option linter.unusedVariables false
namespace Mine
noncomputable abbrev lamParams (p1 p2 : Pos) : Arguments := { posonlyargs := [], args := [{ arg := "a", annotation := none, pos := p1 }, { arg := "b", annotation := none, pos := p2 }], vararg := none, kwonlyargs := [], kw_defaults := [], kwarg := none, defaults := [] }
noncomputable abbrev lamBody (p1 p2 p3 p4 p5 : Pos) : Expr := (Expr.Name "commonpath" p1).Call [Expr.List [Expr.Name "a" p2, Expr.Name "b" p3] p4] [] p5
noncomputable abbrev lamScope : Scope := { kind := ScopeKind.function, names := [("a", NameKind.local), ("b", NameKind.local), ("commonpath", NameKind.globalImplicit)], isGenerator := false, isCoroutine := false }
noncomputable def cpOf (ia : Bool) (P : List Str) : Str := (if ia then ("/" : Str) else "") ++ Txt.join "/" P
noncomputable def namesOf (p : Str) : List Str := (Txt.split p "/").filter keepC
local macro_rules | `(tactic| walk_at "call ref") => `(tactic| (refine Stop.out ?_))
set_option maxHeartbeats 8000000 in
theorem lam_ok {w : World} {A : Around} {s : Shared} {f c' : Addr} {qual : Str} {pm ctv : Value} {p1 p2 q1 q2 q3 q4 q5 : Pos} {a b : Str} {t u : Tok} {ia : Bool} (C : Cx w s.heap) (r0 : Rm A 40 400)
   (ho : s.heap.get? f = some (kla_obj "<lambda>" qual (lamParams p1 p2) (lamBody q1 q2 q3 q4 q5) lamScope [] pm c' ctv)) (hcd : s.heap.CodeRec (.ref c') qual) (ha : a.length ≤ 100) (hb : b.length ≤ 100) (hia : Txt.startswith a "/" = ia) (hib : Txt.startswith b "/" = ia) :
   Does w A (call (.ref f) [.str a t, .str b u]) s (fun v _ => ∃ t' P, v = .str (cpOf ia P) t' ∧ IsLcp P [namesOf a, namesOf b]) := by
  intro Q E h
  obtain ⟨ah, ad, af, ag, au⟩ := A
  obtain rfl : ah = none := r0.hh
  have hd := r0.dep
  dsimp only at hd
  obtain ⟨X, p, loose, mean, mg, mb, T⟩ := C
  refine wpAny_call (kla_callFunE (by dsimp only; omega) ho rfl rfl rfl rfl hcd ?_)
  have hbind : bindArgs (kla_fn "<lambda>" qual (lamParams p1 p2) (lamBody q1 q2 q3 q4 q5) lamScope [] pm (.ref c') ctv) ({ pos := [Value.str a t, Value.str b u], kw := [] } : Args) = (pure ([("a", Value.str a t), ("b", Value.str b u)] : List (Str × Value)) : Sem (List (Str × Value))) := rfl
  rw [hbind]
  refine wpAny_pure (wpAny_newFunctionEnv (show ∀ x ∈ lamScope.names, x.2 ≠ .cell by decide) (locs rfl) (fun h₁ hns hsb => ⟨T.nolimit.fresh _ hsb, ?_⟩) rfl)
  have hk₁ : ∀ b o, s.heap.get? b = some o → h₁.get? b = some o := fun b o e => hsb.extBut b o (Nat.ne_of_lt (Heap.lt_size e)) (Heap.get?_push_of_some _ e)
  show codeAny _ _ (.expr _ (envOf qual lamScope s.heap.objs.size f (.ref c'))) _ _
  refine kla_codeExpr (wpAny_mono (Q := fun v s' => Q v s') (E := fun _ _ => False) ?_ (fun v s' x => x) (fun _ _ e => e.elim))
  have F : Fr s.heap s.heap.objs.size h₁ _ := ⟨hns, hk₁, Nat.le_refl _⟩
  have N : News s.heap s.heap.objs.size h₁ [] := News.nil
  clear hns hsb hbind
  dsimp only [lamBody]
  k_steps
  refine Stop.mk ?_
  rename Fr _ _ _ _ => F2
  rename News _ _ _ _ => N2
  refine Does.fr0 (commonpath_ok (ps := [a, b]) (vals := [.str a t, .str b u]) (ia := ia) (cx_of X T F2) (Rm.deeper (r0.le (by decide) (by decide))) ⟨_, (N2 _ (.head _)).1, rfl, _, rfl⟩ (.cons _ _ (.cons _ _ .nil)) (show 0 < 2 by decide) (show 2 ≤ 100 by decide) ?_ ?_) F2 N2 ?_
  · intro p hp
    simp only [List.mem_cons, List.not_mem_nil, or_false] at hp
    rcases hp with rfl | rfl <;> assumption
  · intro p hp
    simp only [List.mem_cons, List.not_mem_nil, or_false] at hp
    rcases hp with rfl | rfl <;> assumption
  rintro v' tl' h' tk' F' N' ⟨t', P, rfl, hP⟩
  dsimp only
  exact h _ [] _ _ (Fr.keep F') (fr_le F') Led.nil ⟨t', P, rfl, hP⟩
end Mine
end
/-! Comp3 -/
section
open PySem PySem.W PyProof.Rows PySem.Calls
set_option maxRecDepth 100000
set_option linter.unusedVariables false
namespace Mine
section
variable {w : World} {A : Around} {s : Shared}
noncomputable abbrev comp2 (elt t0 it0 t1 it1 : Expr) (scope : Scope) (pos : Pos) : Expr := .ListComp elt [⟨t0, it0, [], 0⟩, ⟨t1, it1, [], 0⟩] scope pos
theorem turn2_1 (elt t0 it0 t1 it1 : Expr) (scope : Scope) (pos : Pos) (it acc : Value) (env : Env) :
    compTurn (comp2 elt t0 it0 t1 it1 scope pos) 1 it acc env = (standAt it1.pos >>= fun _ => pyNext it >>= fun r => match r with
      | none => pure (.done .next)
      | some v => letOwnedTupleGo t1 it v >>= fun _ => assign t1 env v >>= fun _ =>
        (eval elt env >>= fun x => call (.builtin "list.append") [acc, x] >>= fun _ => pure ()) >>= fun _ =>
          again (.compLoop (comp2 elt t0 it0 t1 it1 scope pos) 1 it acc env)) := by rfl
theorem turn2_0 (elt t0 it0 t1 it1 : Expr) (scope : Scope) (pos : Pos) (it acc : Value) (env : Env) :
    compTurn (comp2 elt t0 it0 t1 it1 scope pos) 0 it acc env = (standAt it0.pos >>= fun _ => pyNext it >>= fun r => match r with
      | none => pure (.done .next)
      | some v => letOwnedTupleGo t0 it v >>= fun _ => assign t0 env v >>= fun _ =>
        eval it1 env >>= fun x => standAt it1.pos >>= fun _ => foldedSetIterable it1 env x >>= fun x => holding [x] (pyIter x) >>= fun it' =>
        runOwn (.compStart (comp2 elt t0 it0 t1 it1 scope pos) 1 it' acc env) env >>= fun _ =>
          again (.compLoop (comp2 elt t0 it0 t1 it1 scope pos) 0 it acc env)) := by rfl
theorem loop2_1 {elt t0 it0 t1 it1 : Expr} {scope : Scope} {pos : Pos} {it acc : Value} {env : Env} {R : Result → Shared → Prop} (J : Nat → Shared → Prop)
    (turn : ∀ n s, J n s → wpAny (model prog w) A (pyNext it) (fun r s₁ => match r with
      | none => R (.ok .next) s₁
      | some v => wpAny (model prog w) A (assign t1 env v) (fun _ s₂ => wpAny (model prog w) A (eval elt env) (fun x s₃ =>
          wpAny (model prog w) A (call (.builtin "list.append") [acc, x]) (fun _ s₄ => ∃ m, m < n ∧ J m s₄) (fun _ _ => False) s₃) (fun _ _ => False) s₂) (fun _ _ => False) s₁) (fun _ _ => False) s)
    (n : Nat) (h : J n s) (ht : ∀ v, letOwnedTupleGo t1 it v = pure () := by intro _; rfl) :
    codeAny (model prog w) A (.compLoop (comp2 elt t0 it0 t1 it1 scope pos) 1 it acc env) R s := by
  refine codeAny_loop rfl J (fun n s hJ => ?_) n h
  show wpAny _ _ ((compTurn (comp2 elt t0 it0 t1 it1 scope pos) 1 it acc env).onRaise (fun x => do noteFrame x env; theTreesLotGoes x)) _ _ s
  refine wpAny_noted ?_
  rw [turn2_1]
  refine wpAny_bind (wpAny_standAt (wpAny_bind (wpAny_mono (turn n s hJ) (fun r s₁ h₁ => ?_) fun _ _ h' => h'.elim)))
  cases r with
  | none => exact wpAny_pure h₁
  | some v =>
    refine wpAny_bind (wpAny_of_eq (ht v) ?_)
    exact wpAny_bind (wpAny_mono h₁ (fun _ s₂ h₂ => wpAny_bind (wpAny_bind (wpAny_mono h₂ (fun x s₃ h₃ => wpAny_bind (wpAny_mono h₃
      (fun _ s₄ h₄ => wpAny_pure (wpAny_pure ⟨rfl, h₄⟩)) fun _ _ h' => h'.elim)) fun _ _ h' => h'.elim))) fun _ _ h' => h'.elim)
theorem start2_1 {elt t0 it0 t1 it1 : Expr} {scope : Scope} {pos : Pos} {it acc : Value} {env : Env} {R : Result → Shared → Prop}
    (h0 : codeAny (model prog w) A (.compLoop (comp2 elt t0 it0 t1 it1 scope pos) 1 it acc env) R s)
    (h : wpAny (model prog w) A (pyIter it) (fun it' s' => codeAny (model prog w) A (.compLoop (comp2 elt t0 it0 t1 it1 scope pos) 1 it' acc env) R s') (fun _ _ => False) s) :
    codeAny (model prog w) A (.compStart (comp2 elt t0 it0 t1 it1 scope pos) 1 it acc env) R s := by
  refine codeAny_of_tree ?_
  show wpAny _ _ ((compStart (comp2 elt t0 it0 t1 it1 scope pos) 1 it acc env).onRaise (fun x => do noteFrame x env; standAt theWindowsPlace)) _ _ s
  refine wpAny_notedAt ?_
  unfold compStart
  show wpAny _ _ (ask >>= _) _ _ s
  refine wpAny_bind (wpAny_askSetting (wpAny_ite ?_))
  split
  · first
      | exact wpAny_bind (wpAny_pure (wpAny_pure (And.intro rfl h0)))
      | exact wpAny_pure (And.intro rfl h0)
  · first
      | exact wpAny_bind (wpAny_rule (wpAny_bind (wpAny_standAt (wpAny_bind (wpAny_mono h (fun it' s' h' => wpAny_pure (And.intro rfl h')) fun _ _ x => x.elim)))))
      | (refine wpAny_bind (wpAny_rule ?_); show wpAny _ _ (standAt it1.pos >>= _) _ _ s; exact wpAny_bind (wpAny_standAt (wpAny_bind (wpAny_mono h (fun it' s' h' => wpAny_pure (And.intro rfl h')) fun _ _ x => x.elim))))
theorem loop2_0 {elt t0 it0 t1 it1 : Expr} {scope : Scope} {pos : Pos} {it acc : Value} {env : Env} {R : Result → Shared → Prop} (J : Nat → Shared → Prop)
    (turn : ∀ n s, J n s → wpAny (model prog w) A (pyNext it) (fun r s₁ => match r with
      | none => R (.ok .next) s₁
      | some v => wpAny (model prog w) A (assign t0 env v) (fun _ s₂ => wpAny (model prog w) A (eval it1 env) (fun x s₃ =>
          wpAny (model prog w) A (pyIter x) (fun it' s₄ => codeAny (model prog w) A (.compStart (comp2 elt t0 it0 t1 it1 scope pos) 1 it' acc env) (fun r s₅ => (∃ f, r = .ok f) ∧ ∃ m, m < n ∧ J m s₅) s₄) (fun _ _ => False) s₃) (fun _ _ => False) s₂) (fun _ _ => False) s₁) (fun _ _ => False) s)
    (n : Nat) (h : J n s) (ht : ∀ v, letOwnedTupleGo t0 it v = pure () := by intro _; rfl) (hs : ∀ x, foldedSetIterable it1 env x = pure x := by intro _; rfl) :
    codeAny (model prog w) A (.compLoop (comp2 elt t0 it0 t1 it1 scope pos) 0 it acc env) R s := by
  refine codeAny_loop rfl J (fun n s hJ => ?_) n h
  show wpAny _ _ ((compTurn (comp2 elt t0 it0 t1 it1 scope pos) 0 it acc env).onRaise (fun x => do noteFrame x env; theTreesLotGoes x)) _ _ s
  refine wpAny_noted ?_
  rw [turn2_0]
  refine wpAny_bind (wpAny_standAt (wpAny_bind (wpAny_mono (turn n s hJ) (fun r s₁ h₁ => ?_) fun _ _ h' => h'.elim)))
  cases r with
  | none => exact wpAny_pure h₁
  | some v =>
    refine wpAny_bind (wpAny_of_eq (ht v) ?_)
    refine wpAny_bind (wpAny_mono h₁ (fun _ s₂ h₂ => wpAny_bind (wpAny_mono h₂ (fun x s₃ h₃ => wpAny_bind (wpAny_standAt (wpAny_bind (wpAny_of_eq (hs x) (wpAny_bind (wpAny_holding (wpAny_mono h₃ (fun it' s₄ h₄ => ?_) fun _ _ h' => h'.elim))))))) fun _ _ h' => h'.elim)) fun _ _ h' => h'.elim)
    refine wpAny_bind (wpAny_runOwn (codeAny_mono h₄ fun r s₅ h₅ => ?_))
    obtain ⟨⟨f, rfl⟩, m, hm, hJm⟩ := h₅
    exact wpAny_pure ⟨rfl, m, hm, hJm⟩
/-- the inner loop: its items, as they are, onto the list -/
theorem inner2 {t0 it0 it1 : Expr} {x1 : Str} {pe p1 : Pos} {scope : Scope} {cl : List (Str × Addr)} {pos : Pos} {env : Env} {R : Result → Shared → Prop} {I ax C D : Addr} {its : Array Value} {ys : List Value} {m : Str → Option Value}
    (hh : A.handled = none) (hkind : scope.kind = .function) (hx1 : scope.names.lookup x1 = some .local) (hd1 : (x1 == ("__debug__" : Str)) = false)
    (hit : s.heap.IsListIter I ax 0) (hl : s.heap.IsList ax its) (hC : s.heap.Ns C m) (hD : s.heap.get? D = some (lst ys)) (hIC : I ≠ C) (hID : I ≠ D) (hCD : C ≠ D) (haI : ax ≠ I) (haC : ax ≠ C) (haD : ax ≠ D) (hz : ys.length + its.size ≤ sizeLine)
    (fin : ∀ h' tk m', (∀ b o, b ≠ I → b ≠ C → b ≠ D → s.heap.get? b = some o → h'.get? b = some o) → h'.Ns C m' → (∀ y, y ≠ x1 → m' y = m y) → h'.get? D = some (lst (ys ++ its.toList)) → R (.ok .next) { s with heap := h', toks := tk }) :
    codeAny (model prog w) A (.compStart (comp2 (.Name x1 pe) t0 it0 (.Name x1 p1) it1 scope pos) 1 (.ref I) (.ref D) (compEnvC scope cl C env)) R s := by
  have W := Walks.list (prog := prog) (w := w) hh I ax haI its
  have loop : codeAny (model prog w) A (.compLoop (comp2 (.Name x1 pe) t0 it0 (.Name x1 p1) it1 scope pos) 1 (.ref I) (.ref D) (compEnvC scope cl C env)) R s := by
    refine loop2_1 (fun k s' => ∃ h' tk i m', s' = { s with heap := h', toks := tk } ∧ i ≤ its.size ∧ k = its.size + 1 - i ∧ h'.IsListIter I ax i ∧ h'.IsList ax its ∧ h'.Ns C m' ∧ (∀ y, y ≠ x1 → m' y = m y) ∧ h'.get? D = some (lst (ys ++ its.toList.take i)) ∧ (∀ b o, b ≠ I → b ≠ C → b ≠ D → s.heap.get? b = some o → h'.get? b = some o)) ?_ (its.size + 1)
      ⟨s.heap, s.toks, 0, m, rfl, Nat.zero_le _, rfl, hit, hl, hC, fun _ _ => rfl, by simpa using hD, fun _ _ _ _ _ e => e⟩
    rintro k s' ⟨h', tk, i, m', rfl, hi, rfl, hit', hl', hC', hm', hD', hk'⟩
    by_cases hlt : i < its.size
    · refine W.item i _ _ _ hlt ⟨hit', hl'⟩ fun v h₂ tk₂ hPv st₂ hk₂ => ?_
      have kI : ∀ b o, b ≠ I → h'.get? b = some o → h₂.get? b = some o := fun b o hb e => hk₂ b o (by simpa using hb) e
      refine wpAny_assign_Name (wpAny_storeName_local (lookup_relabel_local hx1) (hC'.at' fun o e => kI _ o (Ne.symm hIC) e) (fun h₃ hn₃ hs₃ => ?_) (by simp [compEnvC, relabel, hkind]))
      have kC : ∀ b o, b ≠ C → h₂.get? b = some o → h₃.get? b = some o := fun b o hb e => hs₃.extBut b o hb e
      refine wpAny_Name (wpAny_loadName_local (by simp [compEnvC, relabel, hkind]) (lookup_relabel_local hx1) hn₃ (v := v) (by simp) ?_) hd1
      have hD₃ : h₃.get? D = some (lst (ys ++ its.toList.take i)) := kC _ _ (Ne.symm hCD) (kI _ _ (Ne.symm hID) hD')
      refine append_at (hsz := by show (ys ++ its.toList.take i).toArray.size ≤ sizeLine; rw [List.size_toArray, List.length_append, List.length_take]; have : its.toList.length = its.size := rfl; omega) hD₃ fun h₄ hs₄ hD₄ => ?_
      have kD : ∀ b o, b ≠ D → h₃.get? b = some o → h₄.get? b = some o := fun b o hb e => hs₄.extBut b o hb e
      refine ⟨its.size + 1 - (i + 1), turn_lt hlt, h₄, _, i + 1, _, rfl, hlt, rfl, ?_, ?_, hn₃.sameBut hs₄ hCD, ?_, ?_, ?_⟩
      · exact st₂.1.at fun o e => kD _ o hID (kC _ o hIC e)
      · exact st₂.2.at fun o e => kD _ o haD (kC _ o haC e)
      · intro y hy; rw [if_neg hy]; exact hm' y hy
      · refine hD₄.trans (congrArg some ((lst_snoc _ _).trans ?_))
        have e : its.toList.take (i + 1) = its.toList.take i ++ [v] := by rw [List.take_add_one, show its.toList[i]? = some v by simpa using hPv]; rfl
        rw [e, List.append_assoc]
      · intro b o h1 h2 h3 e; exact kD b o h3 (kC b o h2 (kI b o h1 (hk' b o h1 h2 h3 e)))
    · obtain rfl : i = its.size := by omega
      refine W.done _ _ _ ⟨hit', hl'⟩ fun h₂ tk₂ hk₂ => ?_
      have kI : ∀ b o, b ≠ I → h'.get? b = some o → h₂.get? b = some o := fun b o hb e => hk₂ b o (by simpa using hb) e
      refine fin h₂ tk₂ m' (fun b o h1 h2 h3 e => kI b o h1 (hk' b o h1 h2 h3 e)) (hC'.at' fun o e => kI _ o (Ne.symm hIC) e) hm' ?_
      · have := kI _ _ (Ne.symm hID) hD'
        rwa [show its.toList.take its.size = its.toList from List.take_length] at this
  exact start2_1 loop (W.self 0 _ _ _ ⟨hit, hl⟩ loop)
/-- the block of a comprehension of two clauses whose element is the inner name -/
theorem comp2_block {it0 it1 : Expr} {x0 x1 : Str} {p0 p1 pe : Pos} {scope : Scope} {cl : List (Str × Addr)} {pos : Pos} {env : Env} {s₁ s₂ : Shared} {I : Addr} {fp : List Addr} {n : Nat} {P : Nat → Value → Prop} {St : Nat → Heap → Prop} {E : Value → Shared → Prop}
    {RR : Value → Addr → Result → Shared → Prop} (hh : A.handled = none) (W : Walks prog w A I fp [I] n P St) (k12 : Keeps s₁.heap s₂.heap) (z12 : s₁.heap.objs.size ≤ s₂.heap.objs.size) (hI : s₁.heap.objs.size ≤ I) (hI2 : I < s₂.heap.objs.size) (hst : St 0 s₂.heap) (hIo : ∀ i h, St i h → ∃ o, h.get? I = some o) (hfp : ∀ b ∈ fp, b < s₂.heap.objs.size) (hsz : n ≤ sizeLine)
    (hcell : ∀ y ∈ scope.names, y.2 ≠ .cell) (hkind : scope.kind = .function) (hx0 : scope.names.lookup x0 = some .local) (hx1 : scope.names.lookup x1 = some .local) (hd1 : (x1 == ("__debug__" : Str)) = false) (hs : ∀ env x, foldedSetIterable it1 env x = pure x)
    (R : Nat → List Value → Prop) (h0 : R 0 []) (hlen : ∀ i ys, R i ys → ys.length + 8 ≤ sizeLine)
    (turn : ∀ i v C m₃ s₃, i < n → P i v → Keeps s₁.heap s₃.heap → s₁.heap.objs.size ≤ s₃.heap.objs.size → s₁.heap.objs.size ≤ C → s₃.heap.Ns C m₃ → m₃ x0 = some v →
      Does w A (eval it1 (compEnvC scope cl C env)) s₃ (fun xv tl => ∃ (ax : Addr) (its : Array Value) (k : Nat), xv = .ref ax ∧ tl = [(ax, PySem.W.listOf its k)] ∧ its.size ≤ 8 ∧ ∀ ys, R i ys → R (i + 1) (ys ++ its.toList)))
    (hRR : ∀ D C h tk m' ys, Keeps s₁.heap h → s₁.heap.objs.size ≤ h.objs.size → s₁.heap.objs.size ≤ D → s₁.heap.objs.size ≤ C → C ≠ D → h.get? D = some (lst ys) → h.Ns C m' → R n ys → RR (.ref D) C (.ok .next) { s₂ with heap := h, toks := tk }) :
    wpAny (model prog w) A (newList []) (fun acc s₃ => wpAny (model prog w) A (newFunctionEnv scope env.globals cl [] env.qual none .none (some env)) (fun cenv s₄ =>
      codeAny (model prog w) A (.compStart (comp2 (.Name x1 pe) (.Name x0 p0) it0 (.Name x1 p1) it1 scope pos) 0 (.ref I) acc { cenv with scope := relabel scope env }) (RR acc cenv.locals) s₄) E s₃) E s₂ := by
  refine wpAny_newObj_type (wpAny_newFunctionEnv hcell (by intro y hy; simp at hy) (fun h₁ hns₁ hsb₁ => ?_) hkind)
  dsimp only at hns₁ hsb₁ ⊢
  generalize hH2 : s₂.heap.push { cls := .type "list", dict := none, data := .seq ([] : List Value).toArray } = H2 at hns₁ hsb₁ ⊢
  have hC : H2.objs.size = s₂.heap.objs.size + 1 := by rw [← hH2, Heap.size_push]
  generalize hCC : H2.objs.size = C at *
  generalize hDD : s₂.heap.objs.size = D at *
  have hDC : D ≠ C := by omega
  have hI2n : @LT.lt Nat _ I D := hI2
  have hIn : @LE.le Nat _ s₁.heap.objs.size I := hI
  have old : ∀ b o, s₂.heap.get? b = some o → h₁.get? b = some o := fun b o e => hsb₁.extBut b o (by have h1 : @LT.lt Nat _ b s₂.heap.objs.size := Heap.lt_size e; exact Nat.ne_of_lt (by omega)) (Heap.get?_push_of_some _ (hH2 ▸ Heap.get?_push_of_some _ e))
  have hacc : h₁.get? D = some (lst []) := hsb₁.extBut _ _ hDC (Heap.get?_push_of_some _ (hH2 ▸ hDD ▸ Heap.get?_push_size _ rfl))
  have hst₁ : St 0 h₁ := W.frame _ _ _ hst fun b _ o e => old b o e
  have hCf : C ∉ fp := fun hm => by have h1 : @LT.lt Nat _ _ _ := hfp _ hm; omega
  have hDf : D ∉ fp := fun hm => by have h1 : @LT.lt Nat _ _ _ := hfp _ hm; omega
  have z1 : s₁.heap.objs.size ≤ h₁.objs.size := by have h1 : @LT.lt Nat _ C h₁.objs.size := hns₁.lt; omega
  have hIC : I ≠ C := Nat.ne_of_lt (by omega)
  have hID : I ≠ D := Nat.ne_of_lt hI2n
  have loop : ∀ s₃ : Shared, s₃ = { s₂ with heap := h₁, toks := s₂.toks + ([] : List (Str × Value)).length } →
      codeAny (model prog w) A (.compLoop (comp2 (.Name x1 pe) (.Name x0 p0) it0 (.Name x1 p1) it1 scope pos) 0 (.ref I) (.ref D) (compEnvC scope cl C env)) (RR (.ref D) C) s₃ := by
    rintro s₃ rfl
    refine loop2_0
      (fun k s' => ∃ h' tk i ys m', s' = { s₂ with heap := h', toks := tk } ∧ i ≤ n ∧ k = n + 1 - i ∧ R i ys ∧ St i h' ∧ Keeps s₁.heap h' ∧ s₁.heap.objs.size ≤ h'.objs.size ∧ h'.Ns C m' ∧ h'.get? D = some (lst ys)) ?_ (n + 1)
      ⟨h₁, _, 0, [], _, rfl, Nat.zero_le _, rfl, h0, hst₁, fun b o e => old b o (k12 b o e), z1, hns₁, hacc⟩ (by intro _; rfl) (hs _)
    rintro k s' ⟨h', tk, i, ys, m', rfl, hi, rfl, hR, hst', hk', hz', hn', hD'⟩
    by_cases hlt : i < n
    · refine W.item i _ _ _ hlt hst' fun v h₂ tk₂ hPv hst₂ hk₂ => ?_
      have kI : ∀ b o, b ≠ I → h'.get? b = some o → h₂.get? b = some o := fun b o hb e => hk₂ b o (by simpa using hb) e
      refine wpAny_assign_Name (wpAny_storeName_local (lookup_relabel_local hx0) (hn'.at' fun o e => kI _ o (Ne.symm hIC) e) (fun h₃ hn₃ hs₃ => ?_) (by simp [compEnvC, relabel, hkind]))
      have kC : ∀ b o, b ≠ C → h₂.get? b = some o → h₃.get? b = some o := fun b o hb e => hs₃.extBut b o hb e
      have k₃ : Keeps s₁.heap h₃ := fun b o e => by
        have hb : @LT.lt Nat _ b s₁.heap.objs.size := Heap.lt_size e
        exact kC b o (Nat.ne_of_lt (by omega)) (kI b o (Nat.ne_of_lt (by omega)) (hk' b o e))
      have hst₃ : St (i + 1) h₃ := W.frame _ _ _ hst₂ fun b hb o e => kC b o (fun q => hCf (q ▸ hb)) e
      have hD₃ : h₃.get? D = some (lst ys) := kC _ _ hDC (kI _ _ (Ne.symm hID) hD')
      have lC : @LT.lt Nat _ C h₃.objs.size := hn₃.lt
      have z₃ : s₁.heap.objs.size ≤ h₃.objs.size := by omega
      refine turn i v C _ { s₂ with heap := h₃, toks := tk₂ + 1 } hlt hPv k₃ z₃ (by omega) hn₃ (by simp) _ _ fun xv tl h₄ tk₄ k₄ z₄ l₄ hx => ?_
      obtain ⟨ax, its, kk, rfl, rfl, h8, hstep⟩ := hx
      have eax := l₄ _ List.mem_cons_self
      have hst₄ : St (i + 1) h₄ := W.frame _ _ _ hst₃ fun b _ o e => k₄ b o e
      have hlx : h₄.IsList ax its := ⟨_, eax.1, rfl, _, rfl⟩
      obtain ⟨oC, _, _, eC, _⟩ := id hn₃
      obtain ⟨oI, eI⟩ := hIo _ _ hst₃
      have haC : ax ≠ C := ne_of_none eax.2 eC
      have haD : ax ≠ D := ne_of_none eax.2 hD₃
      have lax : ax < h₄.objs.size := Heap.lt_size eax.1
      refine wpAny_pyIter_list (s := { s₂ with heap := h₄, toks := tk₄ }) hlx ?_
      generalize hHH : h₄.push { cls := .type "list_iterator", data := .fields #[.ref ax, .int 0 0] } = h₅
      have k₅ : Keeps h₄ h₅ := fun b o e => hHH ▸ Heap.get?_push_of_some _ e
      have hnew : ∀ b o, h₄.get? b = some o → b ≠ h₄.objs.size := fun b o e => Nat.ne_of_lt (Heap.lt_size e)
      have hit₅ : h₅.IsListIter h₄.objs.size ax 0 := hHH ▸ ⟨_, Heap.get?_push_size _ rfl, rfl, rfl⟩
      refine inner2 (s := { s₂ with heap := h₅, toks := tk₄ }) (m := _) hh hkind hx1 hd1 hit₅ (hlx.at fun o e => k₅ _ o e) ((hn₃.keeps k₄).keeps k₅) (k₅ _ _ (k₄ _ _ hD₃)) (Ne.symm (hnew _ _ (k₄ _ _ eC))) (Ne.symm (hnew _ _ (k₄ _ _ hD₃))) (Ne.symm hDC) (hnew _ _ eax.1) haC haD (by have := hlen _ _ hR; omega) ?_
      intro h₆ tk₆ m₆ k₆ hn₆ hm₆ hD₆
      have hI₆ : ∀ b o, b ≠ C → b ≠ D → h₄.get? b = some o → h₆.get? b = some o := fun b o h1 h2 e => k₆ b o (hnew _ _ e) h1 h2 (k₅ _ _ e)
      refine ⟨⟨_, rfl⟩, n + 1 - (i + 1), turn_lt hlt, h₆, tk₆, i + 1, ys ++ its.toList, _, rfl, hlt, rfl, hstep ys hR, W.frame _ _ _ hst₄ fun b hb o e => hI₆ b o (fun q => hCf (q ▸ hb)) (fun q => hDf (q ▸ hb)) e, fun b o e => ?_, ?_, hn₆, hD₆⟩
      · have hb : @LT.lt Nat _ b s₁.heap.objs.size := Heap.lt_size e
        exact hI₆ b o (Nat.ne_of_lt (by omega)) (Nat.ne_of_lt (by omega)) (k₄ b o (k₃ b o e))
      · have h1 : @LT.lt Nat _ D h₆.objs.size := Heap.lt_size hD₆
        omega
    · obtain rfl : i = n := by omega
      refine W.done _ _ _ hst' fun h₂ tk₂ hk₂ => ?_
      have kI : ∀ b o, b ≠ I → h'.get? b = some o → h₂.get? b = some o := fun b o hb e => hk₂ b o (by simpa using hb) e
      have hD₂ := kI _ _ (Ne.symm hID) hD'
      refine hRR D C h₂ tk₂ m' ys (fun b o e => kI b o (by have h1 : @LT.lt Nat _ b s₁.heap.objs.size := Heap.lt_size e; exact Nat.ne_of_lt (by omega)) (hk' b o e)) (by have h1 : @LT.lt Nat _ D h₂.objs.size := Heap.lt_size hD₂; omega) (by omega) (by omega) (Ne.symm hDC) hD₂ (hn'.at' fun o e => kI _ o (Ne.symm hIC) e) hR
  exact codeAny_compStart_list (loop _ rfl) (W.self 0 _ _ _ hst₁ (loop _ rfl))
/-- an assignment of such a comprehension to a local name -/
theorem assignComp2 {h₀ : Heap} {it0 it1 : Expr} {x0 x1 y : Str} {p0 p1 pe py : Pos} {scope : Scope} {cl : List (Str × Addr)} {pos spos : Pos} {env : Env} {Q : Flow → Shared → Prop} {E : Value → Shared → Prop}
    (hh : A.handled = none)
    (hsw : swapsWith (comp2 (.Name x1 pe) (.Name x0 p0) it0 (.Name x1 p1) it1 scope pos) (some (.Name y py)) spos.line env = pure true)
    (hclos : closureFor scope env = pure cl) (hcell : ∀ y ∈ scope.names, y.2 ≠ .cell) (hkind : scope.kind = .function)
    (hnames : ∀ y ∈ scope.names, y.2 = .local → scope.names.lookup y.1 = some .local) (hx0 : scope.names.lookup x0 = some .local) (hx1 : scope.names.lookup x1 = some .local) (hd1 : (x1 == ("__debug__" : Str)) = false) (hs1 : ∀ env x, foldedSetIterable it1 env x = pure x)
    (hy : env.kindOf y = some .local) (hp : (env.scope.kind == .class || (env.scope.kind == .module && env.locals != env.globals)) = false)
    (h : wpAny (model prog w) A (eval it0 env) (fun xv s₁ => ∃ n P ax, ∃ R : Nat → List Value → Prop, IterOf w A xv ax s₁ n P ∧ n ≤ sizeLine ∧ R 0 [] ∧ (∀ i ys, R i ys → ys.length + 8 ≤ sizeLine) ∧
      (∀ i v C m₃ s₃, i < n → P i v → Keeps s₁.heap s₃.heap → s₁.heap.objs.size ≤ s₃.heap.objs.size → s₁.heap.objs.size ≤ C → s₃.heap.Ns C m₃ → m₃ x0 = some v →
        Does w A (eval it1 (compEnvC scope cl C env)) s₃ (fun xv tl => ∃ (ax : Addr) (its : Array Value) (k : Nat), xv = .ref ax ∧ tl = [(ax, PySem.W.listOf its k)] ∧ its.size ≤ 8 ∧ ∀ ys, R i ys → R (i + 1) (ys ++ its.toList))) ∧
      ∃ m news, Fr h₀ env.locals s₁.heap m ∧ News h₀ env.locals s₁.heap news ∧
      ∀ D ys h tk, R n ys → Fr h₀ env.locals h (fun z => if z = y then some (.ref D) else m z) → News h₀ env.locals h ((D, lst ys) :: news) → Q .next { s₁ with heap := h, toks := tk }) E s)
    (hs : ∀ x, foldedSetIterable it0 env x = pure x := by intro _; rfl) :
    wpAny (model prog w) A (exec (.Assign [.Name y py] (comp2 (.Name x1 pe) (.Name x0 p0) it0 (.Name x1 p1) it1 scope pos) spos) env) Q E s := by
  rw [exec_Assign_Name_used _ _ _ _ hsw]
  refine wpAny_bind (wpAny_standAt (wpAny_bind ?_))
  show wpAny _ A (do let _ ← comprehension (comp2 (.Name x1 pe) (.Name x0 p0) it0 (.Name x1 p1) it1 scope pos) scope env _ (newList []) false (eval it0 env) (some (assign (.Name y py) env))) _ _ s
  refine wpAny_bind (wpAny_mono (wpAny_comprehension_free (use := some (assign (.Name y py) env)) (Q := fun _ s' => Q .next s') rfl hs hclos hkind hnames
    (wpAny_mono h (fun xv s₁ h₁ => ?_) fun _ _ e => e)) (fun _ s' hq => wpAny_pure (wpAny_pure hq)) fun _ _ e => e)
  obtain ⟨n, P, ax, R, hit, hsz, h0, hlen, turn, m, news, F, N, fin⟩ := h₁
  refine hit _ _ fun I fp St h' k hI hI2 hfp _ hIo _ W st => ?_
  refine comp2_block hh W k (by have h1 : @LT.lt Nat _ I h'.objs.size := hI2; have h2 : @LE.le Nat _ s₁.heap.objs.size I := hI; show s₁.heap.objs.size ≤ h'.objs.size; omega) hI hI2 st hIo hfp hsz hcell hkind hx0 hx1 hd1 hs1 R h0 hlen turn ?_
  intro D C h₂ tk m' ys k₂ z₂ hD hC hCD hd hn hR
  have F₂ := fr_keeps F k₂
  have N₂ := news_keeps N k₂
  have lL : @LT.lt Nat _ env.locals s₁.heap.objs.size := F.ns.lt
  have hCL : C ≠ env.locals := Nat.ne_of_gt (Nat.lt_of_lt_of_le lL hC)
  have hDL : D ≠ env.locals := Nat.ne_of_gt (Nat.lt_of_lt_of_le lL hD)
  have new : ∀ b : Addr, @LE.le Nat _ s₁.heap.objs.size b → h₀.get? b = none := fun b hb => none_of F.keep (Heap.get?_none_of_le hb)
  show wpAny _ A (assign (.Name y py) env (.ref D)) _ _ _
  refine wpAny_assign_Name (wpAny_storeName_local hy F₂.ns (fun h₃ hn₃ hs₃ => ?_) hp)
  refine ⟨m', hn.sameBut hs₃ hCL, fun h₄ hs₄ => fin D ys h₄ _ hR ?_ (fun p hp => ?_)⟩
  · exact ⟨hn₃.sameBut hs₄ (Ne.symm hCL), fun b o e => hs₄.extBut b o (fun q => by rw [q, new C hC] at e; cases e) ((F₂.set hn₃ hs₃).keep b o e), F₂.above⟩
  · have z : ∀ q : Addr × Obj, q.1 ≠ C → q.1 ≠ env.locals → h₂.get? q.1 = some q.2 → h₄.get? q.1 = some q.2 := fun q a b e => hs₄.extBut _ _ a (hs₃.extBut _ _ b e)
    rcases List.mem_cons.mp hp with rfl | hp
    · exact ⟨z _ (Ne.symm hCD) hDL hd, hDL, new D hD⟩
    · have hb : @LT.lt Nat _ p.1 s₁.heap.objs.size := Heap.lt_size (N p hp).1
      exact ⟨z _ (Nat.ne_of_lt (Nat.lt_of_lt_of_le hb hC)) (N p hp).2.1 (N₂ p hp).1, (N p hp).2⟩
end
end Mine
end
/-! L1 -/
section
open PySem PySem.W PyProof.Rows PySem.Calls
set_option maxRecDepth 100000
set_option linter.unusedVariables false
namespace Mine
/-- the pieces that a name brings -/
noncomputable def piecesOf4 (x : Str) : List Str := [".", "x", "..", x]
theorem list4 {w : World} {A : Around} {s : Shared} {scope : Scope} {cl : List (Str × Addr)} {C : Addr} {env : Env} {m : Str → Option Value} {x0 : Str} {c : Str} {t : Tok} {p1 p2 p3 p4 pos : Pos} {k1 k2 k3 : Nat} (hkind : scope.kind = .function) (hx : scope.names.lookup x0 = some .local) (hd : (x0 == ("__debug__" : Str)) = false)
    (hC : s.heap.Ns C m) (hm : m x0 = some (.str c t)) :
    Does w A (eval (.List [.Constant (.str ".") k1 p1, .Constant (.str "x") k2 p2, .Constant (.str "..") k3 p3, .Name x0 p4] pos) (compEnvC scope cl C env)) s
      (fun v tl => ∃ (ax : Addr) (its : Array Value) (k : Nat), v = .ref ax ∧ tl = [(ax, PySem.W.listOf its k)] ∧ its.size ≤ 8 ∧ StrsAre its.toList (piecesOf4 c)) := by
  intro Q E h
  refine List_ (spliced_more (wpAny_Constant_str (spliced_more (wpAny_Constant_str (spliced_more (wpAny_Constant_str (spliced_more ?_)))))))
  refine wpAny_Name (wpAny_loadName_local (by simp [compEnvC, relabel, hkind]) (lookup_relabel_local hx) hC hm ?_) hd
  refine spliced_none (wpAny_newObj_type ?_ (by show 4 ≤ sizeLine; decide))
  obtain ⟨a, b, c'⟩ := push_does (v := .none) (h := s.heap) (o := { cls := .type "list", data := .seq [Value.str "." s.toks, Value.str "x" (s.toks + 1), Value.str ".." (s.toks + 1 + 1), Value.str c t].toArray }) rfl
  exact h _ _ _ _ a b c' ⟨_, _, _, rfl, rfl, by show 4 ≤ 8; omega, .cons _ _ (.cons _ _ (.cons _ _ (.cons _ _ .nil)))⟩

/-- a def of the text tells of itself -/
theorem kept_K {w : World} {h h' : Heap} {f : Value} (C : Cx w h) (hk : keepIn (Mine.hd.heap_39 w.params) f = true) (k : Keeps h h') : Kept w h' f := keeps_K hk h' (C.X.keeps k)

theorem split_le (x y : Str) : (Txt.split x y).length ≤ x.length + 2 := by
  unfold Txt.split
  split
  · simp
  · split
    · simp
    · have := StrLaws.occ_length_le x y 0 x.length (x.length + 1)
      rw [length_partsBetween]; omega
theorem rootS_le (a : Str) : (rootS a).2.length ≤ a.length := by
  unfold rootS
  split
  · exact Nat.le_refl _
  · split
    · exact Txt.slice_le _ _ _
    · split <;> exact Txt.slice_le _ _ _
theorem joinS_le (a b : Str) : (joinS a b).length ≤ a.length + b.length + 1 := by
  have e : (Str.ofString "/").length = 1 := by decide
  unfold joinS
  split
  · omega
  · split
    · split
      · rw [Str.length_append]; omega
      · rw [Str.length_append, Str.length_append, e]; omega
    · omega
theorem joins_le {k : Nat} {start : Str} {xs : List Str} (h : ∀ x ∈ xs, x.length ≤ k) : (xs.foldl joinS start).length ≤ start.length + xs.length * (k + 1) := by
  induction xs generalizing start with
  | nil => simp
  | cons x xs ih =>
    have h1 := h x (.head _)
    have h2 := ih (start := joinS start x) fun y hy => h y (.tail _ hy)
    have h3 := joinS_le start x
    simp only [List.foldl_cons, List.length_cons]
    rw [Nat.add_mul]; omega
theorem pieces_short {xs : List Str} (hx : ∀ x ∈ xs, x.length ≤ 3) : ∀ y ∈ xs.flatMap piecesOf4, y.length ≤ 3 := by
  intro y hy
  obtain ⟨x, hx', hy⟩ := List.mem_flatMap.mp hy
  simp only [piecesOf4, List.mem_cons, List.not_mem_nil, or_false] at hy
  rcases hy with rfl | rfl | rfl | rfl
  · decide
  · decide
  · decide
  · exact hx _ hx'
theorem pieces_len (xs : List Str) : (xs.flatMap piecesOf4).length = xs.length * 4 := by
  induction xs with
  | nil => rfl
  | cons x xs ih => rw [List.flatMap_cons, List.length_append, ih]; simp [piecesOf4]; omega
noncomputable def laidS (start : Str) (row : List Str) : Str := normS ((row.flatMap piecesOf4).foldl joinS start)

set_option maxHeartbeats 8000000 in
theorem laid_ok {w : World} {A : Around} {s : Shared} {start : Str} {t : Tok} {P : Addr} {vals : List Value} {xs : List Str}
   (C : Cx w s.heap) (r0 : Rm A 40 400) (hl : s.heap.IsList P vals.toArray) (hxs : StrsAre vals xs) (hn : xs.length ≤ 3) (hs : start.length ≤ 1) (hx : ∀ x ∈ xs, x.length ≤ 3) :
   Does w A (call (.ref 167) [.str start t, .ref P]) s (fun v _ => ∃ t', v = .str (laidS start xs) t') := by
  intro Q E h
  obtain ⟨ah, ad, af, ag, au⟩ := A
  obtain rfl : ah = none := r0.hh
  have hd := r0.dep
  dsimp only at hd
  refine enter (binds := [("start", .str start t), ("row", .ref P)]) C (by k_is) (by k_is) (by dsimp only; omega) (BindsTo.of_eq rfl) (by decide) (locs rfl) rfl rfl rfl (fun h₁ p loose mean mg mb F N X T => ?_)
  refine wpAny_execs_cons ?_
  refine assignComp2 (h₀ := s.heap) (cl := []) rfl rfl rfl (by decide) rfl (by decide) rfl rfl (by decide) (fun _ _ => rfl) rfl rfl ?_
  refine ld F rfl ?_
  refine ⟨vals.toArray.size, _, P, fun i ys => ∃ zs, StrsAre ys zs ∧ zs = (xs.take i).flatMap piecesOf4, iterOf_list rfl (isl_keep hl F), ?_, ⟨[], .nil, rfl⟩, ?_, ?_, _, _, F, N, ?_⟩
  · rw [List.size_toArray, hxs.length]; exact Nat.le_trans hn (by decide)
  · rintro i ys ⟨zs, hz, rfl⟩
    rw [hz.length, pieces_len, List.length_take]
    have : sizeLine = 16777216 := rfl
    omega
  · rintro i v Ca m₃ s₃ hi hP k3 z3 hC hns hm
    obtain ⟨c, tc, rfl, hc⟩ := StrsAre.item hxs i v (by simpa using hP)
    refine (list4 rfl rfl (by decide) hns hm).mono ?_
    rintro v tl ⟨ax, its, k, rfl, rfl, h8, hst⟩
    refine ⟨ax, its, k, rfl, rfl, h8, ?_⟩
    rintro ys ⟨zs, hz, rfl⟩
    refine ⟨_, StrsAre.append' hz hst, ?_⟩
    rw [List.take_add_one, hc]
    simp
  · rintro D ys g tk ⟨zs, hz, rfl⟩ F1 N1
    rw [List.size_toArray, hxs.length, List.take_length] at hz
    have F1 : Fr s.heap s.heap.objs.size g _ := F1
    have N1 : News s.heap s.heap.objs.size g _ := N1
    clear F N
    dsimp only
    have hps := pieces_short hx
    have hpl := pieces_len xs
    generalize hpz : xs.flatMap piecesOf4 = zs at hz hps hpl
    have hjl := joins_le (start := start) hps
    have hz2 : zs.length * 4 ≤ 48 := by omega
    (repeat' (first | (k_unfold; (try dsimp only)) | (k_end; kc_close) | ((with_reducible show wpAny _ _ (eval (PySem.Expr.Name _ _) _) _ _ _); with_reducible (k_dflt (refine' ld ?k1 ?k2 ?_; (case k1 => with_reducible assumption); (case k2 => ((try dsimp only); (repeat rw [if_neg (by decide)]); with_reducible assumption))))) | walk1 | (dsimp only; (first | ((with_reducible show wpAny _ _ (eval (PySem.Expr.Name _ _) _) _ _ _); with_reducible (k_dflt (refine' ld ?k1 ?k2 ?_; (case k1 => with_reducible assumption); (case k2 => ((try dsimp only); (repeat rw [if_neg (by decide)]); with_reducible assumption))))) | walk1)) | (leave1; (try dsimp only)) | fail "no step"))
    refine Does.fr0 (reduce3_ok (fun i a => a = (zs.take i).foldl joinS start) (cx_of X T F1) (Rm.deeper (r0.le (by decide) (by decide))) (led_list N1 (.head _)) hz rfl (fun h' k' => kept_K C (by k_is) (fun b o e => k' b o (F1.keep b o e))) ?_) (by with_reducible assumption) (by with_reducible assumption) ?_
    · rintro i a b t' u' env s' k' hb rfl
      have hml : ((zs.take i).foldl joinS start).length ≤ 1000 := by
        have h1 := joins_le (start := start) (xs := zs.take i) (k := 3) fun x hx => hps x (List.mem_of_mem_take hx)
        have h2 : (zs.take i).length ≤ zs.length := by rw [List.length_take]; omega
        have h3 : (zs.take i).length * 4 ≤ 48 := by omega
        omega
      refine (join_ok (C.keeps fun b o e => k' b o (F1.keep b o e)) (Rm.deeper (Rm.deeper (r0.le (by decide) (by decide)))) hml (Nat.le_trans (hps b (List.mem_of_getElem? hb)) (by decide))).mono ?_
      rintro v tl ⟨t'', rfl⟩
      refine ⟨_, _, rfl, ?_⟩
      rw [List.take_add_one, hb]
      simp
    · rintro v' tl' g' tk' F' N' ⟨b', tb', rfl, hb'⟩
      rw [List.take_length] at hb'
      subst hb'
      have hjl2 : (zs.foldl joinS start).length ≤ 1000 := by omega
      k_steps
      refine Does.fr0 (normpath_ok (cx_of X T F') (Rm.deeper (r0.le (by decide) (by decide))) hjl2 ?_) F' N' ?_
      · exact Nat.le_trans (split_le _ _) (by have := rootS_le (zs.foldl joinS start); omega)
      · rintro v2 tl2 g2 tk2 F2 N2 ⟨t2, rfl⟩
        k_steps
        refine h _ [] _ _ (Fr.keep (by assumption)) (fr_le (by assumption)) Led.nil ⟨t2, ?_⟩
        unfold laidS; rw [hpz]
end Mine
end
/-! T2 -/
section
open PySem PySem.W PyProof.Rows PySem.Calls
set_option maxRecDepth 100000
set_option linter.unusedVariables false
namespace Mine
/-- What three_way_cmp answers for two lists of texts. -/
noncomputable def cmpL (xs ys : List Str) : Int := b2i (ltL ys xs) - b2i (ltL xs ys)
set_option maxHeartbeats 8000000 in
theorem threeway_ok {w : World} {A : Around} {s : Shared} {P R : Addr} {V W : List Value} {xs ys : List Str}
   (C : Cx w s.heap) (r0 : Rm A 5 50) (hl : s.heap.IsList P V.toArray) (hm : s.heap.IsList R W.toArray) (hxs : StrsAre V xs) (hys : StrsAre W ys) :
   Does w A (call (.ref 157) [.ref P, .ref R]) s (fun v _ => ∃ t', v = .int (cmpL xs ys) t') := by
  intro Q E h
  obtain ⟨ah, ad, af, ag, au⟩ := A
  obtain rfl : ah = none := r0.hh
  have hd := r0.dep
  dsimp only at hd
  refine enter (binds := [("x", .ref P), ("y", .ref R)]) C (by k_is) (by k_is) (by dsimp only; omega) (BindsTo.of_eq rfl) (by decide) (locs rfl) rfl rfl rfl (fun h₁ p loose mean mg mb F N X T => ?_)
  (repeat' (first | (k_unfold; (try dsimp only)) | (k_end; kc_close) | ((with_reducible show wpAny _ _ (compareOp PySem.CmpOp.Lt (PySem.Value.ref _) (PySem.Value.ref _)) _ _ _); with_reducible (k_dflt (refine lt_S (isl_keep (by with_reducible assumption) (by with_reducible assumption)) (isl_keep (by with_reducible assumption) (by with_reducible assumption)) (by with_reducible assumption) (by with_reducible assumption) (Rm.lt (Rm.deeper (by assumption))) ?_))) | ((with_reducible show wpAny _ _ (compareOp PySem.CmpOp.Gt (PySem.Value.ref _) (PySem.Value.ref _)) _ _ _); with_reducible (k_dflt (refine gt_S (isl_keep (by with_reducible assumption) (by with_reducible assumption)) (isl_keep (by with_reducible assumption) (by with_reducible assumption)) (by with_reducible assumption) (by with_reducible assumption) (Rm.lt (Rm.deeper (by assumption))) ?_))) | walk1 | (dsimp only; (first | ((with_reducible show wpAny _ _ (compareOp PySem.CmpOp.Lt (PySem.Value.ref _) (PySem.Value.ref _)) _ _ _); with_reducible (k_dflt (refine lt_S (isl_keep (by with_reducible assumption) (by with_reducible assumption)) (isl_keep (by with_reducible assumption) (by with_reducible assumption)) (by with_reducible assumption) (by with_reducible assumption) (Rm.lt (Rm.deeper (by assumption))) ?_))) | ((with_reducible show wpAny _ _ (compareOp PySem.CmpOp.Gt (PySem.Value.ref _) (PySem.Value.ref _)) _ _ _); with_reducible (k_dflt (refine gt_S (isl_keep (by with_reducible assumption) (by with_reducible assumption)) (isl_keep (by with_reducible assumption) (by with_reducible assumption)) (by with_reducible assumption) (by with_reducible assumption) (Rm.lt (Rm.deeper (by assumption))) ?_))) | walk1)) | (leave1; (try dsimp only)) | fail "no step"))
  exact h _ [] _ _ (Fr.keep (by assumption)) (fr_le (by assumption)) Led.nil ⟨_, rfl⟩

set_option maxHeartbeats 8000000 in
theorem compared_ok {w : World} {A : Around} {s : Shared} {a b : Str} {t u : Tok}
   (C : Cx w s.heap) (r0 : Rm A 10 100) (ha : a.length ≤ 1000) (hb : b.length ≤ 1000) :
   Does w A (call (.ref 181) [.str a t, .str b u]) s (fun v _ => ∃ t', v = .int (cmpL (Txt.split a "/") (Txt.split b "/")) t') := by
  intro Q E h
  obtain ⟨ah, ad, af, ag, au⟩ := A
  obtain rfl : ah = none := r0.hh
  have hd := r0.dep
  dsimp only at hd
  have r : Rm { depth := ad, frames := af, guards := ag, units := au } (5 + 1) (50 + 3) := r0.le (by decide) (by decide)
  refine enter (binds := [("a", .str a t), ("b", .str b u)]) C (by k_is) (by k_is) (by dsimp only; omega) (BindsTo.of_eq rfl) (by decide) (locs rfl) rfl rfl rfl (fun h₁ p loose mean mg mb F N X T => ?_)
  (repeat' (first | (k_unfold; (try dsimp only)) | (k_end; kc_close) | ((with_reducible show wpAny _ _ (PySem.call (PySem.Value.ref _) _ _) _ _ _); (first | with_reducible (refine Does.fr0 (threeway_ok (cx_of (by assumption) (by assumption) (by assumption)) (Rm.deeper (by assumption)) (led_list (by with_reducible assumption) (.tail _ (.head _))) (led_list (by with_reducible assumption) (.head _)) (by with_reducible assumption) (by with_reducible assumption)) (by assumption) (by assumption) ?_; (intro _ _ _ _ _ _ e'; obtain ⟨_, e'⟩ := e'; subst e'); (try k_sweep)) | (refine Does.fr0 (threeway_ok (cx_of (by assumption) (by assumption) (by assumption)) (Rm.deeper (by assumption)) (led_list (by with_reducible assumption) (.tail _ (.head _))) (led_list (by with_reducible assumption) (.head _)) (by with_reducible assumption) (by with_reducible assumption)) (by assumption) (by assumption) ?_; (intro _ _ _ _ _ _ e'; obtain ⟨_, e'⟩ := e'; subst e'); (try k_sweep)))) | ((with_reducible show wpAny _ _ (PySem.call (PySem.Value.builtin "str.split") _ _) _ _ _); with_reducible (refine Does.fr (split_does (by decide) (by first | omega | (simp only [sizeLine]; omega))) (by assumption) (by assumption) ?_; (intro _ _ _ _ _ N' e'; obtain ⟨_, _, _, e1', e2', _⟩ := e'; subst e1'; subst e2'); (try dsimp only [List.cons_append, List.nil_append] at N'); (try k_sweep))) | walk1 | (dsimp only; (first | ((with_reducible show wpAny _ _ (PySem.call (PySem.Value.ref _) _ _) _ _ _); (first | with_reducible (refine Does.fr0 (threeway_ok (cx_of (by assumption) (by assumption) (by assumption)) (Rm.deeper (by assumption)) (led_list (by with_reducible assumption) (.tail _ (.head _))) (led_list (by with_reducible assumption) (.head _)) (by with_reducible assumption) (by with_reducible assumption)) (by assumption) (by assumption) ?_; (intro _ _ _ _ _ _ e'; obtain ⟨_, e'⟩ := e'; subst e'); (try k_sweep)) | (refine Does.fr0 (threeway_ok (cx_of (by assumption) (by assumption) (by assumption)) (Rm.deeper (by assumption)) (led_list (by with_reducible assumption) (.tail _ (.head _))) (led_list (by with_reducible assumption) (.head _)) (by with_reducible assumption) (by with_reducible assumption)) (by assumption) (by assumption) ?_; (intro _ _ _ _ _ _ e'; obtain ⟨_, e'⟩ := e'; subst e'); (try k_sweep)))) | ((with_reducible show wpAny _ _ (PySem.call (PySem.Value.builtin "str.split") _ _) _ _ _); with_reducible (refine Does.fr (split_does (by decide) (by first | omega | (simp only [sizeLine]; omega))) (by assumption) (by assumption) ?_; (intro _ _ _ _ _ N' e'; obtain ⟨_, _, _, e1', e2', _⟩ := e'; subst e1'; subst e2'); (try dsimp only [List.cons_append, List.nil_append] at N'); (try k_sweep))) | walk1)) | (leave1; (try dsimp only)) | fail "no step"))
  exact h _ [] _ _ (Fr.keep (by assumption)) (fr_le (by assumption)) Led.nil ⟨_, rfl⟩
end Mine
end
/-! H1 -/
section
open PySem PySem.W PyProof.Rows PySem.Calls
set_option maxRecDepth 100000
set_option linter.unusedVariables false
namespace Mine
/-- a heap over an elder one, with a ledger of objects that may change -/
structure Hp (g h : Heap) (led : List (Addr × Obj)) : Prop where
  keep : ∀ b o, g.get? b = some o → h.get? b = some o
  mem : ∀ p ∈ led, h.get? p.1 = some p.2 ∧ g.get? p.1 = none
  nd : led.Pairwise (fun p q => p.1 ≠ q.1)
  size : g.objs.size ≤ h.objs.size
section
variable {g h : Heap} {led : List (Addr × Obj)}
theorem Hp.get (H : Hp g h led) {a : Addr} {o : Obj} (hm : (a, o) ∈ led) : h.get? a = some o := (H.mem _ hm).1
theorem Hp.lt (H : Hp g h led) {p : Addr × Obj} (hm : p ∈ led) : @LT.lt Nat _ p.1 h.objs.size := Heap.lt_size (H.mem _ hm).1
theorem Hp.fresh (H : Hp g h led) {a : Addr} (ha : @LE.le Nat _ h.objs.size a) : g.get? a = none := Heap.get?_none_of_le (Nat.le_trans H.size ha)
theorem Hp.push (H : Hp g h led) {o : Obj} (hf : o.isFreed = false) : Hp g (h.push o) ((h.objs.size, o) :: led) where
  keep := fun b x e => Heap.get?_push_of_some _ (H.keep b x e)
  mem := fun p hp => by
    rcases List.mem_cons.mp hp with rfl | hp
    · exact ⟨Heap.get?_push_size _ hf, H.fresh (Nat.le_refl _)⟩
    · exact ⟨Heap.get?_push_of_some _ (H.mem p hp).1, (H.mem p hp).2⟩
  nd := List.pairwise_cons.mpr ⟨fun p hp => Nat.ne_of_gt (H.lt hp), H.nd⟩
  size := by rw [Heap.size_push]; exact Nat.le_succ_of_le H.size
theorem Hp.set (H : Hp g h led) {h' : Heap} {i : Nat} {a : Addr} {o o' : Obj} (hi : led[i]? = some (a, o)) (hs : ∀ b x, b ≠ a → h.get? b = some x → h'.get? b = some x) (ho : h'.get? a = some o') (hz : h.objs.size ≤ h'.objs.size) :
    Hp g h' (led.set i (a, o')) := by
  have hlt : i < led.length := by
    rcases Nat.lt_or_ge i led.length with h | h
    · exact h
    · rw [List.getElem?_eq_none h] at hi; cases hi
  have hget : led[i] = (a, o) := by rw [List.getElem?_eq_getElem hlt] at hi; exact Option.some.inj hi
  have hga : g.get? a = none := (H.mem (a, o) (hget ▸ List.getElem_mem hlt)).2
  have split : ∀ j (hj : j < led.length), j ≠ i → led[j].1 ≠ a := fun j hj hne => by
    have hp := List.pairwise_iff_getElem.mp H.nd
    rcases Nat.lt_or_ge j i with h1 | h1
    · have := hp j i hj hlt h1; rw [hget] at this; exact this
    · have := hp i j hlt hj (by omega); rw [hget] at this; exact Ne.symm this
  refine ⟨fun b x e => hs b x (fun q => by rw [q, hga] at e; cases e) (H.keep b x e), fun p hp => ?_, ?_, Nat.le_trans H.size hz⟩
  · obtain ⟨j, hj, rfl⟩ := List.getElem_of_mem hp
    rw [List.length_set] at hj
    rw [List.getElem_set]
    split
    · exact ⟨ho, hga⟩
    · rename_i hne
      have m := H.mem led[j] (List.getElem_mem hj)
      exact ⟨hs _ _ (split j hj (Ne.symm hne)) m.1, m.2⟩
  · rw [List.pairwise_iff_getElem]
    intro j k hj hk hjk
    rw [List.length_set] at hj hk
    have hp := List.pairwise_iff_getElem.mp H.nd j k hj hk hjk
    rw [List.getElem_set, List.getElem_set]
    split
    · rename_i e
      rw [if_neg (by omega)]
      exact Ne.symm (split k hk (by omega))
    · split
      · rename_i e1 e2; exact split j hj (by omega)
      · exact hp
theorem Hp.drop (H : Hp g h led) {led' : List (Addr × Obj)} (hs : led'.Sublist led) : Hp g h led' := ⟨H.keep, fun p hp => H.mem p (hs.subset hp), H.nd.sublist hs, H.size⟩
theorem Hp.grow (H : Hp g h led) {h' : Heap} (k : Keeps h h') (z : h.objs.size ≤ h'.objs.size) : Hp g h' led :=
  ⟨fun b o e => k b o (H.keep b o e), fun p hp => ⟨k _ _ (H.mem p hp).1, (H.mem p hp).2⟩, H.nd, Nat.le_trans H.size z⟩
theorem Hp.start (g : Heap) : Hp g g [] := ⟨fun _ _ e => e, (fun _ h => by cases h), List.Pairwise.nil, Nat.le_refl _⟩
/-- more objects that stand, new to the elder heap and apart from the ledger -/
theorem Hp.join (H : Hp g h led) {a : Addr} {o : Obj} (ho : h.get? a = some o) (hg : g.get? a = none) (hn : ∀ p ∈ led, p.1 ≠ a) : Hp g h ((a, o) :: led) where
  keep := H.keep
  mem := fun p hp => by
    rcases List.mem_cons.mp hp with rfl | hp
    · exact ⟨ho, hg⟩
    · exact H.mem p hp
  nd := List.pairwise_cons.mpr ⟨fun p hp => Ne.symm (hn p hp), H.nd⟩
  size := H.size
end
section
variable {α : Type} {M : Model} {A : Around} {E : Value → Shared → Prop} {g h : Heap} {led : List (Addr × Obj)} {gs : Array GenState} {d : Drawn} {t : Nat} {os : OsState} {Q : α → Shared → Prop}
theorem hp_load {a : Addr} {p : Option Value} {k : Obj → Sem α} {o : Obj} (H : Hp g h led) (hm : (a, o) ∈ led) (q : wpAny M A (k o) Q E ⟨h, gs, d, t, os⟩) : wpAny M A (.load a p k) Q E ⟨h, gs, d, t, os⟩ := nd_load (H.get hm) q
theorem hp_alloc {o : Obj} {k : Addr → Sem α} (H : Hp g h led) (hf : o.isFreed = false) (q : ∀ a h', Hp g h' ((a, o) :: led) → (∀ p ∈ led, @LT.lt Nat _ p.1 a) → wpAny M A (k a) Q E ⟨h', gs, d, t, os⟩) : wpAny M A (.alloc o k) Q E ⟨h, gs, d, t, os⟩ :=
  nd_alloc (q _ _ (H.push hf) fun p hp => H.lt hp)
theorem hp_update {a : Addr} {p : Option Value} {f : Obj → Obj} {k : Unit → Sem α} {o : Obj} {i : Nat} (H : Hp g h led) (hi : led[i]? = some (a, o)) (hf : (f o).isFreed = false) (q : ∀ h', Hp g h' (led.set i (a, f o)) → wpAny M A (k ()) Q E ⟨h', gs, d, t, os⟩) :
    wpAny M A (.update a p f k) Q E ⟨h, gs, d, t, os⟩ := by
  have hm : (a, o) ∈ led := List.mem_of_getElem? hi
  have e := H.get hm
  have H' := H.set (h' := h.update a f) hi (fun b x hb e => (Heap.get?_update_other _ _ (Ne.symm hb)).trans e) (Heap.get?_update_self _ e hf) (by rw [Heap.size_after_update]; exact Nat.le_refl _)
  intro Γ pos hΓ
  exact ⟨by show (h.get? a).isSome; rw [e]; rfl, q _ H' Γ pos hΓ⟩
theorem hp_nsGet {a : Addr} {name : Str} {es : List DictEntry} {n : Nat} {r : Option Value} {Q : Option Value → Shared → Prop} (H : Hp g h led) (hm : (a, dictOf es n) ∈ led) (e : getL name es = some r) (q : Q r ⟨h, gs, d, t, os⟩) : wpAny M A (nsGet a name) Q E ⟨h, gs, d, t, os⟩ := by
  unfold nsGet
  refine wpAny_bind (wpAny_loadPart (H.get hm) ?_)
  rw [nsLook_of (r := r) (by rw [lookIn_dict]; exact e)]
  exact wpAny_pure q
theorem looks_nsGetL {a : Addr} {name : Str} {es : List DictEntry} {n : Nat} {r : Option Value} (hm : h.get? a = some (dictOf es n)) (e : getL name es = some r) : Looks M h (nsGet a name) r :=
  (Looks.ld hm).andThen (Looks.of_pure (nsLook_of (by rw [lookIn_dict]; exact e)))
theorem hp_nsSet {a : Addr} {name : Str} {v : Value} {es es' : List DictEntry} {n n' : Nat} {i : Nat} {Q : Unit → Shared → Prop} (H : Hp g h led) (hi : led[i]? = some (a, dictOf es n)) (hl : (getL name es).isSome = true) 
    (e : (putL name (PyData.keyHash M.w.params name) (.str name t) v es, putN name es n) = (es', n'))
    (q : ∀ h', Hp g h' (led.set i (a, dictOf es' n')) → Q () ⟨h', gs, d, t + 1, os⟩) : wpAny M A (nsSet a name v) Q E ⟨h, gs, d, t, os⟩ := by
  obtain ⟨e1, e2⟩ := Prod.mk.inj e
  have hm := List.mem_of_getElem? hi
  have D := H.get hm
  unfold nsSet
  refine wpAny_bind (wpAny_bind (wpAny_askSetting (wpAny_pure (wpAny_bind (wpAny_mkText (wpAny_bind (wpAny_loadPart D ?_)))))))
  have c : (!es.any (·.key.isStr name) && es.any (·.refKey)) = false := by
    unfold getL at hl
    split at hl
    · rename_i en he
      rw [List.any_eq_true.mpr ⟨en, List.mem_of_find?_eq_some he, List.find?_some he⟩]; rfl
    · split at hl
      · cases hl
      · rename_i z; rw [Bool.not_eq_true] at z; rw [z, Bool.and_false]
  dsimp only
  rw [aRefKeyMayBeTheName_at, List.any_toArray, List.any_toArray, c]
  have e' : Obj.putName name (PyData.keyHash M.w.params name) (.str name t) v (dictOf es n) = dictOf es' n' := by rw [putName_dict, e1, e2]
  refine wpAny_updatePart D ?_
  have H' := H.set (h' := h.update a (Obj.putName name (PyData.keyHash M.w.params name) (.str name t) v)) hi (fun b x hb e => (Heap.get?_update_other _ _ (Ne.symm hb)).trans e) (Heap.get?_update_self _ D (by rw [e']; rfl)) (by rw [Heap.size_after_update]; exact Nat.le_refl _)
  rw [e'] at H'
  have hlt : i < led.length := by
    rcases Nat.lt_or_ge i led.length with h | h
    · exact h
    · rw [List.getElem?_eq_none h] at hi; cases hi
  have D' := H'.get (a := a) (o := dictOf es' n') (List.mem_iff_getElem.mpr ⟨i, by rw [List.length_set]; exact hlt, by rw [List.getElem_set_self]⟩)
  exact q _ H'
end
end Mine
namespace Mine
section
variable {prog : Program} {w : World} {A : Around} {E : Value → Shared → Prop} {g h : Heap} {led : List (Addr × Obj)} {gs : Array GenState} {d : Drawn} {t : Nat} {os : OsState}
theorem hp_collect {l : Addr} {vs : List Value} {n : Nat} {Q : List Value → Shared → Prop} (H : Hp g h led) (hm : (l, ({ cls := .type "list", data := .seq vs.toArray n } : Obj)) ∈ led) (hz : vs.length ≤ 1000) (q : ∀ h', Hp g h' led → Q vs ⟨h', gs, d, t, os⟩) :
    wpAny (model prog w) A (collect (.ref l)) Q E ⟨h, gs, d, t, os⟩ := by
  refine collect_list (s := ⟨h, gs, d, t, os⟩) ⟨_, H.get hm, rfl, _, rfl⟩ ?_ (by rw [sizeLine_eq]; omega)
  refine q _ (H.grow (fun b o e => ?_) ?_)
  · have hb : @LT.lt Nat _ b h.objs.size := Heap.lt_size e
    exact (Heap.get?_update_other _ _ (Nat.ne_of_gt hb)).trans (Heap.get?_push_of_some _ e)
  · rw [Heap.size_after_update, Heap.size_push]; exact Nat.le_succ _
end
end Mine
namespace Mine
section
variable {M : Model} {A : Around} {E : Value → Shared → Prop} {g h : Heap} {led : List (Addr × Obj)} {gs : Array GenState} {d : Drawn} {t : Nat} {os : OsState}
theorem hp_nsSetBy {a : Addr} {name : Str} {v : Value} {es es' : List DictEntry} {n n' : Nat} {i : Nat} {Q : Unit → Shared → Prop} (H : Hp g h led) (hi : led[i]? = some (a, dictOf es n)) (hl : (getL name es).isSome = true) (hz : es.length ≤ 1000)
    (e : (putL name (PyData.keyHash M.w.params name) (.str name t) v es, putN name es n) = (es', n'))
    (q : ∀ h', Hp g h' (led.set i (a, dictOf es' n')) → Q () ⟨h', gs, d, t + 1, os⟩) : wpAny M A (nsSetByValue a name v) Q E ⟨h, gs, d, t, os⟩ := by
  unfold nsSetByValue
  refine wpAny_bind (wpAny_loadPart (H.get (List.mem_of_getElem? hi)) ?_)
  dsimp only
  rw [if_neg (by rw [Bool.and_eq_true]; rintro ⟨h1, _⟩; rw [decide_eq_true_eq, List.size_toArray, sizeLine_eq] at h1; omega)]
  exact hp_nsSet H hi hl e q
end
end Mine
namespace Mine
noncomputable def setL : List (Option Value) → Nat → Option Value → List (Option Value)
  | [], 0, v => [v]
  | [], n + 1, v => none :: setL [] n v
  | _ :: r, 0, v => v :: r
  | x :: r, n + 1, v => x :: setL r n v
theorem setL_nil (v : Option Value) : ∀ i, setL [] i v = List.replicate i none ++ [v]
  | 0 => rfl
  | i + 1 => by rw [setL, setL_nil v i, List.replicate_succ, List.cons_append]
theorem setL_eq (v : Option Value) : ∀ (l : List (Option Value)) (i : Nat), (l ++ List.replicate (i + 1 - l.length) none).set i v = setL l i v
  | [], i => by
    rw [setL_nil, List.nil_append, List.length_nil, Nat.sub_zero, List.replicate_succ']
    rw [List.set_append_right _ _ (by simp)]
    simp
  | x :: r, 0 => by simp [setL]
  | x :: r, i + 1 => by
    rw [setL, ← setL_eq v r i, List.cons_append, List.set_cons_succ, List.length_cons, Nat.add_sub_add_right]
theorem setL_arr (v : Option Value) (l : List (Option Value)) (i : Nat) : (l.toArray ++ Array.replicate (i + 1 - l.toArray.size) none).setIfInBounds i v = (setL l i v).toArray := by
  apply Array.toList_inj.mp
  rw [← setL_eq]
  simp
section
variable {M : Model} {A : Around} {E : Value → Shared → Prop} {g h : Heap} {led : List (Addr × Obj)} {gs : Array GenState} {d : Drawn} {t : Nat} {os : OsState}
theorem hp_setSlot {a : Addr} {c : Value} {dd : Option Addr} {dt : Data} {l : List (Option Value)} {j : Nat} {v : Option Value} {i : Nat} {Q : Unit → Shared → Prop} (H : Hp g h led) (hi : led[i]? = some (a, ⟨c, dd, dt, l.toArray⟩)) (hj : j < 1000) (hf : (⟨c, dd, dt, (setL l j v).toArray⟩ : Obj).isFreed = false)
    (q : ∀ h', Hp g h' (led.set i (a, ⟨c, dd, dt, (setL l j v).toArray⟩)) → Q () ⟨h', gs, d, t, os⟩) : wpAny M A (setSlotAt a j v) Q E ⟨h, gs, d, t, os⟩ := by
  unfold setSlotAt
  dsimp only
  rw [if_neg (by rw [sizeLine_eq]; omega)]
  have e := H.get (List.mem_of_getElem? hi)
  have H' := H.set (h' := h.update a fun o => { o with slots := (o.slots ++ Array.replicate (j + 1 - o.slots.size) none).setIfInBounds j v }) (o' := ⟨c, dd, dt, (setL l j v).toArray⟩) hi (fun b x hb e => (Heap.get?_update_other _ _ (Ne.symm hb)).trans e)
    (by rw [← setL_arr]; rw [← setL_arr] at hf; exact Heap.get?_update_self _ e hf) (by rw [Heap.size_after_update]; exact Nat.le_refl _)
  exact wpAny_updatePart e (q _ H')
end
end Mine
end
/-! H2 -/
section
open PySem PySem.W PyProof.Rows PySem.Calls PySem.Builtin
set_option maxRecDepth 100000
namespace Mine
theorem pf_tt : isSubtype (.type "tuple") (.type "tuple") = pure true := by rw [isSubtype_type]; kernel_rfl
theorem pf_dd : isSubtype (.type "dict") (.type "dict") = pure true := by rw [isSubtype_type]; kernel_rfl
theorem pf_ty : isSubtype (.type "type") (.type "type") = pure true := by rw [isSubtype_type]; kernel_rfl
theorem pf_to : typeOf (.type "object") = pure (.type "type") := by kernel_rfl
theorem pf_ft : typeOf (.type "type") = pure (.type "type") := by kernel_rfl
theorem pf_it : isType (.type "object") = pure true := by kernel_rfl
theorem pf_no : notOverATurnedClass [.type "object"] = pure () := by kernel_rfl
theorem pf_ex : extendedBase [.type "object"] = pure (.type "object") := by kernel_rfl
theorem pf_di : typeLookup (.type "dict") "__iter__" = pure (some (.builtin "dict.__iter__")) := by rw [typeLookup_type, builtinLookup_eq_fast]; kernel_rfl
theorem pf_bb : Slots.bestBase [.type "object"] = pure (.type "object") := by kernel_rfl
theorem pf_sn : Slots.slotNamesOf (.type "object") = pure [] := by kernel_rfl
theorem pf_gd : Slots.givesDict (.type "object") = pure false := by kernel_rfl
theorem pf_gw : Slots.givesWeak (.type "object") = pure false := by kernel_rfl
theorem pf_vs : Slots.varSize (.type "object") = pure false := by kernel_rfl
theorem pf_mh : mroHook? (.type "type") = pure none := by kernel_rfl
theorem pf_ln : linearize [.type "object"] mroOf = pure [.type "object"] := by kernel_rfl
theorem pf_mo : mroOf (.type "object") = pure [.type "object"] := by kernel_rfl
end Mine
namespace Mine
theorem pf_nc : typeLookup (.type "type") "__new__" = pure (some (.builtin "type.__new__")) := by rw [typeLookup_type, builtinLookup_eq_fast]; kernel_rfl
theorem pf_mk : Bind.madeBy (.type "object") = pure (some "object.__new__") := by kernel_rfl
theorem pf_ns (a : Addr) : noteSubclassOfBuiltin "object" a = pure () := by kernel_rfl
theorem pf_fs : typeLookup (.type "function") "__set_name__" = pure none := by rw [typeLookup_type, builtinLookup_eq_fast]; kernel_rfl
theorem pf_ss : typeLookup (.type "str") "__set_name__" = pure none := by rw [typeLookup_type, builtinLookup_eq_fast]; kernel_rfl
theorem pf_is : typeLookup (.type "int") "__set_name__" = pure none := by rw [typeLookup_type, builtinLookup_eq_fast]; kernel_rfl
theorem pf_ns1 : typeLookup (.type "NoneType") "__set_name__" = pure none := by rw [typeLookup_type, builtinLookup_eq_fast]; kernel_rfl
theorem pf_ls : typeLookup (.type "list") "__set_name__" = pure none := by rw [typeLookup_type, builtinLookup_eq_fast]; kernel_rfl
theorem pf_ts : typeLookup (.type "tuple") "__set_name__" = pure none := by rw [typeLookup_type, builtinLookup_eq_fast]; kernel_rfl
theorem pf_ms : typeLookup (.type "member_descriptor") "__set_name__" = pure none := by rw [typeLookup_type, builtinLookup_eq_fast]; kernel_rfl
theorem pf_id : Slots.isIdentifier (Str.ofString "obj") = some true := by decide +kernel
theorem pf_mg : Slots.mangle (Str.ofString "K") (Str.ofString "obj") = Str.ofString "obj" := by decide +kernel
end Mine
end
/-! K2 -/
section
open PySem PySem.W PyProof.Rows PySem.Calls
set_option maxRecDepth 100000
set_option linter.unusedVariables false
namespace Mine
noncomputable abbrev ent (h : Int) (x : Str) (t : Tok) (v : Value) : DictEntry := ⟨h, .str x t, v⟩
set_option maxHeartbeats 2000000 in
theorem read_K {prog : Program} {w : World} {A : Around} {g h : Heap} {gs : Array GenState} {d : Drawn} {t : Nat} {os : OsState} {P : Builtin.Slots.Plan → Shared → Prop} {E : Value → Shared → Prop} {lS : Addr} {nl : Nat} {l1 : Tok} {led : List (Addr × Obj)} {es : Array DictEntry} {h4 : Int} {t4 : Tok}
   (H : Hp g h led) (hm : (lS, ({ cls := .type "list", data := .seq [Value.str "obj" l1].toArray nl } : Obj)) ∈ led) (hf : es.find? (·.key.isStr "__slots__") = some (ent h4 "__slots__" t4 (.ref lS))) (hn0 : es.toList.any (·.key.isStr "obj") = false)
   (q : ∀ h', Hp g h' led → P { names := ["obj"], dict := false, weak := false, inherited := [] } ⟨h', gs, d, t, os⟩) :
   wpAny (model prog w) A (Builtin.Slots.read (Str.ofString "K") [.type "object"] es) P E ⟨h, gs, d, t, os⟩ := by
  have hn : es.any (·.key.isStr "obj") = false := by rw [← Array.any_toList]; exact hn0
  unfold Builtin.Slots.read
  rw [hf]
  repeat (first | (first | with_reducible refine wpAny_pure ?_ | ((with_reducible show wpAny _ _ (Sem.pure _) _ _ _); with_reducible refine nd_pure ?_) | with_reducible refine wpAny_bind ?_ | with_reducible refine nd_bind ?_ | with_reducible refine wpAny_holding ?_ | with_reducible refine wpAny_onRaise ?_ | ((with_reducible show wpAny _ _ (isSubtype _ _) _ _ _); first | refine wpAny_of_eq pf_tt ?_ | refine wpAny_of_eq pf_dd ?_ | refine wpAny_of_eq pf_ty ?_) | ((with_reducible show wpAny _ _ (typeLookup _ _) _ _ _); first | refine wpAny_of_eq pf_di ?_ | refine wpAny_of_eq pf_nc ?_ | refine wpAny_of_eq pf_fs ?_ | refine wpAny_of_eq pf_ss ?_ | refine wpAny_of_eq pf_is ?_ | refine wpAny_of_eq pf_ns1 ?_ | refine wpAny_of_eq pf_ls ?_ | refine wpAny_of_eq pf_ts ?_ | refine wpAny_of_eq pf_ms ?_) | ((with_reducible show wpAny _ _ (typeOf (Value.type _)) _ _ _); first | refine wpAny_of_eq pf_to ?_ | refine wpAny_of_eq pf_ft ?_) | ((with_reducible show wpAny _ _ (Builtin.notOverATurnedClass _) _ _ _); refine wpAny_of_eq pf_no ?_) | ((with_reducible show wpAny _ _ (Builtin.extendedBase _) _ _ _); refine wpAny_of_eq pf_ex ?_) | ((with_reducible show wpAny _ _ (Builtin.Slots.bestBase _) _ _ _); refine wpAny_of_eq pf_bb ?_) | ((with_reducible show wpAny _ _ (Builtin.Slots.slotNamesOf (Value.type _)) _ _ _); refine wpAny_of_eq pf_sn ?_) | ((with_reducible show wpAny _ _ (Builtin.Slots.givesDict (Value.type _)) _ _ _); refine wpAny_of_eq pf_gd ?_) | ((with_reducible show wpAny _ _ (Builtin.Slots.givesWeak (Value.type _)) _ _ _); refine wpAny_of_eq pf_gw ?_) | ((with_reducible show wpAny _ _ (Builtin.Slots.varSize (Value.type _)) _ _ _); refine wpAny_of_eq pf_vs ?_) | ((with_reducible show wpAny _ _ (Builtin.mroHook? (Value.type _)) _ _ _); refine wpAny_of_eq pf_mh ?_) | ((with_reducible show wpAny _ _ (Builtin.linearize _ _) _ _ _); refine wpAny_of_eq pf_ln ?_) | ((with_reducible show wpAny _ _ (mroOf (Value.type _)) _ _ _); refine wpAny_of_eq pf_mo ?_) | ((with_reducible show wpAny _ _ (Bind.madeBy (Value.type _)) _ _ _); refine wpAny_of_eq pf_mk ?_) | ((with_reducible show wpAny _ _ (Builtin.noteSubclassOfBuiltin _ _) _ _ _); refine wpAny_of_eq (pf_ns _) ?_) | ((with_reducible show wpAny _ _ (nsGet _ _) _ _ _); refine hp_nsGet (by assumption) (by k_mem) (by first | rfl | assumption) ?_) | ((with_reducible show wpAny _ _ (Sem.load _ _ _) _ _ _); refine hp_load (by assumption) (by k_mem) ?_) | ((with_reducible show wpAny _ _ (Sem.alloc _ _) _ _ _); refine hp_alloc (by assumption) rfl ?_; intro a' h' H' l') | ((with_reducible show wpAny _ _ (if (_ == sysModules) = true then _ else _) _ _ _); refine wpAny_ite_false (decide_eq_false (by rw [beq_iff_eq]; assumption)) ?_) | ((with_reducible show wpAny _ _ (collect _) _ _ _); refine hp_collect (by assumption) (by k_mem) (by simp) ?_; intro h' H') | ((with_reducible show wpAny _ _ (nsSet _ _ _) _ _ _); (first | refine hp_nsSet (i := 0) (by assumption) rfl (by first | rfl | simp [*]) rfl ?_ | refine hp_nsSet (i := 1) (by assumption) rfl (by first | rfl | simp [*]) rfl ?_ | refine hp_nsSet (i := 2) (by assumption) rfl (by first | rfl | simp [*]) rfl ?_ | refine hp_nsSet (i := 3) (by assumption) rfl (by first | rfl | simp [*]) rfl ?_); intro h' H'; dsimp only [List.set_cons_zero, List.set_cons_succ] at H') | ((with_reducible show wpAny _ _ (nsSetByValue _ _ _) _ _ _); (first | refine hp_nsSetBy (i := 0) (by assumption) rfl (by first | rfl | simp [*]) (by first | omega | (simp; done)) rfl ?_ | refine hp_nsSetBy (i := 1) (by assumption) rfl (by first | rfl | simp [*]) (by first | omega | (simp; done)) rfl ?_ | refine hp_nsSetBy (i := 2) (by assumption) rfl (by first | rfl | simp [*]) (by first | omega | (simp; done)) rfl ?_ | refine hp_nsSetBy (i := 3) (by assumption) rfl (by first | rfl | simp [*]) (by first | omega | (simp; done)) rfl ?_); intro h' H'; dsimp only [List.set_cons_zero, List.set_cons_succ] at H') | ((with_reducible show wpAny _ _ (Sem.update _ _ _ _) _ _ _); (first | refine hp_update (i := 0) (by assumption) rfl rfl ?_ | refine hp_update (i := 1) (by assumption) rfl rfl ?_ | refine hp_update (i := 2) (by assumption) rfl rfl ?_ | refine hp_update (i := 3) (by assumption) rfl rfl ?_); intro h' H'; dsimp only [List.set_cons_zero, List.set_cons_succ] at H') | ((with_reducible show wpAny _ _ (if (!(Array.any _ _)) = true then _ else _) _ _ _); refine wpAny_ite_false (decide_eq_false (by rw [← Array.any_toList]; exact Bool.false_ne_true)) ?_) | k_node))
  rw [pf_id]
  repeat (first | (first | with_reducible refine wpAny_pure ?_ | ((with_reducible show wpAny _ _ (Sem.pure _) _ _ _); with_reducible refine nd_pure ?_) | with_reducible refine wpAny_bind ?_ | with_reducible refine nd_bind ?_ | with_reducible refine wpAny_holding ?_ | with_reducible refine wpAny_onRaise ?_ | ((with_reducible show wpAny _ _ (isSubtype _ _) _ _ _); first | refine wpAny_of_eq pf_tt ?_ | refine wpAny_of_eq pf_dd ?_ | refine wpAny_of_eq pf_ty ?_) | ((with_reducible show wpAny _ _ (typeLookup _ _) _ _ _); first | refine wpAny_of_eq pf_di ?_ | refine wpAny_of_eq pf_nc ?_ | refine wpAny_of_eq pf_fs ?_ | refine wpAny_of_eq pf_ss ?_ | refine wpAny_of_eq pf_is ?_ | refine wpAny_of_eq pf_ns1 ?_ | refine wpAny_of_eq pf_ls ?_ | refine wpAny_of_eq pf_ts ?_ | refine wpAny_of_eq pf_ms ?_) | ((with_reducible show wpAny _ _ (typeOf (Value.type _)) _ _ _); first | refine wpAny_of_eq pf_to ?_ | refine wpAny_of_eq pf_ft ?_) | ((with_reducible show wpAny _ _ (Builtin.notOverATurnedClass _) _ _ _); refine wpAny_of_eq pf_no ?_) | ((with_reducible show wpAny _ _ (Builtin.extendedBase _) _ _ _); refine wpAny_of_eq pf_ex ?_) | ((with_reducible show wpAny _ _ (Builtin.Slots.bestBase _) _ _ _); refine wpAny_of_eq pf_bb ?_) | ((with_reducible show wpAny _ _ (Builtin.Slots.slotNamesOf (Value.type _)) _ _ _); refine wpAny_of_eq pf_sn ?_) | ((with_reducible show wpAny _ _ (Builtin.Slots.givesDict (Value.type _)) _ _ _); refine wpAny_of_eq pf_gd ?_) | ((with_reducible show wpAny _ _ (Builtin.Slots.givesWeak (Value.type _)) _ _ _); refine wpAny_of_eq pf_gw ?_) | ((with_reducible show wpAny _ _ (Builtin.Slots.varSize (Value.type _)) _ _ _); refine wpAny_of_eq pf_vs ?_) | ((with_reducible show wpAny _ _ (Builtin.mroHook? (Value.type _)) _ _ _); refine wpAny_of_eq pf_mh ?_) | ((with_reducible show wpAny _ _ (Builtin.linearize _ _) _ _ _); refine wpAny_of_eq pf_ln ?_) | ((with_reducible show wpAny _ _ (mroOf (Value.type _)) _ _ _); refine wpAny_of_eq pf_mo ?_) | ((with_reducible show wpAny _ _ (Bind.madeBy (Value.type _)) _ _ _); refine wpAny_of_eq pf_mk ?_) | ((with_reducible show wpAny _ _ (Builtin.noteSubclassOfBuiltin _ _) _ _ _); refine wpAny_of_eq (pf_ns _) ?_) | ((with_reducible show wpAny _ _ (nsGet _ _) _ _ _); refine hp_nsGet (by assumption) (by k_mem) (by first | rfl | assumption) ?_) | ((with_reducible show wpAny _ _ (Sem.load _ _ _) _ _ _); refine hp_load (by assumption) (by k_mem) ?_) | ((with_reducible show wpAny _ _ (Sem.alloc _ _) _ _ _); refine hp_alloc (by assumption) rfl ?_; intro a' h' H' l') | ((with_reducible show wpAny _ _ (if (_ == sysModules) = true then _ else _) _ _ _); refine wpAny_ite_false (decide_eq_false (by rw [beq_iff_eq]; assumption)) ?_) | ((with_reducible show wpAny _ _ (collect _) _ _ _); refine hp_collect (by assumption) (by k_mem) (by simp) ?_; intro h' H') | ((with_reducible show wpAny _ _ (nsSet _ _ _) _ _ _); (first | refine hp_nsSet (i := 0) (by assumption) rfl (by first | rfl | simp [*]) rfl ?_ | refine hp_nsSet (i := 1) (by assumption) rfl (by first | rfl | simp [*]) rfl ?_ | refine hp_nsSet (i := 2) (by assumption) rfl (by first | rfl | simp [*]) rfl ?_ | refine hp_nsSet (i := 3) (by assumption) rfl (by first | rfl | simp [*]) rfl ?_); intro h' H'; dsimp only [List.set_cons_zero, List.set_cons_succ] at H') | ((with_reducible show wpAny _ _ (nsSetByValue _ _ _) _ _ _); (first | refine hp_nsSetBy (i := 0) (by assumption) rfl (by first | rfl | simp [*]) (by first | omega | (simp; done)) rfl ?_ | refine hp_nsSetBy (i := 1) (by assumption) rfl (by first | rfl | simp [*]) (by first | omega | (simp; done)) rfl ?_ | refine hp_nsSetBy (i := 2) (by assumption) rfl (by first | rfl | simp [*]) (by first | omega | (simp; done)) rfl ?_ | refine hp_nsSetBy (i := 3) (by assumption) rfl (by first | rfl | simp [*]) (by first | omega | (simp; done)) rfl ?_); intro h' H'; dsimp only [List.set_cons_zero, List.set_cons_succ] at H') | ((with_reducible show wpAny _ _ (Sem.update _ _ _ _) _ _ _); (first | refine hp_update (i := 0) (by assumption) rfl rfl ?_ | refine hp_update (i := 1) (by assumption) rfl rfl ?_ | refine hp_update (i := 2) (by assumption) rfl rfl ?_ | refine hp_update (i := 3) (by assumption) rfl rfl ?_); intro h' H'; dsimp only [List.set_cons_zero, List.set_cons_succ] at H') | ((with_reducible show wpAny _ _ (if (!(Array.any _ _)) = true then _ else _) _ _ _); refine wpAny_ite_false (decide_eq_false (by rw [← Array.any_toList]; exact Bool.false_ne_true)) ?_) | k_node))
  refine wpAny_ite_false (decide_eq_false ?_) ?_
  · intro hc
    have h2 := (Bool.and_eq_true_iff.mp hc).1
    have h3 : (es.any fun x => x.key.isStr (Builtin.Slots.mangle (Str.ofString "K") (Str.ofString "obj"))) = true := h2
    rw [pf_mg, hn] at h3; cases h3
  repeat (first | (first | with_reducible refine wpAny_pure ?_ | ((with_reducible show wpAny _ _ (Sem.pure _) _ _ _); with_reducible refine nd_pure ?_) | with_reducible refine wpAny_bind ?_ | with_reducible refine nd_bind ?_ | with_reducible refine wpAny_holding ?_ | with_reducible refine wpAny_onRaise ?_ | ((with_reducible show wpAny _ _ (isSubtype _ _) _ _ _); first | refine wpAny_of_eq pf_tt ?_ | refine wpAny_of_eq pf_dd ?_ | refine wpAny_of_eq pf_ty ?_) | ((with_reducible show wpAny _ _ (typeLookup _ _) _ _ _); first | refine wpAny_of_eq pf_di ?_ | refine wpAny_of_eq pf_nc ?_ | refine wpAny_of_eq pf_fs ?_ | refine wpAny_of_eq pf_ss ?_ | refine wpAny_of_eq pf_is ?_ | refine wpAny_of_eq pf_ns1 ?_ | refine wpAny_of_eq pf_ls ?_ | refine wpAny_of_eq pf_ts ?_ | refine wpAny_of_eq pf_ms ?_) | ((with_reducible show wpAny _ _ (typeOf (Value.type _)) _ _ _); first | refine wpAny_of_eq pf_to ?_ | refine wpAny_of_eq pf_ft ?_) | ((with_reducible show wpAny _ _ (Builtin.notOverATurnedClass _) _ _ _); refine wpAny_of_eq pf_no ?_) | ((with_reducible show wpAny _ _ (Builtin.extendedBase _) _ _ _); refine wpAny_of_eq pf_ex ?_) | ((with_reducible show wpAny _ _ (Builtin.Slots.bestBase _) _ _ _); refine wpAny_of_eq pf_bb ?_) | ((with_reducible show wpAny _ _ (Builtin.Slots.slotNamesOf (Value.type _)) _ _ _); refine wpAny_of_eq pf_sn ?_) | ((with_reducible show wpAny _ _ (Builtin.Slots.givesDict (Value.type _)) _ _ _); refine wpAny_of_eq pf_gd ?_) | ((with_reducible show wpAny _ _ (Builtin.Slots.givesWeak (Value.type _)) _ _ _); refine wpAny_of_eq pf_gw ?_) | ((with_reducible show wpAny _ _ (Builtin.Slots.varSize (Value.type _)) _ _ _); refine wpAny_of_eq pf_vs ?_) | ((with_reducible show wpAny _ _ (Builtin.mroHook? (Value.type _)) _ _ _); refine wpAny_of_eq pf_mh ?_) | ((with_reducible show wpAny _ _ (Builtin.linearize _ _) _ _ _); refine wpAny_of_eq pf_ln ?_) | ((with_reducible show wpAny _ _ (mroOf (Value.type _)) _ _ _); refine wpAny_of_eq pf_mo ?_) | ((with_reducible show wpAny _ _ (Bind.madeBy (Value.type _)) _ _ _); refine wpAny_of_eq pf_mk ?_) | ((with_reducible show wpAny _ _ (Builtin.noteSubclassOfBuiltin _ _) _ _ _); refine wpAny_of_eq (pf_ns _) ?_) | ((with_reducible show wpAny _ _ (nsGet _ _) _ _ _); refine hp_nsGet (by assumption) (by k_mem) (by first | rfl | assumption) ?_) | ((with_reducible show wpAny _ _ (Sem.load _ _ _) _ _ _); refine hp_load (by assumption) (by k_mem) ?_) | ((with_reducible show wpAny _ _ (Sem.alloc _ _) _ _ _); refine hp_alloc (by assumption) rfl ?_; intro a' h' H' l') | ((with_reducible show wpAny _ _ (if (_ == sysModules) = true then _ else _) _ _ _); refine wpAny_ite_false (decide_eq_false (by rw [beq_iff_eq]; assumption)) ?_) | ((with_reducible show wpAny _ _ (collect _) _ _ _); refine hp_collect (by assumption) (by k_mem) (by simp) ?_; intro h' H') | ((with_reducible show wpAny _ _ (nsSet _ _ _) _ _ _); (first | refine hp_nsSet (i := 0) (by assumption) rfl (by first | rfl | simp [*]) rfl ?_ | refine hp_nsSet (i := 1) (by assumption) rfl (by first | rfl | simp [*]) rfl ?_ | refine hp_nsSet (i := 2) (by assumption) rfl (by first | rfl | simp [*]) rfl ?_ | refine hp_nsSet (i := 3) (by assumption) rfl (by first | rfl | simp [*]) rfl ?_); intro h' H'; dsimp only [List.set_cons_zero, List.set_cons_succ] at H') | ((with_reducible show wpAny _ _ (nsSetByValue _ _ _) _ _ _); (first | refine hp_nsSetBy (i := 0) (by assumption) rfl (by first | rfl | simp [*]) (by first | omega | (simp; done)) rfl ?_ | refine hp_nsSetBy (i := 1) (by assumption) rfl (by first | rfl | simp [*]) (by first | omega | (simp; done)) rfl ?_ | refine hp_nsSetBy (i := 2) (by assumption) rfl (by first | rfl | simp [*]) (by first | omega | (simp; done)) rfl ?_ | refine hp_nsSetBy (i := 3) (by assumption) rfl (by first | rfl | simp [*]) (by first | omega | (simp; done)) rfl ?_); intro h' H'; dsimp only [List.set_cons_zero, List.set_cons_succ] at H') | ((with_reducible show wpAny _ _ (Sem.update _ _ _ _) _ _ _); (first | refine hp_update (i := 0) (by assumption) rfl rfl ?_ | refine hp_update (i := 1) (by assumption) rfl rfl ?_ | refine hp_update (i := 2) (by assumption) rfl rfl ?_ | refine hp_update (i := 3) (by assumption) rfl rfl ?_); intro h' H'; dsimp only [List.set_cons_zero, List.set_cons_succ] at H') | ((with_reducible show wpAny _ _ (if (!(Array.any _ _)) = true then _ else _) _ _ _); refine wpAny_ite_false (decide_eq_false (by rw [← Array.any_toList]; exact Bool.false_ne_true)) ?_) | k_node))
  refine cast (congrArg (fun p => P p _) ?e) (q _ (by assumption))
  kernel_rfl

noncomputable abbrev descK (K : Addr) (tk : Tok) : Obj := { cls := .type "member_descriptor", data := .fields [Value.str "obj" tk, .ref K, .builtin "proto.slot", .builtin "proto.slot#set", rawInt 0].toArray }
set_option maxHeartbeats 2000000 in
theorem install_K {prog : Program} {w : World} {A : Around} {g h : Heap} {gs : Array GenState} {d : Drawn} {t : Nat} {os : OsState} {P : Unit → Shared → Prop} {E : Value → Shared → Prop} {K ns : Addr} {es : List DictEntry} {n : Nat} {oc : Value} {od : Option Addr} {cd : ClassData} {sl : Array (Option Value)} {rest : List (Addr × Obj)}
   (H : Hp g h ((K, ⟨oc, od, .cls cd, sl⟩) :: (ns, dictOf es n) :: rest)) (hl : getL "obj" es = some none) (hz : es.length ≤ 100) (hp : ∀ hsh key v, putL "obj" hsh key v es = es ++ [⟨hsh, key, v⟩]) (hpl : (Data.cls { cd with hasDict := false, slotNames := ["obj"] }).pastItsLine = none)
   (q : ∀ D h' hsh tk tk' m t', Hp g h' ((D, descK K tk') :: (K, ⟨oc, od, .cls { cd with hasDict := false, slotNames := ["obj"] }, sl⟩) :: (ns, dictOf (es ++ [ent hsh "obj" tk (.ref D)]) m) :: rest) → P () ⟨h', gs, d, t', os⟩) :
   wpAny (model prog w) A (Builtin.Slots.install (.ref K) ns [.type "object"] { names := ["obj"], dict := false, weak := false, inherited := [] }) P E ⟨h, gs, d, t, os⟩ := by
  unfold Builtin.Slots.install
  repeat (first | (first | with_reducible refine wpAny_pure ?_ | ((with_reducible show wpAny _ _ (Sem.pure _) _ _ _); with_reducible refine nd_pure ?_) | with_reducible refine wpAny_bind ?_ | with_reducible refine nd_bind ?_ | with_reducible refine wpAny_holding ?_ | with_reducible refine wpAny_onRaise ?_ | ((with_reducible show wpAny _ _ (isSubtype _ _) _ _ _); first | refine wpAny_of_eq pf_tt ?_ | refine wpAny_of_eq pf_dd ?_ | refine wpAny_of_eq pf_ty ?_) | ((with_reducible show wpAny _ _ (typeLookup _ _) _ _ _); first | refine wpAny_of_eq pf_di ?_ | refine wpAny_of_eq pf_nc ?_ | refine wpAny_of_eq pf_fs ?_ | refine wpAny_of_eq pf_ss ?_ | refine wpAny_of_eq pf_is ?_ | refine wpAny_of_eq pf_ns1 ?_ | refine wpAny_of_eq pf_ls ?_ | refine wpAny_of_eq pf_ts ?_ | refine wpAny_of_eq pf_ms ?_) | ((with_reducible show wpAny _ _ (typeOf (Value.type _)) _ _ _); first | refine wpAny_of_eq pf_to ?_ | refine wpAny_of_eq pf_ft ?_) | ((with_reducible show wpAny _ _ (Builtin.notOverATurnedClass _) _ _ _); refine wpAny_of_eq pf_no ?_) | ((with_reducible show wpAny _ _ (Builtin.extendedBase _) _ _ _); refine wpAny_of_eq pf_ex ?_) | ((with_reducible show wpAny _ _ (Builtin.Slots.bestBase _) _ _ _); refine wpAny_of_eq pf_bb ?_) | ((with_reducible show wpAny _ _ (Builtin.Slots.slotNamesOf (Value.type _)) _ _ _); refine wpAny_of_eq pf_sn ?_) | ((with_reducible show wpAny _ _ (Builtin.Slots.givesDict (Value.type _)) _ _ _); refine wpAny_of_eq pf_gd ?_) | ((with_reducible show wpAny _ _ (Builtin.Slots.givesWeak (Value.type _)) _ _ _); refine wpAny_of_eq pf_gw ?_) | ((with_reducible show wpAny _ _ (Builtin.Slots.varSize (Value.type _)) _ _ _); refine wpAny_of_eq pf_vs ?_) | ((with_reducible show wpAny _ _ (Builtin.mroHook? (Value.type _)) _ _ _); refine wpAny_of_eq pf_mh ?_) | ((with_reducible show wpAny _ _ (Builtin.linearize _ _) _ _ _); refine wpAny_of_eq pf_ln ?_) | ((with_reducible show wpAny _ _ (mroOf (Value.type _)) _ _ _); refine wpAny_of_eq pf_mo ?_) | ((with_reducible show wpAny _ _ (Bind.madeBy (Value.type _)) _ _ _); refine wpAny_of_eq pf_mk ?_) | ((with_reducible show wpAny _ _ (Builtin.noteSubclassOfBuiltin _ _) _ _ _); refine wpAny_of_eq (pf_ns _) ?_) | ((with_reducible show wpAny _ _ (nsGet _ _) _ _ _); refine hp_nsGet (by assumption) (by k_mem) (by first | rfl | assumption) ?_) | ((with_reducible show wpAny _ _ (Sem.load _ _ _) _ _ _); refine hp_load (by assumption) (by k_mem) ?_) | ((with_reducible show wpAny _ _ (Sem.alloc _ _) _ _ _); refine hp_alloc (by assumption) rfl ?_; intro a' h' H' l') | ((with_reducible show wpAny _ _ (if (_ == sysModules) = true then _ else _) _ _ _); refine wpAny_ite_false (decide_eq_false (by rw [beq_iff_eq]; assumption)) ?_) | ((with_reducible show wpAny _ _ (collect _) _ _ _); refine hp_collect (by assumption) (by k_mem) (by simp) ?_; intro h' H') | ((with_reducible show wpAny _ _ (nsSet _ _ _) _ _ _); (first | refine hp_nsSet (i := 0) (by assumption) rfl (by first | rfl | simp [*]) rfl ?_ | refine hp_nsSet (i := 1) (by assumption) rfl (by first | rfl | simp [*]) rfl ?_ | refine hp_nsSet (i := 2) (by assumption) rfl (by first | rfl | simp [*]) rfl ?_ | refine hp_nsSet (i := 3) (by assumption) rfl (by first | rfl | simp [*]) rfl ?_); intro h' H'; dsimp only [List.set_cons_zero, List.set_cons_succ] at H') | ((with_reducible show wpAny _ _ (nsSetByValue _ _ _) _ _ _); (first | refine hp_nsSetBy (i := 0) (by assumption) rfl (by first | rfl | simp [*]) (by first | omega | (simp; done)) rfl ?_ | refine hp_nsSetBy (i := 1) (by assumption) rfl (by first | rfl | simp [*]) (by first | omega | (simp; done)) rfl ?_ | refine hp_nsSetBy (i := 2) (by assumption) rfl (by first | rfl | simp [*]) (by first | omega | (simp; done)) rfl ?_ | refine hp_nsSetBy (i := 3) (by assumption) rfl (by first | rfl | simp [*]) (by first | omega | (simp; done)) rfl ?_); intro h' H'; dsimp only [List.set_cons_zero, List.set_cons_succ] at H') | ((with_reducible show wpAny _ _ (Sem.update _ _ _ _) _ _ _); (first | refine hp_update (i := 0) (by assumption) rfl rfl ?_ | refine hp_update (i := 1) (by assumption) rfl rfl ?_ | refine hp_update (i := 2) (by assumption) rfl rfl ?_ | refine hp_update (i := 3) (by assumption) rfl rfl ?_); intro h' H'; dsimp only [List.set_cons_zero, List.set_cons_succ] at H') | ((with_reducible show wpAny _ _ (if (!(Array.any _ _)) = true then _ else _) _ _ _); refine wpAny_ite_false (decide_eq_false (by rw [← Array.any_toList]; exact Bool.false_ne_true)) ?_) | k_node))
  split
  · rename_i what hw; exact absurd (hw.symm.trans hpl) (by simp)
  · repeat (first | (first | with_reducible refine wpAny_pure ?_ | ((with_reducible show wpAny _ _ (Sem.pure _) _ _ _); with_reducible refine nd_pure ?_) | with_reducible refine wpAny_bind ?_ | with_reducible refine nd_bind ?_ | with_reducible refine wpAny_holding ?_ | with_reducible refine wpAny_onRaise ?_ | ((with_reducible show wpAny _ _ (isSubtype _ _) _ _ _); first | refine wpAny_of_eq pf_tt ?_ | refine wpAny_of_eq pf_dd ?_ | refine wpAny_of_eq pf_ty ?_) | ((with_reducible show wpAny _ _ (typeLookup _ _) _ _ _); first | refine wpAny_of_eq pf_di ?_ | refine wpAny_of_eq pf_nc ?_ | refine wpAny_of_eq pf_fs ?_ | refine wpAny_of_eq pf_ss ?_ | refine wpAny_of_eq pf_is ?_ | refine wpAny_of_eq pf_ns1 ?_ | refine wpAny_of_eq pf_ls ?_ | refine wpAny_of_eq pf_ts ?_ | refine wpAny_of_eq pf_ms ?_) | ((with_reducible show wpAny _ _ (typeOf (Value.type _)) _ _ _); first | refine wpAny_of_eq pf_to ?_ | refine wpAny_of_eq pf_ft ?_) | ((with_reducible show wpAny _ _ (Builtin.notOverATurnedClass _) _ _ _); refine wpAny_of_eq pf_no ?_) | ((with_reducible show wpAny _ _ (Builtin.extendedBase _) _ _ _); refine wpAny_of_eq pf_ex ?_) | ((with_reducible show wpAny _ _ (Builtin.Slots.bestBase _) _ _ _); refine wpAny_of_eq pf_bb ?_) | ((with_reducible show wpAny _ _ (Builtin.Slots.slotNamesOf (Value.type _)) _ _ _); refine wpAny_of_eq pf_sn ?_) | ((with_reducible show wpAny _ _ (Builtin.Slots.givesDict (Value.type _)) _ _ _); refine wpAny_of_eq pf_gd ?_) | ((with_reducible show wpAny _ _ (Builtin.Slots.givesWeak (Value.type _)) _ _ _); refine wpAny_of_eq pf_gw ?_) | ((with_reducible show wpAny _ _ (Builtin.Slots.varSize (Value.type _)) _ _ _); refine wpAny_of_eq pf_vs ?_) | ((with_reducible show wpAny _ _ (Builtin.mroHook? (Value.type _)) _ _ _); refine wpAny_of_eq pf_mh ?_) | ((with_reducible show wpAny _ _ (Builtin.linearize _ _) _ _ _); refine wpAny_of_eq pf_ln ?_) | ((with_reducible show wpAny _ _ (mroOf (Value.type _)) _ _ _); refine wpAny_of_eq pf_mo ?_) | ((with_reducible show wpAny _ _ (Bind.madeBy (Value.type _)) _ _ _); refine wpAny_of_eq pf_mk ?_) | ((with_reducible show wpAny _ _ (Builtin.noteSubclassOfBuiltin _ _) _ _ _); refine wpAny_of_eq (pf_ns _) ?_) | ((with_reducible show wpAny _ _ (nsGet _ _) _ _ _); refine hp_nsGet (by assumption) (by k_mem) (by first | rfl | assumption) ?_) | ((with_reducible show wpAny _ _ (Sem.load _ _ _) _ _ _); refine hp_load (by assumption) (by k_mem) ?_) | ((with_reducible show wpAny _ _ (Sem.alloc _ _) _ _ _); refine hp_alloc (by assumption) rfl ?_; intro a' h' H' l') | ((with_reducible show wpAny _ _ (if (_ == sysModules) = true then _ else _) _ _ _); refine wpAny_ite_false (decide_eq_false (by rw [beq_iff_eq]; assumption)) ?_) | ((with_reducible show wpAny _ _ (collect _) _ _ _); refine hp_collect (by assumption) (by k_mem) (by simp) ?_; intro h' H') | ((with_reducible show wpAny _ _ (nsSet _ _ _) _ _ _); (first | refine hp_nsSet (i := 0) (by assumption) rfl (by first | rfl | simp [*]) rfl ?_ | refine hp_nsSet (i := 1) (by assumption) rfl (by first | rfl | simp [*]) rfl ?_ | refine hp_nsSet (i := 2) (by assumption) rfl (by first | rfl | simp [*]) rfl ?_ | refine hp_nsSet (i := 3) (by assumption) rfl (by first | rfl | simp [*]) rfl ?_); intro h' H'; dsimp only [List.set_cons_zero, List.set_cons_succ] at H') | ((with_reducible show wpAny _ _ (nsSetByValue _ _ _) _ _ _); (first | refine hp_nsSetBy (i := 0) (by assumption) rfl (by first | rfl | simp [*]) (by first | omega | (simp; done)) rfl ?_ | refine hp_nsSetBy (i := 1) (by assumption) rfl (by first | rfl | simp [*]) (by first | omega | (simp; done)) rfl ?_ | refine hp_nsSetBy (i := 2) (by assumption) rfl (by first | rfl | simp [*]) (by first | omega | (simp; done)) rfl ?_ | refine hp_nsSetBy (i := 3) (by assumption) rfl (by first | rfl | simp [*]) (by first | omega | (simp; done)) rfl ?_); intro h' H'; dsimp only [List.set_cons_zero, List.set_cons_succ] at H') | ((with_reducible show wpAny _ _ (Sem.update _ _ _ _) _ _ _); (first | refine hp_update (i := 0) (by assumption) rfl rfl ?_ | refine hp_update (i := 1) (by assumption) rfl rfl ?_ | refine hp_update (i := 2) (by assumption) rfl rfl ?_ | refine hp_update (i := 3) (by assumption) rfl rfl ?_); intro h' H'; dsimp only [List.set_cons_zero, List.set_cons_succ] at H') | ((with_reducible show wpAny _ _ (if (!(Array.any _ _)) = true then _ else _) _ _ _); refine wpAny_ite_false (decide_eq_false (by rw [← Array.any_toList]; exact Bool.false_ne_true)) ?_) | k_node))
    rename Hp _ _ _ => H9
    rw [hp] at H9
    exact q _ _ _ _ _ _ _ H9
end Mine
end
/-! K4 -/
section
open PySem PySem.W PyProof.Rows PySem.Calls
set_option maxRecDepth 100000
set_option linter.unusedVariables false
namespace Mine
theorem super_own {prog : Program} {w : World} {A : Around} {E : Value → Shared → Prop} {h : Heap} {g : Array GenState} {d : Drawn} {t : Nat} {os : OsState} {D : Addr} {oD : Obj} {cdD : ClassData} {Q : Value → Shared → Prop}
    (hD : h.get? D = some oD) (hDt : oD.data = .cls cdD) (hsub : Looks (model prog w) h (isSubtype (.ref D) (.ref D)) true)
    (hq : ∀ h', h'.get? h.objs.size = some { cls := .type "super", dict := none, data := .fields #[.ref D, .ref D, .ref D], slots := #[] } → (∀ y o, h.get? y = some o → h'.get? y = some o) → Q (.ref h.objs.size) ⟨h', g, d, t, os⟩) :
    wpAny (model prog w) A (call (.type "super") [.ref D, .ref D]) Q E ⟨h, g, d, t, os⟩ := by
  refine ks_callType_codesW (Q₁ := fun obj s₁ => obj = .ref h.objs.size ∧ s₁ = ⟨h.push { cls := .type "super", data := .fields #[.none, .none, .none] }, g, d, t, os⟩) F.ks_called_super (ks_wpAny_checkTypeCall_super hD hDt) F.ks_entry_super_init
    (ks_code_super_new _ _ ⟨rfl, rfl⟩) fun obj s₁ h₁ => ?_
  obtain ⟨rfl, rfl⟩ := h₁
  have up : ∀ y o, h.get? y = some o → (h.push { cls := .type "super", data := .fields #[.none, .none, .none] }).get? y = some o := fun y o e => Heap.get?_push_of_some _ e
  have hso : (h.push { cls := .type "super", data := .fields #[.none, .none, .none] }).get? h.objs.size = some { cls := .type "super", dict := none, data := .fields #[.none, .none, .none], slots := #[] } := Heap.get?_push_at rfl rfl
  have hD' := up _ _ hD
  have hsub' := hsub.keeps up
  refine ⟨⟨_, hso, rfl⟩, F.ks_initArgs_super _ _ _, ?_⟩
  unfold Builtin.«super.__init__» noKeywords
  repeat (first | (with_reducible refine ks_wpAny_isType_cls hD' hDt ?_) | (with_reducible refine Looks.at hsub' ?_) | (with_reducible refine ks_wpAny_super_set3 hso ?_) | wp_step)
  all_goals first
    | (intro h' e k; exact ⟨rfl, hq h' e fun y o ey => k y o (Nat.ne_of_lt (Heap.lt_size ey)) (up y o ey)⟩)
    | (refine ks_wpAny_super_set3 hso ?_; intro h' e k; exact ⟨rfl, hq h' e fun y o ey => k y o (Nat.ne_of_lt (Heap.lt_size ey)) (up y o ey)⟩)

theorem slot_cmd_get : Slot "classmethod_descriptor" "__get__" "classmethod_descriptor.__get__" := .of (owner := "classmethod_descriptor") (n := "__get__") (by rw [typeLookup_type, builtinLookup_eq_fast]; kernel_rfl) (by decide +kernel) (by decide +kernel) (by decide +kernel)
  (by first | exact .inl (by decide +kernel) | exact .inr (by decide +kernel)) (by rw [isSubtype_type]; kernel_rfl)
theorem entry_cmd_get : entryFor table "classmethod_descriptor.__get__" = some Builtin.«classmethod_descriptor.__get__» := entryFor_of_tree (by kernel_rfl)
theorem args_cmd_get (a b c : Value) : argsOk "classmethod_descriptor.__get__" ⟨[a, b, c], []⟩ := by unfold argsOk; kernel_rfl
theorem ty_isub : typeOf (.builtin "object.__init_subclass__") = pure (.type "classmethod_descriptor") := by show builtinType _ = _; rw [builtinType_eq_fast]; kernel_rfl
theorem own_isub : classOwn (.type "object") "__init_subclass__" = pure (some (.builtin "object.__init_subclass__")) := by kernel_rfl
theorem ty_prep : typeOf (.builtin "type.__prepare__") = pure (.type "classmethod_descriptor") := by show builtinType _ = _; rw [builtinType_eq_fast]; kernel_rfl
section
variable {prog : Program} {w : World} {A : Around} {E : Value → Shared → Prop} {g h : Heap} {led : List (Addr × Obj)} {gs : Array GenState} {d : Drawn} {t : Nat} {os : OsState}
set_option maxHeartbeats 2000000 in
theorem cm_get {K : Addr} {nm qn : Str} {bs : List Value} {ns : Addr} {hd : Bool} {sn : List Str} {sb : List Value} {ab : Bool} {co : Option Bool} {dl : Bool} {sl : Array (Option Value)} {Q : Value → Shared → Prop}
   (H : Hp g h led) (hK : (K, (⟨.type "type", none, .cls ⟨nm, bs, [.ref K, .type "object"], ns, qn, hd, sn, sb, ab, co, dl⟩, sl⟩ : Obj)) ∈ led)
   (q : ∀ b h', Hp g h' ((b, ({ cls := .type "builtin_function_or_method", data := .fields [Value.builtin "object.__init_subclass__", .ref K].toArray } : Obj)) :: led) → Q (.ref b) ⟨h', gs, d, t, os⟩) :
   wpAny (model prog w) A (call (.builtin "classmethod_descriptor.__get__") [.builtin "object.__init_subclass__", .none, .ref K]) Q E ⟨h, gs, d, t, os⟩ := by
  refine wpAny_call_entry slot_cmd_get ty_isub entry_cmd_get ?_ (args_cmd_get _ _ _)
  unfold Builtin.«classmethod_descriptor.__get__»
  repeat (first | (first | with_reducible refine wpAny_pure ?_ | ((with_reducible show wpAny _ _ (Sem.pure _) _ _ _); with_reducible refine nd_pure ?_) | ((with_reducible show wpAny _ _ (Sem.tryCatch _ _) _ _ _); refine wpAny_tryCatch ?_) | with_reducible refine wpAny_bind ?_ | with_reducible refine nd_bind ?_ | with_reducible refine wpAny_holding ?_ | with_reducible refine wpAny_onRaise ?_ | ((with_reducible show wpAny _ _ (isSubtype _ _) _ _ _); first | refine wpAny_of_eq pf_tt ?_ | refine wpAny_of_eq pf_dd ?_ | refine wpAny_of_eq pf_ty ?_) | ((with_reducible show wpAny _ _ (typeLookup _ _) _ _ _); first | refine wpAny_of_eq pf_di ?_ | refine wpAny_of_eq pf_nc ?_ | refine wpAny_of_eq pf_fs ?_ | refine wpAny_of_eq pf_ss ?_ | refine wpAny_of_eq pf_is ?_ | refine wpAny_of_eq pf_ns1 ?_ | refine wpAny_of_eq pf_ls ?_ | refine wpAny_of_eq pf_ts ?_ | refine wpAny_of_eq pf_ms ?_) | ((with_reducible show wpAny _ _ (typeOf (Value.type _)) _ _ _); first | refine wpAny_of_eq pf_to ?_ | refine wpAny_of_eq pf_ft ?_) | ((with_reducible show wpAny _ _ (Builtin.notOverATurnedClass _) _ _ _); refine wpAny_of_eq pf_no ?_) | ((with_reducible show wpAny _ _ (Builtin.extendedBase _) _ _ _); refine wpAny_of_eq pf_ex ?_) | ((with_reducible show wpAny _ _ (Builtin.Slots.bestBase _) _ _ _); refine wpAny_of_eq pf_bb ?_) | ((with_reducible show wpAny _ _ (Builtin.Slots.slotNamesOf (Value.type _)) _ _ _); refine wpAny_of_eq pf_sn ?_) | ((with_reducible show wpAny _ _ (Builtin.Slots.givesDict (Value.type _)) _ _ _); refine wpAny_of_eq pf_gd ?_) | ((with_reducible show wpAny _ _ (Builtin.Slots.givesWeak (Value.type _)) _ _ _); refine wpAny_of_eq pf_gw ?_) | ((with_reducible show wpAny _ _ (Builtin.Slots.varSize (Value.type _)) _ _ _); refine wpAny_of_eq pf_vs ?_) | ((with_reducible show wpAny _ _ (Builtin.mroHook? (Value.type _)) _ _ _); refine wpAny_of_eq pf_mh ?_) | ((with_reducible show wpAny _ _ (Builtin.linearize _ _) _ _ _); refine wpAny_of_eq pf_ln ?_) | ((with_reducible show wpAny _ _ (mroOf (Value.type _)) _ _ _); refine wpAny_of_eq pf_mo ?_) | ((with_reducible show wpAny _ _ (Bind.madeBy (Value.type _)) _ _ _); refine wpAny_of_eq pf_mk ?_) | ((with_reducible show wpAny _ _ (Builtin.noteSubclassOfBuiltin _ _) _ _ _); refine wpAny_of_eq (pf_ns _) ?_) | ((with_reducible show wpAny _ _ (nsGet _ _) _ _ _); refine hp_nsGet (by assumption) (by k_mem) (by first | rfl | assumption) ?_) | ((with_reducible show wpAny _ _ (Sem.load _ _ _) _ _ _); refine hp_load (by assumption) (by k_mem) ?_) | ((with_reducible show wpAny _ _ (Sem.alloc _ _) _ _ _); refine hp_alloc (by assumption) rfl ?_; intro a' h' H' l') | ((with_reducible show wpAny _ _ (if (_ == sysModules) = true then _ else _) _ _ _); refine wpAny_ite_false (decide_eq_false (by rw [beq_iff_eq]; assumption)) ?_) | ((with_reducible show wpAny _ _ (collect _) _ _ _); refine hp_collect (by assumption) (by k_mem) (by simp) ?_; intro h' H') | ((with_reducible show wpAny _ _ (nsSet _ _ _) _ _ _); (first | refine hp_nsSet (i := 0) (by assumption) rfl (by first | rfl | simp [*]) rfl ?_ | refine hp_nsSet (i := 1) (by assumption) rfl (by first | rfl | simp [*]) rfl ?_ | refine hp_nsSet (i := 2) (by assumption) rfl (by first | rfl | simp [*]) rfl ?_ | refine hp_nsSet (i := 3) (by assumption) rfl (by first | rfl | simp [*]) rfl ?_); intro h' H'; dsimp only [List.set_cons_zero, List.set_cons_succ] at H') | ((with_reducible show wpAny _ _ (nsSetByValue _ _ _) _ _ _); (first | refine hp_nsSetBy (i := 0) (by assumption) rfl (by first | rfl | simp [*]) (by first | omega | (simp; done)) rfl ?_ | refine hp_nsSetBy (i := 1) (by assumption) rfl (by first | rfl | simp [*]) (by first | omega | (simp; done)) rfl ?_ | refine hp_nsSetBy (i := 2) (by assumption) rfl (by first | rfl | simp [*]) (by first | omega | (simp; done)) rfl ?_ | refine hp_nsSetBy (i := 3) (by assumption) rfl (by first | rfl | simp [*]) (by first | omega | (simp; done)) rfl ?_); intro h' H'; dsimp only [List.set_cons_zero, List.set_cons_succ] at H') | ((with_reducible show wpAny _ _ (Sem.update _ _ _ _) _ _ _); (first | refine hp_update (i := 0) (by assumption) rfl rfl ?_ | refine hp_update (i := 1) (by assumption) rfl rfl ?_ | refine hp_update (i := 2) (by assumption) rfl rfl ?_ | refine hp_update (i := 3) (by assumption) rfl rfl ?_); intro h' H'; dsimp only [List.set_cons_zero, List.set_cons_succ] at H') | ((with_reducible show wpAny _ _ (if (!(Array.any _ _)) = true then _ else _) _ _ _); refine wpAny_ite_false (decide_eq_false (by rw [← Array.any_toList]; exact Bool.false_ne_true)) ?_) | ((with_reducible show wpAny _ _ (setSlotAt _ _ _) _ _ _); (first | refine hp_setSlot (i := 0) (by assumption) rfl (by decide) rfl ?_ | refine hp_setSlot (i := 1) (by assumption) rfl (by decide) rfl ?_ | refine hp_setSlot (i := 2) (by assumption) rfl (by decide) rfl ?_ | refine hp_setSlot (i := 3) (by assumption) rfl (by decide) rfl ?_); intro h' H'; dsimp only [List.set_cons_zero, List.set_cons_succ] at H') | k_node | ((with_reducible show wpAny _ _ (if _ then _ else _) _ _ _); first | (refine wpAny_ite_false ?hc ?_; (case hc => decide +kernel)) | (refine wpAny_ite_true ?hc ?_; (case hc => decide +kernel)))))
  exact ⟨_, rfl, q _ _ (by assumption)⟩
theorem forIn_drop {M : Model} {A : Around} {s : Shared} {E : Value → Shared → Prop} {K : Addr} {β : Type} {b : β} {f : Value → β → Sem (ForInStep β)} {Q : β → Shared → Prop} (h : wpAny M A (forIn [Value.type "object"] b f) Q E s) :
    wpAny M A (forIn (List.drop 1 (List.dropWhile (fun x => x != Value.ref K) [Value.ref K, .type "object"])) b f) Q E s := by
  have e : List.drop 1 (List.dropWhile (fun x => x != Value.ref K) [Value.ref K, .type "object"]) = [Value.type "object"] := by simp [List.dropWhile]
  rw [e]; exact h
theorem call_if {M : Model} {A : Around} {s : Shared} {E : Value → Shared → Prop} {f a c x y : Value} {Q : Value → Shared → Prop} (hxy : (x == y) = true) (h : wpAny M A (call f [a, .none, c]) Q E s) :
    wpAny M A (call f [a, if (x == y) = true then Value.none else x, c]) Q E s := by rw [if_pos hxy]; exact h
set_option maxHeartbeats 2000000 in
theorem initSub_K (hop : Looks (model prog w) g (nsGet cStatics "thirdparty.any") none) {K so : Addr} {nm qn : Str} {bs : List Value} {ns : Addr} {hd : Bool} {sn : List Str} {sb : List Value} {ab : Bool} {co : Option Bool} {dl : Bool} {sl : Array (Option Value)} {Q : Value → Shared → Prop}
   (H : Hp g h led) (hK : (K, (⟨.type "type", none, .cls ⟨nm, bs, [.ref K, .type "object"], ns, qn, hd, sn, sb, ab, co, dl⟩, sl⟩ : Obj)) ∈ led) (hs : (so, ({ cls := .type "super", data := .fields #[.ref K, .ref K, .ref K] } : Obj)) ∈ led)
   (q : ∀ b h', Hp g h' ((b, ({ cls := .type "builtin_function_or_method", data := .fields [Value.builtin "object.__init_subclass__", .ref K].toArray } : Obj)) :: led) → Q (.ref b) ⟨h', gs, d, t + 1, os⟩) :
   wpAny (model prog w) A (getAttr (.ref so) "__init_subclass__") Q E ⟨h, gs, d, t, os⟩ := by
  repeat (first | (first | ((with_reducible show wpAny _ _ (nsGet cStatics _) _ _ _); refine Looks.at (Looks.keeps (by assumption) (Hp.keep (by assumption))) ?_) | ((with_reducible show wpAny _ _ (typeLookup (Value.type "super") _) _ _ _); refine wpAny_of_eq F.ks_slot_super_ga.lookup ?_) | ((with_reducible show wpAny _ _ (typeLookup (Value.type "classmethod_descriptor") _) _ _ _); refine wpAny_of_eq slot_cmd_get.lookup ?_) | ((with_reducible show wpAny _ _ (bindSpecial (Value.builtin "super.__getattribute__") _) _ _ _); refine wpAny_of_eq (F.ks_slot_super_ga.bind _) ?_) | ((with_reducible show wpAny _ _ (call (Value.builtin "super.__getattribute__") _) _ _ _); refine wpAny_call_entry F.ks_slot_super_ga ⟨_, Hp.get (by assumption) (by assumption), rfl⟩ F.ks_entry_super_ga ?_ (F.ks_gaArgs_super _ _); unfold Builtin.«super.__getattribute__») | ((with_reducible show wpAny _ _ (classOwn (Value.type "object") _) _ _ _); refine wpAny_of_eq own_isub ?_) | ((with_reducible show wpAny _ _ (typeOf (Value.builtin _)) _ _ _); refine wpAny_of_eq ty_isub ?_) | ((with_reducible show wpAny _ _ (forIn (List.drop _ _) _ _) _ _ _); refine forIn_drop ?_) | ((with_reducible show wpAny _ _ (call (Value.builtin "classmethod_descriptor.__get__") [_, if _ then _ else _, _]) _ _ _); refine call_if (by exact beq_self_eq_true _) ?_) | ((with_reducible show wpAny _ _ (call (Value.builtin "classmethod_descriptor.__get__") _) _ _ _); refine cm_get (by assumption) (by assumption) ?_; intro b' h' H')) | (first | with_reducible refine wpAny_pure ?_ | ((with_reducible show wpAny _ _ (Sem.pure _) _ _ _); with_reducible refine nd_pure ?_) | ((with_reducible show wpAny _ _ (Sem.tryCatch _ _) _ _ _); refine wpAny_tryCatch ?_) | with_reducible refine wpAny_bind ?_ | with_reducible refine nd_bind ?_ | with_reducible refine wpAny_holding ?_ | with_reducible refine wpAny_onRaise ?_ | ((with_reducible show wpAny _ _ (isSubtype _ _) _ _ _); first | refine wpAny_of_eq pf_tt ?_ | refine wpAny_of_eq pf_dd ?_ | refine wpAny_of_eq pf_ty ?_) | ((with_reducible show wpAny _ _ (typeLookup _ _) _ _ _); first | refine wpAny_of_eq pf_di ?_ | refine wpAny_of_eq pf_nc ?_ | refine wpAny_of_eq pf_fs ?_ | refine wpAny_of_eq pf_ss ?_ | refine wpAny_of_eq pf_is ?_ | refine wpAny_of_eq pf_ns1 ?_ | refine wpAny_of_eq pf_ls ?_ | refine wpAny_of_eq pf_ts ?_ | refine wpAny_of_eq pf_ms ?_) | ((with_reducible show wpAny _ _ (typeOf (Value.type _)) _ _ _); first | refine wpAny_of_eq pf_to ?_ | refine wpAny_of_eq pf_ft ?_) | ((with_reducible show wpAny _ _ (Builtin.notOverATurnedClass _) _ _ _); refine wpAny_of_eq pf_no ?_) | ((with_reducible show wpAny _ _ (Builtin.extendedBase _) _ _ _); refine wpAny_of_eq pf_ex ?_) | ((with_reducible show wpAny _ _ (Builtin.Slots.bestBase _) _ _ _); refine wpAny_of_eq pf_bb ?_) | ((with_reducible show wpAny _ _ (Builtin.Slots.slotNamesOf (Value.type _)) _ _ _); refine wpAny_of_eq pf_sn ?_) | ((with_reducible show wpAny _ _ (Builtin.Slots.givesDict (Value.type _)) _ _ _); refine wpAny_of_eq pf_gd ?_) | ((with_reducible show wpAny _ _ (Builtin.Slots.givesWeak (Value.type _)) _ _ _); refine wpAny_of_eq pf_gw ?_) | ((with_reducible show wpAny _ _ (Builtin.Slots.varSize (Value.type _)) _ _ _); refine wpAny_of_eq pf_vs ?_) | ((with_reducible show wpAny _ _ (Builtin.mroHook? (Value.type _)) _ _ _); refine wpAny_of_eq pf_mh ?_) | ((with_reducible show wpAny _ _ (Builtin.linearize _ _) _ _ _); refine wpAny_of_eq pf_ln ?_) | ((with_reducible show wpAny _ _ (mroOf (Value.type _)) _ _ _); refine wpAny_of_eq pf_mo ?_) | ((with_reducible show wpAny _ _ (Bind.madeBy (Value.type _)) _ _ _); refine wpAny_of_eq pf_mk ?_) | ((with_reducible show wpAny _ _ (Builtin.noteSubclassOfBuiltin _ _) _ _ _); refine wpAny_of_eq (pf_ns _) ?_) | ((with_reducible show wpAny _ _ (nsGet _ _) _ _ _); refine hp_nsGet (by assumption) (by k_mem) (by first | rfl | assumption) ?_) | ((with_reducible show wpAny _ _ (Sem.load _ _ _) _ _ _); refine hp_load (by assumption) (by k_mem) ?_) | ((with_reducible show wpAny _ _ (Sem.alloc _ _) _ _ _); refine hp_alloc (by assumption) rfl ?_; intro a' h' H' l') | ((with_reducible show wpAny _ _ (if (_ == sysModules) = true then _ else _) _ _ _); refine wpAny_ite_false (decide_eq_false (by rw [beq_iff_eq]; assumption)) ?_) | ((with_reducible show wpAny _ _ (collect _) _ _ _); refine hp_collect (by assumption) (by k_mem) (by simp) ?_; intro h' H') | ((with_reducible show wpAny _ _ (nsSet _ _ _) _ _ _); (first | refine hp_nsSet (i := 0) (by assumption) rfl (by first | rfl | simp [*]) rfl ?_ | refine hp_nsSet (i := 1) (by assumption) rfl (by first | rfl | simp [*]) rfl ?_ | refine hp_nsSet (i := 2) (by assumption) rfl (by first | rfl | simp [*]) rfl ?_ | refine hp_nsSet (i := 3) (by assumption) rfl (by first | rfl | simp [*]) rfl ?_); intro h' H'; dsimp only [List.set_cons_zero, List.set_cons_succ] at H') | ((with_reducible show wpAny _ _ (nsSetByValue _ _ _) _ _ _); (first | refine hp_nsSetBy (i := 0) (by assumption) rfl (by first | rfl | simp [*]) (by first | omega | (simp; done)) rfl ?_ | refine hp_nsSetBy (i := 1) (by assumption) rfl (by first | rfl | simp [*]) (by first | omega | (simp; done)) rfl ?_ | refine hp_nsSetBy (i := 2) (by assumption) rfl (by first | rfl | simp [*]) (by first | omega | (simp; done)) rfl ?_ | refine hp_nsSetBy (i := 3) (by assumption) rfl (by first | rfl | simp [*]) (by first | omega | (simp; done)) rfl ?_); intro h' H'; dsimp only [List.set_cons_zero, List.set_cons_succ] at H') | ((with_reducible show wpAny _ _ (Sem.update _ _ _ _) _ _ _); (first | refine hp_update (i := 0) (by assumption) rfl rfl ?_ | refine hp_update (i := 1) (by assumption) rfl rfl ?_ | refine hp_update (i := 2) (by assumption) rfl rfl ?_ | refine hp_update (i := 3) (by assumption) rfl rfl ?_); intro h' H'; dsimp only [List.set_cons_zero, List.set_cons_succ] at H') | ((with_reducible show wpAny _ _ (if (!(Array.any _ _)) = true then _ else _) _ _ _); refine wpAny_ite_false (decide_eq_false (by rw [← Array.any_toList]; exact Bool.false_ne_true)) ?_) | ((with_reducible show wpAny _ _ (setSlotAt _ _ _) _ _ _); (first | refine hp_setSlot (i := 0) (by assumption) rfl (by decide) rfl ?_ | refine hp_setSlot (i := 1) (by assumption) rfl (by decide) rfl ?_ | refine hp_setSlot (i := 2) (by assumption) rfl (by decide) rfl ?_ | refine hp_setSlot (i := 3) (by assumption) rfl (by decide) rfl ?_); intro h' H'; dsimp only [List.set_cons_zero, List.set_cons_succ] at H') | k_node | ((with_reducible show wpAny _ _ (if _ then _ else _) _ _ _); first | (refine wpAny_ite_false ?hc ?_; (case hc => decide +kernel)) | (refine wpAny_ite_true ?hc ?_; (case hc => decide +kernel)))))
  refine ⟨_, rfl, ?_⟩
  repeat (first | (first | ((with_reducible show wpAny _ _ (nsGet cStatics _) _ _ _); refine Looks.at (Looks.keeps (by assumption) (Hp.keep (by assumption))) ?_) | ((with_reducible show wpAny _ _ (typeLookup (Value.type "super") _) _ _ _); refine wpAny_of_eq F.ks_slot_super_ga.lookup ?_) | ((with_reducible show wpAny _ _ (typeLookup (Value.type "classmethod_descriptor") _) _ _ _); refine wpAny_of_eq slot_cmd_get.lookup ?_) | ((with_reducible show wpAny _ _ (bindSpecial (Value.builtin "super.__getattribute__") _) _ _ _); refine wpAny_of_eq (F.ks_slot_super_ga.bind _) ?_) | ((with_reducible show wpAny _ _ (call (Value.builtin "super.__getattribute__") _) _ _ _); refine wpAny_call_entry F.ks_slot_super_ga ⟨_, Hp.get (by assumption) (by assumption), rfl⟩ F.ks_entry_super_ga ?_ (F.ks_gaArgs_super _ _); unfold Builtin.«super.__getattribute__») | ((with_reducible show wpAny _ _ (classOwn (Value.type "object") _) _ _ _); refine wpAny_of_eq own_isub ?_) | ((with_reducible show wpAny _ _ (typeOf (Value.builtin _)) _ _ _); refine wpAny_of_eq ty_isub ?_) | ((with_reducible show wpAny _ _ (forIn (List.drop _ _) _ _) _ _ _); refine forIn_drop ?_) | ((with_reducible show wpAny _ _ (call (Value.builtin "classmethod_descriptor.__get__") [_, if _ then _ else _, _]) _ _ _); refine call_if (by exact beq_self_eq_true _) ?_) | ((with_reducible show wpAny _ _ (call (Value.builtin "classmethod_descriptor.__get__") _) _ _ _); refine cm_get (by assumption) (by assumption) ?_; intro b' h' H')) | (first | with_reducible refine wpAny_pure ?_ | ((with_reducible show wpAny _ _ (Sem.pure _) _ _ _); with_reducible refine nd_pure ?_) | ((with_reducible show wpAny _ _ (Sem.tryCatch _ _) _ _ _); refine wpAny_tryCatch ?_) | with_reducible refine wpAny_bind ?_ | with_reducible refine nd_bind ?_ | with_reducible refine wpAny_holding ?_ | with_reducible refine wpAny_onRaise ?_ | ((with_reducible show wpAny _ _ (isSubtype _ _) _ _ _); first | refine wpAny_of_eq pf_tt ?_ | refine wpAny_of_eq pf_dd ?_ | refine wpAny_of_eq pf_ty ?_) | ((with_reducible show wpAny _ _ (typeLookup _ _) _ _ _); first | refine wpAny_of_eq pf_di ?_ | refine wpAny_of_eq pf_nc ?_ | refine wpAny_of_eq pf_fs ?_ | refine wpAny_of_eq pf_ss ?_ | refine wpAny_of_eq pf_is ?_ | refine wpAny_of_eq pf_ns1 ?_ | refine wpAny_of_eq pf_ls ?_ | refine wpAny_of_eq pf_ts ?_ | refine wpAny_of_eq pf_ms ?_) | ((with_reducible show wpAny _ _ (typeOf (Value.type _)) _ _ _); first | refine wpAny_of_eq pf_to ?_ | refine wpAny_of_eq pf_ft ?_) | ((with_reducible show wpAny _ _ (Builtin.notOverATurnedClass _) _ _ _); refine wpAny_of_eq pf_no ?_) | ((with_reducible show wpAny _ _ (Builtin.extendedBase _) _ _ _); refine wpAny_of_eq pf_ex ?_) | ((with_reducible show wpAny _ _ (Builtin.Slots.bestBase _) _ _ _); refine wpAny_of_eq pf_bb ?_) | ((with_reducible show wpAny _ _ (Builtin.Slots.slotNamesOf (Value.type _)) _ _ _); refine wpAny_of_eq pf_sn ?_) | ((with_reducible show wpAny _ _ (Builtin.Slots.givesDict (Value.type _)) _ _ _); refine wpAny_of_eq pf_gd ?_) | ((with_reducible show wpAny _ _ (Builtin.Slots.givesWeak (Value.type _)) _ _ _); refine wpAny_of_eq pf_gw ?_) | ((with_reducible show wpAny _ _ (Builtin.Slots.varSize (Value.type _)) _ _ _); refine wpAny_of_eq pf_vs ?_) | ((with_reducible show wpAny _ _ (Builtin.mroHook? (Value.type _)) _ _ _); refine wpAny_of_eq pf_mh ?_) | ((with_reducible show wpAny _ _ (Builtin.linearize _ _) _ _ _); refine wpAny_of_eq pf_ln ?_) | ((with_reducible show wpAny _ _ (mroOf (Value.type _)) _ _ _); refine wpAny_of_eq pf_mo ?_) | ((with_reducible show wpAny _ _ (Bind.madeBy (Value.type _)) _ _ _); refine wpAny_of_eq pf_mk ?_) | ((with_reducible show wpAny _ _ (Builtin.noteSubclassOfBuiltin _ _) _ _ _); refine wpAny_of_eq (pf_ns _) ?_) | ((with_reducible show wpAny _ _ (nsGet _ _) _ _ _); refine hp_nsGet (by assumption) (by k_mem) (by first | rfl | assumption) ?_) | ((with_reducible show wpAny _ _ (Sem.load _ _ _) _ _ _); refine hp_load (by assumption) (by k_mem) ?_) | ((with_reducible show wpAny _ _ (Sem.alloc _ _) _ _ _); refine hp_alloc (by assumption) rfl ?_; intro a' h' H' l') | ((with_reducible show wpAny _ _ (if (_ == sysModules) = true then _ else _) _ _ _); refine wpAny_ite_false (decide_eq_false (by rw [beq_iff_eq]; assumption)) ?_) | ((with_reducible show wpAny _ _ (collect _) _ _ _); refine hp_collect (by assumption) (by k_mem) (by simp) ?_; intro h' H') | ((with_reducible show wpAny _ _ (nsSet _ _ _) _ _ _); (first | refine hp_nsSet (i := 0) (by assumption) rfl (by first | rfl | simp [*]) rfl ?_ | refine hp_nsSet (i := 1) (by assumption) rfl (by first | rfl | simp [*]) rfl ?_ | refine hp_nsSet (i := 2) (by assumption) rfl (by first | rfl | simp [*]) rfl ?_ | refine hp_nsSet (i := 3) (by assumption) rfl (by first | rfl | simp [*]) rfl ?_); intro h' H'; dsimp only [List.set_cons_zero, List.set_cons_succ] at H') | ((with_reducible show wpAny _ _ (nsSetByValue _ _ _) _ _ _); (first | refine hp_nsSetBy (i := 0) (by assumption) rfl (by first | rfl | simp [*]) (by first | omega | (simp; done)) rfl ?_ | refine hp_nsSetBy (i := 1) (by assumption) rfl (by first | rfl | simp [*]) (by first | omega | (simp; done)) rfl ?_ | refine hp_nsSetBy (i := 2) (by assumption) rfl (by first | rfl | simp [*]) (by first | omega | (simp; done)) rfl ?_ | refine hp_nsSetBy (i := 3) (by assumption) rfl (by first | rfl | simp [*]) (by first | omega | (simp; done)) rfl ?_); intro h' H'; dsimp only [List.set_cons_zero, List.set_cons_succ] at H') | ((with_reducible show wpAny _ _ (Sem.update _ _ _ _) _ _ _); (first | refine hp_update (i := 0) (by assumption) rfl rfl ?_ | refine hp_update (i := 1) (by assumption) rfl rfl ?_ | refine hp_update (i := 2) (by assumption) rfl rfl ?_ | refine hp_update (i := 3) (by assumption) rfl rfl ?_); intro h' H'; dsimp only [List.set_cons_zero, List.set_cons_succ] at H') | ((with_reducible show wpAny _ _ (if (!(Array.any _ _)) = true then _ else _) _ _ _); refine wpAny_ite_false (decide_eq_false (by rw [← Array.any_toList]; exact Bool.false_ne_true)) ?_) | ((with_reducible show wpAny _ _ (setSlotAt _ _ _) _ _ _); (first | refine hp_setSlot (i := 0) (by assumption) rfl (by decide) rfl ?_ | refine hp_setSlot (i := 1) (by assumption) rfl (by decide) rfl ?_ | refine hp_setSlot (i := 2) (by assumption) rfl (by decide) rfl ?_ | refine hp_setSlot (i := 3) (by assumption) rfl (by decide) rfl ?_); intro h' H'; dsimp only [List.set_cons_zero, List.set_cons_succ] at H') | k_node | ((with_reducible show wpAny _ _ (if _ then _ else _) _ _ _); first | (refine wpAny_ite_false ?hc ?_; (case hc => decide +kernel)) | (refine wpAny_ite_true ?hc ?_; (case hc => decide +kernel)))))
  exact q _ _ (by assumption)
theorem kind_isub : builtinKind "object.__init_subclass__" = some .classMethod := by decide +kernel
theorem var_isub : Manifest.varargsMethods.contains "object.__init_subclass__" = false := by decide +kernel
theorem sub_tm : isSubtype (.type "type") (.type "module") = pure false := by rw [isSubtype_type]; kernel_rfl
theorem entry_isub : entryFor table "object.__init_subclass__" = some Builtin.«object.__init_subclass__» := entryFor_of_tree (by kernel_rfl)
theorem callSub_K {K b : Addr} {nm : Str} {bs : List Value} {ns : Addr} {hd : Bool} {sn : List Str} {sb : List Value} {ab : Bool} {co : Option Bool} {dl : Bool} {sl : Array (Option Value)} {Q : Value → Shared → Prop}
   (H : Hp g h led) (hK : (K, (⟨.type "type", none, .cls ⟨nm, bs, [.ref K, .type "object"], ns, "cmp_to_key.<locals>.K", hd, sn, sb, ab, co, dl⟩, sl⟩ : Obj)) ∈ led)
   (hb : (b, ({ cls := .type "builtin_function_or_method", data := .fields [Value.builtin "object.__init_subclass__", .ref K].toArray } : Obj)) ∈ led) (q : Q .none ⟨h, gs, d, t, os⟩) :
   wpAny (model prog w) A (call (.ref b) []) Q E ⟨h, gs, d, t, os⟩ := by
  refine wpAny_call (codeAny_of_tree ?_)
  show wpAny _ A.in1 (callAny (.ref b) ⟨[], []⟩) _ _ _
  repeat (first | (first | ((with_reducible show wpAny _ _ (nsGet cStatics _) _ _ _); refine Looks.at (Looks.keeps (by assumption) (Hp.keep (by assumption))) ?_) | ((with_reducible show wpAny _ _ (typeLookup (Value.type "super") _) _ _ _); refine wpAny_of_eq F.ks_slot_super_ga.lookup ?_) | ((with_reducible show wpAny _ _ (typeLookup (Value.type "classmethod_descriptor") _) _ _ _); refine wpAny_of_eq slot_cmd_get.lookup ?_) | ((with_reducible show wpAny _ _ (bindSpecial (Value.builtin "super.__getattribute__") _) _ _ _); refine wpAny_of_eq (F.ks_slot_super_ga.bind _) ?_) | ((with_reducible show wpAny _ _ (call (Value.builtin "super.__getattribute__") _) _ _ _); refine wpAny_call_entry F.ks_slot_super_ga ⟨_, Hp.get (by assumption) (by assumption), rfl⟩ F.ks_entry_super_ga ?_ (F.ks_gaArgs_super _ _); unfold Builtin.«super.__getattribute__») | ((with_reducible show wpAny _ _ (classOwn (Value.type "object") _) _ _ _); refine wpAny_of_eq own_isub ?_) | ((with_reducible show wpAny _ _ (typeOf (Value.builtin _)) _ _ _); refine wpAny_of_eq ty_isub ?_) | ((with_reducible show wpAny _ _ (forIn (List.drop _ _) _ _) _ _ _); refine forIn_drop ?_) | ((with_reducible show wpAny _ _ (call (Value.builtin "classmethod_descriptor.__get__") [_, if _ then _ else _, _]) _ _ _); refine call_if (by exact beq_self_eq_true _) ?_) | ((with_reducible show wpAny _ _ (call (Value.builtin "classmethod_descriptor.__get__") _) _ _ _); refine cm_get (by assumption) (by assumption) ?_; intro b' h' H')) | (first | with_reducible refine wpAny_pure ?_ | ((with_reducible show wpAny _ _ (Sem.pure _) _ _ _); with_reducible refine nd_pure ?_) | ((with_reducible show wpAny _ _ (Sem.tryCatch _ _) _ _ _); refine wpAny_tryCatch ?_) | with_reducible refine wpAny_bind ?_ | with_reducible refine nd_bind ?_ | with_reducible refine wpAny_holding ?_ | with_reducible refine wpAny_onRaise ?_ | ((with_reducible show wpAny _ _ (isSubtype _ _) _ _ _); first | refine wpAny_of_eq pf_tt ?_ | refine wpAny_of_eq pf_dd ?_ | refine wpAny_of_eq pf_ty ?_) | ((with_reducible show wpAny _ _ (typeLookup _ _) _ _ _); first | refine wpAny_of_eq pf_di ?_ | refine wpAny_of_eq pf_nc ?_ | refine wpAny_of_eq pf_fs ?_ | refine wpAny_of_eq pf_ss ?_ | refine wpAny_of_eq pf_is ?_ | refine wpAny_of_eq pf_ns1 ?_ | refine wpAny_of_eq pf_ls ?_ | refine wpAny_of_eq pf_ts ?_ | refine wpAny_of_eq pf_ms ?_) | ((with_reducible show wpAny _ _ (typeOf (Value.type _)) _ _ _); first | refine wpAny_of_eq pf_to ?_ | refine wpAny_of_eq pf_ft ?_) | ((with_reducible show wpAny _ _ (Builtin.notOverATurnedClass _) _ _ _); refine wpAny_of_eq pf_no ?_) | ((with_reducible show wpAny _ _ (Builtin.extendedBase _) _ _ _); refine wpAny_of_eq pf_ex ?_) | ((with_reducible show wpAny _ _ (Builtin.Slots.bestBase _) _ _ _); refine wpAny_of_eq pf_bb ?_) | ((with_reducible show wpAny _ _ (Builtin.Slots.slotNamesOf (Value.type _)) _ _ _); refine wpAny_of_eq pf_sn ?_) | ((with_reducible show wpAny _ _ (Builtin.Slots.givesDict (Value.type _)) _ _ _); refine wpAny_of_eq pf_gd ?_) | ((with_reducible show wpAny _ _ (Builtin.Slots.givesWeak (Value.type _)) _ _ _); refine wpAny_of_eq pf_gw ?_) | ((with_reducible show wpAny _ _ (Builtin.Slots.varSize (Value.type _)) _ _ _); refine wpAny_of_eq pf_vs ?_) | ((with_reducible show wpAny _ _ (Builtin.mroHook? (Value.type _)) _ _ _); refine wpAny_of_eq pf_mh ?_) | ((with_reducible show wpAny _ _ (Builtin.linearize _ _) _ _ _); refine wpAny_of_eq pf_ln ?_) | ((with_reducible show wpAny _ _ (mroOf (Value.type _)) _ _ _); refine wpAny_of_eq pf_mo ?_) | ((with_reducible show wpAny _ _ (Bind.madeBy (Value.type _)) _ _ _); refine wpAny_of_eq pf_mk ?_) | ((with_reducible show wpAny _ _ (Builtin.noteSubclassOfBuiltin _ _) _ _ _); refine wpAny_of_eq (pf_ns _) ?_) | ((with_reducible show wpAny _ _ (nsGet _ _) _ _ _); refine hp_nsGet (by assumption) (by k_mem) (by first | rfl | assumption) ?_) | ((with_reducible show wpAny _ _ (Sem.load _ _ _) _ _ _); refine hp_load (by assumption) (by k_mem) ?_) | ((with_reducible show wpAny _ _ (Sem.alloc _ _) _ _ _); refine hp_alloc (by assumption) rfl ?_; intro a' h' H' l') | ((with_reducible show wpAny _ _ (if (_ == sysModules) = true then _ else _) _ _ _); refine wpAny_ite_false (decide_eq_false (by rw [beq_iff_eq]; assumption)) ?_) | ((with_reducible show wpAny _ _ (collect _) _ _ _); refine hp_collect (by assumption) (by k_mem) (by simp) ?_; intro h' H') | ((with_reducible show wpAny _ _ (nsSet _ _ _) _ _ _); (first | refine hp_nsSet (i := 0) (by assumption) rfl (by first | rfl | simp [*]) rfl ?_ | refine hp_nsSet (i := 1) (by assumption) rfl (by first | rfl | simp [*]) rfl ?_ | refine hp_nsSet (i := 2) (by assumption) rfl (by first | rfl | simp [*]) rfl ?_ | refine hp_nsSet (i := 3) (by assumption) rfl (by first | rfl | simp [*]) rfl ?_); intro h' H'; dsimp only [List.set_cons_zero, List.set_cons_succ] at H') | ((with_reducible show wpAny _ _ (nsSetByValue _ _ _) _ _ _); (first | refine hp_nsSetBy (i := 0) (by assumption) rfl (by first | rfl | simp [*]) (by first | omega | (simp; done)) rfl ?_ | refine hp_nsSetBy (i := 1) (by assumption) rfl (by first | rfl | simp [*]) (by first | omega | (simp; done)) rfl ?_ | refine hp_nsSetBy (i := 2) (by assumption) rfl (by first | rfl | simp [*]) (by first | omega | (simp; done)) rfl ?_ | refine hp_nsSetBy (i := 3) (by assumption) rfl (by first | rfl | simp [*]) (by first | omega | (simp; done)) rfl ?_); intro h' H'; dsimp only [List.set_cons_zero, List.set_cons_succ] at H') | ((with_reducible show wpAny _ _ (Sem.update _ _ _ _) _ _ _); (first | refine hp_update (i := 0) (by assumption) rfl rfl ?_ | refine hp_update (i := 1) (by assumption) rfl rfl ?_ | refine hp_update (i := 2) (by assumption) rfl rfl ?_ | refine hp_update (i := 3) (by assumption) rfl rfl ?_); intro h' H'; dsimp only [List.set_cons_zero, List.set_cons_succ] at H') | ((with_reducible show wpAny _ _ (if (!(Array.any _ _)) = true then _ else _) _ _ _); refine wpAny_ite_false (decide_eq_false (by rw [← Array.any_toList]; exact Bool.false_ne_true)) ?_) | ((with_reducible show wpAny _ _ (setSlotAt _ _ _) _ _ _); (first | refine hp_setSlot (i := 0) (by assumption) rfl (by decide) rfl ?_ | refine hp_setSlot (i := 1) (by assumption) rfl (by decide) rfl ?_ | refine hp_setSlot (i := 2) (by assumption) rfl (by decide) rfl ?_ | refine hp_setSlot (i := 3) (by assumption) rfl (by decide) rfl ?_); intro h' H'; dsimp only [List.set_cons_zero, List.set_cons_succ] at H') | k_node | ((with_reducible show wpAny _ _ (if _ then _ else _) _ _ _); first | (refine wpAny_ite_false ?hc ?_; (case hc => decide +kernel)) | (refine wpAny_ite_true ?hc ?_; (case hc => decide +kernel)))))
  refine ⟨Code.quiet_builtin _ (by decide +kernel), codeAny_builtin entry_isub ?_⟩
  unfold Builtin.«object.__init_subclass__»
  repeat (first | (first | ((with_reducible show wpAny _ _ (nsGet cStatics _) _ _ _); refine Looks.at (Looks.keeps (by assumption) (Hp.keep (by assumption))) ?_) | ((with_reducible show wpAny _ _ (typeLookup (Value.type "super") _) _ _ _); refine wpAny_of_eq F.ks_slot_super_ga.lookup ?_) | ((with_reducible show wpAny _ _ (typeLookup (Value.type "classmethod_descriptor") _) _ _ _); refine wpAny_of_eq slot_cmd_get.lookup ?_) | ((with_reducible show wpAny _ _ (bindSpecial (Value.builtin "super.__getattribute__") _) _ _ _); refine wpAny_of_eq (F.ks_slot_super_ga.bind _) ?_) | ((with_reducible show wpAny _ _ (call (Value.builtin "super.__getattribute__") _) _ _ _); refine wpAny_call_entry F.ks_slot_super_ga ⟨_, Hp.get (by assumption) (by assumption), rfl⟩ F.ks_entry_super_ga ?_ (F.ks_gaArgs_super _ _); unfold Builtin.«super.__getattribute__») | ((with_reducible show wpAny _ _ (classOwn (Value.type "object") _) _ _ _); refine wpAny_of_eq own_isub ?_) | ((with_reducible show wpAny _ _ (typeOf (Value.builtin _)) _ _ _); refine wpAny_of_eq ty_isub ?_) | ((with_reducible show wpAny _ _ (forIn (List.drop _ _) _ _) _ _ _); refine forIn_drop ?_) | ((with_reducible show wpAny _ _ (call (Value.builtin "classmethod_descriptor.__get__") [_, if _ then _ else _, _]) _ _ _); refine call_if (by exact beq_self_eq_true _) ?_) | ((with_reducible show wpAny _ _ (call (Value.builtin "classmethod_descriptor.__get__") _) _ _ _); refine cm_get (by assumption) (by assumption) ?_; intro b' h' H')) | (first | with_reducible refine wpAny_pure ?_ | ((with_reducible show wpAny _ _ (Sem.pure _) _ _ _); with_reducible refine nd_pure ?_) | ((with_reducible show wpAny _ _ (Sem.tryCatch _ _) _ _ _); refine wpAny_tryCatch ?_) | with_reducible refine wpAny_bind ?_ | with_reducible refine nd_bind ?_ | with_reducible refine wpAny_holding ?_ | with_reducible refine wpAny_onRaise ?_ | ((with_reducible show wpAny _ _ (isSubtype _ _) _ _ _); first | refine wpAny_of_eq pf_tt ?_ | refine wpAny_of_eq pf_dd ?_ | refine wpAny_of_eq pf_ty ?_) | ((with_reducible show wpAny _ _ (typeLookup _ _) _ _ _); first | refine wpAny_of_eq pf_di ?_ | refine wpAny_of_eq pf_nc ?_ | refine wpAny_of_eq pf_fs ?_ | refine wpAny_of_eq pf_ss ?_ | refine wpAny_of_eq pf_is ?_ | refine wpAny_of_eq pf_ns1 ?_ | refine wpAny_of_eq pf_ls ?_ | refine wpAny_of_eq pf_ts ?_ | refine wpAny_of_eq pf_ms ?_) | ((with_reducible show wpAny _ _ (typeOf (Value.type _)) _ _ _); first | refine wpAny_of_eq pf_to ?_ | refine wpAny_of_eq pf_ft ?_) | ((with_reducible show wpAny _ _ (Builtin.notOverATurnedClass _) _ _ _); refine wpAny_of_eq pf_no ?_) | ((with_reducible show wpAny _ _ (Builtin.extendedBase _) _ _ _); refine wpAny_of_eq pf_ex ?_) | ((with_reducible show wpAny _ _ (Builtin.Slots.bestBase _) _ _ _); refine wpAny_of_eq pf_bb ?_) | ((with_reducible show wpAny _ _ (Builtin.Slots.slotNamesOf (Value.type _)) _ _ _); refine wpAny_of_eq pf_sn ?_) | ((with_reducible show wpAny _ _ (Builtin.Slots.givesDict (Value.type _)) _ _ _); refine wpAny_of_eq pf_gd ?_) | ((with_reducible show wpAny _ _ (Builtin.Slots.givesWeak (Value.type _)) _ _ _); refine wpAny_of_eq pf_gw ?_) | ((with_reducible show wpAny _ _ (Builtin.Slots.varSize (Value.type _)) _ _ _); refine wpAny_of_eq pf_vs ?_) | ((with_reducible show wpAny _ _ (Builtin.mroHook? (Value.type _)) _ _ _); refine wpAny_of_eq pf_mh ?_) | ((with_reducible show wpAny _ _ (Builtin.linearize _ _) _ _ _); refine wpAny_of_eq pf_ln ?_) | ((with_reducible show wpAny _ _ (mroOf (Value.type _)) _ _ _); refine wpAny_of_eq pf_mo ?_) | ((with_reducible show wpAny _ _ (Bind.madeBy (Value.type _)) _ _ _); refine wpAny_of_eq pf_mk ?_) | ((with_reducible show wpAny _ _ (Builtin.noteSubclassOfBuiltin _ _) _ _ _); refine wpAny_of_eq (pf_ns _) ?_) | ((with_reducible show wpAny _ _ (nsGet _ _) _ _ _); refine hp_nsGet (by assumption) (by k_mem) (by first | rfl | assumption) ?_) | ((with_reducible show wpAny _ _ (Sem.load _ _ _) _ _ _); refine hp_load (by assumption) (by k_mem) ?_) | ((with_reducible show wpAny _ _ (Sem.alloc _ _) _ _ _); refine hp_alloc (by assumption) rfl ?_; intro a' h' H' l') | ((with_reducible show wpAny _ _ (if (_ == sysModules) = true then _ else _) _ _ _); refine wpAny_ite_false (decide_eq_false (by rw [beq_iff_eq]; assumption)) ?_) | ((with_reducible show wpAny _ _ (collect _) _ _ _); refine hp_collect (by assumption) (by k_mem) (by simp) ?_; intro h' H') | ((with_reducible show wpAny _ _ (nsSet _ _ _) _ _ _); (first | refine hp_nsSet (i := 0) (by assumption) rfl (by first | rfl | simp [*]) rfl ?_ | refine hp_nsSet (i := 1) (by assumption) rfl (by first | rfl | simp [*]) rfl ?_ | refine hp_nsSet (i := 2) (by assumption) rfl (by first | rfl | simp [*]) rfl ?_ | refine hp_nsSet (i := 3) (by assumption) rfl (by first | rfl | simp [*]) rfl ?_); intro h' H'; dsimp only [List.set_cons_zero, List.set_cons_succ] at H') | ((with_reducible show wpAny _ _ (nsSetByValue _ _ _) _ _ _); (first | refine hp_nsSetBy (i := 0) (by assumption) rfl (by first | rfl | simp [*]) (by first | omega | (simp; done)) rfl ?_ | refine hp_nsSetBy (i := 1) (by assumption) rfl (by first | rfl | simp [*]) (by first | omega | (simp; done)) rfl ?_ | refine hp_nsSetBy (i := 2) (by assumption) rfl (by first | rfl | simp [*]) (by first | omega | (simp; done)) rfl ?_ | refine hp_nsSetBy (i := 3) (by assumption) rfl (by first | rfl | simp [*]) (by first | omega | (simp; done)) rfl ?_); intro h' H'; dsimp only [List.set_cons_zero, List.set_cons_succ] at H') | ((with_reducible show wpAny _ _ (Sem.update _ _ _ _) _ _ _); (first | refine hp_update (i := 0) (by assumption) rfl rfl ?_ | refine hp_update (i := 1) (by assumption) rfl rfl ?_ | refine hp_update (i := 2) (by assumption) rfl rfl ?_ | refine hp_update (i := 3) (by assumption) rfl rfl ?_); intro h' H'; dsimp only [List.set_cons_zero, List.set_cons_succ] at H') | ((with_reducible show wpAny _ _ (if (!(Array.any _ _)) = true then _ else _) _ _ _); refine wpAny_ite_false (decide_eq_false (by rw [← Array.any_toList]; exact Bool.false_ne_true)) ?_) | ((with_reducible show wpAny _ _ (setSlotAt _ _ _) _ _ _); (first | refine hp_setSlot (i := 0) (by assumption) rfl (by decide) rfl ?_ | refine hp_setSlot (i := 1) (by assumption) rfl (by decide) rfl ?_ | refine hp_setSlot (i := 2) (by assumption) rfl (by decide) rfl ?_ | refine hp_setSlot (i := 3) (by assumption) rfl (by decide) rfl ?_); intro h' H'; dsimp only [List.set_cons_zero, List.set_cons_succ] at H') | k_node | ((with_reducible show wpAny _ _ (if _ then _ else _) _ _ _); first | (refine wpAny_ite_false ?hc ?_; (case hc => decide +kernel)) | (refine wpAny_ite_true ?hc ?_; (case hc => decide +kernel)))))
  exact q
theorem selfsub_K {M : Model} {K : Addr} {nm qn : Str} {bs : List Value} {ns : Addr} {hd : Bool} {sn : List Str} {sb : List Value} {ab : Bool} {co : Option Bool} {dl : Bool} {sl : Array (Option Value)} {dd : Option Addr} {b : Value} (hb : [Value.ref K, .type "object"].contains b = true)
   (e : h.get? K = some ⟨.type "type", dd, .cls ⟨nm, bs, [.ref K, .type "object"], ns, qn, hd, sn, sb, ab, co, dl⟩, sl⟩) : Looks M h (isSubtype (.ref K) b) true := by
  have hm : Looks M h (mroOf (.ref K)) [.ref K, .type "object"] := ((Looks.ld (part := none) e).andThen .now).andThen .now
  unfold isSubtype
  refine hm.andThen (Looks.of_pure ?_)
  show (pure ([Value.ref K, .type "object"].contains b) : Sem Bool) = pure true
  rw [hb]
theorem super_hp {K : Addr} {nm qn : Str} {bs : List Value} {ns : Addr} {hd : Bool} {sn : List Str} {sb : List Value} {ab : Bool} {co : Option Bool} {dl : Bool} {sl : Array (Option Value)} {Q : Value → Shared → Prop}
   (H : Hp g h led) (hK : (K, (⟨.type "type", none, .cls ⟨nm, bs, [.ref K, .type "object"], ns, qn, hd, sn, sb, ab, co, dl⟩, sl⟩ : Obj)) ∈ led)
   (q : ∀ so h', Hp g h' ((so, ({ cls := .type "super", data := .fields #[.ref K, .ref K, .ref K] } : Obj)) :: led) → Q (.ref so) ⟨h', gs, d, t, os⟩) :
   wpAny (model prog w) A (call (.type "super") [.ref K, .ref K]) Q E ⟨h, gs, d, t, os⟩ := by
  refine super_own (H.get hK) rfl (selfsub_K (by simp) (H.get hK)) fun h' e k => q _ h' ?_
  have z : @LT.lt Nat _ h.objs.size h'.objs.size := Heap.lt_size e
  exact (H.grow k (Nat.le_of_lt z)).join e (H.fresh (Nat.le_refl _)) fun p hp => Nat.ne_of_lt (H.lt hp)
end
end Mine
end
/-! K3 -/
section
open PySem PySem.W PyProof.Rows PySem.Calls
set_option maxRecDepth 100000
set_option linter.unusedVariables false
namespace Mine
theorem hp_anyM {M : Model} {A : Around} {E : Value → Shared → Prop} {s : Shared} {Q : Bool → Shared → Prop} {a : Addr} {f : Value → Sem Bool} (hf : f (.type "object") = pure false) (q : Q false s) :
    wpAny M A (List.anyM f (List.filter (fun x => x != Value.ref a) [Value.ref a, .type "object"])) Q E s := by
  have e : List.filter (fun x => x != Value.ref a) [Value.ref a, .type "object"] = [.type "object"] := by simp
  rw [e]
  show wpAny M A (f (.type "object") >>= _) Q E s
  rw [hf]
  exact wpAny_bind (wpAny_pure (wpAny_pure q))
noncomputable abbrev clsK (K ns bT : Addr) (tk q1 : Tok) (dl : Bool) : Obj := ⟨.type "type", none, .cls ⟨"K", [.type "object"], [.ref K, .type "object"], ns, "cmp_to_key.<locals>.K", false, ["obj"], [], false, none, dl⟩, [some (Value.ref bT), none, some (.str "K" tk), some (.str "cmp_to_key.<locals>.K" q1), some (.builtin "object.__new__"), some (.bool false)].toArray⟩
set_option maxHeartbeats 2000000 in
theorem typeNew_K {led₀ rest₀ : List (Addr × Obj)} {prog : Program} {w : World} {A : Around} {g h : Heap} {gs : Array GenState} {d : Drawn} {t : Nat} {os : OsState} {P : Fin → Shared → Prop} {E : Value → Shared → Prop} {nsA bT lS sT f1 f2 f3 f4 f5 f6 : Addr} {n nl : Nat} {tk : Tok} {iv3 : Int} {v3 : Tok} {fx1 fx2 fx3 fx4 fx5 fx6 : Data} {st : Array Value}
   {h1 h2 h3 h4 h5 h6 h7 h8 h9 h10 h11 h12 : Int} {t1 t2 t3 t4 t5 t6 t7 t8 t9 t10 t11 t12 : Tok} {u1 q1 l1 : Tok}

   (hop : Looks (model prog w) g (nsGet cStatics "thirdparty.any") none) (hng : nsA ≠ sysModules)
   (hl₀ : led₀ = (nsA, dictOf [ent h1 "__module__" t1 (.str "cpy313.functools" u1), ent h2 "__qualname__" t2 (.str "cmp_to_key.<locals>.K" q1), ent h3 "__firstlineno__" t3 (.int iv3 v3), ent h4 "__slots__" t4 (.ref lS), ent h5 "__init__" t5 (.ref f1), ent h6 "__lt__" t6 (.ref f2), ent h7 "__gt__" t7 (.ref f3), ent h8 "__eq__" t8 (.ref f4), ent h9 "__le__" t9 (.ref f5), ent h10 "__ge__" t10 (.ref f6), ent h11 "__hash__" t11 .none, ent h12 "__static_attributes__" t12 (.ref sT)] n) :: (bT, { cls := .type "tuple", data := .seq #[.type "object"] }) :: (lS, { cls := .type "list", data := .seq [Value.str "obj" l1].toArray nl }) :: (sT, { cls := .type "tuple", data := .seq st }) :: (f1, ({ cls := .type "function", data := fx1 } : Obj)) :: (f2, ({ cls := .type "function", data := fx2 } : Obj)) :: (f3, ({ cls := .type "function", data := fx3 } : Obj)) :: (f4, ({ cls := .type "function", data := fx4 } : Obj)) :: (f5, ({ cls := .type "function", data := fx5 } : Obj)) :: (f6, ({ cls := .type "function", data := fx6 } : Obj)) :: rest₀)
   (H : Hp g h led₀)
   (q : ∀ K ns D h' t' hs1 hs2 k1 k2 k3 m dl, dl = false → Hp g h' ((D, descK K k2) :: (K, clsK K ns bT tk q1 dl) :: (ns, dictOf [ent h1 "__module__" t1 (.str "cpy313.functools" u1), ent h3 "__firstlineno__" t3 (.int iv3 v3), ent h4 "__slots__" t4 (.ref lS), ent h5 "__init__" t5 (.ref f1), ent h6 "__lt__" t6 (.ref f2), ent h7 "__gt__" t7 (.ref f3), ent h8 "__eq__" t8 (.ref f4), ent h9 "__le__" t9 (.ref f5), ent h10 "__ge__" t10 (.ref f6), ent h11 "__hash__" t11 .none, ent h12 "__static_attributes__" t12 (.ref sT), ent hs1 "obj" k1 (.ref D), ent hs2 "__doc__" k3 .none] m) :: led₀) → P (.done (.ret (.ref K))) ⟨h', gs, d, t', os⟩) :
   wpAny (model prog w) A (Builtin.«type.__new__» ⟨[.type "type", .str "K" tk, .ref bT, .ref nsA], []⟩) P E ⟨h, gs, d, t, os⟩ := by
  unfold Builtin.«type.__new__»
  subst hl₀
  repeat (first | (first | ((with_reducible show wpAny _ _ (call (Value.type "super") _) _ _ _); refine' super_hp (by assumption) ?hK ?_; (case hK => k_mem); intro so' h' H') | ((with_reducible show wpAny _ _ (getAttr _ _) _ _ _); refine' initSub_K (by assumption) (by assumption) ?hK ?hs ?_; (case hs => k_mem); (case hK => k_mem); intro b' h' H') | ((with_reducible show wpAny _ _ (call (Value.ref _) _) _ _ _); refine' callSub_K (by assumption) ?hK ?hs ?_; (case hs => k_mem); (case hK => k_mem))) | (((with_reducible show wpAny _ _ (List.anyM _ _) _ _ _); refine hp_anyM (by kernel_rfl) ?_)) | (first | ((with_reducible show wpAny _ _ (Builtin.Slots.read _ _ _) _ _ _); refine' read_K (by assumption) ?hm ?hf ?hn ?_; (case hf => rfl); (case hm => k_mem); (case hn => rfl); intro h' H') | ((with_reducible show wpAny _ _ (Builtin.Slots.install _ _ _ _) _ _ _); refine install_K (by assumption) rfl (by simp) (fun _ _ _ => rfl) rfl ?_; intro D' h' hsh' tk1' tk2' m' t' H')) | (first | with_reducible refine wpAny_pure ?_ | ((with_reducible show wpAny _ _ (Sem.pure _) _ _ _); with_reducible refine nd_pure ?_) | ((with_reducible show wpAny _ _ (Sem.tryCatch _ _) _ _ _); refine wpAny_tryCatch ?_) | with_reducible refine wpAny_bind ?_ | with_reducible refine nd_bind ?_ | with_reducible refine wpAny_holding ?_ | with_reducible refine wpAny_onRaise ?_ | ((with_reducible show wpAny _ _ (isSubtype _ _) _ _ _); first | refine wpAny_of_eq pf_tt ?_ | refine wpAny_of_eq pf_dd ?_ | refine wpAny_of_eq pf_ty ?_) | ((with_reducible show wpAny _ _ (typeLookup _ _) _ _ _); first | refine wpAny_of_eq pf_di ?_ | refine wpAny_of_eq pf_nc ?_ | refine wpAny_of_eq pf_fs ?_ | refine wpAny_of_eq pf_ss ?_ | refine wpAny_of_eq pf_is ?_ | refine wpAny_of_eq pf_ns1 ?_ | refine wpAny_of_eq pf_ls ?_ | refine wpAny_of_eq pf_ts ?_ | refine wpAny_of_eq pf_ms ?_) | ((with_reducible show wpAny _ _ (typeOf (Value.type _)) _ _ _); first | refine wpAny_of_eq pf_to ?_ | refine wpAny_of_eq pf_ft ?_) | ((with_reducible show wpAny _ _ (Builtin.notOverATurnedClass _) _ _ _); refine wpAny_of_eq pf_no ?_) | ((with_reducible show wpAny _ _ (Builtin.extendedBase _) _ _ _); refine wpAny_of_eq pf_ex ?_) | ((with_reducible show wpAny _ _ (Builtin.Slots.bestBase _) _ _ _); refine wpAny_of_eq pf_bb ?_) | ((with_reducible show wpAny _ _ (Builtin.Slots.slotNamesOf (Value.type _)) _ _ _); refine wpAny_of_eq pf_sn ?_) | ((with_reducible show wpAny _ _ (Builtin.Slots.givesDict (Value.type _)) _ _ _); refine wpAny_of_eq pf_gd ?_) | ((with_reducible show wpAny _ _ (Builtin.Slots.givesWeak (Value.type _)) _ _ _); refine wpAny_of_eq pf_gw ?_) | ((with_reducible show wpAny _ _ (Builtin.Slots.varSize (Value.type _)) _ _ _); refine wpAny_of_eq pf_vs ?_) | ((with_reducible show wpAny _ _ (Builtin.mroHook? (Value.type _)) _ _ _); refine wpAny_of_eq pf_mh ?_) | ((with_reducible show wpAny _ _ (Builtin.linearize _ _) _ _ _); refine wpAny_of_eq pf_ln ?_) | ((with_reducible show wpAny _ _ (mroOf (Value.type _)) _ _ _); refine wpAny_of_eq pf_mo ?_) | ((with_reducible show wpAny _ _ (Bind.madeBy (Value.type _)) _ _ _); refine wpAny_of_eq pf_mk ?_) | ((with_reducible show wpAny _ _ (Builtin.noteSubclassOfBuiltin _ _) _ _ _); refine wpAny_of_eq (pf_ns _) ?_) | ((with_reducible show wpAny _ _ (nsGet _ _) _ _ _); refine hp_nsGet (by assumption) (by k_mem) (by first | rfl | assumption) ?_) | ((with_reducible show wpAny _ _ (Sem.load _ _ _) _ _ _); refine hp_load (by assumption) (by k_mem) ?_) | ((with_reducible show wpAny _ _ (Sem.alloc _ _) _ _ _); refine hp_alloc (by assumption) rfl ?_; intro a' h' H' l') | ((with_reducible show wpAny _ _ (if (_ == sysModules) = true then _ else _) _ _ _); refine wpAny_ite_false (decide_eq_false (by rw [beq_iff_eq]; assumption)) ?_) | ((with_reducible show wpAny _ _ (collect _) _ _ _); refine hp_collect (by assumption) (by k_mem) (by simp) ?_; intro h' H') | ((with_reducible show wpAny _ _ (nsSet _ _ _) _ _ _); (first | refine hp_nsSet (i := 0) (by assumption) rfl (by first | rfl | simp [*]) rfl ?_ | refine hp_nsSet (i := 1) (by assumption) rfl (by first | rfl | simp [*]) rfl ?_ | refine hp_nsSet (i := 2) (by assumption) rfl (by first | rfl | simp [*]) rfl ?_ | refine hp_nsSet (i := 3) (by assumption) rfl (by first | rfl | simp [*]) rfl ?_); intro h' H'; dsimp only [List.set_cons_zero, List.set_cons_succ] at H') | ((with_reducible show wpAny _ _ (nsSetByValue _ _ _) _ _ _); (first | refine hp_nsSetBy (i := 0) (by assumption) rfl (by first | rfl | simp [*]) (by first | omega | (simp; done)) rfl ?_ | refine hp_nsSetBy (i := 1) (by assumption) rfl (by first | rfl | simp [*]) (by first | omega | (simp; done)) rfl ?_ | refine hp_nsSetBy (i := 2) (by assumption) rfl (by first | rfl | simp [*]) (by first | omega | (simp; done)) rfl ?_ | refine hp_nsSetBy (i := 3) (by assumption) rfl (by first | rfl | simp [*]) (by first | omega | (simp; done)) rfl ?_); intro h' H'; dsimp only [List.set_cons_zero, List.set_cons_succ] at H') | ((with_reducible show wpAny _ _ (Sem.update _ _ _ _) _ _ _); (first | refine hp_update (i := 0) (by assumption) rfl rfl ?_ | refine hp_update (i := 1) (by assumption) rfl rfl ?_ | refine hp_update (i := 2) (by assumption) rfl rfl ?_ | refine hp_update (i := 3) (by assumption) rfl rfl ?_); intro h' H'; dsimp only [List.set_cons_zero, List.set_cons_succ] at H') | ((with_reducible show wpAny _ _ (if (!(Array.any _ _)) = true then _ else _) _ _ _); refine wpAny_ite_false (decide_eq_false (by rw [← Array.any_toList]; exact Bool.false_ne_true)) ?_) | ((with_reducible show wpAny _ _ (setSlotAt _ _ _) _ _ _); (first | refine hp_setSlot (i := 0) (by assumption) rfl (by decide) rfl ?_ | refine hp_setSlot (i := 1) (by assumption) rfl (by decide) rfl ?_ | refine hp_setSlot (i := 2) (by assumption) rfl (by decide) rfl ?_ | refine hp_setSlot (i := 3) (by assumption) rfl (by decide) rfl ?_); intro h' H'; dsimp only [List.set_cons_zero, List.set_cons_succ] at H') | k_node | ((with_reducible show wpAny _ _ (if _ then _ else _) _ _ _); first | (refine wpAny_ite_false ?hc ?_; (case hc => decide +kernel)) | (refine wpAny_ite_true ?hc ?_; (case hc => decide +kernel)))))
  rename Hp _ _ _ => H9
  refine q _ _ _ _ _ _ _ _ _ _ _ _ ?hdl (H9.drop (.cons _ (.cons _ (.refl _))))
  show (Array.any _ _ || _) = false
  rw [← Array.any_toList]
  rfl
end Mine
end
/-! K5 -/
section
open PySem PySem.W PyProof.Rows PySem.Calls
set_option maxRecDepth 100000
set_option linter.unusedVariables false
namespace Mine

theorem tn_check (a b c : Value) : checkBuiltinCall "type.__new__" ⟨[.type "type", a, b, c], []⟩ = pure () := by kernel_rfl
theorem tn_entry : entryFor table "type.__new__" = some Builtin.«type.__new__» := entryFor_of_tree (by kernel_rfl)
theorem tn_plain : plainId "type.__new__" = true := by decide +kernel
theorem tn_made : Bind.madeBy (.type "type") = pure (some "type.__new__") := by kernel_rfl
theorem ti_slot : Slot "type" "__init__" "type.__init__" := .of (owner := "type") (n := "__init__") (by rw [typeLookup_type, builtinLookup_eq_fast]; kernel_rfl) (by decide +kernel) (by decide +kernel) (by decide +kernel)
  (by first | exact .inl (by decide +kernel) | exact .inr (by decide +kernel)) (by rw [isSubtype_type]; kernel_rfl)
theorem ti_entry : entryFor table "type.__init__" = some Builtin.«type.__init__» := entryFor_of_tree (by kernel_rfl)
theorem ti_args (o a b c : Value) : argsOk "type.__init__" ⟨[o, a, b, c], []⟩ := by unfold argsOk; kernel_rfl
theorem tt_mro : mroOf (.type "type") = pure [.type "type", .type "object"] := by rw [mroOf_type]; kernel_rfl
theorem tc_chk (a b c : Value) : checkTypeCall "type" ⟨[a, b, c], []⟩ = pure () := by kernel_rfl
theorem tc_can : (((Manifest.find? "type").bind (·.mro.findSome? fun t => (Manifest.find? t).bind fun b => if b.noNew then some true else if b.attrs.any (·.1 == "__new__") then some false else none)).getD false) = false := by decide +kernel
set_option maxHeartbeats 2000000 in
theorem typeCall_K {led₀ rest₀ : List (Addr × Obj)} {prog : Program} {w : World} {A : Around} {g h : Heap} {gs : Array GenState} {d : Drawn} {t : Nat} {os : OsState} {Q : Value → Shared → Prop} {E : Value → Shared → Prop} {nsA bT lS sT f1 f2 f3 f4 f5 f6 : Addr} {n nl : Nat} {tk : Tok} {iv3 : Int} {v3 : Tok} {fx1 fx2 fx3 fx4 fx5 fx6 : Data} {st : Array Value}
   {h1 h2 h3 h4 h5 h6 h7 h8 h9 h10 h11 h12 : Int} {t1 t2 t3 t4 t5 t6 t7 t8 t9 t10 t11 t12 : Tok} {u1 q1 l1 : Tok}
   (hop : Looks (model prog w) g (nsGet cStatics "thirdparty.any") none) (hng : nsA ≠ sysModules)
   (hl₀ : led₀ = (nsA, dictOf [ent h1 "__module__" t1 (.str "cpy313.functools" u1), ent h2 "__qualname__" t2 (.str "cmp_to_key.<locals>.K" q1), ent h3 "__firstlineno__" t3 (.int iv3 v3), ent h4 "__slots__" t4 (.ref lS), ent h5 "__init__" t5 (.ref f1), ent h6 "__lt__" t6 (.ref f2), ent h7 "__gt__" t7 (.ref f3), ent h8 "__eq__" t8 (.ref f4), ent h9 "__le__" t9 (.ref f5), ent h10 "__ge__" t10 (.ref f6), ent h11 "__hash__" t11 .none, ent h12 "__static_attributes__" t12 (.ref sT)] n) :: (bT, { cls := .type "tuple", data := .seq #[.type "object"] }) :: (lS, { cls := .type "list", data := .seq [Value.str "obj" l1].toArray nl }) :: (sT, { cls := .type "tuple", data := .seq st }) :: (f1, ({ cls := .type "function", data := fx1 } : Obj)) :: (f2, ({ cls := .type "function", data := fx2 } : Obj)) :: (f3, ({ cls := .type "function", data := fx3 } : Obj)) :: (f4, ({ cls := .type "function", data := fx4 } : Obj)) :: (f5, ({ cls := .type "function", data := fx5 } : Obj)) :: (f6, ({ cls := .type "function", data := fx6 } : Obj)) :: rest₀)
   (H : Hp g h led₀)
   (q : ∀ K ns D h' t' hs1 hs2 k1 k2 k3 m dl, dl = false → Hp g h' ((D, descK K k2) :: (K, clsK K ns bT tk q1 dl) :: (ns, dictOf [ent h1 "__module__" t1 (.str "cpy313.functools" u1), ent h3 "__firstlineno__" t3 (.int iv3 v3), ent h4 "__slots__" t4 (.ref lS), ent h5 "__init__" t5 (.ref f1), ent h6 "__lt__" t6 (.ref f2), ent h7 "__gt__" t7 (.ref f3), ent h8 "__eq__" t8 (.ref f4), ent h9 "__le__" t9 (.ref f5), ent h10 "__ge__" t10 (.ref f6), ent h11 "__hash__" t11 .none, ent h12 "__static_attributes__" t12 (.ref sT), ent hs1 "obj" k1 (.ref D), ent hs2 "__doc__" k3 .none] m) :: led₀) → Q (.ref K) ⟨h', gs, d, t', os⟩) :
   wpAny (model prog w) A (call (.type "type") [.str "K" tk, .ref bT, .ref nsA]) Q E ⟨h, gs, d, t, os⟩ := by
  refine wpAny_call (codeAny_of_tree ?_)
  show wpAny _ _ (callAny (.type "type") _) _ _ _
  refine wpAny_pure ⟨Code.quiet_builtin _ (by decide +kernel), codeAny_builtin F.entry_type_call ?_⟩
  rw [Around.under_plain (weight_type_call_type "type" _ []) rfl]
  unfold Builtin.«type.__call__»
  iterate 34 (first | (first | ((with_reducible show wpAny _ _ (mroOf (Value.type "type")) _ _ _); refine wpAny_of_eq tt_mro ?_) | ((with_reducible show wpAny _ _ (Bind.madeBy (Value.type "type")) _ _ _); refine wpAny_of_eq tn_made ?_) | ((with_reducible show wpAny _ _ (typeLookup (Value.type "type") _) _ _ _); refine wpAny_of_eq ti_slot.lookup ?_) | ((with_reducible show wpAny _ _ (bindSpecial (Value.builtin "type.__init__") _) _ _ _); refine wpAny_of_eq (ti_slot.bind _) ?_) | ((with_reducible show wpAny _ _ (call (Value.builtin "type.__new__") _ _) _ _ _); refine wpAny_call (codeAny_call_builtin tn_plain tn_entry (wpAny_of_eq (tn_check _ _ _) ?_))) | ((with_reducible show wpAny _ _ (Builtin.«type.__new__» _) _ _ _); fail) | ((with_reducible show wpAny _ _ (call (Value.builtin "type.__init__") _ _) _ _ _); refine wpAny_call_entry ti_slot ⟨_, Hp.get (by assumption) (.tail _ (.head _)), rfl⟩ ti_entry ?_ (ti_args _ _ _ _); unfold Builtin.«type.__init__»)) | (first | with_reducible refine wpAny_pure ?_ | ((with_reducible show wpAny _ _ (Sem.pure _) _ _ _); with_reducible refine nd_pure ?_) | ((with_reducible show wpAny _ _ (Sem.tryCatch _ _) _ _ _); refine wpAny_tryCatch ?_) | with_reducible refine wpAny_bind ?_ | with_reducible refine nd_bind ?_ | with_reducible refine wpAny_holding ?_ | with_reducible refine wpAny_onRaise ?_ | ((with_reducible show wpAny _ _ (isSubtype _ _) _ _ _); first | refine wpAny_of_eq pf_tt ?_ | refine wpAny_of_eq pf_dd ?_ | refine wpAny_of_eq pf_ty ?_) | ((with_reducible show wpAny _ _ (typeLookup _ _) _ _ _); first | refine wpAny_of_eq pf_di ?_ | refine wpAny_of_eq pf_nc ?_ | refine wpAny_of_eq pf_fs ?_ | refine wpAny_of_eq pf_ss ?_ | refine wpAny_of_eq pf_is ?_ | refine wpAny_of_eq pf_ns1 ?_ | refine wpAny_of_eq pf_ls ?_ | refine wpAny_of_eq pf_ts ?_ | refine wpAny_of_eq pf_ms ?_) | ((with_reducible show wpAny _ _ (typeOf (Value.type _)) _ _ _); first | refine wpAny_of_eq pf_to ?_ | refine wpAny_of_eq pf_ft ?_) | ((with_reducible show wpAny _ _ (Builtin.notOverATurnedClass _) _ _ _); refine wpAny_of_eq pf_no ?_) | ((with_reducible show wpAny _ _ (Builtin.extendedBase _) _ _ _); refine wpAny_of_eq pf_ex ?_) | ((with_reducible show wpAny _ _ (Builtin.Slots.bestBase _) _ _ _); refine wpAny_of_eq pf_bb ?_) | ((with_reducible show wpAny _ _ (Builtin.Slots.slotNamesOf (Value.type _)) _ _ _); refine wpAny_of_eq pf_sn ?_) | ((with_reducible show wpAny _ _ (Builtin.Slots.givesDict (Value.type _)) _ _ _); refine wpAny_of_eq pf_gd ?_) | ((with_reducible show wpAny _ _ (Builtin.Slots.givesWeak (Value.type _)) _ _ _); refine wpAny_of_eq pf_gw ?_) | ((with_reducible show wpAny _ _ (Builtin.Slots.varSize (Value.type _)) _ _ _); refine wpAny_of_eq pf_vs ?_) | ((with_reducible show wpAny _ _ (Builtin.mroHook? (Value.type _)) _ _ _); refine wpAny_of_eq pf_mh ?_) | ((with_reducible show wpAny _ _ (Builtin.linearize _ _) _ _ _); refine wpAny_of_eq pf_ln ?_) | ((with_reducible show wpAny _ _ (mroOf (Value.type _)) _ _ _); refine wpAny_of_eq pf_mo ?_) | ((with_reducible show wpAny _ _ (Bind.madeBy (Value.type _)) _ _ _); refine wpAny_of_eq pf_mk ?_) | ((with_reducible show wpAny _ _ (Builtin.noteSubclassOfBuiltin _ _) _ _ _); refine wpAny_of_eq (pf_ns _) ?_) | ((with_reducible show wpAny _ _ (nsGet _ _) _ _ _); refine hp_nsGet (by assumption) (by k_mem) (by first | rfl | assumption) ?_) | ((with_reducible show wpAny _ _ (Sem.load _ _ _) _ _ _); refine hp_load (by assumption) (by k_mem) ?_) | ((with_reducible show wpAny _ _ (Sem.alloc _ _) _ _ _); refine hp_alloc (by assumption) rfl ?_; intro a' h' H' l') | ((with_reducible show wpAny _ _ (if (_ == sysModules) = true then _ else _) _ _ _); refine wpAny_ite_false (decide_eq_false (by rw [beq_iff_eq]; assumption)) ?_) | ((with_reducible show wpAny _ _ (collect _) _ _ _); refine hp_collect (by assumption) (by k_mem) (by simp) ?_; intro h' H') | ((with_reducible show wpAny _ _ (nsSet _ _ _) _ _ _); (first | refine hp_nsSet (i := 0) (by assumption) rfl (by first | rfl | simp [*]) rfl ?_ | refine hp_nsSet (i := 1) (by assumption) rfl (by first | rfl | simp [*]) rfl ?_ | refine hp_nsSet (i := 2) (by assumption) rfl (by first | rfl | simp [*]) rfl ?_ | refine hp_nsSet (i := 3) (by assumption) rfl (by first | rfl | simp [*]) rfl ?_); intro h' H'; dsimp only [List.set_cons_zero, List.set_cons_succ] at H') | ((with_reducible show wpAny _ _ (nsSetByValue _ _ _) _ _ _); (first | refine hp_nsSetBy (i := 0) (by assumption) rfl (by first | rfl | simp [*]) (by first | omega | (simp; done)) rfl ?_ | refine hp_nsSetBy (i := 1) (by assumption) rfl (by first | rfl | simp [*]) (by first | omega | (simp; done)) rfl ?_ | refine hp_nsSetBy (i := 2) (by assumption) rfl (by first | rfl | simp [*]) (by first | omega | (simp; done)) rfl ?_ | refine hp_nsSetBy (i := 3) (by assumption) rfl (by first | rfl | simp [*]) (by first | omega | (simp; done)) rfl ?_); intro h' H'; dsimp only [List.set_cons_zero, List.set_cons_succ] at H') | ((with_reducible show wpAny _ _ (Sem.update _ _ _ _) _ _ _); (first | refine hp_update (i := 0) (by assumption) rfl rfl ?_ | refine hp_update (i := 1) (by assumption) rfl rfl ?_ | refine hp_update (i := 2) (by assumption) rfl rfl ?_ | refine hp_update (i := 3) (by assumption) rfl rfl ?_); intro h' H'; dsimp only [List.set_cons_zero, List.set_cons_succ] at H') | ((with_reducible show wpAny _ _ (if (!(Array.any _ _)) = true then _ else _) _ _ _); refine wpAny_ite_false (decide_eq_false (by rw [← Array.any_toList]; exact Bool.false_ne_true)) ?_) | ((with_reducible show wpAny _ _ (setSlotAt _ _ _) _ _ _); (first | refine hp_setSlot (i := 0) (by assumption) rfl (by decide) rfl ?_ | refine hp_setSlot (i := 1) (by assumption) rfl (by decide) rfl ?_ | refine hp_setSlot (i := 2) (by assumption) rfl (by decide) rfl ?_ | refine hp_setSlot (i := 3) (by assumption) rfl (by decide) rfl ?_); intro h' H'; dsimp only [List.set_cons_zero, List.set_cons_succ] at H') | k_node | ((with_reducible show wpAny _ _ (if _ then _ else _) _ _ _); first | (refine wpAny_ite_false ?hc ?_; (case hc => decide +kernel)) | (refine wpAny_ite_true ?hc ?_; (case hc => decide +kernel)))))
  refine typeNew_K hop hng hl₀ H ?_
  intro K' ns' D' h' t' hs1' hs2' k1' k2' k3' m' dl' hdl' H'
  repeat (first | (first | ((with_reducible show wpAny _ _ (mroOf (Value.type "type")) _ _ _); refine wpAny_of_eq tt_mro ?_) | ((with_reducible show wpAny _ _ (Bind.madeBy (Value.type "type")) _ _ _); refine wpAny_of_eq tn_made ?_) | ((with_reducible show wpAny _ _ (typeLookup (Value.type "type") _) _ _ _); refine wpAny_of_eq ti_slot.lookup ?_) | ((with_reducible show wpAny _ _ (bindSpecial (Value.builtin "type.__init__") _) _ _ _); refine wpAny_of_eq (ti_slot.bind _) ?_) | ((with_reducible show wpAny _ _ (call (Value.builtin "type.__new__") _ _) _ _ _); refine wpAny_call (codeAny_call_builtin tn_plain tn_entry (wpAny_of_eq (tn_check _ _ _) ?_))) | ((with_reducible show wpAny _ _ (Builtin.«type.__new__» _) _ _ _); fail) | ((with_reducible show wpAny _ _ (call (Value.builtin "type.__init__") _ _) _ _ _); refine wpAny_call_entry ti_slot ⟨_, Hp.get (by assumption) (.tail _ (.head _)), rfl⟩ ti_entry ?_ (ti_args _ _ _ _); unfold Builtin.«type.__init__»)) | (first | with_reducible refine wpAny_pure ?_ | ((with_reducible show wpAny _ _ (Sem.pure _) _ _ _); with_reducible refine nd_pure ?_) | ((with_reducible show wpAny _ _ (Sem.tryCatch _ _) _ _ _); refine wpAny_tryCatch ?_) | with_reducible refine wpAny_bind ?_ | with_reducible refine nd_bind ?_ | with_reducible refine wpAny_holding ?_ | with_reducible refine wpAny_onRaise ?_ | ((with_reducible show wpAny _ _ (isSubtype _ _) _ _ _); first | refine wpAny_of_eq pf_tt ?_ | refine wpAny_of_eq pf_dd ?_ | refine wpAny_of_eq pf_ty ?_) | ((with_reducible show wpAny _ _ (typeLookup _ _) _ _ _); first | refine wpAny_of_eq pf_di ?_ | refine wpAny_of_eq pf_nc ?_ | refine wpAny_of_eq pf_fs ?_ | refine wpAny_of_eq pf_ss ?_ | refine wpAny_of_eq pf_is ?_ | refine wpAny_of_eq pf_ns1 ?_ | refine wpAny_of_eq pf_ls ?_ | refine wpAny_of_eq pf_ts ?_ | refine wpAny_of_eq pf_ms ?_) | ((with_reducible show wpAny _ _ (typeOf (Value.type _)) _ _ _); first | refine wpAny_of_eq pf_to ?_ | refine wpAny_of_eq pf_ft ?_) | ((with_reducible show wpAny _ _ (Builtin.notOverATurnedClass _) _ _ _); refine wpAny_of_eq pf_no ?_) | ((with_reducible show wpAny _ _ (Builtin.extendedBase _) _ _ _); refine wpAny_of_eq pf_ex ?_) | ((with_reducible show wpAny _ _ (Builtin.Slots.bestBase _) _ _ _); refine wpAny_of_eq pf_bb ?_) | ((with_reducible show wpAny _ _ (Builtin.Slots.slotNamesOf (Value.type _)) _ _ _); refine wpAny_of_eq pf_sn ?_) | ((with_reducible show wpAny _ _ (Builtin.Slots.givesDict (Value.type _)) _ _ _); refine wpAny_of_eq pf_gd ?_) | ((with_reducible show wpAny _ _ (Builtin.Slots.givesWeak (Value.type _)) _ _ _); refine wpAny_of_eq pf_gw ?_) | ((with_reducible show wpAny _ _ (Builtin.Slots.varSize (Value.type _)) _ _ _); refine wpAny_of_eq pf_vs ?_) | ((with_reducible show wpAny _ _ (Builtin.mroHook? (Value.type _)) _ _ _); refine wpAny_of_eq pf_mh ?_) | ((with_reducible show wpAny _ _ (Builtin.linearize _ _) _ _ _); refine wpAny_of_eq pf_ln ?_) | ((with_reducible show wpAny _ _ (mroOf (Value.type _)) _ _ _); refine wpAny_of_eq pf_mo ?_) | ((with_reducible show wpAny _ _ (Bind.madeBy (Value.type _)) _ _ _); refine wpAny_of_eq pf_mk ?_) | ((with_reducible show wpAny _ _ (Builtin.noteSubclassOfBuiltin _ _) _ _ _); refine wpAny_of_eq (pf_ns _) ?_) | ((with_reducible show wpAny _ _ (nsGet _ _) _ _ _); refine hp_nsGet (by assumption) (by k_mem) (by first | rfl | assumption) ?_) | ((with_reducible show wpAny _ _ (Sem.load _ _ _) _ _ _); refine hp_load (by assumption) (by k_mem) ?_) | ((with_reducible show wpAny _ _ (Sem.alloc _ _) _ _ _); refine hp_alloc (by assumption) rfl ?_; intro a' h' H' l') | ((with_reducible show wpAny _ _ (if (_ == sysModules) = true then _ else _) _ _ _); refine wpAny_ite_false (decide_eq_false (by rw [beq_iff_eq]; assumption)) ?_) | ((with_reducible show wpAny _ _ (collect _) _ _ _); refine hp_collect (by assumption) (by k_mem) (by simp) ?_; intro h' H') | ((with_reducible show wpAny _ _ (nsSet _ _ _) _ _ _); (first | refine hp_nsSet (i := 0) (by assumption) rfl (by first | rfl | simp [*]) rfl ?_ | refine hp_nsSet (i := 1) (by assumption) rfl (by first | rfl | simp [*]) rfl ?_ | refine hp_nsSet (i := 2) (by assumption) rfl (by first | rfl | simp [*]) rfl ?_ | refine hp_nsSet (i := 3) (by assumption) rfl (by first | rfl | simp [*]) rfl ?_); intro h' H'; dsimp only [List.set_cons_zero, List.set_cons_succ] at H') | ((with_reducible show wpAny _ _ (nsSetByValue _ _ _) _ _ _); (first | refine hp_nsSetBy (i := 0) (by assumption) rfl (by first | rfl | simp [*]) (by first | omega | (simp; done)) rfl ?_ | refine hp_nsSetBy (i := 1) (by assumption) rfl (by first | rfl | simp [*]) (by first | omega | (simp; done)) rfl ?_ | refine hp_nsSetBy (i := 2) (by assumption) rfl (by first | rfl | simp [*]) (by first | omega | (simp; done)) rfl ?_ | refine hp_nsSetBy (i := 3) (by assumption) rfl (by first | rfl | simp [*]) (by first | omega | (simp; done)) rfl ?_); intro h' H'; dsimp only [List.set_cons_zero, List.set_cons_succ] at H') | ((with_reducible show wpAny _ _ (Sem.update _ _ _ _) _ _ _); (first | refine hp_update (i := 0) (by assumption) rfl rfl ?_ | refine hp_update (i := 1) (by assumption) rfl rfl ?_ | refine hp_update (i := 2) (by assumption) rfl rfl ?_ | refine hp_update (i := 3) (by assumption) rfl rfl ?_); intro h' H'; dsimp only [List.set_cons_zero, List.set_cons_succ] at H') | ((with_reducible show wpAny _ _ (if (!(Array.any _ _)) = true then _ else _) _ _ _); refine wpAny_ite_false (decide_eq_false (by rw [← Array.any_toList]; exact Bool.false_ne_true)) ?_) | ((with_reducible show wpAny _ _ (setSlotAt _ _ _) _ _ _); (first | refine hp_setSlot (i := 0) (by assumption) rfl (by decide) rfl ?_ | refine hp_setSlot (i := 1) (by assumption) rfl (by decide) rfl ?_ | refine hp_setSlot (i := 2) (by assumption) rfl (by decide) rfl ?_ | refine hp_setSlot (i := 3) (by assumption) rfl (by decide) rfl ?_); intro h' H'; dsimp only [List.set_cons_zero, List.set_cons_succ] at H') | k_node | ((with_reducible show wpAny _ _ (if _ then _ else _) _ _ _); first | (refine wpAny_ite_false ?hc ?_; (case hc => decide +kernel)) | (refine wpAny_ite_true ?hc ?_; (case hc => decide +kernel)))))
  refine ⟨_, rfl, ?_⟩
  repeat (first | (first | ((with_reducible show wpAny _ _ (mroOf (Value.type "type")) _ _ _); refine wpAny_of_eq tt_mro ?_) | ((with_reducible show wpAny _ _ (Bind.madeBy (Value.type "type")) _ _ _); refine wpAny_of_eq tn_made ?_) | ((with_reducible show wpAny _ _ (typeLookup (Value.type "type") _) _ _ _); refine wpAny_of_eq ti_slot.lookup ?_) | ((with_reducible show wpAny _ _ (bindSpecial (Value.builtin "type.__init__") _) _ _ _); refine wpAny_of_eq (ti_slot.bind _) ?_) | ((with_reducible show wpAny _ _ (call (Value.builtin "type.__new__") _ _) _ _ _); refine wpAny_call (codeAny_call_builtin tn_plain tn_entry (wpAny_of_eq (tn_check _ _ _) ?_))) | ((with_reducible show wpAny _ _ (Builtin.«type.__new__» _) _ _ _); fail) | ((with_reducible show wpAny _ _ (call (Value.builtin "type.__init__") _ _) _ _ _); refine wpAny_call_entry ti_slot ⟨_, Hp.get (by assumption) (.tail _ (.head _)), rfl⟩ ti_entry ?_ (ti_args _ _ _ _); unfold Builtin.«type.__init__»)) | (first | with_reducible refine wpAny_pure ?_ | ((with_reducible show wpAny _ _ (Sem.pure _) _ _ _); with_reducible refine nd_pure ?_) | ((with_reducible show wpAny _ _ (Sem.tryCatch _ _) _ _ _); refine wpAny_tryCatch ?_) | with_reducible refine wpAny_bind ?_ | with_reducible refine nd_bind ?_ | with_reducible refine wpAny_holding ?_ | with_reducible refine wpAny_onRaise ?_ | ((with_reducible show wpAny _ _ (isSubtype _ _) _ _ _); first | refine wpAny_of_eq pf_tt ?_ | refine wpAny_of_eq pf_dd ?_ | refine wpAny_of_eq pf_ty ?_) | ((with_reducible show wpAny _ _ (typeLookup _ _) _ _ _); first | refine wpAny_of_eq pf_di ?_ | refine wpAny_of_eq pf_nc ?_ | refine wpAny_of_eq pf_fs ?_ | refine wpAny_of_eq pf_ss ?_ | refine wpAny_of_eq pf_is ?_ | refine wpAny_of_eq pf_ns1 ?_ | refine wpAny_of_eq pf_ls ?_ | refine wpAny_of_eq pf_ts ?_ | refine wpAny_of_eq pf_ms ?_) | ((with_reducible show wpAny _ _ (typeOf (Value.type _)) _ _ _); first | refine wpAny_of_eq pf_to ?_ | refine wpAny_of_eq pf_ft ?_) | ((with_reducible show wpAny _ _ (Builtin.notOverATurnedClass _) _ _ _); refine wpAny_of_eq pf_no ?_) | ((with_reducible show wpAny _ _ (Builtin.extendedBase _) _ _ _); refine wpAny_of_eq pf_ex ?_) | ((with_reducible show wpAny _ _ (Builtin.Slots.bestBase _) _ _ _); refine wpAny_of_eq pf_bb ?_) | ((with_reducible show wpAny _ _ (Builtin.Slots.slotNamesOf (Value.type _)) _ _ _); refine wpAny_of_eq pf_sn ?_) | ((with_reducible show wpAny _ _ (Builtin.Slots.givesDict (Value.type _)) _ _ _); refine wpAny_of_eq pf_gd ?_) | ((with_reducible show wpAny _ _ (Builtin.Slots.givesWeak (Value.type _)) _ _ _); refine wpAny_of_eq pf_gw ?_) | ((with_reducible show wpAny _ _ (Builtin.Slots.varSize (Value.type _)) _ _ _); refine wpAny_of_eq pf_vs ?_) | ((with_reducible show wpAny _ _ (Builtin.mroHook? (Value.type _)) _ _ _); refine wpAny_of_eq pf_mh ?_) | ((with_reducible show wpAny _ _ (Builtin.linearize _ _) _ _ _); refine wpAny_of_eq pf_ln ?_) | ((with_reducible show wpAny _ _ (mroOf (Value.type _)) _ _ _); refine wpAny_of_eq pf_mo ?_) | ((with_reducible show wpAny _ _ (Bind.madeBy (Value.type _)) _ _ _); refine wpAny_of_eq pf_mk ?_) | ((with_reducible show wpAny _ _ (Builtin.noteSubclassOfBuiltin _ _) _ _ _); refine wpAny_of_eq (pf_ns _) ?_) | ((with_reducible show wpAny _ _ (nsGet _ _) _ _ _); refine hp_nsGet (by assumption) (by k_mem) (by first | rfl | assumption) ?_) | ((with_reducible show wpAny _ _ (Sem.load _ _ _) _ _ _); refine hp_load (by assumption) (by k_mem) ?_) | ((with_reducible show wpAny _ _ (Sem.alloc _ _) _ _ _); refine hp_alloc (by assumption) rfl ?_; intro a' h' H' l') | ((with_reducible show wpAny _ _ (if (_ == sysModules) = true then _ else _) _ _ _); refine wpAny_ite_false (decide_eq_false (by rw [beq_iff_eq]; assumption)) ?_) | ((with_reducible show wpAny _ _ (collect _) _ _ _); refine hp_collect (by assumption) (by k_mem) (by simp) ?_; intro h' H') | ((with_reducible show wpAny _ _ (nsSet _ _ _) _ _ _); (first | refine hp_nsSet (i := 0) (by assumption) rfl (by first | rfl | simp [*]) rfl ?_ | refine hp_nsSet (i := 1) (by assumption) rfl (by first | rfl | simp [*]) rfl ?_ | refine hp_nsSet (i := 2) (by assumption) rfl (by first | rfl | simp [*]) rfl ?_ | refine hp_nsSet (i := 3) (by assumption) rfl (by first | rfl | simp [*]) rfl ?_); intro h' H'; dsimp only [List.set_cons_zero, List.set_cons_succ] at H') | ((with_reducible show wpAny _ _ (nsSetByValue _ _ _) _ _ _); (first | refine hp_nsSetBy (i := 0) (by assumption) rfl (by first | rfl | simp [*]) (by first | omega | (simp; done)) rfl ?_ | refine hp_nsSetBy (i := 1) (by assumption) rfl (by first | rfl | simp [*]) (by first | omega | (simp; done)) rfl ?_ | refine hp_nsSetBy (i := 2) (by assumption) rfl (by first | rfl | simp [*]) (by first | omega | (simp; done)) rfl ?_ | refine hp_nsSetBy (i := 3) (by assumption) rfl (by first | rfl | simp [*]) (by first | omega | (simp; done)) rfl ?_); intro h' H'; dsimp only [List.set_cons_zero, List.set_cons_succ] at H') | ((with_reducible show wpAny _ _ (Sem.update _ _ _ _) _ _ _); (first | refine hp_update (i := 0) (by assumption) rfl rfl ?_ | refine hp_update (i := 1) (by assumption) rfl rfl ?_ | refine hp_update (i := 2) (by assumption) rfl rfl ?_ | refine hp_update (i := 3) (by assumption) rfl rfl ?_); intro h' H'; dsimp only [List.set_cons_zero, List.set_cons_succ] at H') | ((with_reducible show wpAny _ _ (if (!(Array.any _ _)) = true then _ else _) _ _ _); refine wpAny_ite_false (decide_eq_false (by rw [← Array.any_toList]; exact Bool.false_ne_true)) ?_) | ((with_reducible show wpAny _ _ (setSlotAt _ _ _) _ _ _); (first | refine hp_setSlot (i := 0) (by assumption) rfl (by decide) rfl ?_ | refine hp_setSlot (i := 1) (by assumption) rfl (by decide) rfl ?_ | refine hp_setSlot (i := 2) (by assumption) rfl (by decide) rfl ?_ | refine hp_setSlot (i := 3) (by assumption) rfl (by decide) rfl ?_); intro h' H'; dsimp only [List.set_cons_zero, List.set_cons_succ] at H') | k_node | ((with_reducible show wpAny _ _ (if _ then _ else _) _ _ _); first | (refine wpAny_ite_false ?hc ?_; (case hc => decide +kernel)) | (refine wpAny_ite_true ?hc ?_; (case hc => decide +kernel)))))
  exact q _ _ _ _ _ _ _ _ _ _ _ _ hdl' H'
end Mine
end
/-! K6 -/
section
open PySem PySem.W PyProof.Rows PySem.Calls
set_option maxRecDepth 100000
set_option linter.unusedVariables false
namespace Mine

theorem tg_slot : Slot "type" "__getattribute__" "type.__getattribute__" := .of (owner := "type") (n := "__getattribute__") (by rw [typeLookup_type, builtinLookup_eq_fast]; kernel_rfl) (by decide +kernel) (by decide +kernel) (by decide +kernel)
  (by first | exact .inl (by decide +kernel) | exact .inr (by decide +kernel)) (by rw [isSubtype_type]; kernel_rfl)
theorem tg_entry : entryFor table "type.__getattribute__" = some Builtin.«type.__getattribute__» := entryFor_of_tree (by kernel_rfl)
theorem tg_args (o a : Value) : argsOk "type.__getattribute__" ⟨[o, a], []⟩ := by unfold argsOk; kernel_rfl
theorem tg_prep : typeLookup (.type "type") "__prepare__" = pure (some (.builtin "type.__prepare__")) := by rw [typeLookup_type, builtinLookup_eq_fast]; kernel_rfl
theorem cd_set : typeLookup (.type "classmethod_descriptor") "__set__" = pure none := by rw [typeLookup_type, builtinLookup_eq_fast]; kernel_rfl
theorem cd_del : typeLookup (.type "classmethod_descriptor") "__delete__" = pure none := by rw [typeLookup_type, builtinLookup_eq_fast]; kernel_rfl
section
variable {prog : Program} {w : World} {A : Around} {E : Value → Shared → Prop} {g h : Heap} {led : List (Addr × Obj)} {gs : Array GenState} {d : Drawn} {t : Nat} {os : OsState}
noncomputable abbrev boundPrep : Obj := { cls := .type "builtin_function_or_method", data := .fields [Value.builtin "type.__prepare__", .type "type"].toArray }
set_option maxHeartbeats 2000000 in
theorem cm_prep {Q : Value → Shared → Prop} (H : Hp g h led)
   (q : ∀ b h', Hp g h' ((b, boundPrep) :: led) → Q (.ref b) ⟨h', gs, d, t, os⟩) :
   wpAny (model prog w) A (call (.builtin "classmethod_descriptor.__get__") [.builtin "type.__prepare__", .none, .type "type"]) Q E ⟨h, gs, d, t, os⟩ := by
  refine wpAny_call_entry slot_cmd_get ty_prep entry_cmd_get ?_ (args_cmd_get _ _ _)
  unfold Builtin.«classmethod_descriptor.__get__»
  repeat (first | (first | with_reducible refine wpAny_pure ?_ | ((with_reducible show wpAny _ _ (Sem.pure _) _ _ _); with_reducible refine nd_pure ?_) | ((with_reducible show wpAny _ _ (Sem.tryCatch _ _) _ _ _); refine wpAny_tryCatch ?_) | with_reducible refine wpAny_bind ?_ | with_reducible refine nd_bind ?_ | with_reducible refine wpAny_holding ?_ | with_reducible refine wpAny_onRaise ?_ | ((with_reducible show wpAny _ _ (isSubtype _ _) _ _ _); first | refine wpAny_of_eq pf_tt ?_ | refine wpAny_of_eq pf_dd ?_ | refine wpAny_of_eq pf_ty ?_) | ((with_reducible show wpAny _ _ (typeLookup _ _) _ _ _); first | refine wpAny_of_eq pf_di ?_ | refine wpAny_of_eq pf_nc ?_ | refine wpAny_of_eq pf_fs ?_ | refine wpAny_of_eq pf_ss ?_ | refine wpAny_of_eq pf_is ?_ | refine wpAny_of_eq pf_ns1 ?_ | refine wpAny_of_eq pf_ls ?_ | refine wpAny_of_eq pf_ts ?_ | refine wpAny_of_eq pf_ms ?_) | ((with_reducible show wpAny _ _ (typeOf (Value.type _)) _ _ _); first | refine wpAny_of_eq pf_to ?_ | refine wpAny_of_eq pf_ft ?_) | ((with_reducible show wpAny _ _ (Builtin.notOverATurnedClass _) _ _ _); refine wpAny_of_eq pf_no ?_) | ((with_reducible show wpAny _ _ (Builtin.extendedBase _) _ _ _); refine wpAny_of_eq pf_ex ?_) | ((with_reducible show wpAny _ _ (Builtin.Slots.bestBase _) _ _ _); refine wpAny_of_eq pf_bb ?_) | ((with_reducible show wpAny _ _ (Builtin.Slots.slotNamesOf (Value.type _)) _ _ _); refine wpAny_of_eq pf_sn ?_) | ((with_reducible show wpAny _ _ (Builtin.Slots.givesDict (Value.type _)) _ _ _); refine wpAny_of_eq pf_gd ?_) | ((with_reducible show wpAny _ _ (Builtin.Slots.givesWeak (Value.type _)) _ _ _); refine wpAny_of_eq pf_gw ?_) | ((with_reducible show wpAny _ _ (Builtin.Slots.varSize (Value.type _)) _ _ _); refine wpAny_of_eq pf_vs ?_) | ((with_reducible show wpAny _ _ (Builtin.mroHook? (Value.type _)) _ _ _); refine wpAny_of_eq pf_mh ?_) | ((with_reducible show wpAny _ _ (Builtin.linearize _ _) _ _ _); refine wpAny_of_eq pf_ln ?_) | ((with_reducible show wpAny _ _ (mroOf (Value.type _)) _ _ _); refine wpAny_of_eq pf_mo ?_) | ((with_reducible show wpAny _ _ (Bind.madeBy (Value.type _)) _ _ _); refine wpAny_of_eq pf_mk ?_) | ((with_reducible show wpAny _ _ (Builtin.noteSubclassOfBuiltin _ _) _ _ _); refine wpAny_of_eq (pf_ns _) ?_) | ((with_reducible show wpAny _ _ (nsGet _ _) _ _ _); refine hp_nsGet (by assumption) (by k_mem) (by first | rfl | assumption) ?_) | ((with_reducible show wpAny _ _ (Sem.load _ _ _) _ _ _); refine hp_load (by assumption) (by k_mem) ?_) | ((with_reducible show wpAny _ _ (Sem.alloc _ _) _ _ _); refine hp_alloc (by assumption) rfl ?_; intro a' h' H' l') | ((with_reducible show wpAny _ _ (if (_ == sysModules) = true then _ else _) _ _ _); refine wpAny_ite_false (decide_eq_false (by rw [beq_iff_eq]; assumption)) ?_) | ((with_reducible show wpAny _ _ (collect _) _ _ _); refine hp_collect (by assumption) (by k_mem) (by simp) ?_; intro h' H') | ((with_reducible show wpAny _ _ (nsSet _ _ _) _ _ _); (first | refine hp_nsSet (i := 0) (by assumption) rfl (by first | rfl | simp [*]) rfl ?_ | refine hp_nsSet (i := 1) (by assumption) rfl (by first | rfl | simp [*]) rfl ?_ | refine hp_nsSet (i := 2) (by assumption) rfl (by first | rfl | simp [*]) rfl ?_ | refine hp_nsSet (i := 3) (by assumption) rfl (by first | rfl | simp [*]) rfl ?_); intro h' H'; dsimp only [List.set_cons_zero, List.set_cons_succ] at H') | ((with_reducible show wpAny _ _ (nsSetByValue _ _ _) _ _ _); (first | refine hp_nsSetBy (i := 0) (by assumption) rfl (by first | rfl | simp [*]) (by first | omega | (simp; done)) rfl ?_ | refine hp_nsSetBy (i := 1) (by assumption) rfl (by first | rfl | simp [*]) (by first | omega | (simp; done)) rfl ?_ | refine hp_nsSetBy (i := 2) (by assumption) rfl (by first | rfl | simp [*]) (by first | omega | (simp; done)) rfl ?_ | refine hp_nsSetBy (i := 3) (by assumption) rfl (by first | rfl | simp [*]) (by first | omega | (simp; done)) rfl ?_); intro h' H'; dsimp only [List.set_cons_zero, List.set_cons_succ] at H') | ((with_reducible show wpAny _ _ (Sem.update _ _ _ _) _ _ _); (first | refine hp_update (i := 0) (by assumption) rfl rfl ?_ | refine hp_update (i := 1) (by assumption) rfl rfl ?_ | refine hp_update (i := 2) (by assumption) rfl rfl ?_ | refine hp_update (i := 3) (by assumption) rfl rfl ?_); intro h' H'; dsimp only [List.set_cons_zero, List.set_cons_succ] at H') | ((with_reducible show wpAny _ _ (if (!(Array.any _ _)) = true then _ else _) _ _ _); refine wpAny_ite_false (decide_eq_false (by rw [← Array.any_toList]; exact Bool.false_ne_true)) ?_) | ((with_reducible show wpAny _ _ (setSlotAt _ _ _) _ _ _); (first | refine hp_setSlot (i := 0) (by assumption) rfl (by decide) rfl ?_ | refine hp_setSlot (i := 1) (by assumption) rfl (by decide) rfl ?_ | refine hp_setSlot (i := 2) (by assumption) rfl (by decide) rfl ?_ | refine hp_setSlot (i := 3) (by assumption) rfl (by decide) rfl ?_); intro h' H'; dsimp only [List.set_cons_zero, List.set_cons_succ] at H') | k_node | ((with_reducible show wpAny _ _ (if _ then _ else _) _ _ _); first | (refine wpAny_ite_false ?hc ?_; (case hc => decide +kernel)) | (refine wpAny_ite_true ?hc ?_; (case hc => decide +kernel)))))
  exact ⟨_, rfl, q _ _ (by assumption)⟩
set_option maxHeartbeats 2000000 in
theorem prep_get {Q : Option Value → Shared → Prop} (hop : Looks (model prog w) g (nsGet cStatics "thirdparty.any") none) (H : Hp g h led)
   (q : ∀ b h', Hp g h' ((b, boundPrep) :: led) → Q (some (.ref b)) ⟨h', gs, d, t + 1, os⟩) :
   wpAny (model prog w) A (getAttr? (.type "type") "__prepare__") Q E ⟨h, gs, d, t, os⟩ := by
  repeat (first | (first | ((with_reducible show wpAny _ _ (nsGet cStatics _) _ _ _); refine Looks.at (Looks.keeps (by assumption) (Hp.keep (by assumption))) ?_) | ((with_reducible show wpAny _ _ (typeLookup (Value.type "type") _) _ _ _); first | refine wpAny_of_eq tg_slot.lookup ?_ | refine wpAny_of_eq tg_prep ?_) | ((with_reducible show wpAny _ _ (typeLookup (Value.type "classmethod_descriptor") _) _ _ _); first | refine wpAny_of_eq slot_cmd_get.lookup ?_ | refine wpAny_of_eq cd_set ?_ | refine wpAny_of_eq cd_del ?_) | ((with_reducible show wpAny _ _ (bindSpecial (Value.builtin "type.__getattribute__") _) _ _ _); refine wpAny_of_eq (tg_slot.bind _) ?_) | ((with_reducible show wpAny _ _ (call (Value.builtin "type.__getattribute__") _) _ _ _); refine wpAny_call_entry tg_slot pf_ft tg_entry ?_ (tg_args _ _); unfold Builtin.«type.__getattribute__») | ((with_reducible show wpAny _ _ (typeOf (Value.builtin _)) _ _ _); refine wpAny_of_eq ty_prep ?_) | ((with_reducible show wpAny _ _ (call (Value.builtin "classmethod_descriptor.__get__") _) _ _ _); refine cm_prep (by assumption) ?_; intro b' h' H')) | (first | with_reducible refine wpAny_pure ?_ | ((with_reducible show wpAny _ _ (Sem.pure _) _ _ _); with_reducible refine nd_pure ?_) | ((with_reducible show wpAny _ _ (Sem.tryCatch _ _) _ _ _); refine wpAny_tryCatch ?_) | with_reducible refine wpAny_bind ?_ | with_reducible refine nd_bind ?_ | with_reducible refine wpAny_holding ?_ | with_reducible refine wpAny_onRaise ?_ | ((with_reducible show wpAny _ _ (isSubtype _ _) _ _ _); first | refine wpAny_of_eq pf_tt ?_ | refine wpAny_of_eq pf_dd ?_ | refine wpAny_of_eq pf_ty ?_) | ((with_reducible show wpAny _ _ (typeLookup _ _) _ _ _); first | refine wpAny_of_eq pf_di ?_ | refine wpAny_of_eq pf_nc ?_ | refine wpAny_of_eq pf_fs ?_ | refine wpAny_of_eq pf_ss ?_ | refine wpAny_of_eq pf_is ?_ | refine wpAny_of_eq pf_ns1 ?_ | refine wpAny_of_eq pf_ls ?_ | refine wpAny_of_eq pf_ts ?_ | refine wpAny_of_eq pf_ms ?_) | ((with_reducible show wpAny _ _ (typeOf (Value.type _)) _ _ _); first | refine wpAny_of_eq pf_to ?_ | refine wpAny_of_eq pf_ft ?_) | ((with_reducible show wpAny _ _ (Builtin.notOverATurnedClass _) _ _ _); refine wpAny_of_eq pf_no ?_) | ((with_reducible show wpAny _ _ (Builtin.extendedBase _) _ _ _); refine wpAny_of_eq pf_ex ?_) | ((with_reducible show wpAny _ _ (Builtin.Slots.bestBase _) _ _ _); refine wpAny_of_eq pf_bb ?_) | ((with_reducible show wpAny _ _ (Builtin.Slots.slotNamesOf (Value.type _)) _ _ _); refine wpAny_of_eq pf_sn ?_) | ((with_reducible show wpAny _ _ (Builtin.Slots.givesDict (Value.type _)) _ _ _); refine wpAny_of_eq pf_gd ?_) | ((with_reducible show wpAny _ _ (Builtin.Slots.givesWeak (Value.type _)) _ _ _); refine wpAny_of_eq pf_gw ?_) | ((with_reducible show wpAny _ _ (Builtin.Slots.varSize (Value.type _)) _ _ _); refine wpAny_of_eq pf_vs ?_) | ((with_reducible show wpAny _ _ (Builtin.mroHook? (Value.type _)) _ _ _); refine wpAny_of_eq pf_mh ?_) | ((with_reducible show wpAny _ _ (Builtin.linearize _ _) _ _ _); refine wpAny_of_eq pf_ln ?_) | ((with_reducible show wpAny _ _ (mroOf (Value.type _)) _ _ _); refine wpAny_of_eq pf_mo ?_) | ((with_reducible show wpAny _ _ (Bind.madeBy (Value.type _)) _ _ _); refine wpAny_of_eq pf_mk ?_) | ((with_reducible show wpAny _ _ (Builtin.noteSubclassOfBuiltin _ _) _ _ _); refine wpAny_of_eq (pf_ns _) ?_) | ((with_reducible show wpAny _ _ (nsGet _ _) _ _ _); refine hp_nsGet (by assumption) (by k_mem) (by first | rfl | assumption) ?_) | ((with_reducible show wpAny _ _ (Sem.load _ _ _) _ _ _); refine hp_load (by assumption) (by k_mem) ?_) | ((with_reducible show wpAny _ _ (Sem.alloc _ _) _ _ _); refine hp_alloc (by assumption) rfl ?_; intro a' h' H' l') | ((with_reducible show wpAny _ _ (if (_ == sysModules) = true then _ else _) _ _ _); refine wpAny_ite_false (decide_eq_false (by rw [beq_iff_eq]; assumption)) ?_) | ((with_reducible show wpAny _ _ (collect _) _ _ _); refine hp_collect (by assumption) (by k_mem) (by simp) ?_; intro h' H') | ((with_reducible show wpAny _ _ (nsSet _ _ _) _ _ _); (first | refine hp_nsSet (i := 0) (by assumption) rfl (by first | rfl | simp [*]) rfl ?_ | refine hp_nsSet (i := 1) (by assumption) rfl (by first | rfl | simp [*]) rfl ?_ | refine hp_nsSet (i := 2) (by assumption) rfl (by first | rfl | simp [*]) rfl ?_ | refine hp_nsSet (i := 3) (by assumption) rfl (by first | rfl | simp [*]) rfl ?_); intro h' H'; dsimp only [List.set_cons_zero, List.set_cons_succ] at H') | ((with_reducible show wpAny _ _ (nsSetByValue _ _ _) _ _ _); (first | refine hp_nsSetBy (i := 0) (by assumption) rfl (by first | rfl | simp [*]) (by first | omega | (simp; done)) rfl ?_ | refine hp_nsSetBy (i := 1) (by assumption) rfl (by first | rfl | simp [*]) (by first | omega | (simp; done)) rfl ?_ | refine hp_nsSetBy (i := 2) (by assumption) rfl (by first | rfl | simp [*]) (by first | omega | (simp; done)) rfl ?_ | refine hp_nsSetBy (i := 3) (by assumption) rfl (by first | rfl | simp [*]) (by first | omega | (simp; done)) rfl ?_); intro h' H'; dsimp only [List.set_cons_zero, List.set_cons_succ] at H') | ((with_reducible show wpAny _ _ (Sem.update _ _ _ _) _ _ _); (first | refine hp_update (i := 0) (by assumption) rfl rfl ?_ | refine hp_update (i := 1) (by assumption) rfl rfl ?_ | refine hp_update (i := 2) (by assumption) rfl rfl ?_ | refine hp_update (i := 3) (by assumption) rfl rfl ?_); intro h' H'; dsimp only [List.set_cons_zero, List.set_cons_succ] at H') | ((with_reducible show wpAny _ _ (if (!(Array.any _ _)) = true then _ else _) _ _ _); refine wpAny_ite_false (decide_eq_false (by rw [← Array.any_toList]; exact Bool.false_ne_true)) ?_) | ((with_reducible show wpAny _ _ (setSlotAt _ _ _) _ _ _); (first | refine hp_setSlot (i := 0) (by assumption) rfl (by decide) rfl ?_ | refine hp_setSlot (i := 1) (by assumption) rfl (by decide) rfl ?_ | refine hp_setSlot (i := 2) (by assumption) rfl (by decide) rfl ?_ | refine hp_setSlot (i := 3) (by assumption) rfl (by decide) rfl ?_); intro h' H'; dsimp only [List.set_cons_zero, List.set_cons_succ] at H') | k_node | ((with_reducible show wpAny _ _ (if _ then _ else _) _ _ _); first | (refine wpAny_ite_false ?hc ?_; (case hc => decide +kernel)) | (refine wpAny_ite_true ?hc ?_; (case hc => decide +kernel)))))
  refine ⟨_, rfl, ?_⟩
  repeat (first | (first | ((with_reducible show wpAny _ _ (nsGet cStatics _) _ _ _); refine Looks.at (Looks.keeps (by assumption) (Hp.keep (by assumption))) ?_) | ((with_reducible show wpAny _ _ (typeLookup (Value.type "type") _) _ _ _); first | refine wpAny_of_eq tg_slot.lookup ?_ | refine wpAny_of_eq tg_prep ?_) | ((with_reducible show wpAny _ _ (typeLookup (Value.type "classmethod_descriptor") _) _ _ _); first | refine wpAny_of_eq slot_cmd_get.lookup ?_ | refine wpAny_of_eq cd_set ?_ | refine wpAny_of_eq cd_del ?_) | ((with_reducible show wpAny _ _ (bindSpecial (Value.builtin "type.__getattribute__") _) _ _ _); refine wpAny_of_eq (tg_slot.bind _) ?_) | ((with_reducible show wpAny _ _ (call (Value.builtin "type.__getattribute__") _) _ _ _); refine wpAny_call_entry tg_slot pf_ft tg_entry ?_ (tg_args _ _); unfold Builtin.«type.__getattribute__») | ((with_reducible show wpAny _ _ (typeOf (Value.builtin _)) _ _ _); refine wpAny_of_eq ty_prep ?_) | ((with_reducible show wpAny _ _ (call (Value.builtin "classmethod_descriptor.__get__") _) _ _ _); refine cm_prep (by assumption) ?_; intro b' h' H')) | (first | with_reducible refine wpAny_pure ?_ | ((with_reducible show wpAny _ _ (Sem.pure _) _ _ _); with_reducible refine nd_pure ?_) | ((with_reducible show wpAny _ _ (Sem.tryCatch _ _) _ _ _); refine wpAny_tryCatch ?_) | with_reducible refine wpAny_bind ?_ | with_reducible refine nd_bind ?_ | with_reducible refine wpAny_holding ?_ | with_reducible refine wpAny_onRaise ?_ | ((with_reducible show wpAny _ _ (isSubtype _ _) _ _ _); first | refine wpAny_of_eq pf_tt ?_ | refine wpAny_of_eq pf_dd ?_ | refine wpAny_of_eq pf_ty ?_) | ((with_reducible show wpAny _ _ (typeLookup _ _) _ _ _); first | refine wpAny_of_eq pf_di ?_ | refine wpAny_of_eq pf_nc ?_ | refine wpAny_of_eq pf_fs ?_ | refine wpAny_of_eq pf_ss ?_ | refine wpAny_of_eq pf_is ?_ | refine wpAny_of_eq pf_ns1 ?_ | refine wpAny_of_eq pf_ls ?_ | refine wpAny_of_eq pf_ts ?_ | refine wpAny_of_eq pf_ms ?_) | ((with_reducible show wpAny _ _ (typeOf (Value.type _)) _ _ _); first | refine wpAny_of_eq pf_to ?_ | refine wpAny_of_eq pf_ft ?_) | ((with_reducible show wpAny _ _ (Builtin.notOverATurnedClass _) _ _ _); refine wpAny_of_eq pf_no ?_) | ((with_reducible show wpAny _ _ (Builtin.extendedBase _) _ _ _); refine wpAny_of_eq pf_ex ?_) | ((with_reducible show wpAny _ _ (Builtin.Slots.bestBase _) _ _ _); refine wpAny_of_eq pf_bb ?_) | ((with_reducible show wpAny _ _ (Builtin.Slots.slotNamesOf (Value.type _)) _ _ _); refine wpAny_of_eq pf_sn ?_) | ((with_reducible show wpAny _ _ (Builtin.Slots.givesDict (Value.type _)) _ _ _); refine wpAny_of_eq pf_gd ?_) | ((with_reducible show wpAny _ _ (Builtin.Slots.givesWeak (Value.type _)) _ _ _); refine wpAny_of_eq pf_gw ?_) | ((with_reducible show wpAny _ _ (Builtin.Slots.varSize (Value.type _)) _ _ _); refine wpAny_of_eq pf_vs ?_) | ((with_reducible show wpAny _ _ (Builtin.mroHook? (Value.type _)) _ _ _); refine wpAny_of_eq pf_mh ?_) | ((with_reducible show wpAny _ _ (Builtin.linearize _ _) _ _ _); refine wpAny_of_eq pf_ln ?_) | ((with_reducible show wpAny _ _ (mroOf (Value.type _)) _ _ _); refine wpAny_of_eq pf_mo ?_) | ((with_reducible show wpAny _ _ (Bind.madeBy (Value.type _)) _ _ _); refine wpAny_of_eq pf_mk ?_) | ((with_reducible show wpAny _ _ (Builtin.noteSubclassOfBuiltin _ _) _ _ _); refine wpAny_of_eq (pf_ns _) ?_) | ((with_reducible show wpAny _ _ (nsGet _ _) _ _ _); refine hp_nsGet (by assumption) (by k_mem) (by first | rfl | assumption) ?_) | ((with_reducible show wpAny _ _ (Sem.load _ _ _) _ _ _); refine hp_load (by assumption) (by k_mem) ?_) | ((with_reducible show wpAny _ _ (Sem.alloc _ _) _ _ _); refine hp_alloc (by assumption) rfl ?_; intro a' h' H' l') | ((with_reducible show wpAny _ _ (if (_ == sysModules) = true then _ else _) _ _ _); refine wpAny_ite_false (decide_eq_false (by rw [beq_iff_eq]; assumption)) ?_) | ((with_reducible show wpAny _ _ (collect _) _ _ _); refine hp_collect (by assumption) (by k_mem) (by simp) ?_; intro h' H') | ((with_reducible show wpAny _ _ (nsSet _ _ _) _ _ _); (first | refine hp_nsSet (i := 0) (by assumption) rfl (by first | rfl | simp [*]) rfl ?_ | refine hp_nsSet (i := 1) (by assumption) rfl (by first | rfl | simp [*]) rfl ?_ | refine hp_nsSet (i := 2) (by assumption) rfl (by first | rfl | simp [*]) rfl ?_ | refine hp_nsSet (i := 3) (by assumption) rfl (by first | rfl | simp [*]) rfl ?_); intro h' H'; dsimp only [List.set_cons_zero, List.set_cons_succ] at H') | ((with_reducible show wpAny _ _ (nsSetByValue _ _ _) _ _ _); (first | refine hp_nsSetBy (i := 0) (by assumption) rfl (by first | rfl | simp [*]) (by first | omega | (simp; done)) rfl ?_ | refine hp_nsSetBy (i := 1) (by assumption) rfl (by first | rfl | simp [*]) (by first | omega | (simp; done)) rfl ?_ | refine hp_nsSetBy (i := 2) (by assumption) rfl (by first | rfl | simp [*]) (by first | omega | (simp; done)) rfl ?_ | refine hp_nsSetBy (i := 3) (by assumption) rfl (by first | rfl | simp [*]) (by first | omega | (simp; done)) rfl ?_); intro h' H'; dsimp only [List.set_cons_zero, List.set_cons_succ] at H') | ((with_reducible show wpAny _ _ (Sem.update _ _ _ _) _ _ _); (first | refine hp_update (i := 0) (by assumption) rfl rfl ?_ | refine hp_update (i := 1) (by assumption) rfl rfl ?_ | refine hp_update (i := 2) (by assumption) rfl rfl ?_ | refine hp_update (i := 3) (by assumption) rfl rfl ?_); intro h' H'; dsimp only [List.set_cons_zero, List.set_cons_succ] at H') | ((with_reducible show wpAny _ _ (if (!(Array.any _ _)) = true then _ else _) _ _ _); refine wpAny_ite_false (decide_eq_false (by rw [← Array.any_toList]; exact Bool.false_ne_true)) ?_) | ((with_reducible show wpAny _ _ (setSlotAt _ _ _) _ _ _); (first | refine hp_setSlot (i := 0) (by assumption) rfl (by decide) rfl ?_ | refine hp_setSlot (i := 1) (by assumption) rfl (by decide) rfl ?_ | refine hp_setSlot (i := 2) (by assumption) rfl (by decide) rfl ?_ | refine hp_setSlot (i := 3) (by assumption) rfl (by decide) rfl ?_); intro h' H'; dsimp only [List.set_cons_zero, List.set_cons_succ] at H') | k_node | ((with_reducible show wpAny _ _ (if _ then _ else _) _ _ _); first | (refine wpAny_ite_false ?hc ?_; (case hc => decide +kernel)) | (refine wpAny_ite_true ?hc ?_; (case hc => decide +kernel)))))
  exact q _ _ (by assumption)
theorem chk_prep (a b : Value) : checkBoundCall "type.__prepare__" ⟨[.type "type", a, b], []⟩ = pure () := by kernel_rfl
theorem entry_prep : entryFor table "type.__prepare__" = some Builtin.«type.__prepare__» := entryFor_of_tree (by kernel_rfl)
theorem prep_call {b bT : Addr} {tk : Tok} {Q : Value → Shared → Prop} (H : Hp g h led) (hb : (b, boundPrep) ∈ led)
   (q : ∀ n h', Hp g h' ((n, dictOf [] 0) :: led) → (∀ p ∈ led, @LT.lt Nat _ p.1 n) → Q (.ref n) ⟨h', gs, d, t, os⟩) :
   wpAny (model prog w) A (call (.ref b) [.str "K" tk, .ref bT]) Q E ⟨h, gs, d, t, os⟩ := by
  refine wpAny_call (codeAny_of_tree ?_)
  show wpAny _ A.in1 (callAny (.ref b) ⟨[.str "K" tk, .ref bT], []⟩) _ _ _
  unfold callAny
  refine wpAny_bind (wpAny_load (H.get hb) ?_)
  show wpAny _ _ (checkBoundCall "type.__prepare__" ⟨[.type "type", .str "K" tk, .ref bT], []⟩ >>= _) _ _ _
  refine wpAny_bind (wpAny_of_eq (chk_prep _ _) ?_)
  refine wpAny_pure ⟨Code.quiet_builtin _ (by decide +kernel), codeAny_builtin entry_prep ?_⟩
  unfold Builtin.«type.__prepare__»
  repeat (first | (first | ((with_reducible show wpAny _ _ (nsGet cStatics _) _ _ _); refine Looks.at (Looks.keeps (by assumption) (Hp.keep (by assumption))) ?_) | ((with_reducible show wpAny _ _ (typeLookup (Value.type "type") _) _ _ _); first | refine wpAny_of_eq tg_slot.lookup ?_ | refine wpAny_of_eq tg_prep ?_) | ((with_reducible show wpAny _ _ (typeLookup (Value.type "classmethod_descriptor") _) _ _ _); first | refine wpAny_of_eq slot_cmd_get.lookup ?_ | refine wpAny_of_eq cd_set ?_ | refine wpAny_of_eq cd_del ?_) | ((with_reducible show wpAny _ _ (bindSpecial (Value.builtin "type.__getattribute__") _) _ _ _); refine wpAny_of_eq (tg_slot.bind _) ?_) | ((with_reducible show wpAny _ _ (call (Value.builtin "type.__getattribute__") _) _ _ _); refine wpAny_call_entry tg_slot pf_ft tg_entry ?_ (tg_args _ _); unfold Builtin.«type.__getattribute__») | ((with_reducible show wpAny _ _ (typeOf (Value.builtin _)) _ _ _); refine wpAny_of_eq ty_prep ?_) | ((with_reducible show wpAny _ _ (call (Value.builtin "classmethod_descriptor.__get__") _) _ _ _); refine cm_prep (by assumption) ?_; intro b' h' H')) | (first | with_reducible refine wpAny_pure ?_ | ((with_reducible show wpAny _ _ (Sem.pure _) _ _ _); with_reducible refine nd_pure ?_) | ((with_reducible show wpAny _ _ (Sem.tryCatch _ _) _ _ _); refine wpAny_tryCatch ?_) | with_reducible refine wpAny_bind ?_ | with_reducible refine nd_bind ?_ | with_reducible refine wpAny_holding ?_ | with_reducible refine wpAny_onRaise ?_ | ((with_reducible show wpAny _ _ (isSubtype _ _) _ _ _); first | refine wpAny_of_eq pf_tt ?_ | refine wpAny_of_eq pf_dd ?_ | refine wpAny_of_eq pf_ty ?_) | ((with_reducible show wpAny _ _ (typeLookup _ _) _ _ _); first | refine wpAny_of_eq pf_di ?_ | refine wpAny_of_eq pf_nc ?_ | refine wpAny_of_eq pf_fs ?_ | refine wpAny_of_eq pf_ss ?_ | refine wpAny_of_eq pf_is ?_ | refine wpAny_of_eq pf_ns1 ?_ | refine wpAny_of_eq pf_ls ?_ | refine wpAny_of_eq pf_ts ?_ | refine wpAny_of_eq pf_ms ?_) | ((with_reducible show wpAny _ _ (typeOf (Value.type _)) _ _ _); first | refine wpAny_of_eq pf_to ?_ | refine wpAny_of_eq pf_ft ?_) | ((with_reducible show wpAny _ _ (Builtin.notOverATurnedClass _) _ _ _); refine wpAny_of_eq pf_no ?_) | ((with_reducible show wpAny _ _ (Builtin.extendedBase _) _ _ _); refine wpAny_of_eq pf_ex ?_) | ((with_reducible show wpAny _ _ (Builtin.Slots.bestBase _) _ _ _); refine wpAny_of_eq pf_bb ?_) | ((with_reducible show wpAny _ _ (Builtin.Slots.slotNamesOf (Value.type _)) _ _ _); refine wpAny_of_eq pf_sn ?_) | ((with_reducible show wpAny _ _ (Builtin.Slots.givesDict (Value.type _)) _ _ _); refine wpAny_of_eq pf_gd ?_) | ((with_reducible show wpAny _ _ (Builtin.Slots.givesWeak (Value.type _)) _ _ _); refine wpAny_of_eq pf_gw ?_) | ((with_reducible show wpAny _ _ (Builtin.Slots.varSize (Value.type _)) _ _ _); refine wpAny_of_eq pf_vs ?_) | ((with_reducible show wpAny _ _ (Builtin.mroHook? (Value.type _)) _ _ _); refine wpAny_of_eq pf_mh ?_) | ((with_reducible show wpAny _ _ (Builtin.linearize _ _) _ _ _); refine wpAny_of_eq pf_ln ?_) | ((with_reducible show wpAny _ _ (mroOf (Value.type _)) _ _ _); refine wpAny_of_eq pf_mo ?_) | ((with_reducible show wpAny _ _ (Bind.madeBy (Value.type _)) _ _ _); refine wpAny_of_eq pf_mk ?_) | ((with_reducible show wpAny _ _ (Builtin.noteSubclassOfBuiltin _ _) _ _ _); refine wpAny_of_eq (pf_ns _) ?_) | ((with_reducible show wpAny _ _ (nsGet _ _) _ _ _); refine hp_nsGet (by assumption) (by k_mem) (by first | rfl | assumption) ?_) | ((with_reducible show wpAny _ _ (Sem.load _ _ _) _ _ _); refine hp_load (by assumption) (by k_mem) ?_) | ((with_reducible show wpAny _ _ (Sem.alloc _ _) _ _ _); refine hp_alloc (by assumption) rfl ?_; intro a' h' H' l') | ((with_reducible show wpAny _ _ (if (_ == sysModules) = true then _ else _) _ _ _); refine wpAny_ite_false (decide_eq_false (by rw [beq_iff_eq]; assumption)) ?_) | ((with_reducible show wpAny _ _ (collect _) _ _ _); refine hp_collect (by assumption) (by k_mem) (by simp) ?_; intro h' H') | ((with_reducible show wpAny _ _ (nsSet _ _ _) _ _ _); (first | refine hp_nsSet (i := 0) (by assumption) rfl (by first | rfl | simp [*]) rfl ?_ | refine hp_nsSet (i := 1) (by assumption) rfl (by first | rfl | simp [*]) rfl ?_ | refine hp_nsSet (i := 2) (by assumption) rfl (by first | rfl | simp [*]) rfl ?_ | refine hp_nsSet (i := 3) (by assumption) rfl (by first | rfl | simp [*]) rfl ?_); intro h' H'; dsimp only [List.set_cons_zero, List.set_cons_succ] at H') | ((with_reducible show wpAny _ _ (nsSetByValue _ _ _) _ _ _); (first | refine hp_nsSetBy (i := 0) (by assumption) rfl (by first | rfl | simp [*]) (by first | omega | (simp; done)) rfl ?_ | refine hp_nsSetBy (i := 1) (by assumption) rfl (by first | rfl | simp [*]) (by first | omega | (simp; done)) rfl ?_ | refine hp_nsSetBy (i := 2) (by assumption) rfl (by first | rfl | simp [*]) (by first | omega | (simp; done)) rfl ?_ | refine hp_nsSetBy (i := 3) (by assumption) rfl (by first | rfl | simp [*]) (by first | omega | (simp; done)) rfl ?_); intro h' H'; dsimp only [List.set_cons_zero, List.set_cons_succ] at H') | ((with_reducible show wpAny _ _ (Sem.update _ _ _ _) _ _ _); (first | refine hp_update (i := 0) (by assumption) rfl rfl ?_ | refine hp_update (i := 1) (by assumption) rfl rfl ?_ | refine hp_update (i := 2) (by assumption) rfl rfl ?_ | refine hp_update (i := 3) (by assumption) rfl rfl ?_); intro h' H'; dsimp only [List.set_cons_zero, List.set_cons_succ] at H') | ((with_reducible show wpAny _ _ (if (!(Array.any _ _)) = true then _ else _) _ _ _); refine wpAny_ite_false (decide_eq_false (by rw [← Array.any_toList]; exact Bool.false_ne_true)) ?_) | ((with_reducible show wpAny _ _ (setSlotAt _ _ _) _ _ _); (first | refine hp_setSlot (i := 0) (by assumption) rfl (by decide) rfl ?_ | refine hp_setSlot (i := 1) (by assumption) rfl (by decide) rfl ?_ | refine hp_setSlot (i := 2) (by assumption) rfl (by decide) rfl ?_ | refine hp_setSlot (i := 3) (by assumption) rfl (by decide) rfl ?_); intro h' H'; dsimp only [List.set_cons_zero, List.set_cons_succ] at H') | k_node | ((with_reducible show wpAny _ _ (if _ then _ else _) _ _ _); first | (refine wpAny_ite_false ?hc ?_; (case hc => decide +kernel)) | (refine wpAny_ite_true ?hc ?_; (case hc => decide +kernel)))))
  exact q _ _ (by assumption) (by assumption)
end
end Mine
end
/-! K7 -/
section
open PySem PySem.W PyProof.Rows PySem.Calls
set_option maxRecDepth 100000
set_option linter.unusedVariables false
namespace Mine
/-- what the top's names say of the builtins -/
noncomputable def BmAt (g : Heap) (mg : Str → Option Value) : Prop := ∃ bm ob, mg "__builtins__" = some (.ref bm) ∧ bm ≠ builtinsNs ∧ g.get? bm = some ob ∧ ob.cls = .type "module" ∧ ob.dict = some builtinsNs ∧ ob.data = .plain
section
variable {M : Model} {A : Around} {E : Value → Shared → Prop} {g h : Heap} {led : List (Addr × Obj)} {gs : Array GenState} {d : Drawn} {t : Nat} {os : OsState} {mg : Str → Option Value}
theorem BmAt.apart (B : BmAt g mg) (G : g.Ns mainGlobals mg) (H : Hp g h led) {P : Addr} (hg : g.get? P = none) : h.BuiltinsAt mg P ∧ mainGlobals ≠ P := by
  obtain ⟨bm, ob, b1, b2, b3, b4, b5, b6⟩ := B
  obtain ⟨o, es, ep, e, hd, _⟩ := id G
  refine ⟨⟨bm, ob, b1, b2, ?_, ?_, H.keep _ _ b3, b4, b5, b6⟩, ?_⟩
  · intro q; rw [q, e] at b3; cases b3; rw [hd] at b6; cases b6
  · intro q; rw [q, hg] at b3; cases b3
  · intro q; rw [← q, e] at hg; cases hg
/-- the heap behind a change of one table with new objects -/
theorem Hp.ext (H : Hp g h led) {h' : Heap} {P : Addr} {i : Nat} {o o' : Obj} (hi : led[i]? = some (P, o)) (hx : Heap.ExtBut P h h') (ho : h'.get? P = some o') (hz : h.objs.size ≤ h'.objs.size) : Hp g h' (led.set i (P, o')) :=
  H.set hi (fun b x hb e => hx b x hb e) ho hz
theorem set_ne {led : List (Addr × Obj)} {i : Nat} {P a : Addr} {o o' : Obj} (hi : led[i]? = some (P, o)) (hn : ∀ p ∈ led, p.1 ≠ a) : ∀ p ∈ led.set i (P, o'), p.1 ≠ a := fun p hp => by
  rcases List.mem_or_eq_of_mem_set hp with h | h
  · exact hn p h
  · rw [h]; exact hn (P, o) (List.mem_of_getElem? hi)
theorem hp_classCode {env : Env} {c P : Addr} {ps : Array Value} {pos : Pos} {fl : Nat} {name qual : Str} {scope : Scope} {Q : Value → Shared → Prop} {i : Nat}
    (H : Hp g h led) (hi : led[i]? = some (P, tabObj ps)) (C : CodeHd h c P) (hc : env.code = .ref c) (ht : TriplesOk ps.toList) (hnf : codeAmong pos ps.toList = none)
    (q : ∀ c' P' oc h' tk, Hp g h' ((c', oc) :: (P', tabObj #[]) :: led.set i (P, tabObj (ps ++ #[rawInt pos.line, rawInt pos.col, .ref c']))) → CodeHd h' c' P' → (∀ b o, b ≠ P → h.get? b = some o → h'.get? b = some o) → Q (.ref c') ⟨h', gs, d, tk, os⟩) :
    wpAny M A (classCode env pos fl name qual scope) Q E ⟨h, gs, d, t, os⟩ := by
  have hm := List.mem_of_getElem? hi
  have hop := H.get hm
  obtain ⟨o, vs, file, tf, flags, tg, inF, text, tt, ho, hcls, hd, hv11, h11, h18, h7, h9, h10, hne⟩ := id C
  unfold classCode codeAt
  rw [hc, if_neg (show ¬ ((Value.ref c == Value.none) = true) from Bool.false_ne_true)]
  refine wpAny_bind (wpAny_fieldsOf ho hd ?_)
  rw [h11]
  refine wpAny_bind (wpAny_fieldsOf hop rfl ?_)
  rw [hnf, h18, h7, h9, h10]
  dsimp only
  refine wpAny_bind (wpAny_newCodeX fun c' P' h' tk hk hc' hP' hcode' htab' hrec' => ?_)
  dsimp only at hk hc' hP'
  have hop' := hk _ _ hop
  refine wpAny_bind (wpAny_updateFieldsOfTheText hop' rfl ?_)
  dsimp only
  generalize hf : (fun vs : Array Value => if (codeAmong pos vs.toList).isSome = true then vs else vs ++ #[rawInt ↑pos.line, rawInt ↑pos.col, Value.ref c']) = f
  have hfp : f ps = ps ++ #[rawInt pos.line, rawInt pos.col, .ref c'] := by rw [← hf]; dsimp only; rw [hnf]; rfl
  have e2 : (h'.update P (Obj.mapFields f)).get? P = some (tabObj (ps ++ #[rawInt pos.line, rawInt pos.col, .ref c'])) := by
    have := Heap.get?_update_self (h := h') (Obj.mapFields f) hop' rfl
    rw [this]
    show some (tabObj (f ps)) = _
    rw [hfp]
  have ks : ∀ b x, b ≠ P → h'.get? b = some x → (h'.update P (Obj.mapFields f)).get? b = some x := fun b x hb e => (Heap.get?_update_other _ _ (Ne.symm hb)).trans e
  have hPlt : @LT.lt Nat _ P h.objs.size := Heap.lt_size hop
  have c1 : @LE.le Nat _ h.objs.size c' := hc'
  have c2 : @LE.le Nat _ h.objs.size P' := hP'
  have hcP : c' ≠ P := Nat.ne_of_gt (Nat.lt_of_lt_of_le hPlt c1)
  have hPP : P' ≠ P := Nat.ne_of_gt (Nat.lt_of_lt_of_le hPlt c2)
  have CH := CodeHd.of hcode' htab'
  obtain ⟨oc, vc, file', tf', flags', tg', inF', text', tt', g1, g2⟩ := id CH
  have z' : h.objs.size ≤ h'.objs.size := by
    have : @LT.lt Nat _ c' h'.objs.size := Heap.lt_size g1
    exact Nat.le_of_lt (Nat.lt_of_le_of_lt c1 this)
  refine wpAny_bind (wpAny_fieldsOf e2 rfl ?_)
  have hl : (ps ++ #[rawInt pos.line, rawInt pos.col, Value.ref c']).toList = ps.toList ++ [rawInt pos.line, rawInt pos.col, .ref c'] := by simp
  rw [hl, codeAmong_snoc _ ht hnf]
  refine wpAny_pure (q c' P' oc _ tk (((H.set hi (fun b x hb e => ks b x hb (hk b x e)) e2 (by rw [Heap.size_after_update]; exact z')).join (ks _ _ hPP htab'.2) (H.fresh c2) (set_ne hi fun p hp => Nat.ne_of_lt (Nat.lt_of_lt_of_le (H.lt hp) c2))).join (ks _ _ hcP g1) (H.fresh c1) (fun p hp => ?_)) ?_ fun b o hb e => ks b o hb (hk b o e))
  · rcases List.mem_cons.mp hp with rfl | hp
    · exact Ne.symm g2.2.2.2.2.2.2.2.2
    · exact set_ne hi (fun p hp => Nat.ne_of_lt (Nat.lt_of_lt_of_le (H.lt hp) c1)) p hp
  · exact ⟨oc, vc, file', tf', flags', tg', inF', text', tt', ks _ _ hcP g1, g2⟩
theorem hp_makeFn {env : Env} {c P : Addr} {ps : Array Value} {pos : Pos} {fl : Nat} {name qual : Str} {params : Arguments} {body : List Stmt} {scope : Scope} {clos : List (Str × Addr)} {Q : Value → Shared → Prop} {i : Nat}
    (H : Hp g h led) (G : g.Ns mainGlobals mg) (B : BmAt g mg) (hi : led[i]? = some (P, tabObj ps)) (C : CodeHd h c P) (hc : env.code = .ref c) (hge : env.globals = mainGlobals) (hcl : closureFor scope env = pure clos) (ht : TriplesOk ps.toList) (hnf : codeAmong pos ps.toList = none)
    (q : ∀ f c' oc vs tq ctv doc h' tk, Hp g h' ((f, fnMade name qual params body scope clos doc ((mg "__name__").getD .none) c' ctv) :: (c', oc) :: led.set i (P, tabObj (ps ++ #[rawInt pos.line, rawInt pos.col, .ref c']))) → oc.data = .fields vs → vs[1]? = some (.str qual tq) → (∀ b o, b ≠ P → h.get? b = some o → h'.get? b = some o) → Q (.ref f) ⟨h', gs, d, tk, os⟩) :
    wpAny M A (makeFunction name qual params (.stmts body) scope env [] [] [] pos fl) Q E ⟨h, gs, d, t, os⟩ := by
  have hm := List.mem_of_getElem? hi
  have hgP := (H.mem _ hm).2
  obtain ⟨hb, hne⟩ := B.apart G H hgP
  refine makeFunction_K (s := ⟨h, gs, d, t, os⟩) (mg := mg) hcl hge (G.keeps H.keep) hc C (H.get hm) ht hnf hne hb fun c' ctv doc h' tk hx hge hlt hrec htb => ?_
  dsimp only at hx hge
  obtain ⟨c₂, oc, vs, tq, e2, hoc, hd, hv⟩ := hrec
  cases e2
  have hPlt : @LT.lt Nat _ P h.objs.size := Heap.lt_size (H.get hm)
  have c1 : @LE.le Nat _ h.objs.size c' := hge
  have hcP : c' ≠ P := Nat.ne_of_gt (Nat.lt_of_lt_of_le hPlt c1)
  have c3 : @LT.lt Nat _ c' h'.objs.size := hlt
  have H1 := (H.set hi (fun b x hb e => hx b x hb e) htb (Nat.le_of_lt (Nat.lt_of_le_of_lt c1 c3))).join hoc (H.fresh c1) (set_ne hi fun p hp => Nat.ne_of_lt (Nat.lt_of_lt_of_le (H.lt hp) c1))
  exact q _ c' oc vs tq ctv doc _ tk (H1.push rfl) hd hv fun b o hb e => Heap.get?_push_of_some _ (hx b o hb e)
end
end Mine
end
/-! F1 -/
section
open PySem PySem.W PyProof.Rows PySem.Calls
set_option maxRecDepth 100000
set_option linter.unusedVariables false
namespace Mine
/-- the code table of _law_folded: empty, or with the lambda's code -/
noncomputable def TabL (tl : List (Addr × Obj)) : Prop :=
  tl = [(183, tabObj #[])] ∨ ∃ c' oc vs t, tl = [(c', oc), (183, tabObj #[rawInt 207, rawInt 18, .ref c'])] ∧ oc.data = .fields vs ∧ vs[1]? = some (.str "_law_folded.<locals>.<lambda>" t)
structure GoodP (ia : Bool) (P : List Str) : Prop where
  names : namesOf (cpOf ia P) = P
  abs : Txt.startswith (cpOf ia P) "/" = ia
  len : (cpOf ia P).length ≤ 100
structure InvF (ia : Bool) (ps : List Str) (i : Nat) (a : Str) : Prop where
  lcp : IsLcp (namesOf a) ((ps.take i).map namesOf)
  abs : Txt.startswith a "/" = ia
  len : a.length ≤ 100
  two : 2 ≤ i → a = cpOf ia (namesOf a)
theorem InvF.next {ia : Bool} {ps : List Str} {i : Nat} {a b : Str} {P : List Str} (h : InvF ia ps i a) (h1 : 1 ≤ i) (hb : ps[i]? = some b) (hg : ∀ P, P <+: namesOf b → GoodP ia P) (hP : IsLcp P [namesOf a, namesOf b]) : InvF ia ps (i + 1) (cpOf ia P) := by
  have g := hg P (hP.all _ (.tail _ (.head _)))
  refine ⟨?_, g.abs, g.len, fun _ => by rw [g.names]⟩
  rw [g.names, List.take_add_one, hb, List.map_append]
  exact h.lcp.snoc hP
local macro_rules | `(tactic| walk_at "eval Lambda") => `(tactic| (refine Stop.out ?_))
local macro_rules | `(tactic| walk_at "call ref") => `(tactic| (refine Stop.out ?_))
local macro_rules | `(tactic| walk_at "callWith ref") => `(tactic| (k_dflt (refine callWith_P (P := fun h => Keeps _ h) (by with_reducible assumption) ?_)))
set_option maxHeartbeats 8000000 in
theorem folded_ok {w : World} {A : Around} {s : Shared} {g : Heap} {P : Addr} {vals : List Value} {ps : List Str} {ia : Bool} {tl : List (Addr × Obj)} {Q E : Value → Shared → Prop}
   (C : Cx w g) (r0 : Rm A 80 800) (kg : Keeps g s.heap) (zg : g.objs.size ≤ s.heap.objs.size) (hl : g.IsList P vals.toArray) (hps : StrsAre vals ps) (hn : 2 ≤ ps.length) (hx : ∀ p ∈ ps, p.length ≤ 100) (hia : ∀ p ∈ ps, Txt.startswith p "/" = ia) (hg : ∀ p ∈ ps, ∀ P, P <+: namesOf p → GoodP ia P)
   (hcd : CodeHd g 187 183) (hT : TabL tl) (htl : Led g s.heap tl)
   (q : ∀ v tl' h' tk, Keeps g h' → s.heap.objs.size ≤ h'.objs.size → TabL tl' → Led g h' tl' → (∃ t' P, v = .str (cpOf ia P) t' ∧ IsLcp P (ps.map namesOf)) → Q v { s with heap := h', toks := tk }) :
   wpAny (model prog w) A (call (.ref 188) [.ref P]) Q E s := by
  obtain ⟨ah, ad, af, ag, au⟩ := A
  obtain rfl : ah = none := r0.hh
  have hd := r0.dep
  dsimp only at hd
  refine enter (binds := [("paths", .ref P)]) (C.keeps kg) (by k_is) (by k_is) (by dsimp only; omega) (BindsTo.of_eq rfl) (by decide) (locs rfl) rfl rfl rfl (fun h₁ p loose mean mg mb F N X T => ?_)
  have F0 : Fr g s.heap.objs.size h₁ _ := ⟨F.ns, fun b o e => F.keep b o (kg b o e), zg⟩
  have N0 : News g s.heap.objs.size h₁ tl := fun p hp => ⟨F.keep _ _ (htl p hp).1, Nat.ne_of_lt (Heap.lt_size (htl p hp).1), (htl p hp).2⟩
  clear F N X T
  have hlen : ps.length = vals.length := hps.length.symm
  obtain ⟨x0, hx0⟩ : ∃ x0, ps[0]? = some x0 := ⟨ps[0], List.getElem?_eq_getElem (by omega)⟩
  have C' := C
  obtain ⟨X, p, loose, mean, mg, mb, T⟩ := C
  rcases hT with rfl | ⟨c', oc, vs, t, rfl, hd1, hd2⟩
  all_goals k_steps
  all_goals (refine Stop.mk ?_; refine kla_eval rfl ?_)
  case' inl =>
    refine' kla_nest (g := fun o => [(183, o)]) (ps := #[]) (c := 187) (P := 183) F0 N0 T hcd rfl ?U trivial rfl rfl ?_
    case U => k_updF
    intro f c' oc vs t ctv h2 tk2 F2 N2 hd1 hd2 _ _
  case' inr =>
    refine kla_hit (c := 187) (P := 183) (c' := c') F0 N0 T hcd rfl (.tail _ (.head _)) trivial rfl rfl ?_
    intro f ctv h2 tk2 F2 N2 _
  all_goals
    clear F0 N0
    k_steps
    refine Stop.mk ?_
    refine Does.fr0 (reduce2_ok (xs := ps) (fun i a => 1 ≤ i ∧ InvF ia ps i a) (cx_of X T F2) (Rm.deeper (r0.le (by decide) (by decide))) (isl_keep hl F2) hps hx0 ?h0 ?hk ?hf) F2 N2 ?q
    case h0 =>
      have hm := List.mem_of_getElem? hx0
      refine ⟨Nat.le_refl _, ?_, hia _ hm, hx _ hm, fun h => absurd h (by decide)⟩
      rw [List.take_one, List.head?_eq_getElem?, hx0]
      exact IsLcp.one _
    case hk => exact fun h k => keeps_F h ⟨_, _, _, _, k _ _ (N2 _ (.head _)).1⟩
    case hf =>
      rintro i a b t1 u env s' k' hb ⟨hi1, hI⟩
      have hm := List.mem_of_getElem? hb
      refine (lam_ok (ia := ia) (C'.keeps fun b o e => k' b o (F2.keep b o e)) (Rm.deeper (Rm.deeper (r0.le (by decide) (by decide)))) (k' _ _ (N2 _ (.head _)).1) ⟨_, _, _, _, rfl, k' _ _ (N2 _ (.tail _ (.head _))).1, hd1, hd2⟩ hI.len (hx _ hm) hI.abs (hia _ hm)).mono ?_
      rintro v tl ⟨t', P', rfl, hP'⟩
      exact ⟨_, _, rfl, by omega, hI.next hi1 hb (hg b hm) hP'⟩
    case q =>
      rintro v' tl' h' tk' F' N' ⟨b', tb', rfl, _, hI⟩
      dsimp only
      have hz := F'.ns.lt
      refine q _ [(c', oc), (183, tabObj #[rawInt 207, rawInt 18, .ref c'])] h' tk' F'.keep (Nat.le_of_lt hz) (.inr ⟨c', oc, vs, t, rfl, hd1, hd2⟩) (fun p hp => ⟨(N' p (.tail _ hp)).1, (N' p (.tail _ hp)).2.2⟩) ⟨tb', namesOf b', ?_, ?_⟩
      · rw [← hI.two hn]
      · have := hI.lcp
        rw [List.take_length] at this; exact this
end Mine
end
/-! Nm1 -/
section
open PySem PySem.W PyProof.Rows PySem.Calls
set_option maxRecDepth 100000
set_option linter.unusedVariables false
namespace Mine
theorem fr_cx {w : World} {h₀ h : Heap} {L : Addr} {m : Str → Option Value} (F : Fr h₀ L h m) (C : Cx w h₀) : Cx w h := C.keeps F.keep
section
variable {w : World} {A : Around} {E : Value → Shared → Prop} {s : Shared} {h₀ : Heap} {L : Addr} {m : Str → Option Value} {env : Env} {x : Str} {pos : Pos} {v : Value} {Q : Value → Shared → Prop}
/-- a builtin's name, in any block -/
theorem ldB (C : Cx w s.heap) (e : nsIn (Mine.hd.heap_39 w.params) mainGlobals x = some none) (hv : bootBuiltins x = some v) (hn : x ≠ "__name__") (h : Q v s)
    (hg : env.globals = mainGlobals := by rfl) (hb : env.builtins = builtinsNs := by rfl) (hk : env.scope.kind = .function := by rfl) (hx : env.kindOf x = some .globalImplicit := by rfl) (hd : (x == ("__debug__" : Str)) = false := by decide) :
    wpAny (model prog w) A (eval (.Name x pos) env) Q E s := by
  obtain ⟨X, p, loose, mean, mg, mb, T⟩ := C
  exact Name_function_global hk hx (loadGlobal_builtin (env := env) (by rw [hg]; exact T.g) (mg_none_of X T.g e) (by rw [hb]; exact T.b) ((T.builtins x hn).trans hv) h) hd
/-- a def's name, in any block -/
theorem ldG (C : Cx w s.heap) (e : nsIn (Mine.hd.heap_39 w.params) mainGlobals x = some (some v)) (h : Q v s)
    (hg : env.globals = mainGlobals := by rfl) (hk : env.scope.kind = .function := by rfl) (hx : env.kindOf x = some .globalImplicit := by rfl) (hd : (x == ("__debug__" : Str)) = false := by decide) :
    wpAny (model prog w) A (eval (.Name x pos) env) Q E s := by
  obtain ⟨X, p, loose, mean, mg, mb, T⟩ := C
  exact Name_function_global hk hx (loadGlobal_global (env := env) (by rw [hg]; exact T.g) (mg_of X T.g e) h) hd
end
end Mine
end
/-! Sh1 -/
section
open PySem PySem.W PyProof.Rows PySem.Calls
set_option maxRecDepth 100000
set_option linter.unusedVariables false
namespace Mine
theorem eq_nil {w : World} {A : Around} {E : Value → Shared → Prop} {s : Shared} {l b : Addr} {V : List Value} {Q : Value → Shared → Prop} (hl : s.heap.IsList l V.toArray) (hb : s.heap.IsList b #[]) (hu : A.units < cLine)
    (h : Q (.bool (decide (V = []))) s) : wpAny (model prog w) A (compareOp .Eq (.ref l) (.ref b)) Q E s := rc_eq_nil hl hb hu _ _ _ _ h
noncomputable def BadR (x0 : List Str) (k : Nat) (r : List Str) : Prop := (r.drop k).take 1 ≠ (x0.drop k).take 1 ∨ r.length ≤ k
noncomputable def BadSo (x0 : List Str) (k : Nat) (xss : List (List Str)) (i : Nat) (ys : List Value) : Prop :=
  (ys = [] ∧ ∀ r ∈ xss.take i, ¬ BadR x0 k r) ∨ (ys ≠ [] ∧ ∃ r ∈ xss, BadR x0 k r)
theorem BadSo.yes {x0 : List Str} {k : Nat} {xss : List (List Str)} {i : Nat} {ys : List Value} {r : List Str} (v : Value) (hr : xss[i]? = some r) (hb : BadR x0 k r) : BadSo x0 k xss (i + 1) (ys ++ [v]) :=
  .inr ⟨by simp, r, List.mem_of_getElem? hr, hb⟩
theorem BadSo.no {x0 : List Str} {k : Nat} {xss : List (List Str)} {i : Nat} {ys : List Value} {r : List Str} (h : BadSo x0 k xss i ys) (hr : xss[i]? = some r) (hb : ¬ BadR x0 k r) : BadSo x0 k xss (i + 1) ys := by
  rcases h with ⟨e, h⟩ | h
  · refine .inl ⟨e, fun q hq => ?_⟩
    rw [List.take_add_one, hr] at hq
    rcases List.mem_append.mp hq with hq | hq
    · exact h q hq
    · simp at hq; subst hq; exact hb
  · exact .inr h
structure ShJ (x0 : List Str) (xss : List (List Str)) (kk : Nat) : Prop where
  le : kk ≤ x0.length
  ok : ∀ k, k < kk → ∀ r ∈ xss, (r.drop k).take 1 = (x0.drop k).take 1 ∧ k < r.length
theorem ShJ.next {x0 : List Str} {xss : List (List Str)} {kk : Nat} (j : ShJ x0 xss kk) (h0 : x0 ∈ xss) (h : ∀ r ∈ xss, ¬ BadR x0 kk r) : ShJ x0 xss (kk + 1) := by
  refine ⟨?_, fun k hk r hr => ?_⟩
  · have := h x0 h0
    unfold BadR at this
    omega
  · rcases Nat.lt_or_ge k kk with h1 | h1
    · exact j.ok k h1 r hr
    · obtain rfl : k = kk := by omega
      have := h r hr
      unfold BadR at this
      refine ⟨Decidable.not_not.mp fun q => this (.inl q), by omega⟩

local macro_rules | `(tactic| walk_at "exec While Compare cons nil") => `(tactic| (refine Stop.out ?_))
local macro_rules | `(tactic| walk_at "eval ListComp") => `(tactic| (refine Stop.out ?_))
set_option maxHeartbeats 8000000 in
theorem shared_ok {w : World} {A : Around} {s : Shared} {P : Addr} {vals : List Value} {xss : List (List Str)}
   (C : Cx w s.heap) (r0 : Rm A 40 400) (hl : s.heap.IsList P vals.toArray) (hr : RowsIn s.heap vals xss) (hn : 0 < xss.length) (hz : xss.length ≤ 100) (hx : ∀ r ∈ xss, r.length ≤ 3) :
   Does w A (call (.ref 198) [.ref P]) s (fun v tl => ∃ D V n L, v = .ref D ∧ tl = [(D, W.listOf (List.toArray V) n)] ∧ StrsAre V L ∧ IsLcp L xss) := by
  intro Q E h
  obtain ⟨ah, ad, af, ag, au⟩ := A
  obtain rfl : ah = none := r0.hh
  have hd := r0.dep
  dsimp only at hd
  have r : Rm { depth := ad, frames := af, guards := ag, units := au } (5 + 1) (50 + 3) := r0.le (by decide) (by decide)
  have hvl : 0 < vals.length := by rw [hr.len]; exact hn
  obtain ⟨a0, V0, x0, e0, hl0, hV0, hx0⟩ := hr.item (i := 0) (v := vals[0]) (List.getElem?_eq_getElem hvl)
  have hv0 : vals[0]? = some (.ref a0) := by rw [List.getElem?_eq_getElem hvl, e0]
  have hm0 := List.mem_of_getElem? hx0
  have hx0l := hx x0 hm0
  have hV0z : V0.length ≤ 10000 := by rw [hV0.length]; omega
  refine enterC (binds := [("rows", .ref P)]) C (by k_is) (by k_is) (by dsimp only; omega) (BindsTo.of_eq rfl) rfl (by decide) rfl rfl rfl (fun h₁ tk cells p loose mean mg mb F N Y X T => ?_)
  cases Y with
  | cons hc Y =>
  cases Y with
  | cons hc2 Y =>
  cases Y
  k_steps
  refine Stop.mk ?_
  rename_i ok1 ok0 h1 okk F1 N1 dk
  have hcr : ok0.data = .cell (some (.ref P)) := hc2
  have dk : okk.data = .cell (some (.int ((0 : Nat) : Int) _)) := dk
  clear hc hc2
  refine While_inv (fun n m₁ news₁ => ∃ kk tkk ok, n = 4 - kk ∧ news₁ = [(s.heap.objs.size + 1 + 1, ok), (s.heap.objs.size + 1, ok0)] ∧ ok.data = .cell (some (.int ((kk : Nat) : Int) tkk)) ∧ ShJ x0 xss kk) F1 N1 ⟨0, _, okk, rfl, rfl, dk, Nat.zero_le _, fun k hk => absurd hk (by omega)⟩ ?_
  rintro n m₁ news₁ g1 tk1 F2 N2 ⟨kk, tkk, ok, rfl, rfl, dkk, J⟩
  clear F1 N1 dk
  have hck : g1.IsCell (s.heap.objs.size + 1 + 1) (some (.int ((kk : Nat) : Int) tkk)) := ⟨_, (N2 _ (.head _)).1, dkk⟩
  have hcw : g1.IsCell (s.heap.objs.size + 1) (some (.ref P)) := ⟨_, (N2 _ (.tail _ (.head _))).1, hcr⟩
  have hlg := isl_keep hl F2
  have hrg := RowsIn.keep hr F2.keep
  have hl0g := isl_keep hl0 F2
  have Cg : Cx w g1 := fr_cx F2 C
  have hkk3 : kk ≤ 3 := Nat.le_trans J.le hx0l
  (try dsimp only at F2 N2 hck hcw hlg hrg hl0g)
  k_steps
  refine Stop.mk ?_
  refine listCompK (cl := [("rows", s.heap.objs.size + 1), ("k", s.heap.objs.size + 1 + 1)]) rfl (by decide) rfl (by decide) rfl ?_
  (repeat' (first | (k_unfold; (try dsimp only)) | (k_end; kc_close) | ((with_reducible show wpAny _ _ (eval (PySem.Expr.Name _ _) _) _ _ _); with_reducible (k_dflt (first | refine ldVarK (Fr.ns (by assumption)) (by with_reducible assumption) ?_ | refine ldCellK rfl (Heap.IsCell.keeps (by with_reducible assumption) (Fr.keep (by assumption))) ?_ | refine ldCC (by with_reducible assumption) (by k_mem) (by with_reducible assumption) rfl ?_ | refine ldB (fr_cx (by assumption) (by assumption)) (by k_is) (by boot_by_name) (by decide) ?_))) | walk1 | (dsimp only; (first | ((with_reducible show wpAny _ _ (eval (PySem.Expr.Name _ _) _) _ _ _); with_reducible (k_dflt (first | refine ldVarK (Fr.ns (by assumption)) (by with_reducible assumption) ?_ | refine ldCellK rfl (Heap.IsCell.keeps (by with_reducible assumption) (Fr.keep (by assumption))) ?_ | refine ldCC (by with_reducible assumption) (by k_mem) (by with_reducible assumption) rfl ?_ | refine ldB (fr_cx (by assumption) (by assumption)) (by k_is) (by boot_by_name) (by decide) ?_))) | walk1)) | (leave1; (try dsimp only)) | fail "no step"))
  refine ⟨vals.toArray.size, _, fun i ys tl => tl = [] ∧ ys.length ≤ i ∧ BadSo x0 kk xss i ys, P, iterOf_list rfl hlg, ?_, ⟨rfl, Nat.le_refl _, .inl ⟨rfl, fun r hr => by simp at hr⟩⟩, fun i ys tl h => h.2.1, ?_, ?_⟩
  · rw [List.size_toArray, hr.len]; exact Nat.le_trans hz (by decide)
  · rintro i v ys tl CC m₃ h₃ tk₃ I oI DD hi hP ⟨rfl, hlen, hB⟩ F3 N3 hm off hID
    obtain ⟨a, V, xs, rfl, hla, hxa, hxi⟩ := hrg.item (by simpa using hP)
    have hxl := hx xs (List.mem_of_getElem? hxi)
    have hVz : V.length ≤ 10000 := by rw [hxa.length]; omega
    have hVz2 : (V.toArray.size : Int) < 2 ^ 63 := by rw [List.size_toArray]; omega
    have hVx : V.length = xs.length := hxa.length
    dsimp only at F3 N3
    refine wpAny_tests_one ?_
    (repeat' (first | (k_unfold; (try dsimp only)) | (k_end; kc_close) | ((with_reducible show wpAny _ _ (PySem.call (PySem.Value.builtin "len") _ _) _ _ _); with_reducible (k_dflt (refine len_list (isl_keep (by with_reducible assumption) (by with_reducible assumption)) (by with_reducible assumption) ?_))) | ((with_reducible show wpAny _ _ (compareOp PySem.CmpOp.NotEq (PySem.Value.ref _) (PySem.Value.ref _)) _ _ _); with_reducible (k_dflt (refine ne_S (led_list (by with_reducible assumption) (.tail _ (.head _))) (led_list (by with_reducible assumption) (.head _)) (StrsAre.take' (StrsAre.drop' (by with_reducible assumption) _) _) (StrsAre.take' (StrsAre.drop' (by with_reducible assumption) _) _) (Rm.lt (Rm.deeper (by assumption))) ?_))) | ((with_reducible show wpAny _ _ (subscriptTail (PySem.Expr.Name ..) (PySem.Expr.Constant ..) (PySem.Value.ref _) (PySem.Value.int _ _)) _ _ _); with_reducible (k_dflt (refine item_at (i := 0) (isl_keep (by with_reducible assumption) (by with_reducible assumption)) (by decide) (by with_reducible assumption) ?_))) | ((with_reducible show wpAny _ _ (subscriptTail (PySem.Expr.Name ..) (PySem.Expr.Slice ..) (PySem.Value.ref _) (PySem.Value.ref _)) _ _ _); with_reducible (k_dflt (refine slice_one (by with_reducible assumption) (by with_reducible assumption) (isl_keep (by with_reducible assumption) (by with_reducible assumption)) (by with_reducible assumption) ?_); intro _ _ _ _ _)) | ((with_reducible show wpAny _ _ (eval (PySem.Expr.Name _ _) _) _ _ _); with_reducible (k_dflt (first | refine ldVarK (Fr.ns (by assumption)) (by with_reducible assumption) ?_ | refine ldCellK rfl (Heap.IsCell.keeps (by with_reducible assumption) (Fr.keep (by assumption))) ?_ | refine ldCC (by with_reducible assumption) (by k_mem) (by with_reducible assumption) rfl ?_ | refine ldB (fr_cx (by assumption) (by assumption)) (by k_is) (by boot_by_name) (by decide) ?_))) | walk1 | (dsimp only; (first | ((with_reducible show wpAny _ _ (PySem.call (PySem.Value.builtin "len") _ _) _ _ _); with_reducible (k_dflt (refine len_list (isl_keep (by with_reducible assumption) (by with_reducible assumption)) (by with_reducible assumption) ?_))) | ((with_reducible show wpAny _ _ (compareOp PySem.CmpOp.NotEq (PySem.Value.ref _) (PySem.Value.ref _)) _ _ _); with_reducible (k_dflt (refine ne_S (led_list (by with_reducible assumption) (.tail _ (.head _))) (led_list (by with_reducible assumption) (.head _)) (StrsAre.take' (StrsAre.drop' (by with_reducible assumption) _) _) (StrsAre.take' (StrsAre.drop' (by with_reducible assumption) _) _) (Rm.lt (Rm.deeper (by assumption))) ?_))) | ((with_reducible show wpAny _ _ (subscriptTail (PySem.Expr.Name ..) (PySem.Expr.Constant ..) (PySem.Value.ref _) (PySem.Value.int _ _)) _ _ _); with_reducible (k_dflt (refine item_at (i := 0) (isl_keep (by with_reducible assumption) (by with_reducible assumption)) (by decide) (by with_reducible assumption) ?_))) | ((with_reducible show wpAny _ _ (subscriptTail (PySem.Expr.Name ..) (PySem.Expr.Slice ..) (PySem.Value.ref _) (PySem.Value.ref _)) _ _ _); with_reducible (k_dflt (refine slice_one (by with_reducible assumption) (by with_reducible assumption) (isl_keep (by with_reducible assumption) (by with_reducible assumption)) (by with_reducible assumption) ?_); intro _ _ _ _ _)) | ((with_reducible show wpAny _ _ (eval (PySem.Expr.Name _ _) _) _ _ _); with_reducible (k_dflt (first | refine ldVarK (Fr.ns (by assumption)) (by with_reducible assumption) ?_ | refine ldCellK rfl (Heap.IsCell.keeps (by with_reducible assumption) (Fr.keep (by assumption))) ?_ | refine ldCC (by with_reducible assumption) (by k_mem) (by with_reducible assumption) rfl ?_ | refine ldB (fr_cx (by assumption) (by assumption)) (by k_is) (by boot_by_name) (by decide) ?_))) | walk1)) | (leave1; (try dsimp only)) | fail "no step"))
    all_goals (rename News _ _ _ (_ :: _) => N9)
    · rename (_ != _) = true => hb
      exact elt_end (by assumption) (fun p hp => N9 p (.tail _ (.tail _ hp))) (fun p hp => by cases hp) ⟨rfl, by simp only [List.length_append, List.length_singleton]; omega, BadSo.yes _ hxi (.inl (by simpa using hb))⟩
    · rename (_ : Int) ≤ _ => hb
      refine elt_end (by assumption) (fun p hp => N9 p (.tail _ (.tail _ hp))) (fun p hp => by cases hp) ⟨rfl, by simp only [List.length_append, List.length_singleton]; omega, BadSo.yes _ hxi (.inr ?_)⟩
      rw [List.size_toArray] at hb; omega
    · rename ¬ (_ ≤ _) => hb
      rename (_ != _) = false => ha
      refine elt_end (by assumption) (fun p hp => N9 p (.tail _ (.tail _ hp))) (fun p hp => by cases hp) ⟨rfl, by omega, BadSo.no hB hxi ?_⟩
      rw [List.size_toArray] at hb
      rintro (h1 | h1)
      · exact h1 (by simpa using ha)
      · omega
  · rintro ys tl ⟨rfl, hlen, hB⟩ D g2 tk2 kg zg lg
    dsimp only at kg zg lg ⊢
    have F3 := fr_keeps F2 kg
    have hD := lg _ (.head _)
    have N3 : News s.heap s.heap.objs.size g2 [(D, lst ys), (s.heap.objs.size + 1 + 1, ok), (s.heap.objs.size + 1, ok0)] := fun p hp => by
      rcases List.mem_cons.mp hp with rfl | hp
      · exact ⟨hD.1, by obtain ⟨oL, _, _, e, _⟩ := F2.ns; exact ne_of_none hD.2 e, none_of F2.keep hD.2⟩
      · exact news_keeps N2 kg p hp
    have hsz : ys.length ≤ 100 := by rw [List.size_toArray, hr.len] at hlen; omega
    rw [List.size_toArray, hr.len] at hB
    clear F2 N2 kg zg lg hck hcw hlg hrg hl0g
    (repeat' (first | (k_unfold; (try dsimp only)) | (k_end; kc_close) | ((with_reducible show wpAny _ _ (compareOp PySem.CmpOp.Eq (PySem.Value.ref _) (PySem.Value.ref _)) _ _ _); with_reducible (k_dflt (refine eq_nil (led_list (by with_reducible assumption) (.tail _ (.head _))) ⟨_, News.get (by with_reducible assumption) (.head _), rfl, _, rfl⟩ (Rm.lt (Rm.deeper (by assumption))) ?_))) | ((with_reducible show wpAny _ _ (subscriptTail (PySem.Expr.Name ..) (PySem.Expr.Constant ..) (PySem.Value.ref _) (PySem.Value.int _ _)) _ _ _); with_reducible (k_dflt (refine item_at (i := 0) (isl_keep (by with_reducible assumption) (by with_reducible assumption)) (by decide) (by with_reducible assumption) ?_))) | ((with_reducible show wpAny _ _ (subscriptTail (PySem.Expr.Name ..) (PySem.Expr.Slice ..) (PySem.Value.ref _) (PySem.Value.ref _)) _ _ _); with_reducible (k_dflt (refine slice_one (by with_reducible assumption) (by with_reducible assumption) (isl_keep (by with_reducible assumption) (by with_reducible assumption)) (by with_reducible assumption) ?_); intro _ _ _ _ _)) | ((with_reducible show wpAny _ _ (eval (PySem.Expr.Name _ _) _) _ _ _); with_reducible (k_dflt (first | refine ldVarK (Fr.ns (by assumption)) (by with_reducible assumption) ?_ | refine ldCellK rfl (Heap.IsCell.keeps (by with_reducible assumption) (Fr.keep (by assumption))) ?_ | refine ldCC (by with_reducible assumption) (by k_mem) (by with_reducible assumption) rfl ?_ | refine ldB (fr_cx (by assumption) (by assumption)) (by k_is) (by boot_by_name) (by decide) ?_))) | walk1 | (dsimp only; (first | ((with_reducible show wpAny _ _ (compareOp PySem.CmpOp.Eq (PySem.Value.ref _) (PySem.Value.ref _)) _ _ _); with_reducible (k_dflt (refine eq_nil (led_list (by with_reducible assumption) (.tail _ (.head _))) ⟨_, News.get (by with_reducible assumption) (.head _), rfl, _, rfl⟩ (Rm.lt (Rm.deeper (by assumption))) ?_))) | ((with_reducible show wpAny _ _ (subscriptTail (PySem.Expr.Name ..) (PySem.Expr.Constant ..) (PySem.Value.ref _) (PySem.Value.int _ _)) _ _ _); with_reducible (k_dflt (refine item_at (i := 0) (isl_keep (by with_reducible assumption) (by with_reducible assumption)) (by decide) (by with_reducible assumption) ?_))) | ((with_reducible show wpAny _ _ (subscriptTail (PySem.Expr.Name ..) (PySem.Expr.Slice ..) (PySem.Value.ref _) (PySem.Value.ref _)) _ _ _); with_reducible (k_dflt (refine slice_one (by with_reducible assumption) (by with_reducible assumption) (isl_keep (by with_reducible assumption) (by with_reducible assumption)) (by with_reducible assumption) ?_); intro _ _ _ _ _)) | ((with_reducible show wpAny _ _ (eval (PySem.Expr.Name _ _) _) _ _ _); with_reducible (k_dflt (first | refine ldVarK (Fr.ns (by assumption)) (by with_reducible assumption) ?_ | refine ldCellK rfl (Heap.IsCell.keeps (by with_reducible assumption) (Fr.keep (by assumption))) ?_ | refine ldCC (by with_reducible assumption) (by k_mem) (by with_reducible assumption) rfl ?_ | refine ldB (fr_cx (by assumption) (by assumption)) (by k_is) (by boot_by_name) (by decide) ?_))) | walk1)) | (leave1; (try dsimp only)) | fail "no step"))
    · rename Fr _ _ _ _ => F9
      rename News _ _ _ (_ ++ _) => N9
      rename (_ = Data.cell _) => hdd
      rename ys = [] => hys
      have hall : ∀ r ∈ xss, ¬ BadR x0 kk r := by
        rcases hB with ⟨_, hB⟩ | ⟨hB, _⟩
        · rw [List.take_length] at hB; exact hB
        · exact absurd hys hB
      exact WhileStep.intro (n' := 4 - (kk + 1)) F9 (news₂ := [(_, _), (_, _)]) (fun p hp => N9 p (.tail _ (.tail _ hp))) (by omega) ⟨kk + 1, _, _, rfl, rfl, hdd, J.next hm0 hall⟩
    · rename Fr _ _ _ _ => F9
      rename News _ _ _ ((_, { cls := _, data := _ }) :: _) => N9
      rename ¬ (ys = []) => hys
      have hbad : ∃ r ∈ xss, BadR x0 kk r := by
        rcases hB with ⟨hB, _⟩ | ⟨_, hB⟩
        · exact absurd hB hys
        · exact hB
      have hN := N9 _ (.head _)
      rw [slicePick_upto'] at hN
      refine h _ [(_, W.listOf (V0.take kk).toArray 0)] _ _ F9.keep (fr_le F9) (fun p hp => ?_) ⟨_, V0.take kk, 0, x0.take kk, rfl, rfl, hV0.take' kk, lcp_shared hm0 J.ok hbad⟩
      rcases List.mem_cons.mp hp with rfl | hp
      · exact ⟨hN.1, hN.2.2⟩
      · cases hp
end Mine
end
/-! PL4 -/
section
open PySem PySem.W PyProof.Rows
set_option maxRecDepth 100000
set_option linter.unusedVariables false
namespace Mine
theorem less_lt {x y : List Str} (h : ltL x y = true) : ∀ xss : List (List Str), lessN xss x + xss.count x ≤ lessN xss y := by
  intro xss
  induction xss with
  | nil => simp [lessN]
  | cons r xss ih =>
    unfold lessN at ih ⊢
    by_cases e : r = x
    · subst e
      rw [List.filter_cons_of_neg (p := fun q => ltL q r) (by rw [ltL_irrefl]; decide), List.count_cons_self, List.filter_cons_of_pos (p := fun q => ltL q y) h, List.length_cons]; omega
    · rw [List.count_cons_of_ne e]
      by_cases h2 : ltL r x = true
      · rw [List.filter_cons_of_pos (p := fun q => ltL q x) h2, List.filter_cons_of_pos (p := fun q => ltL q y) (ltL_trans h2 h), List.length_cons, List.length_cons]; omega
      · rw [List.filter_cons_of_neg (p := fun q => ltL q x) h2]
        by_cases h3 : ltL r y = true
        · rw [List.filter_cons_of_pos (p := fun q => ltL q y) h3, List.length_cons]; omega
        · rw [List.filter_cons_of_neg (p := fun q => ltL q y) h3]; exact ih
theorem rowAt_get {xss : List (List Str)} {k : Nat} (hk : k < xss.length) : xss[k]? = some (rowAt xss k) := by unfold rowAt; rw [List.getElem?_eq_getElem hk]; rfl
theorem pos_ne {xss : List (List Str)} {k i : Nat} (hk : k < i) (hi : i < xss.length) : posN xss k ≠ posN xss i := by
  have ek := rowAt_get (xss := xss) (k := k) (by omega)
  have ei := rowAt_get hi
  have ck := count_take_lt ek
  have ci := count_take_lt ei
  unfold posN
  cases h1 : ltL (rowAt xss k) (rowAt xss i) with
  | true => have := less_lt h1 xss; omega
  | false =>
    cases h2 : ltL (rowAt xss i) (rowAt xss k) with
    | true => have := less_lt h2 xss; omega
    | false =>
      have e := ltL_total h1 h2
      rw [← e]
      have h3 : (xss.take k).count (rowAt xss k) < (xss.take i).count (rowAt xss k) := by
        have h4 : (xss.take i)[k]? = some (rowAt xss k) := by rw [List.getElem?_take_of_lt hk]; exact ek
        have h5 := count_take_lt h4
        rw [List.take_take] at h5
        have h6 : min k i = k := by omega
        rw [h6] at h5; exact h5
      omega
end Mine
end
/-! Or1 -/
section
open PySem PySem.W PyProof.Rows PySem.Calls
set_option maxRecDepth 100000
set_option linter.unusedVariables false
namespace Mine
theorem set_led {w : World} {A : Around} {E : Value → Shared → Prop} {s : Shared} {h₀ : Heap} {L D : Addr} {m : Str → Option Value} {news : List (Addr × Obj)} {g : Obj → List (Addr × Obj)} {vals : List Value} {v : Value} {t : Tok} {n i : Nat} {k : Int} {Q : Unit → Shared → Prop}
    (F : Fr h₀ L s.heap m) (N : News h₀ L s.heap news) (U : UpdF D (W.listOf vals.toArray n) news g) (hk : k = (i : Int)) (hi : i < vals.length) (hz : vals.length ≤ 1000)
    (h : ∀ h', Fr h₀ L h' m → News h₀ L h' (g (W.listOf (vals.set i v).toArray n)) → Q () { s with heap := h' }) : wpAny (model prog w) A (setItem (.ref D) (.int k t) v) Q E s := by
  subst hk
  obtain ⟨pre, post, rfl, hg, a, b⟩ := U.split
  have z := N (D, W.listOf vals.toArray n) (List.mem_append.mpr (.inr (.head _)))
  refine ki_setAt z.1 (by omega) (by omega) (by rw [List.size_toArray]; omega) (h _ (F.change (Heap.SameBut.update ..) z.2.1 z.2.2) ?_)
  rw [hg]
  refine ki_turn _ N a b ?_ ?_
  · show vals.toArray.setIfInBounds (i : Int).toNat v = _
    simp
  · simp
theorem iterOf_range' {w : World} {A : Around} {s : Shared} {r ax : Addr} {a b : Int} {t u v : Tok} {n : Nat} (hh : A.handled = none) (hr : IsRange s.heap r a b 1 t u v) (hsm : Builtin.Range.small a b 1 = true) (hn : Builtin.Range.rangeSize a b 1 = ((n : Nat) : Int)) :
    IterOf w A (.ref r) ax s n (fun i v => ∃ t, v = .int (a + i * 1) t) := by
  intro Q E h
  refine wpAny_pyIter_range hr hsm (h _ [s.heap.objs.size] _ _ (fun b o e => Heap.get?_push_of_some _ e) (Nat.le_refl _) (by rw [Heap.size_push]; omega) (fun b hb => ?_) (fun b hb => .inl (List.mem_singleton.mp hb)) (fun i h st => ⟨_, st⟩) (.inr rfl) (Walks.range hh s.heap.objs.size a 1 n) ?_)
  · rw [List.mem_singleton.mp hb, Heap.size_push]; exact Nat.lt_succ_self _
  · show IsRangeIter _ _ _ _ _
    rw [hn]; simpa using Heap.get?_push_size _ rfl
noncomputable def LessSo (x : List Str) (xss : List (List Str)) (i : Nat) (ys : List Value) : Prop := ys.length = ((xss.take i).filter fun r => ltL r x).length
theorem LessSo.yes {x r : List Str} {xss : List (List Str)} {i : Nat} {ys : List Value} (h : LessSo x xss i ys) (v : Value) (hr : xss[i]? = some r) (hl : ltL r x = true) : LessSo x xss (i + 1) (ys ++ [v]) := by
  unfold LessSo at h ⊢
  rw [List.take_add_one, hr, List.filter_append, List.length_append, List.length_append, h]
  simp [hl]
theorem LessSo.no {x r : List Str} {xss : List (List Str)} {i : Nat} {ys : List Value} (h : LessSo x xss i ys) (hr : xss[i]? = some r) (hl : ltL r x = false) : LessSo x xss (i + 1) ys := by
  unfold LessSo at h ⊢
  rw [List.take_add_one, hr, List.filter_append, List.length_append, h]
  simp [hl]
theorem rows_take {h : Heap} {vs : List Value} {xss : List (List Str)} (r : RowsIn h vs xss) (i : Nat) : RowsIn h (vs.take i) (xss.take i) := by
  refine ⟨by rw [List.length_take, List.length_take, r.len], fun {j v} e => ?_⟩
  have hj : j < i := by
    have := (List.getElem?_eq_some_iff.mp e).1
    rw [List.length_take] at this; omega
  rw [List.getElem?_take_of_lt hj] at e
  obtain ⟨a, V, xs, e1, e2, e3, e4⟩ := r.item e
  exact ⟨a, V, xs, e1, e2, e3, by rw [List.getElem?_take_of_lt hj]; exact e4⟩
/-- what stands between the turns -/
noncomputable def OrdSo (vals : List Value) (xss : List (List Str)) (i : Nat) (V : List Value) : Prop := V.length = xss.length ∧ ∀ k, k < i → V[posN xss k]? = vals[k]?
theorem OrdSo.next {vals V : List Value} {xss : List (List Str)} {i : Nat} {v : Value} (h : OrdSo vals xss i V) (hi : i < xss.length) (hv : vals[i]? = some v) (hinj : ∀ k, k < i → posN xss k ≠ posN xss i) : OrdSo vals xss (i + 1) (V.set (posN xss i) v) := by
  refine ⟨by rw [List.length_set]; exact h.1, fun k hk => ?_⟩
  rcases Nat.lt_or_ge k i with h1 | h1
  · rw [List.getElem?_set_ne (Ne.symm (hinj k h1))]; exact h.2 k h1
  · obtain rfl : k = i := by omega
    rw [List.getElem?_set_self (by rw [h.1]; exact pos_lt hi), hv]
local macro_rules | `(tactic| walk_at "eval ListComp") => `(tactic| (refine Stop.out ?_))
local macro_rules | `(tactic| walk_at "exec For Name Call cons nil") => `(tactic| (refine Stop.out ?_))
local macro_rules | `(tactic| walk_at "call builtin:list.count") => `(tactic| (refine Stop.out ?_))
local macro_rules | `(tactic| walk_at "setItem") => `(tactic| (refine Stop.out ?_))
local macro_rules | `(tactic| walk_at "pyIter ref") => `(tactic| (refine Stop.out ?_))
set_option maxHeartbeats 8000000 in
theorem order_ok {w : World} {A : Around} {s : Shared} {P : Addr} {vals : List Value} {xss : List (List Str)}
   (C : Cx w s.heap) (r0 : Rm A 40 400) (hl : s.heap.IsList P vals.toArray) (hr : RowsIn s.heap vals xss) (hn : 0 < xss.length) (hz : xss.length ≤ 100) (hx : ∀ r ∈ xss, r.length ≤ 3) :
   Does w A (call (.ref 193) [.ref P]) s (fun v tl => ∃ D V n, v = .ref D ∧ tl = [(D, W.listOf (List.toArray V) n)] ∧ V.length = xss.length ∧ ∀ k, k < xss.length → V[posN xss k]? = vals[k]?) := by
  intro Q E h
  obtain ⟨ah, ad, af, ag, au⟩ := A
  obtain rfl : ah = none := r0.hh
  have hd := r0.dep
  dsimp only at hd
  have r : Rm { depth := ad, frames := af, guards := ag, units := au } (5 + 1) (50 + 3) := r0.le (by decide) (by decide)
  have hvs : vals.toArray.size = xss.length := by rw [List.size_toArray, hr.len]
  have hvz : (vals.toArray.size : Int) < 2 ^ 63 := by rw [hvs]; omega
  have hvz2 : vals.length ≤ 100 := by rw [hr.len]; exact hz
  refine enterC (binds := [("rows", .ref P)]) C (by k_is) (by k_is) (by dsimp only; omega) (BindsTo.of_eq rfl) rfl (by decide) rfl rfl rfl (fun h₁ tk cells p loose mean mg mb F N Y X T => ?_)
  cases Y with
  | cons hc Y =>
  cases Y with
  | cons hc2 Y =>
  cases Y
  (repeat' (first | (k_unfold; (try dsimp only)) | (k_end; kc_close) | ((with_reducible show wpAny _ _ (binaryOp PySem.Operator.Mult (PySem.Value.ref _) (PySem.Value.int _ _)) _ _ _); with_reducible (k_dflt (refine KMa.mul (by with_reducible assumption) (by with_reducible assumption) (vs := [.none]) ⟨_, News.get (by with_reducible assumption) (.head _), rfl, _, rfl⟩ (by omega) (by omega) (by simp; omega) rfl ?_); intro _ _ _ _ _)) | ((with_reducible show wpAny _ _ (PySem.call (PySem.Value.builtin "len") _ _) _ _ _); with_reducible (k_dflt (first | refine len_list (isl_keep (by with_reducible assumption) (by with_reducible assumption)) (by with_reducible assumption) ?_ | refine len_list (led_list (by with_reducible assumption) (.head _)) (by with_reducible assumption) ?_))) | ((with_reducible show wpAny _ _ (eval (PySem.Expr.Name _ _) _) _ _ _); with_reducible (k_dflt (first | refine ldVarK (Fr.ns (by assumption)) (by with_reducible assumption) ?_ | refine ldCellK rfl (Heap.IsCell.keeps (by with_reducible assumption) (Fr.keep (by assumption))) ?_ | refine ldCC (by with_reducible assumption) (by k_mem) (by with_reducible assumption) rfl ?_ | (refine' ldC (h₀ := _) ?k1 ?k2 ?_; (case k1 => assumption); (case k2 => ((try dsimp only); (repeat rw [if_neg (by decide)]); first | rfl | with_reducible assumption))) | refine ldB (fr_cx (by assumption) (by assumption)) (by k_is) (by boot_by_name) (by decide) ?_))) | walk1 | (dsimp only; (first | ((with_reducible show wpAny _ _ (binaryOp PySem.Operator.Mult (PySem.Value.ref _) (PySem.Value.int _ _)) _ _ _); with_reducible (k_dflt (refine KMa.mul (by with_reducible assumption) (by with_reducible assumption) (vs := [.none]) ⟨_, News.get (by with_reducible assumption) (.head _), rfl, _, rfl⟩ (by omega) (by omega) (by simp; omega) rfl ?_); intro _ _ _ _ _)) | ((with_reducible show wpAny _ _ (PySem.call (PySem.Value.builtin "len") _ _) _ _ _); with_reducible (k_dflt (first | refine len_list (isl_keep (by with_reducible assumption) (by with_reducible assumption)) (by with_reducible assumption) ?_ | refine len_list (led_list (by with_reducible assumption) (.head _)) (by with_reducible assumption) ?_))) | ((with_reducible show wpAny _ _ (eval (PySem.Expr.Name _ _) _) _ _ _); with_reducible (k_dflt (first | refine ldVarK (Fr.ns (by assumption)) (by with_reducible assumption) ?_ | refine ldCellK rfl (Heap.IsCell.keeps (by with_reducible assumption) (Fr.keep (by assumption))) ?_ | refine ldCC (by with_reducible assumption) (by k_mem) (by with_reducible assumption) rfl ?_ | (refine' ldC (h₀ := _) ?k1 ?k2 ?_; (case k1 => assumption); (case k2 => ((try dsimp only); (repeat rw [if_neg (by decide)]); first | rfl | with_reducible assumption))) | refine ldB (fr_cx (by assumption) (by assumption)) (by k_is) (by boot_by_name) (by decide) ?_))) | walk1)) | (leave1; (try dsimp only)) | fail "no step"))
  refine Stop.mk ?_
  rename_i ok1 ok0 D0 gD l1 D gD2 l2 gD3 F1 N1
  have hcr : ok0.data = .cell (some (.ref P)) := hc2
  have hc1 := hc
  clear hc hc2 l1
  refine wpAny_For ?_
  (repeat' (first | (k_unfold; (try dsimp only)) | (k_end; kc_close) | ((with_reducible show wpAny _ _ (PySem.call (PySem.Value.builtin "len") _ _) _ _ _); with_reducible (k_dflt (first | refine len_list (isl_keep (by with_reducible assumption) (by with_reducible assumption)) (by with_reducible assumption) ?_ | refine len_list (led_list (by with_reducible assumption) (.head _)) (by with_reducible assumption) ?_))) | ((with_reducible show wpAny _ _ (eval (PySem.Expr.Name _ _) _) _ _ _); with_reducible (k_dflt (first | refine ldVarK (Fr.ns (by assumption)) (by with_reducible assumption) ?_ | refine ldCellK rfl (Heap.IsCell.keeps (by with_reducible assumption) (Fr.keep (by assumption))) ?_ | refine ldCC (by with_reducible assumption) (by k_mem) (by with_reducible assumption) rfl ?_ | (refine' ldC (h₀ := _) ?k1 ?k2 ?_; (case k1 => assumption); (case k2 => ((try dsimp only); (repeat rw [if_neg (by decide)]); first | rfl | with_reducible assumption))) | refine ldB (fr_cx (by assumption) (by assumption)) (by k_is) (by boot_by_name) (by decide) ?_))) | walk1 | (dsimp only; (first | ((with_reducible show wpAny _ _ (PySem.call (PySem.Value.builtin "len") _ _) _ _ _); with_reducible (k_dflt (first | refine len_list (isl_keep (by with_reducible assumption) (by with_reducible assumption)) (by with_reducible assumption) ?_ | refine len_list (led_list (by with_reducible assumption) (.head _)) (by with_reducible assumption) ?_))) | ((with_reducible show wpAny _ _ (eval (PySem.Expr.Name _ _) _) _ _ _); with_reducible (k_dflt (first | refine ldVarK (Fr.ns (by assumption)) (by with_reducible assumption) ?_ | refine ldCellK rfl (Heap.IsCell.keeps (by with_reducible assumption) (Fr.keep (by assumption))) ?_ | refine ldCC (by with_reducible assumption) (by k_mem) (by with_reducible assumption) rfl ?_ | (refine' ldC (h₀ := _) ?k1 ?k2 ?_; (case k1 => assumption); (case k2 => ((try dsimp only); (repeat rw [if_neg (by decide)]); first | rfl | with_reducible assumption))) | refine ldB (fr_cx (by assumption) (by assumption)) (by k_is) (by boot_by_name) (by decide) ?_))) | walk1)) | (leave1; (try dsimp only)) | fail "no step"))
  refine Stop.mk ?_
  rename IsRange _ _ _ _ _ _ _ _ => hrg
  rename Fr _ _ _ _ => F2
  rename News _ _ _ _ => N2
  replace N2 : News s.heap s.heap.objs.size _ [(D, W.listOf (List.replicate (vals.toArray.size : Int).toNat [Value.none]).flatten.toArray 0), (s.heap.objs.size + 1 + 1, ok1), (s.heap.objs.size + 1, ok0)] := fun p hp => N2 p (by
    simp only [List.mem_cons, List.not_mem_nil, or_false] at hp ⊢; rcases hp with hp | hp | hp <;> simp [hp])
  have hrep : (List.replicate ((vals.toArray.size : Int)).toNat [Value.none]).flatten.length = xss.length := by simp [hr.len]
  obtain ⟨co, hco⟩ : ∃ c, ok1.data = .cell c := ⟨_, hc1⟩
  have hsm : Builtin.Range.small 0 (vals.toArray.size : Int) 1 = true := small_one (by decide) (by decide) (by omega) (by omega)
  have hrs : Builtin.Range.rangeSize 0 (vals.toArray.size : Int) 1 = ((vals.toArray.size : Nat) : Int) := by
    rw [rangeSize_one]; split <;> omega
  refine for_fr (h₀ := s.heap) F2 N2 (iterOf_range' (ax := P) rfl hrg hsm hrs)
    (fun i m' news' => m' "order" = some (.ref D) ∧ ∃ V nn okk c, news' = [(D, W.listOf (List.toArray V) nn), (s.heap.objs.size + 1 + 1, okk), (s.heap.objs.size + 1, ok0)] ∧ okk.data = .cell c ∧ OrdSo vals xss i V) ?h0 (.inl (by obtain ⟨o, e, _⟩ := hl; exact ⟨o, e⟩)) ?turn ?done
  case h0 =>
    refine ⟨rfl, _, 0, ok1, co, rfl, hco, hrep, fun k hk => absurd hk (by omega)⟩
  case turn =>
    rintro i v m₁ news₁ I oI g₁ tk₁ hi ⟨tv, rfl⟩ ⟨hord, V, nn, okk, c, rfl, hokk, hO⟩ F3 N3 hI off
    have ei : (0 : Int) + i * 1 = (i : Int) := by omega
    rw [ei]
    have hi' : i < xss.length := by rw [← hvs]; exact hi
    have hiv : i < vals.length := by rw [hr.len]; exact hi'
    obtain ⟨ai, Vi, xi, ei2, hli, hVi, hxi⟩ := hr.item (i := i) (v := vals[i]) (List.getElem?_eq_getElem hiv)
    have hvi : vals[i]? = some (.ref ai) := by rw [List.getElem?_eq_getElem hiv, ei2]
    clear F2 N2
    replace F3 : Fr s.heap s.heap.objs.size g₁ m₁ := F3
    replace N3 : News s.heap s.heap.objs.size g₁ ((I, oI) :: [(D, W.listOf V.toArray nn), (s.heap.objs.size + 1 + 1, okk), (s.heap.objs.size + 1, ok0)]) := N3
    have hIk : I ≠ s.heap.objs.size + 1 + 1 := Ne.symm (off _ (.tail _ (.head _)))
    have hID : D ≠ I := off _ (.head _)
    have hDk : D ≠ s.heap.objs.size + 1 + 1 := Nat.ne_of_gt (l2 _ (.tail _ (.head _)))
    have hDw : D ≠ s.heap.objs.size + 1 := Nat.ne_of_gt (l2 _ (.tail _ (.tail _ (.head _))))
    have hkw : s.heap.objs.size + 1 ≠ s.heap.objs.size + 1 + 1 := Nat.ne_of_lt (Nat.lt_succ_self _)
    refine storeX_C (c := s.heap.objs.size + 1 + 1) F3 N3 rfl (UpdF.tail hIk (UpdF.tail hDk (UpdF.head (fun p hp => by rcases List.mem_cons.mp hp with rfl | hp; exact hkw; cases hp)))) hokk ?_ rfl rfl
    intro g2 ok2 F4 N4 hok2
    dsimp only at N4 ⊢
    clear F3 N3
    (repeat' (first | (k_unfold; (try dsimp only)) | (k_end; kc_close) | ((with_reducible show wpAny _ _ (subscriptTail (PySem.Expr.Name ..) (PySem.Expr.Name ..) (PySem.Value.ref _) (PySem.Value.int _ _)) _ _ _); with_reducible (k_dflt (refine item_at (isl_keep (by with_reducible assumption) (by with_reducible assumption)) (by omega) (by with_reducible assumption) ?_))) | ((with_reducible show wpAny _ _ (eval (PySem.Expr.Name _ _) _) _ _ _); with_reducible (k_dflt (first | refine ldVarK (Fr.ns (by assumption)) (by with_reducible assumption) ?_ | refine ldCellK rfl (Heap.IsCell.keeps (by with_reducible assumption) (Fr.keep (by assumption))) ?_ | refine ldCC (by with_reducible assumption) (by k_mem) (by with_reducible assumption) rfl ?_ | (refine' ldC (h₀ := _) ?k1 ?k2 ?_; (case k1 => assumption); (case k2 => ((try dsimp only); (repeat rw [if_neg (by decide)]); first | rfl | with_reducible assumption))) | refine ldB (fr_cx (by assumption) (by assumption)) (by k_is) (by boot_by_name) (by decide) ?_))) | walk1 | (dsimp only; (first | ((with_reducible show wpAny _ _ (subscriptTail (PySem.Expr.Name ..) (PySem.Expr.Name ..) (PySem.Value.ref _) (PySem.Value.int _ _)) _ _ _); with_reducible (k_dflt (refine item_at (isl_keep (by with_reducible assumption) (by with_reducible assumption)) (by omega) (by with_reducible assumption) ?_))) | ((with_reducible show wpAny _ _ (eval (PySem.Expr.Name _ _) _) _ _ _); with_reducible (k_dflt (first | refine ldVarK (Fr.ns (by assumption)) (by with_reducible assumption) ?_ | refine ldCellK rfl (Heap.IsCell.keeps (by with_reducible assumption) (Fr.keep (by assumption))) ?_ | refine ldCC (by with_reducible assumption) (by k_mem) (by with_reducible assumption) rfl ?_ | (refine' ldC (h₀ := _) ?k1 ?k2 ?_; (case k1 => assumption); (case k2 => ((try dsimp only); (repeat rw [if_neg (by decide)]); first | rfl | with_reducible assumption))) | refine ldB (fr_cx (by assumption) (by assumption)) (by k_is) (by boot_by_name) (by decide) ?_))) | walk1)) | (leave1; (try dsimp only)) | fail "no step"))
    refine Stop.mk ?_
    have hck : g2.IsCell (s.heap.objs.size + 1 + 1) (some (.int (i : Int) tv)) := ⟨_, (N4 _ (.tail _ (.tail _ (.head _)))).1, hok2⟩
    have hcw : g2.IsCell (s.heap.objs.size + 1) (some (.ref P)) := ⟨_, (N4 _ (.tail _ (.tail _ (.tail _ (.head _))))).1, hcr⟩
    have hlg := isl_keep hl F4
    have hrg := RowsIn.keep hr F4.keep
    have hlig := isl_keep hli F4
    have Cg : Cx w g2 := fr_cx F4 C
    refine listCompK (cl := [("rows", s.heap.objs.size + 1), ("k", s.heap.objs.size + 1 + 1)]) rfl (by decide) rfl (by decide) rfl ?_
    (repeat' (first | (k_unfold; (try dsimp only)) | (k_end; kc_close) | ((with_reducible show wpAny _ _ (eval (PySem.Expr.Name _ _) _) _ _ _); with_reducible (k_dflt (first | refine ldVarK (Fr.ns (by assumption)) (by with_reducible assumption) ?_ | refine ldCellK rfl (Heap.IsCell.keeps (by with_reducible assumption) (Fr.keep (by assumption))) ?_ | refine ldCC (by with_reducible assumption) (by k_mem) (by with_reducible assumption) rfl ?_ | (refine' ldC (h₀ := _) ?k1 ?k2 ?_; (case k1 => assumption); (case k2 => ((try dsimp only); (repeat rw [if_neg (by decide)]); first | rfl | with_reducible assumption))) | refine ldB (fr_cx (by assumption) (by assumption)) (by k_is) (by boot_by_name) (by decide) ?_))) | walk1 | (dsimp only; (first | ((with_reducible show wpAny _ _ (eval (PySem.Expr.Name _ _) _) _ _ _); with_reducible (k_dflt (first | refine ldVarK (Fr.ns (by assumption)) (by with_reducible assumption) ?_ | refine ldCellK rfl (Heap.IsCell.keeps (by with_reducible assumption) (Fr.keep (by assumption))) ?_ | refine ldCC (by with_reducible assumption) (by k_mem) (by with_reducible assumption) rfl ?_ | (refine' ldC (h₀ := _) ?k1 ?k2 ?_; (case k1 => assumption); (case k2 => ((try dsimp only); (repeat rw [if_neg (by decide)]); first | rfl | with_reducible assumption))) | refine ldB (fr_cx (by assumption) (by assumption)) (by k_is) (by boot_by_name) (by decide) ?_))) | walk1)) | (leave1; (try dsimp only)) | fail "no step"))
    refine ⟨vals.toArray.size, _, fun j ys tl => tl = [] ∧ ys.length ≤ j ∧ LessSo xi xss j ys, P, iterOf_list rfl hlg, ?_, ⟨rfl, Nat.le_refl _, rfl⟩, fun i ys tl h => h.2.1, ?_, ?_⟩
    · rw [hvs]; exact Nat.le_trans hz (by decide)
    · rintro j v ys tl CC m₃ h₃ tk₃ I2 oI2 DD hj hP ⟨rfl, hlen, hB⟩ F5 N5 hm off2 hID2
      obtain ⟨a, Va, xs, rfl, hla, hxa, hxj⟩ := hrg.item (by simpa using hP)
      dsimp only at F5 N5
      refine wpAny_tests_one ?_
      (repeat' (first | (k_unfold; (try dsimp only)) | (k_end; kc_close) | ((with_reducible show wpAny _ _ (compareOp PySem.CmpOp.Lt (PySem.Value.ref _) (PySem.Value.ref _)) _ _ _); with_reducible (k_dflt (refine lt_S (isl_keep (by with_reducible assumption) (by with_reducible assumption)) (isl_keep (by with_reducible assumption) (by with_reducible assumption)) (by with_reducible assumption) (by with_reducible assumption) (Rm.lt (Rm.deeper (by assumption))) ?_))) | ((with_reducible show wpAny _ _ (subscriptTail (PySem.Expr.Name ..) (PySem.Expr.Name ..) (PySem.Value.ref _) (PySem.Value.int _ _)) _ _ _); with_reducible (k_dflt (refine item_at (isl_keep (by with_reducible assumption) (by with_reducible assumption)) (by omega) (by with_reducible assumption) ?_))) | ((with_reducible show wpAny _ _ (eval (PySem.Expr.Name _ _) _) _ _ _); with_reducible (k_dflt (first | refine ldVarK (Fr.ns (by assumption)) (by with_reducible assumption) ?_ | refine ldCellK rfl (Heap.IsCell.keeps (by with_reducible assumption) (Fr.keep (by assumption))) ?_ | refine ldCC (by with_reducible assumption) (by k_mem) (by with_reducible assumption) rfl ?_ | (refine' ldC (h₀ := _) ?k1 ?k2 ?_; (case k1 => assumption); (case k2 => ((try dsimp only); (repeat rw [if_neg (by decide)]); first | rfl | with_reducible assumption))) | refine ldB (fr_cx (by assumption) (by assumption)) (by k_is) (by boot_by_name) (by decide) ?_))) | walk1 | (dsimp only; (first | ((with_reducible show wpAny _ _ (compareOp PySem.CmpOp.Lt (PySem.Value.ref _) (PySem.Value.ref _)) _ _ _); with_reducible (k_dflt (refine lt_S (isl_keep (by with_reducible assumption) (by with_reducible assumption)) (isl_keep (by with_reducible assumption) (by with_reducible assumption)) (by with_reducible assumption) (by with_reducible assumption) (Rm.lt (Rm.deeper (by assumption))) ?_))) | ((with_reducible show wpAny _ _ (subscriptTail (PySem.Expr.Name ..) (PySem.Expr.Name ..) (PySem.Value.ref _) (PySem.Value.int _ _)) _ _ _); with_reducible (k_dflt (refine item_at (isl_keep (by with_reducible assumption) (by with_reducible assumption)) (by omega) (by with_reducible assumption) ?_))) | ((with_reducible show wpAny _ _ (eval (PySem.Expr.Name _ _) _) _ _ _); with_reducible (k_dflt (first | refine ldVarK (Fr.ns (by assumption)) (by with_reducible assumption) ?_ | refine ldCellK rfl (Heap.IsCell.keeps (by with_reducible assumption) (Fr.keep (by assumption))) ?_ | refine ldCC (by with_reducible assumption) (by k_mem) (by with_reducible assumption) rfl ?_ | (refine' ldC (h₀ := _) ?k1 ?k2 ?_; (case k1 => assumption); (case k2 => ((try dsimp only); (repeat rw [if_neg (by decide)]); first | rfl | with_reducible assumption))) | refine ldB (fr_cx (by assumption) (by assumption)) (by k_is) (by boot_by_name) (by decide) ?_))) | walk1)) | (leave1; (try dsimp only)) | fail "no step"))
      · exact elt_end F5 N5 (fun p hp => by cases hp) ⟨rfl, by simp only [List.length_append, List.length_singleton]; omega, hB.yes _ hxj (by assumption)⟩
      · exact elt_end F5 N5 (fun p hp => by cases hp) ⟨rfl, by omega, hB.no hxj (by assumption)⟩
    · rintro ys tl ⟨rfl, hlen, hB⟩ D2 g3 tk3 kg zg lg
      dsimp only at kg zg lg ⊢
      have F6 := fr_keeps F4 kg
      have hD2 := lg _ (.head _)
      have N6 : News s.heap s.heap.objs.size g3 [(D2, lst ys), (I, oI), (D, W.listOf V.toArray nn), (s.heap.objs.size + 1 + 1, ok2), (s.heap.objs.size + 1, ok0)] := fun p hp => by
        rcases List.mem_cons.mp hp with rfl | hp
        · exact ⟨hD2.1, by obtain ⟨oL, _, _, e, _⟩ := F4.ns; exact ne_of_none hD2.2 e, none_of F4.keep hD2.2⟩
        · exact news_keeps N4 kg p hp
      have hB' : ys.length = lessN xss xi := by
        unfold LessSo at hB
        rw [hvs, List.take_length] at hB; exact hB
      have hD2D : D2 ≠ D := ne_of_none hD2.2 (N4 _ (.tail _ (.head _))).1
      have hyz : (ys.toArray.size : Int) < 2 ^ 63 := by rw [List.size_toArray]; omega
      clear F4 N4 kg zg lg hck hcw hlg hrg hlig Cg hB
      (repeat' (first | (k_unfold; (try dsimp only)) | (k_end; kc_close) | ((with_reducible show wpAny _ _ (subscriptTail (PySem.Expr.Name ..) (PySem.Expr.Slice ..) (PySem.Value.ref _) (PySem.Value.ref _)) _ _ _); with_reducible (k_dflt (refine slice_upto (by with_reducible assumption) (by with_reducible assumption) (isl_keep (by with_reducible assumption) (by with_reducible assumption)) (by omega) ?_); intro _ _ _ _ _)) | ((with_reducible show wpAny _ _ (subscriptTail (PySem.Expr.Name ..) (PySem.Expr.Name ..) (PySem.Value.ref _) (PySem.Value.int _ _)) _ _ _); with_reducible (k_dflt (refine item_at (isl_keep (by with_reducible assumption) (by with_reducible assumption)) (by omega) (by with_reducible assumption) ?_))) | ((with_reducible show wpAny _ _ (PySem.call (PySem.Value.builtin "len") _ _) _ _ _); with_reducible (k_dflt (first | refine len_list (isl_keep (by with_reducible assumption) (by with_reducible assumption)) (by with_reducible assumption) ?_ | refine len_list (led_list (by with_reducible assumption) (.head _)) (by with_reducible assumption) ?_))) | ((with_reducible show wpAny _ _ (eval (PySem.Expr.Name _ _) _) _ _ _); with_reducible (k_dflt (first | refine ldVarK (Fr.ns (by assumption)) (by with_reducible assumption) ?_ | refine ldCellK rfl (Heap.IsCell.keeps (by with_reducible assumption) (Fr.keep (by assumption))) ?_ | refine ldCC (by with_reducible assumption) (by k_mem) (by with_reducible assumption) rfl ?_ | (refine' ldC (h₀ := _) ?k1 ?k2 ?_; (case k1 => assumption); (case k2 => ((try dsimp only); (repeat rw [if_neg (by decide)]); first | rfl | with_reducible assumption))) | refine ldB (fr_cx (by assumption) (by assumption)) (by k_is) (by boot_by_name) (by decide) ?_))) | walk1 | (dsimp only; (first | ((with_reducible show wpAny _ _ (subscriptTail (PySem.Expr.Name ..) (PySem.Expr.Slice ..) (PySem.Value.ref _) (PySem.Value.ref _)) _ _ _); with_reducible (k_dflt (refine slice_upto (by with_reducible assumption) (by with_reducible assumption) (isl_keep (by with_reducible assumption) (by with_reducible assumption)) (by omega) ?_); intro _ _ _ _ _)) | ((with_reducible show wpAny _ _ (subscriptTail (PySem.Expr.Name ..) (PySem.Expr.Name ..) (PySem.Value.ref _) (PySem.Value.int _ _)) _ _ _); with_reducible (k_dflt (refine item_at (isl_keep (by with_reducible assumption) (by with_reducible assumption)) (by omega) (by with_reducible assumption) ?_))) | ((with_reducible show wpAny _ _ (PySem.call (PySem.Value.builtin "len") _ _) _ _ _); with_reducible (k_dflt (first | refine len_list (isl_keep (by with_reducible assumption) (by with_reducible assumption)) (by with_reducible assumption) ?_ | refine len_list (led_list (by with_reducible assumption) (.head _)) (by with_reducible assumption) ?_))) | ((with_reducible show wpAny _ _ (eval (PySem.Expr.Name _ _) _) _ _ _); with_reducible (k_dflt (first | refine ldVarK (Fr.ns (by assumption)) (by with_reducible assumption) ?_ | refine ldCellK rfl (Heap.IsCell.keeps (by with_reducible assumption) (Fr.keep (by assumption))) ?_ | refine ldCC (by with_reducible assumption) (by k_mem) (by with_reducible assumption) rfl ?_ | (refine' ldC (h₀ := _) ?k1 ?k2 ?_; (case k1 => assumption); (case k2 => ((try dsimp only); (repeat rw [if_neg (by decide)]); first | rfl | with_reducible assumption))) | refine ldB (fr_cx (by assumption) (by assumption)) (by k_is) (by boot_by_name) (by decide) ?_))) | walk1)) | (leave1; (try dsimp only)) | fail "no step"))
      refine Stop.mk ?_
      rename Fr _ _ _ _ => F7
      rename News _ _ _ (_ :: _ :: _) => N7
      refine Does.fr0 (count_rows (led_list N7 (.head _)) (rows_take (RowsIn.keep hr F7.keep) i) (isl_keep hli F7) hVi (Rm.deeper (r0.le (d' := 5 + 1) (u' := 5 + 3) (by decide) (by decide))).uni) F7 N7 ?_
      rintro v' tl' g4 tk4 F8 N8 ⟨t', rfl⟩
      k_steps
      refine Stop.mk ?_
      have hN9 : News s.heap s.heap.objs.size g4 [(I, oI), (D, W.listOf V.toArray nn), (s.heap.objs.size + 1 + 1, ok2), (s.heap.objs.size + 1, ok0)] := fun p hp => N8 p (.tail _ (.tail _ hp))
      have hxr : rowAt xss i = xi := by unfold rowAt; rw [hxi]; rfl
      refine set_led (i := posN xss i) F8 hN9 (UpdF.tail (Ne.symm hID) (UpdF.head (fun p hp => ?_))) ?_ ?_ ?_ ?_
      · simp only [List.mem_cons, List.not_mem_nil, or_false] at hp
        rcases hp with rfl | rfl
        · exact Ne.symm hDk
        · exact Ne.symm hDw
      · unfold posN
        rw [hxr, List.size_toArray, hB']; omega
      · rw [hO.1]; exact pos_lt hi'
      · rw [hO.1]; omega
      · intro g5 F9 N9
        (try dsimp only at N9)
        k_steps
        refine turn_end F9 N9 ?_ ⟨hord, _, nn, ok2, _, rfl, hok2, hO.next hi' hvi fun k hk => pos_ne hk hi'⟩
        intro p hp
        simp only [List.mem_cons, List.not_mem_nil, or_false] at hp
        rcases hp with rfl | rfl | rfl
        · exact hID
        · exact Ne.symm hIk
        · exact off _ (.tail _ (.tail _ (.head _)))
  case done =>
    rintro h' tk' m' news' ⟨hord, V, nn, okk, c, rfl, hokk, hO⟩ F3 N3
    replace F3 : Fr s.heap s.heap.objs.size h' m' := F3
    replace N3 : News s.heap s.heap.objs.size h' [(D, W.listOf V.toArray nn), (s.heap.objs.size + 1 + 1, okk), (s.heap.objs.size + 1, ok0)] := N3
    (repeat' (first | (k_unfold; (try dsimp only)) | (k_end; kc_close) | ((with_reducible show wpAny _ _ (eval (PySem.Expr.Name _ _) _) _ _ _); with_reducible (k_dflt (first | refine ldVarK (Fr.ns (by assumption)) (by with_reducible assumption) ?_ | refine ldCellK rfl (Heap.IsCell.keeps (by with_reducible assumption) (Fr.keep (by assumption))) ?_ | refine ldCC (by with_reducible assumption) (by k_mem) (by with_reducible assumption) rfl ?_ | (refine' ldC (h₀ := _) ?k1 ?k2 ?_; (case k1 => assumption); (case k2 => ((try dsimp only); (repeat rw [if_neg (by decide)]); first | rfl | with_reducible assumption))) | refine ldB (fr_cx (by assumption) (by assumption)) (by k_is) (by boot_by_name) (by decide) ?_))) | walk1 | (dsimp only; (first | ((with_reducible show wpAny _ _ (eval (PySem.Expr.Name _ _) _) _ _ _); with_reducible (k_dflt (first | refine ldVarK (Fr.ns (by assumption)) (by with_reducible assumption) ?_ | refine ldCellK rfl (Heap.IsCell.keeps (by with_reducible assumption) (Fr.keep (by assumption))) ?_ | refine ldCC (by with_reducible assumption) (by k_mem) (by with_reducible assumption) rfl ?_ | (refine' ldC (h₀ := _) ?k1 ?k2 ?_; (case k1 => assumption); (case k2 => ((try dsimp only); (repeat rw [if_neg (by decide)]); first | rfl | with_reducible assumption))) | refine ldB (fr_cx (by assumption) (by assumption)) (by k_is) (by boot_by_name) (by decide) ?_))) | walk1)) | (leave1; (try dsimp only)) | fail "no step"))
    have hD := N3 _ (.head _)
    refine h _ [(D, W.listOf V.toArray nn)] _ _ F3.keep (fr_le F3) (fun p hp => ?_) ⟨D, V, nn, rfl, rfl, hO.1, fun k hk => hO.2 k (by rw [hvs]; exact hk)⟩
    rcases List.mem_cons.mp hp with rfl | hp
    · exact ⟨hD.1, hD.2.2⟩
    · cases hp
end Mine
end
/-! K8 -/
section
open PySem PySem.W PyProof.Rows PySem.Calls
set_option maxRecDepth 100000
set_option linter.unusedVariables false
namespace Mine
theorem Hp.pick {g h : Heap} {led led' : List (Addr × Obj)} (H : Hp g h led) (idx : List Nat) (hn : idx.Nodup) (he : led' = idx.filterMap (led[·]?)) : Hp g h led' := by
  subst he
  refine ⟨H.keep, fun p hp => ?_, ?_, H.size⟩
  · obtain ⟨i, _, e⟩ := List.mem_filterMap.mp hp
    exact H.mem p (List.mem_of_getElem? e)
  · rw [List.pairwise_filterMap]
    refine List.Pairwise.imp ?_ hn
    intro i j hij p hp q hq e
    have hp' := List.getElem?_eq_some_iff.mp hp
    have hq' := List.getElem?_eq_some_iff.mp hq
    obtain ⟨h1, rfl⟩ := hp'
    obtain ⟨h2, rfl⟩ := hq'
    have nd := List.pairwise_iff_getElem.mp H.nd
    rcases Nat.lt_or_gt_of_ne hij with h3 | h3
    · exact nd i j h1 h2 h3 e
    · exact nd j i h2 h1 h3 e.symm
theorem Hp.pick' {g h : Heap} {led : List (Addr × Obj)} (H : Hp g h led) (idx : List Nat) (hn : idx.Nodup) : Hp g h (idx.filterMap (led[·]?)) := H.pick idx hn rfl
theorem Hp.perm {g h : Heap} {led led' : List (Addr × Obj)} (H : Hp g h led) (p : led.Perm led') : Hp g h led' :=
  ⟨H.keep, fun q hq => H.mem q (p.mem_iff.mpr hq), p.pairwise H.nd (fun h => Ne.symm h), H.size⟩
section
variable {M : Model} {A : Around} {E : Value → Shared → Prop} {g h : Heap} {led : List (Addr × Obj)} {gs : Array GenState} {d : Drawn} {t : Nat} {os : OsState} {mg : Str → Option Value}
theorem hp_storeCls {env : Env} {name : Str} {v : Value} {a : Addr} {es es' : List DictEntry} {n n' : Nat} {j : Nat} {Q : Unit → Shared → Prop} (H : Hp g h led) (hj : led[j]? = some (a, dictOf es n)) (hk : env.scope.kind = .class) (ha : env.locals = a)
    (hn : env.kindOf name = some .local ∨ (env.kindOf name = none ∧ compilersOwnNames.contains name = true)) (hl : (getL name es).isSome = true)
    (e : (putL name (PyData.keyHash M.w.params name) (.str name t) v es, putN name es n) = (es', n'))
    (q : ∀ h', Hp g h' (led.set j (a, dictOf es' n')) → Q () ⟨h', gs, d, t + 1, os⟩) : wpAny M A (storeName env name v) Q E ⟨h, gs, d, t, os⟩ := by
  have base : wpAny M A (localSet env name v) Q E ⟨h, gs, d, t, os⟩ := by
    unfold localSet
    rw [ha]
    refine wpAny_bind (wpAny_load (H.get (List.mem_of_getElem? hj)) ?_)
    rw [if_pos (by rfl)]
    exact hp_nsSet H hj hl e q
  unfold storeName
  rcases hn with hn | ⟨hn, hc⟩
  · rw [hn, if_neg (by simp)]
    dsimp only
    rw [hk, if_pos (by simp)]
    exact base
  · rw [hn, if_neg (by simp)]
    dsimp only
    rw [hk, hc]
    simp only [Env.blockKind, hk, Bool.not_true, Bool.and_false, Bool.or_false]
    have e1 : (ScopeKind.isAnnotationScope ScopeKind.class) = false := rfl
    simp only [e1, Bool.false_eq_true, if_false, beq_self_eq_true, Bool.true_or, if_true]
    rw [if_neg (by decide)]
    exact base
theorem hp_makeFnL {env : Env} {c P : Addr} {l : List Value} {pos : Pos} {fl : Nat} {name qual : Str} {params : Arguments} {body : List Stmt} {scope : Scope} {clos : List (Str × Addr)} {Q : Value → Shared → Prop} {i : Nat}
    (H : Hp g h led) (G : g.Ns mainGlobals mg) (B : BmAt g mg) (hi : led[i]? = some (P, tabObj l.toArray)) (C : CodeHd h c P) (hc : env.code = .ref c) (hge : env.globals = mainGlobals) (hcl : closureFor scope env = pure clos) (ht : TriplesOk l) (hnf : codeAmong pos l = none)
    (q : ∀ f c' oc vs tq ctv doc h' tk, Hp g h' (led.set i (P, tabObj (l ++ [rawInt pos.line, rawInt pos.col, .ref c']).toArray) ++ [(c', oc), (f, fnMade name qual params body scope clos doc ((mg "__name__").getD .none) c' ctv)]) → oc.data = .fields vs → vs[1]? = some (.str qual tq) → (∀ b o, b ≠ P → h.get? b = some o → h'.get? b = some o) → Q (.ref f) ⟨h', gs, d, tk, os⟩) :
    wpAny M A (makeFunction name qual params (.stmts body) scope env [] [] [] pos fl) Q E ⟨h, gs, d, t, os⟩ :=
  hp_makeFn H G B hi C hc hge hcl (by simpa using ht) (by simpa using hnf) fun f c' oc vs tq ctv doc h' tk H' => q f c' oc vs tq ctv doc h' tk (Hp.perm (by simpa using H') ((List.Perm.swap _ _ _).trans (List.perm_append_comm (l₁ := [_, _]))))
theorem exec_cls {name : Str} {bases : List Expr} {body : List Stmt} {scope : Scope} {bind : Str} {statics : List Str} {pos : Pos} {env : Env} :
    exec (.ClassDef name bases [] body [] [] scope none bind statics pos) env = (do
      let decos ← evalAll (evalEach [] env)
      standAt pos
      buildClassGuard env
      let c ← holding decos do
        let a ← evalArgs (.builtin "__build_class__") false (backTo pos (starEach bases env)) (backToKw pos (keywordEach [] env))
        standAt pos
        holding (a.pos ++ a.kw.map (·.2)) (buildClass name (qualnameIn env name bind) a.pos a.kw body scope statics (firstLineOf [] pos) env pos none)
      let c ← decorate (decos.zip (([] : List Expr).map (·.pos))).reverse c
      standAt pos
      bindName env bind c
      pure .next) := rfl
end
end Mine
end
/-! K10 -/
section
open PySem PySem.W PyProof.Rows PySem.Calls
set_option maxRecDepth 100000
set_option linter.unusedVariables false
namespace Mine
/-- the class as a part of the heap -/
noncomputable def kf (K ns bT D : Addr) (tk q1 k2 : Tok) (es : List DictEntry) (m : Nat) : Frag := [(K, clsK K ns bT tk q1 false), (ns, dictOf es m), (D, descK K k2)]
structure Kf (K ns D fi fl : Addr) (es : List DictEntry) : Prop where
  n1 : ns ≠ K
  n2 : D ≠ K
  n3 : D ≠ ns
  g1 : getL "__init__" es = some (some (.ref fi))
  g2 : getL "__lt__" es = some (some (.ref fl))
  g3 : getL "obj" es = some (some (.ref D))
  g4 : getL "__setattr__" es = some none
  g5 : getL "__getattribute__" es = some none
  g6 : getL "__getattr__" es = some none
section
variable {K ns bT D fi fl : Addr} {tk q1 k2 : Tok} {es : List DictEntry} {m : Nat}
theorem kl_K : (kf K ns bT D tk q1 k2 es m).lookup K = some (clsK K ns bT tk q1 false) := by simp [kf, List.lookup]
theorem kl_ns (x : Kf K ns D fi fl es) : (kf K ns bT D tk q1 k2 es m).lookup ns = some (dictOf es m) := by
  have : (ns == K) = false := beq_false_of_ne x.n1
  simp [kf, List.lookup, this]
theorem kl_D (x : Kf K ns D fi fl es) : (kf K ns bT D tk q1 k2 es m).lookup D = some (descK K k2) := by
  have h1 : (D == K) = false := beq_false_of_ne x.n2
  have h2 : (D == ns) = false := beq_false_of_ne x.n3
  simp [kf, List.lookup, h1, h2]
theorem k_own (x : Kf K ns D fi fl es) (name : Str) : ownIn (kf K ns bT D tk q1 k2 es m) name (.ref K) = getL name es := by
  unfold ownIn; dsimp only; rw [kl_K]; dsimp only; unfold nsIn; rw [kl_ns x]; rfl
theorem k_find {name : Str} {v : Value} (x : Kf K ns D fi fl es) (h : getL name es = some (some v)) : findIn (kf K ns bT D tk q1 k2 es m) (.ref K) name = some (some v) := by
  unfold findIn; dsimp only; rw [kl_K]
  show alongIn _ name [.ref K, .type "object"] = _
  unfold alongIn; rw [k_own x, h]
theorem k_findO {name : Str} {r : Option Value} (x : Kf K ns D fi fl es) (h : getL name es = some none) (ho : fastBuiltinOwn "object" name = r) : findIn (kf K ns bT D tk q1 k2 es m) (.ref K) name = some r := by
  unfold findIn; dsimp only; rw [kl_K]
  show alongIn _ name [.ref K, .type "object"] = _
  unfold alongIn; rw [k_own x, h]
  dsimp only
  unfold alongIn ownIn alongIn
  dsimp only
  rw [ho]
  cases r <;> rfl
theorem k_typeK : typeIn (kf K ns bT D tk q1 k2 es m) (.ref K) = some (.type "type") := by unfold typeIn; dsimp only; rw [kl_K]; rfl
theorem k_typeD (x : Kf K ns D fi fl es) : typeIn (kf K ns bT D tk q1 k2 es m) (.ref D) = some (.type "member_descriptor") := by unfold typeIn; dsimp only; rw [kl_D x]; rfl
theorem k_cls : clsIn (kf K ns bT D tk q1 k2 es m) K = some ⟨"K", [.type "object"], [.ref K, .type "object"], ns, "cmp_to_key.<locals>.K", false, ["obj"], [], false, none, false⟩ := by unfold clsIn; rw [kl_K]
theorem k_makes : makesIn (kf K ns bT D tk q1 k2 es m) K = true := by
  have e1 : specialIn (kf K ns bT D tk q1 k2 es m) (.ref K) "__call__" = some (some (.builtin "type.__call__")) := by unfold specialIn; rw [k_typeK]; kernel_rfl
  have e2 : instIn (kf K ns bT D tk q1 k2 es m) (.ref K) (.type "type") = some true := by unfold instIn; rw [k_typeK]; kernel_rfl
  unfold makesIn
  rw [kl_K]
  dsimp only
  rw [e1, e2]
  simp
theorem k_set (x : Kf K ns D fi fl es) : findIn (kf K ns bT D tk q1 k2 es m) (.ref K) "__setattr__" = some (some (.builtin "object.__setattr__")) := k_findO x x.g4 (by kernel_rfl)
theorem k_plain (x : Kf K ns D fi fl es) (name : Str) : plainGet (kf K ns bT D tk q1 k2 es m) K name = true := by
  unfold plainGet
  rw [k_findO x x.g5 (r := some (.builtin "object.__getattribute__")) (by kernel_rfl), k_findO x x.g6 (r := none) (by kernel_rfl)]
  simp
theorem k_over : plainOver (kf K ns bT D tk q1 k2 es m) K = true := by unfold plainOver; rw [k_cls]; rfl
theorem k_takes (x : Kf K ns D fi fl es) : takesIn (kf K ns bT D tk q1 k2 es m) (.ref D) = some true := by
  have e : specialIn (kf K ns bT D tk q1 k2 es m) (.ref D) "__set__" = some (some (.builtin "member_descriptor.__set__")) := by unfold specialIn; rw [k_typeD x]; kernel_rfl
  unfold takesIn; rw [e]
theorem k_get (x : Kf K ns D fi fl es) : specialIn (kf K ns bT D tk q1 k2 es m) (.ref D) "__get__" = some (some (.builtin "member_descriptor.__get__")) := by unfold specialIn; rw [k_typeD x]; kernel_rfl
theorem k_taker (x : Kf K ns D fi fl es) : takerIn (kf K ns bT D tk q1 k2 es m) K "obj" = some (some (.ref D)) := by
  unfold takerIn; rw [k_find x x.g3]
  show (takesIn _ (.ref D)).map _ = _
  rw [k_takes x]; rfl
theorem k_slot (x : Kf K ns D fi fl es) : slotIn (kf K ns bT D tk q1 k2 es m) D K = some 0 := by
  unfold slotIn recIn
  rw [kl_D x, k_cls]
  simp [rawInt]
theorem kf_in {h : Heap} (a : h.get? K = some (clsK K ns bT tk q1 false)) (b : h.get? ns = some (dictOf es m)) (c : h.get? D = some (descK K k2)) : (kf K ns bT D tk q1 k2 es m).In h := by
  intro p o e
  unfold kf at e
  rw [List.lookup_cons] at e
  split at e
  · rename_i q; cases e; rw [eq_of_beq q]; exact a
  · rw [List.lookup_cons] at e
    split at e
    · rename_i q; cases e; rw [eq_of_beq q]; exact b
    · rw [List.lookup_cons] at e
      split at e
      · rename_i q; cases e; rw [eq_of_beq q]; exact c
      · cases e
end
end Mine
end
/-! K11 -/
section
open PySem PySem.W PyProof.Rows PySem.Calls
set_option maxRecDepth 100000
set_option linter.unusedVariables false
namespace Mine
noncomputable abbrev twoParams (x y : String) (a b : Pos) : Arguments := { posonlyargs := [], args := [{ arg := x, annotation := none, pos := a }, { arg := y, annotation := none, pos := b }], vararg := none, kwonlyargs := [], kw_defaults := [], kwarg := none, defaults := [] }
noncomputable abbrev initScope : Scope := { kind := .function, names := [("self", .local), ("obj", .local)], isGenerator := false, isCoroutine := false }
noncomputable abbrev initBody (p1 p2 p3 p4 : Pos) : List Stmt := [.Assign [.Attribute (.Name "self" p1) "obj" p2] (.Name "obj" p3) p4]
noncomputable abbrev ltScope : Scope := { kind := .function, names := [("self", .local), ("other", .local), ("mycmp", .free)], isGenerator := false, isCoroutine := false }
noncomputable abbrev ltBody (p1 p2 p3 p4 p5 p6 p7 p8 p9 : Pos) (k : Nat) : List Stmt := [.Return (some (.Compare (.Call (.Name "mycmp" p1) [.Attribute (.Name "self" p2) "obj" p3, .Attribute (.Name "other" p4) "obj" p5] [] p6) [.Lt] [.Constant (.int 0) k p7] p8)) p9]
noncomputable abbrev instK (K dx : Addr) (v : Value) : Obj := ⟨.ref K, some dx, .plain, #[some v]⟩
section
variable {w : World} {A : Around} {s : Shared} {K ns bT D fi fl : Addr} {tk q1 k2 : Tok} {es : List DictEntry} {m : Nat}
theorem kmake_ok {x : Str} {t : Tok} {qi : Str} {a b p1 p2 p3 p4 : Pos} {doc pm ct : Value} {ci : Addr} (C : Cx w s.heap) (r0 : Rm A 12 120) (X : (kf K ns bT D tk q1 k2 es m).In s.heap) (Y : Kf K ns D fi fl es)
    (hfi : s.heap.get? fi = some (fnMade "__init__" qi (twoParams "self" "obj" a b) (initBody p1 p2 p3 p4) initScope [] doc pm ci ct)) (hci : s.heap.CodeRec (.ref ci) qi) :
    Does w A (call (.ref K) [.str x t]) s (fun v tl => ∃ a dx, v = .ref a ∧ tl = [(a, instK K dx (.str x t)), (dx, emptyDict)]) := by
  intro Q E h
  have hd := r0.dep
  have hu := r0.uni
  obtain ⟨hh, g, d, tks, os⟩ := s
  obtain ⟨X0, p, loose, mean, mg, mb, T⟩ := C
  dsimp only at X X0 T hfi hci
  have bf : ∀ self, Looks (model prog w) hh (bindSpecial (.ref fi) self) (.ref fi, [self]) := fun self => by
    unfold bindSpecial
    exact ((Looks.ld hfi).andThen .now).andThen (Looks.of_pure (by kernel_rfl))
  refine wpAny_call (make_core (makes_of X k_makes) (looks_findIn X (k_find Y Y.g1)) bf (.inl rfl) ?_)
  have k1 : Keeps hh ((hh.push emptyDict).push (instObj K hh.objs.size)) := fun b o e => Heap.get?_push_of_some _ (Heap.get?_push_of_some _ e)
  have hx0 : ((hh.push emptyDict).push (instObj K hh.objs.size)).get? (hh.objs.size + 1) = some (instObj K hh.objs.size) := by heap_get
  have hdx : ((hh.push emptyDict).push (instObj K hh.objs.size)).get? hh.objs.size = some emptyDict := Heap.get?_push_of_some _ (Heap.get?_push_size _ rfl)
  have hsz : ((hh.push emptyDict).push (instObj K hh.objs.size)).objs.size = hh.objs.size + 2 := by simp only [Heap.size_push]
  refine codeAny_call_def (binds := [("self", .ref (hh.objs.size + 1)), ("obj", .str x t)]) (by show A.depth + 1 < _; omega) (k1 _ _ hfi) rfl (T.nolimit.keeps k1) (hci.keeps k1) rfl (BindsTo.of_eq rfl) (by show ∀ x ∈ initScope.names, x.2 ≠ .cell; decide) (locs rfl) (fun h₁ hns hk₁ => ?_) rfl rfl rfl
  dsimp only at hns hk₁ ⊢
  generalize hL : ((hh.push emptyDict).push (instObj K hh.objs.size)).objs.size = L at *
  have F : Fr hh L h₁ _ := ⟨hns, fun b o e => hk₁ b o (k1 b o e), by omega⟩
  have N : News hh L h₁ [(hh.objs.size + 1, instObj K hh.objs.size), (hh.objs.size, emptyDict)] := fun p hp => by
    rcases List.mem_cons.mp hp with rfl | hp
    · exact ⟨hk₁ _ _ hx0, (fun q => by have q' : @Eq Nat (hh.objs.size + 1) L := q; omega), Heap.get?_none_of_le (Nat.le_succ _)⟩
    · rcases List.mem_cons.mp hp with rfl | hp
      · exact ⟨hk₁ _ _ hdx, (fun q => by have q' : @Eq Nat hh.objs.size L := q; omega), Heap.get?_none_of_le (Nat.le_refl _)⟩
      · cases hp
  have I : InstAt h₁ (hh.objs.size + 1) (instObj K hh.objs.size) K (some emptyDict) := InstAt.of_news N (.head _) (.tail _ (.head _))
  refine wpAny_execs_cons (plainObj_wpAny_Assign_Attribute ?_)
  refine ld (s := ⟨h₁, g, d, _, os⟩) F rfl (ld (s := ⟨h₁, g, d, _, os⟩) F rfl ?_)
  refine set_slot (s := ⟨h₁, g, d, _, os⟩) F X N I (k_set Y) k_over (k_taker Y) (k_typeD Y) (k_slot Y) (by decide) rfl rfl (.head (fun p hp => by rcases List.mem_cons.mp hp with rfl | hp; exact (fun q => by have q' : @Eq Nat hh.objs.size (hh.objs.size + 1) := q; omega); cases hp)) fun h' F' N' => ?_
  refine wpAny_execs_nil ?_
  refine ⟨rfl, ?_⟩
  exact h _ [(hh.objs.size + 1, instK K hh.objs.size (.str x t)), (hh.objs.size, emptyDict)] _ _ F'.keep (fr_le F') (news_led N') ⟨_, _, rfl, rfl⟩
end
end Mine
end
/-! K12 -/
section
open PySem PySem.W PyProof.Rows PySem.Calls
set_option maxRecDepth 100000
set_option linter.unusedVariables false
namespace Mine
section
variable {w : World} {A : Around} {s : Shared} {K ns bT D fi fl : Addr} {tk q1 k2 : Tok} {es : List DictEntry} {m : Nat}
theorem ld_free {M : Model} {A : Around} {E : Value → Shared → Prop} {s : Shared} {env : Env} {name : Str} {c : Addr} {v : Value} {Q : Value → Shared → Prop} (hk : env.scope.kind = .function) (hl : env.kindOf name = some .free) (hn : (name == ("__classdict__" : Str)) = false) (hc : env.cells.lookup name = some c)
    (hv : s.heap.IsCell c (some v)) (h : Q v s) : wpAny M A (loadName env name) Q E s := by
  obtain ⟨o, ho, hd⟩ := hv
  unfold loadName
  simp only [Env.blockKind, hk, hl, ScopeKind.isAnnotationScope, Bool.false_and, Bool.false_eq_true, if_false, hn]
  unfold cellOf
  rw [hc]
  refine wpAny_bind (wpAny_pure ?_)
  unfold cellGet
  refine wpAny_bind (wpAny_bind (wpAny_load ho ?_))
  rw [hd]
  exact wpAny_pure (wpAny_pure h)
theorem inst_keeps {h h' : Heap} {x C : Addr} {ox : Obj} {od : Option Obj} (I : InstAt h x ox C od) (k : Keeps h h') : InstAt h' x ox C od := by
  obtain ⟨a, b, c, d⟩ := I
  refine ⟨k _ _ a, b, c, ?_⟩
  cases e1 : ox.dict <;> cases od <;> simp only [e1] at d ⊢
  exact k _ _ d
set_option maxHeartbeats 8000000 in
theorem klt_body {x y : Str} {t u : Tok} {ql : Str} {a b p1 p2 p3 p4 p5 p6 p7 p8 p9 : Pos} {k : Nat} {doc pm ct : Value} {cl cc ia ib dx dy : Addr} (C : Cx w s.heap) (r0 : Rm A 30 300) (X1 : (kf K ns bT D tk q1 k2 es m).In s.heap) (Y : Kf K ns D fi fl es)
    (hfl : s.heap.get? fl = some (fnMade "__lt__" ql (twoParams "self" "other" a b) (ltBody p1 p2 p3 p4 p5 p6 p7 p8 p9 k) ltScope [("mycmp", cc)] doc pm cl ct)) (hcl : s.heap.CodeRec (.ref cl) ql) (hcc : s.heap.IsCell cc (some (.ref 181)))
    (Ia : InstAt s.heap ia (instK K dx (.str x t)) K (some emptyDict)) (Ib : InstAt s.heap ib (instK K dy (.str y u)) K (some emptyDict)) (hx : x.length ≤ 1000) (hy : y.length ≤ 1000) :
    Does w A (call (.ref fl) [.ref ia, .ref ib]) s (fun v tl => v = .bool (decide (cmpL (Txt.split x "/") (Txt.split y "/") < 0))) := by
  intro Q E h
  obtain ⟨ah, ad, af, ag, au⟩ := A
  obtain rfl : ah = none := r0.hh
  have hd := r0.dep
  dsimp only at hd
  obtain ⟨X, p, loose, mean, mg, mb, T⟩ := id C
  refine wpAny_call (codeAny_call_def (binds := [("self", .ref ia), ("other", .ref ib)]) (by show ad < _; omega) hfl rfl T.nolimit hcl rfl (BindsTo.of_eq rfl) (by show ∀ x ∈ ltScope.names, x.2 ≠ .cell; decide) (locs rfl) (fun h₁ hns hk₁ => ?_) rfl rfl rfl)
  dsimp only at hns hk₁ ⊢
  have F : Fr s.heap s.heap.objs.size h₁ _ := ⟨hns, hk₁, Nat.le_refl _⟩
  have N : News s.heap s.heap.objs.size h₁ [] := News.nil
  show wpAny (model prog w) (Around.deeper _ (envX ql ltScope s.heap.objs.size fl (.ref cl) [("mycmp", cc)])) (execs _ (envX ql ltScope s.heap.objs.size fl (.ref cl) [("mycmp", cc)])) _ _ _
  refine wpAny_execs_cons (wpAny_Return_some (wpAny_Compare1 ?_))
  refine wpAny_Call_ofName (wpAny_Name (ld_free rfl rfl (by decide) rfl (hcc.keeps F.keep) ?_))
  refine callWith_P (P := fun h => Keeps s.heap h) (fun h k => kept_K C (by k_is) k) ?_
  refine spliced_more (Attribute_name (wpAny_Name (wpAny_loadName_local rfl rfl F.ns rfl (get_slot F X1 (inst_keeps Ia F.keep) (k_plain Y _) (by unfold isClsIn; rw [k_cls]; rfl) (k_find Y Y.g3) (k_get Y) (k_takes Y) (k_slot Y) rfl rfl ?_))))
  refine spliced_more (Attribute_name (wpAny_Name (wpAny_loadName_local rfl rfl F.ns rfl (get_slot F X1 (inst_keeps Ib F.keep) (k_plain Y _) (by unfold isClsIn; rw [k_cls]; rfl) (k_find Y Y.g3) (k_get Y) (k_takes Y) (k_slot Y) rfl rfl ?_))))
  refine spliced_none ⟨F.keep, ?_⟩
  refine Does.fr0 (compared_ok (cx_of X T F) (Rm.deeper (r0.le (by decide) (by decide))) hx hy) F N ?_
  rintro v' tl' h' tk' F' N' ⟨t', rfl⟩
  refine wpAny_Constant_int ?_
  refine PyProof.Rows.lt_int ?_
  exact h _ [] _ _ F'.keep (fr_le F') Led.nil rfl
theorem klt_key {x y : Str} {t u : Tok} {ql : Str} {a b p1 p2 p3 p4 p5 p6 p7 p8 p9 : Pos} {k : Nat} {doc pm ct : Value} {cl cc ia ib dx dy : Addr} (C : Cx w s.heap) (r0 : Rm A 40 400) (X1 : (kf K ns bT D tk q1 k2 es m).In s.heap) (Y : Kf K ns D fi fl es)
    (hfl : s.heap.get? fl = some (fnMade "__lt__" ql (twoParams "self" "other" a b) (ltBody p1 p2 p3 p4 p5 p6 p7 p8 p9 k) ltScope [("mycmp", cc)] doc pm cl ct)) (hcl : s.heap.CodeRec (.ref cl) ql) (hcc : s.heap.IsCell cc (some (.ref 181)))
    (Ia : InstAt s.heap ia (instK K dx (.str x t)) K (some emptyDict)) (Ib : InstAt s.heap ib (instK K dy (.str y u)) K (some emptyDict)) (hx : x.length ≤ 1000) (hy : y.length ≤ 1000) :
    Does w A (keyLt' oneType' (.ref ia) (.ref ib)) s (fun v tl => v = (decide (cmpL (Txt.split x "/") (Txt.split y "/") < 0))) := by
  intro Q E h
  have hbody := klt_body C (A := A) (r0.le (by decide) (by decide)) X1 Y hfl hcl hcc Ia Ib hx hy
  have hu : A.units < cLine := by have := r0.uni; omega
  have La : Looks (model prog w) s.heap (typeOf (.ref ia)) (.ref K) := Ia.type
  have Lb : Looks (model prog w) s.heap (typeOf (.ref ib)) (.ref K) := Ib.type
  have Ll : Looks (model prog w) s.heap (typeLookup (.ref K) "__lt__") (some (.ref fl)) := looks_findIn X1 (k_find Y Y.g2)
  have bf : Looks (model prog w) s.heap (bindSpecial (.ref fl) (.ref ia)) (.ref fl, [.ref ia]) := by
    unfold bindSpecial
    exact ((Looks.ld hfl).andThen .now).andThen (Looks.of_pure (by kernel_rfl))
  obtain ⟨hh, g, d, tks, os⟩ := s
  dsimp only at La Lb Ll bf
  have hbi : ∀ (Q : Option (Value × List Value) → Shared → Prop) (E : Value → Shared → Prop), Q (some (.ref fl, [.ref ia])) ⟨hh, g, d, tks, os⟩ → wpAny (model prog w) A (bindSpecialIfBound? (.ref ia) "__lt__") Q E ⟨hh, g, d, tks, os⟩ := fun Q E q => by
    unfold bindSpecialIfBound? specialOf
    refine wpAny_bind (wpAny_bind (La.at (Ll.at ?_)))
    refine wpAny_bind (wpAny_askSetting ?_)
    refine wpAny_ite ?_
    split
    · exact wpAny_bind (bf.at (wpAny_pure q))
    · exact wpAny_tryCatch (wpAny_bind (bf.at (wpAny_pure q)))
  rw [keyLt'_oneType, oneLt'_eq]
  simp only [if_true]
  refine wpAny_bind (wpAny_cRoomFor hu ?_)
  refine wpAny_bind ?_
  simp only [callSpecialIfBound?]
  refine wpAny_holding (wpAny_bind (hbi _ _ ?_))
  refine wpAny_bind (hbody _ _ ?_)
  rintro v9 tl9 h9 tk9 kk9 zz9 ll9 rfl
  exact wpAny_pure (wpAny_truthy_bool (h _ _ _ _ kk9 zz9 ll9 rfl))
end
end Mine
end
/-! K9 -/
section
open PySem PySem.W PyProof.Rows PySem.Calls
set_option maxRecDepth 100000
set_option linter.unusedVariables false
namespace Mine
noncomputable def CodeOb (o : Obj) (c P : Addr) : Prop :=
  ∃ vs file tf flags tg inF text tt, o.cls = .type "code" ∧ o.data = .fields vs ∧ vs[11]? = some (.ref P) ∧ vs.getD 11 .none = .ref P ∧ vs.getD 18 .none = .str file tf ∧ vs.getD 7 .none = .int flags tg ∧ vs.getD 9 .none = .bool inF ∧ vs.getD 10 .none = .int text tt ∧ c ≠ P
theorem CodeOb.hd {h : Heap} {o : Obj} {c P : Addr} (x : CodeOb o c P) (e : h.get? c = some o) : CodeHd h c P :=
  let ⟨vs, file, tf, flags, tg, inF, text, tt, r⟩ := x; ⟨o, vs, file, tf, flags, tg, inF, text, tt, e, r⟩
theorem code_of {g h : Heap} {led : List (Addr × Obj)} {o : Obj} {c P : Addr} (x : CodeHd h c P) (H : Hp g h led) (hm : (c, o) ∈ led) : CodeOb o c P := by
  obtain ⟨o', vs, file, tf, flags, tg, inF, text, tt, e, r⟩ := x
  rw [H.get hm] at e; cases e
  exact ⟨vs, file, tf, flags, tg, inF, text, tt, r⟩
theorem hide_hp {h : Heap} {P : Addr} {o : Obj} (hP : h.get? P = some o) : Hp (hideAll h [P]) h [(P, o)] where
  keep := fun b x e => of_hideAll _ e
  mem := fun p hp => by
    rcases List.mem_cons.mp hp with rfl | hp
    · exact ⟨hP, hideAll_none _ (.head _)⟩
    · cases hp
  nd := List.pairwise_cons.mpr ⟨(fun _ h => by cases h), List.Pairwise.nil⟩
  size := Nat.le_of_eq (hideAll_size _ _)

theorem Hp.apart {g h : Heap} {led : List (Addr × Obj)} (H : Hp g h led) {i j : Nat} {p q : Addr × Obj} (hi : led[i]? = some p) (hj : led[j]? = some q) (hij : i ≠ j) : p.1 ≠ q.1 := by
  obtain ⟨h1, rfl⟩ := List.getElem?_eq_some_iff.mp hi
  obtain ⟨h2, rfl⟩ := List.getElem?_eq_some_iff.mp hj
  have nd := List.pairwise_iff_getElem.mp H.nd
  rcases Nat.lt_or_gt_of_ne hij with h3 | h3
  · exact nd i j h1 h2 h3
  · exact Ne.symm (nd j i h2 h1 h3)
/-- what is known of the class that cmp_to_key makes -/
structure KSpec (w : World) (kl : List (Addr × Obj)) (K : Addr) : Prop where
  make : ∀ (A : Around) (s : Shared) (x : Str) (t : Tok), (∀ p ∈ kl, s.heap.get? p.1 = some p.2) → Cx w s.heap → Rm A 12 120 →
    Does w A (call (.ref K) [.str x t]) s (fun v tl => ∃ a dx, v = .ref a ∧ tl = [(a, instK K dx (.str x t)), (dx, emptyDict)])
  lt : ∀ (A : Around) (s : Shared) (a b dx dy : Addr) (x y : Str) (t u : Tok), (∀ p ∈ kl, s.heap.get? p.1 = some p.2) → Cx w s.heap → Rm A 40 400 →
    s.heap.get? a = some (instK K dx (.str x t)) → s.heap.get? dx = some emptyDict → s.heap.get? b = some (instK K dy (.str y u)) → s.heap.get? dy = some emptyDict → x.length ≤ 1000 → y.length ≤ 1000 →
    Does w A (keyLt' oneType' (.ref a) (.ref b)) s (fun v _ => v = (decide (cmpL (Txt.split x "/") (Txt.split y "/") < 0)))
theorem inst_at {h : Heap} {K a dx : Addr} {v : Value} (e1 : h.get? a = some (instK K dx v)) (e2 : h.get? dx = some emptyDict) : InstAt h a (instK K dx v) K (some emptyDict) := ⟨e1, rfl, rfl, e2⟩
theorem kspec_of {w : World} {kl : List (Addr × Obj)} {K ns bT D fi fl ci cl cc : Addr} {tk q1 k2 : Tok} {es : List DictEntry} {m : Nat} {qi ql : Str} {a b p1 p2 p3 p4 a' b' r1 r2 r3 r4 r5 r6 r7 r8 r9 : Pos} {k : Nat} {doc pm ct doc' pm' ct' : Value} {oi ol oc : Obj} {vi vl : Array Value} {ti tl : Tok} (Y : Kf K ns D fi fl es)
    (m1 : (K, clsK K ns bT tk q1 false) ∈ kl) (m2 : (ns, dictOf es m) ∈ kl) (m3 : (D, descK K k2) ∈ kl) (m4 : (fi, fnMade "__init__" qi (twoParams "self" "obj" a b) (initBody p1 p2 p3 p4) initScope [] doc pm ci ct) ∈ kl)
    (m5 : (fl, fnMade "__lt__" ql (twoParams "self" "other" a' b') (ltBody r1 r2 r3 r4 r5 r6 r7 r8 r9 k) ltScope [("mycmp", cc)] doc' pm' cl ct') ∈ kl) (m6 : (ci, oi) ∈ kl) (e6 : oi.data = .fields vi) (f6 : vi[1]? = some (.str qi ti)) (m7 : (cl, ol) ∈ kl) (e7 : ol.data = .fields vl) (f7 : vl[1]? = some (.str ql tl))
    (m8 : (cc, oc) ∈ kl) (e8 : oc.data = .cell (some (.ref 181))) : KSpec w kl K where
  make := fun A s x t hk C r => kmake_ok C r (kf_in (hk _ m1) (hk _ m2) (hk _ m3)) Y (hk _ m4) ⟨ci, oi, vi, ti, rfl, hk _ m6, e6, f6⟩
  lt := fun A s ia ib dx dy x y t u hk C r h1 h2 h3 h4 hx hy => klt_key C r (kf_in (hk _ m1) (hk _ m2) (hk _ m3)) Y (hk _ m5) ⟨cl, ol, vl, tl, rfl, hk _ m7, e7, f7⟩ ⟨oc, hk _ m8, e8⟩ (inst_at h1 h2) (inst_at h3 h4) hx hy
theorem cmp_fin {s h₁ h' h3 : Heap} {m : Str → Option Value} {led : List (Addr × Obj)} {oc oL : Obj} {ps : Array Value} (F : Fr s s.objs.size h₁ m) (N : News s s.objs.size h₁ [(s.objs.size + 1, oc)]) (hP : s.get? 136 = some (tabObj #[])) (H : Hp (hideAll h₁ [136]) h' led) (h13 : led[13]? = some (136, tabObj ps))
   (eL : (hideAll h₁ [136]).get? s.objs.size = some oL) (hs3 : Heap.SameBut s.objs.size h' h3) (hz : h'.objs.size ≤ h3.objs.size) :
   (∀ p ∈ [0, 1, 2, 7, 8, 14, 15].filterMap (led[·]?) ++ [(s.objs.size + 1, oc)], h3.get? p.1 = some p.2 ∧ s.get? p.1 = none) ∧ (∃ ps, h3.get? 136 = some (tabObj ps)) ∧ (∀ b o, b ≠ 136 → s.get? b = some o → h3.get? b = some o) ∧ s.objs.size ≤ h3.objs.size := by
  have hid : ∀ b o, b ≠ 136 → h₁.get? b = some o → (hideAll h₁ [136]).get? b = some o := fun b o hb e => hideAll_get _ e (by
    intro hm; rcases List.mem_cons.mp hm with q | hm; exact hb q; cases hm)
  have hnL : ∀ p ∈ led, p.1 ≠ s.objs.size := fun p hp q => by rw [← q, (H.mem p hp).2] at eL; cases eL
  have get3 : ∀ p ∈ led, h3.get? p.1 = some p.2 := fun p hp => hs3.extBut _ _ (hnL p hp) (H.mem p hp).1
  have lt136 : @LT.lt Nat _ 136 s.objs.size := Heap.lt_size hP
  refine ⟨fun p hp => ?_, ⟨ps, get3 _ (List.mem_of_getElem? h13)⟩, fun b o hb e => ?_, ?_⟩
  · rcases List.mem_append.mp hp with hp | hp
    · obtain ⟨i, hi, e⟩ := List.mem_filterMap.mp hp
      have hm := List.mem_of_getElem? e
      refine ⟨get3 p hm, ?_⟩
      have hne : p.1 ≠ 136 := H.apart e h13 (by intro q; subst q; simp at hi)
      cases e2 : s.get? p.1 with
      | none => rfl
      | some o =>
        have := hid _ _ hne (F.keep _ _ e2)
        rw [(H.mem p hm).2] at this; cases this
    · rcases List.mem_cons.mp hp with rfl | hp
      · have n := N _ (.head _)
        refine ⟨hs3.extBut _ _ n.2.1 (H.keep _ _ (hid _ _ ?_ n.1)), n.2.2⟩
        intro q
        have q' : @Eq Nat (s.objs.size + 1) 136 := q
        omega
      · cases hp
  · have hb2 : b ≠ s.objs.size := Nat.ne_of_lt (Heap.lt_size e)
    exact hs3.extBut _ _ hb2 (H.keep _ _ (hid _ _ hb (F.keep _ _ e)))
  · have h1 : s.objs.size ≤ h₁.objs.size := fr_le F
    have h2 : (hideAll h₁ [136]).objs.size ≤ h'.objs.size := H.size
    rw [hideAll_size] at h2
    exact Nat.le_trans h1 (Nat.le_trans h2 hz)
set_option maxHeartbeats 8000000 in
theorem cmp_ok {w : World} {A : Around} {s : Shared} {Q E : Value → Shared → Prop}
   (C : Cx w s.heap) (r0 : Rm A 10 100) (hP : s.heap.get? 136 = some (tabObj #[])) (hcd : CodeHd s.heap 140 136)
   (q : ∀ K kl h' tk, (∀ b o, b ≠ 136 → s.heap.get? b = some o → h'.get? b = some o) → s.heap.objs.size ≤ h'.objs.size → (∃ ps, h'.get? 136 = some (tabObj ps)) → (∀ p ∈ kl, h'.get? p.1 = some p.2 ∧ s.heap.get? p.1 = none) → KSpec w kl K → Q (.ref K) { s with heap := h', toks := tk }) :
   wpAny (model prog w) A (call (.ref 141) [.ref 181]) Q E s := by
  obtain ⟨ah, ad, af, ag, au⟩ := A
  obtain rfl : ah = none := r0.hh
  have hd := r0.dep
  dsimp only at hd
  refine enterC (binds := [("mycmp", .ref 181)]) C (by k_is) (by k_is) (by dsimp only; omega) (BindsTo.of_eq rfl) rfl (by decide) rfl rfl rfl (fun h₁ tk cells p loose mean mg mb F N Y X T => ?_)
  cases Y with
  | cons hc Y =>
  cases Y
  rename_i oc
  have hc : oc.data = .cell (some (.ref 181)) := hc
  have hcell : h₁.IsCell (s.heap.objs.size + 1) (some (.ref 181)) := ⟨_, (N _ (.head _)).1, hc⟩
  have hT : TabsAt [(140, 136)] h₁ := fun q hq => by
    rcases List.mem_cons.mp hq with rfl | hq
    · exact ⟨hcd.keeps F.keep, F.keep _ _ hP⟩
    · cases hq
  have T' := ghost_top hT (T.keeps F.keep)
  have X' := ghost_K hT (X.keeps F.keep) (by kernel_rfl)
  have H := hide_hp (F.keep _ _ hP)
  have hop : Looks (model prog w) (hideAll h₁ [136]) (nsGet cStatics "thirdparty.any") none := Looks.of_peek X' (by kernel_rfl)
  have B : BmAt (hideAll h₁ [136]) mg := T'.bmain
  have G : (hideAll h₁ [136]).Ns mainGlobals mg := T'.g
  have G2 : (hideAll h₁ [136]).Ns builtinsNs mb := T'.b
  have hnl : (hideAll h₁ [136]).NoLimit := T'.nolimit
  have hbc : Looks (model prog w) (hideAll h₁ [136]) (nsGet builtinsNs "__build_class__") (some (.builtin "__build_class__")) := fun A Q E s k q => wpAny_nsGet (G2.keeps k) (by rw [T'.builtins _ (by decide)]; exact q)
  have hob : Looks (model prog w) (hideAll h₁ [136]) (nsGet builtinsNs "object") (some (.type "object")) := fun A Q E s k q => wpAny_nsGet (G2.keeps k) (by rw [T'.builtins _ (by decide)]; exact q)
  have hmo : Looks (model prog w) (hideAll h₁ [136]) (nsGet mainGlobals "object") none := Looks.of_peek X' (by kernel_rfl)
  obtain ⟨vn, hvn⟩ : ∃ v, mg "__name__" = some v := by
    have e : (((nsIn (Mine.hd.heap_39 w.params) mainGlobals "__name__").bind id).isSome) = true := by kernel_rfl
    cases q : nsIn (Mine.hd.heap_39 w.params) mainGlobals "__name__" with
    | none => rw [q] at e; cases e
    | some r => cases r with
      | none => rw [q] at e; cases e
      | some v => exact ⟨v, mg_of X' G q⟩
  have hmn : Looks (model prog w) (hideAll h₁ [136]) (nsGet mainGlobals "__name__") (some vn) := fun A Q E s k q => wpAny_nsGet (G.keeps k) (by rw [hvn]; exact q)
  have hbf : Looks (model prog w) (hideAll h₁ [136]) (builtinsFor mainGlobals builtinsNs) builtinsNs := fun A Q E s k q => by
    obtain ⟨bm, ob, b1, b2, b3, b4, b5, b6⟩ := B
    exact wpAny_builtinsFor (G.keeps k) b1 b2 (k _ _ b3) b4 b5 b6 q
  have hcdg : CodeHd (hideAll h₁ [136]) 140 136 := (ghost_code hT).1
  have hdep : ∀ env, (Around.deeper { depth := ad, frames := af, guards := ag, units := au } env).depth < recursionLimit := fun env => by simp only [depth_deeper]; omega
  have hdep1 := hdep (envOfC "cmp_to_key" { kind := ScopeKind.function, names := [("mycmp", NameKind.cell), ("K", NameKind.local), ("object", NameKind.globalImplicit)], isGenerator := false, isCoroutine := false } s.heap.objs.size 141 (Value.ref 140))
  refine wpAny_execs_cons ?_
  rw [exec_cls]
  iterate 379 (first | (first | with_reducible refine wpAny_standAt ?_ | ((with_reducible show wpAny _ _ (nsGet mainGlobals _) _ _ _); refine Looks.at (Looks.keeps (by assumption) (Hp.keep (by assumption))) ?_) | ((with_reducible show wpAny _ _ (nsGet builtinsNs _) _ _ _); refine Looks.at (Looks.keeps (by assumption) (Hp.keep (by assumption))) ?_) | ((with_reducible show wpAny _ _ (builtinsFor _ _) _ _ _); refine Looks.at (Looks.keeps (by assumption) (Hp.keep (by assumption))) ?_) | ((with_reducible show wpAny _ _ (nsGet (Env.builtins _) _) _ _ _); refine Looks.at (Looks.keeps (by assumption) (Hp.keep (by assumption))) ?_) | ((with_reducible show wpAny _ _ (nsGet (Env.globals _) _) _ _ _); refine Looks.at (Looks.keeps (by assumption) (Hp.keep (by assumption))) ?_) | ((with_reducible show wpAny _ _ (builtinsFor (Env.globals _) (Env.builtins _)) _ _ _); refine Looks.at (Looks.keeps (by assumption) (Hp.keep (by assumption))) ?_) | ((with_reducible show wpAny _ _ (buildClassGuard _) _ _ _); refine Looks.at (Looks.keeps (by assumption) (Hp.keep (by assumption))) ?_) | ((with_reducible show wpAny _ _ (loadName _ _) _ _ _); refine Looks.at (Looks.keeps (by assumption) (Hp.keep (by assumption))) ?_) | ((with_reducible show wpAny _ _ (getAttr? _ _) _ _ _); refine prep_get (by assumption) (by assumption) ?_; intro b' h' H') | ((with_reducible show wpAny _ _ (call (Value.ref _) _ _) _ _ _); refine prep_call (by assumption) (.head _) ?_; intro n' h' H' l'; have hng' : n' ≠ sysModules := fun e9 => by (have h9 := l' (136, tabObj #[]) (by k_mem)); (rw [e9] at h9); exact absurd h9 (by decide)) | ((with_reducible show wpAny _ _ (enterFrame _) _ _ _); refine wpAny_enterFrame (Heap.NoLimit.keeps (by assumption) (Hp.keep (by assumption))) (by assumption) ?_) | ((with_reducible show wpAny _ _ (classCode _ _ _ _ _ _) _ _ _); first | (refine hp_classCode (i := 0) (by assumption) rfl (CodeHd.keeps (by assumption) (Hp.keep (by assumption))) (by rfl) (by exact trivial) (by rfl) ?_; intro c' P' oc' h' tk' H' CH' kk'; have CO' := code_of CH' H' (.head _); dsimp only [List.set_cons_zero, List.set_cons_succ] at H') | (refine hp_classCode (i := 1) (by assumption) rfl (CodeHd.keeps (by assumption) (Hp.keep (by assumption))) (by rfl) (by exact trivial) (by rfl) ?_; intro c' P' oc' h' tk' H' CH' kk'; have CO' := code_of CH' H' (.head _); dsimp only [List.set_cons_zero, List.set_cons_succ] at H') | (refine hp_classCode (i := 2) (by assumption) rfl (CodeHd.keeps (by assumption) (Hp.keep (by assumption))) (by rfl) (by exact trivial) (by rfl) ?_; intro c' P' oc' h' tk' H' CH' kk'; have CO' := code_of CH' H' (.head _); dsimp only [List.set_cons_zero, List.set_cons_succ] at H') | (refine hp_classCode (i := 3) (by assumption) rfl (CodeHd.keeps (by assumption) (Hp.keep (by assumption))) (by rfl) (by exact trivial) (by rfl) ?_; intro c' P' oc' h' tk' H' CH' kk'; have CO' := code_of CH' H' (.head _); dsimp only [List.set_cons_zero, List.set_cons_succ] at H') | (refine hp_classCode (i := 4) (by assumption) rfl (CodeHd.keeps (by assumption) (Hp.keep (by assumption))) (by rfl) (by exact trivial) (by rfl) ?_; intro c' P' oc' h' tk' H' CH' kk'; have CO' := code_of CH' H' (.head _); dsimp only [List.set_cons_zero, List.set_cons_succ] at H') | (refine hp_classCode (i := 5) (by assumption) rfl (CodeHd.keeps (by assumption) (Hp.keep (by assumption))) (by rfl) (by exact trivial) (by rfl) ?_; intro c' P' oc' h' tk' H' CH' kk'; have CO' := code_of CH' H' (.head _); dsimp only [List.set_cons_zero, List.set_cons_succ] at H')) | with_reducible refine wpAny_execs_cons ?_ | with_reducible refine wpAny_execs_nil ?_ | ((with_reducible show wpAny _ _ (run (Code.body _ _)) _ _ _); refine wpAny_run (codeAny_body rfl rfl ?_)) | ((with_reducible show wpAny _ _ (exec (Stmt.Assign _ _ _) _) _ _ _); refine wpAny_Assign_Name ?_) | ((with_reducible show wpAny _ _ (eval (Expr.Constant (Const.str _) _ _) _) _ _ _); refine wpAny_Constant_str ?_) | ((with_reducible show wpAny _ _ (eval (Expr.Constant Const.none _ _) _) _ _ _); refine wpAny_Constant_none ?_) | ((with_reducible show wpAny _ _ (eval (Expr.List _ _) _) _ _ _); refine List_ (spliced_more ?_)) | with_reducible refine spliced_none ?_ | ((with_reducible show wpAny _ _ (exec (Stmt.FunctionDef _ _ _ _ _ _ _ _ _ _) _) _ _ _); refine nestDef_K rfl rfl rfl ?_) | ((with_reducible show wpAny _ _ (makeFunction _ _ _ _ _ _ _ _ _ _ _) _ _ _); first | (refine hp_makeFnL (i := 3) (by assumption) (by assumption) (by assumption) rfl (CodeOb.hd (by assumption) (Hp.get (by assumption) (by k_mem))) rfl rfl rfl (by repeat (first | exact trivial | refine TriplesOk_snoc _ _ _ _ ?_)) (by kernel_rfl) ?_; intro f' c' oc' vs' tq' ctv' doc' h' tk' H' d1' d2' kk'; dsimp only [List.set_cons_zero, List.set_cons_succ, List.cons_append, List.nil_append] at H') | (refine hp_makeFnL (i := 2) (by assumption) (by assumption) (by assumption) rfl (CodeOb.hd (by assumption) (Hp.get (by assumption) (by k_mem))) rfl rfl rfl (by repeat (first | exact trivial | refine TriplesOk_snoc _ _ _ _ ?_)) (by kernel_rfl) ?_; intro f' c' oc' vs' tq' ctv' doc' h' tk' H' d1' d2' kk'; dsimp only [List.set_cons_zero, List.set_cons_succ, List.cons_append, List.nil_append] at H') | (refine hp_makeFnL (i := 4) (by assumption) (by assumption) (by assumption) rfl (CodeOb.hd (by assumption) (Hp.get (by assumption) (by k_mem))) rfl rfl rfl (by repeat (first | exact trivial | refine TriplesOk_snoc _ _ _ _ ?_)) (by kernel_rfl) ?_; intro f' c' oc' vs' tq' ctv' doc' h' tk' H' d1' d2' kk'; dsimp only [List.set_cons_zero, List.set_cons_succ, List.cons_append, List.nil_append] at H')) | ((with_reducible show wpAny _ _ (storeName _ _ _) _ _ _); first | (refine hp_storeCls (j := 3) (by assumption) rfl rfl rfl (by first | exact .inl rfl | exact .inr ⟨rfl, rfl⟩) (by kernel_rfl) rfl ?_; intro h' H'; dsimp only [List.set_cons_zero, List.set_cons_succ, List.cons_append, List.nil_append] at H') | (refine hp_storeCls (j := 4) (by assumption) rfl rfl rfl (by first | exact .inl rfl | exact .inr ⟨rfl, rfl⟩) (by kernel_rfl) rfl ?_; intro h' H'; dsimp only [List.set_cons_zero, List.set_cons_succ, List.cons_append, List.nil_append] at H') | (refine hp_storeCls (j := 5) (by assumption) rfl rfl rfl (by first | exact .inl rfl | exact .inr ⟨rfl, rfl⟩) (by kernel_rfl) rfl ?_; intro h' H'; dsimp only [List.set_cons_zero, List.set_cons_succ, List.cons_append, List.nil_append] at H'))) | (first | with_reducible refine wpAny_pure ?_ | ((with_reducible show wpAny _ _ (Sem.pure _) _ _ _); with_reducible refine nd_pure ?_) | ((with_reducible show wpAny _ _ (Sem.tryCatch _ _) _ _ _); refine wpAny_tryCatch ?_) | with_reducible refine wpAny_bind ?_ | with_reducible refine nd_bind ?_ | with_reducible refine wpAny_holding ?_ | with_reducible refine wpAny_onRaise ?_ | ((with_reducible show wpAny _ _ (isSubtype _ _) _ _ _); first | refine wpAny_of_eq pf_tt ?_ | refine wpAny_of_eq pf_dd ?_ | refine wpAny_of_eq pf_ty ?_) | ((with_reducible show wpAny _ _ (typeLookup _ _) _ _ _); first | refine wpAny_of_eq pf_di ?_ | refine wpAny_of_eq pf_nc ?_ | refine wpAny_of_eq pf_fs ?_ | refine wpAny_of_eq pf_ss ?_ | refine wpAny_of_eq pf_is ?_ | refine wpAny_of_eq pf_ns1 ?_ | refine wpAny_of_eq pf_ls ?_ | refine wpAny_of_eq pf_ts ?_ | refine wpAny_of_eq pf_ms ?_) | ((with_reducible show wpAny _ _ (typeOf (Value.type _)) _ _ _); first | refine wpAny_of_eq pf_to ?_ | refine wpAny_of_eq pf_ft ?_) | ((with_reducible show wpAny _ _ (Builtin.notOverATurnedClass _) _ _ _); refine wpAny_of_eq pf_no ?_) | ((with_reducible show wpAny _ _ (Builtin.extendedBase _) _ _ _); refine wpAny_of_eq pf_ex ?_) | ((with_reducible show wpAny _ _ (Builtin.Slots.bestBase _) _ _ _); refine wpAny_of_eq pf_bb ?_) | ((with_reducible show wpAny _ _ (Builtin.Slots.slotNamesOf (Value.type _)) _ _ _); refine wpAny_of_eq pf_sn ?_) | ((with_reducible show wpAny _ _ (Builtin.Slots.givesDict (Value.type _)) _ _ _); refine wpAny_of_eq pf_gd ?_) | ((with_reducible show wpAny _ _ (Builtin.Slots.givesWeak (Value.type _)) _ _ _); refine wpAny_of_eq pf_gw ?_) | ((with_reducible show wpAny _ _ (Builtin.Slots.varSize (Value.type _)) _ _ _); refine wpAny_of_eq pf_vs ?_) | ((with_reducible show wpAny _ _ (Builtin.mroHook? (Value.type _)) _ _ _); refine wpAny_of_eq pf_mh ?_) | ((with_reducible show wpAny _ _ (Builtin.linearize _ _) _ _ _); refine wpAny_of_eq pf_ln ?_) | ((with_reducible show wpAny _ _ (mroOf (Value.type _)) _ _ _); refine wpAny_of_eq pf_mo ?_) | ((with_reducible show wpAny _ _ (Bind.madeBy (Value.type _)) _ _ _); refine wpAny_of_eq pf_mk ?_) | ((with_reducible show wpAny _ _ (Builtin.noteSubclassOfBuiltin _ _) _ _ _); refine wpAny_of_eq (pf_ns _) ?_) | ((with_reducible show wpAny _ _ (nsGet _ _) _ _ _); refine hp_nsGet (by assumption) (by k_mem) (by first | rfl | assumption) ?_) | ((with_reducible show wpAny _ _ (Sem.load _ _ _) _ _ _); refine hp_load (by assumption) (by k_mem) ?_) | ((with_reducible show wpAny _ _ (Sem.alloc _ _) _ _ _); refine hp_alloc (by assumption) rfl ?_; intro a' h' H' l') | ((with_reducible show wpAny _ _ (if (_ == sysModules) = true then _ else _) _ _ _); refine wpAny_ite_false (decide_eq_false (by rw [beq_iff_eq]; assumption)) ?_) | ((with_reducible show wpAny _ _ (collect _) _ _ _); refine hp_collect (by assumption) (by k_mem) (by simp) ?_; intro h' H') | ((with_reducible show wpAny _ _ (nsSet _ _ _) _ _ _); (first | refine hp_nsSet (i := 0) (by assumption) rfl (by first | rfl | simp [*]) rfl ?_ | refine hp_nsSet (i := 1) (by assumption) rfl (by first | rfl | simp [*]) rfl ?_ | refine hp_nsSet (i := 2) (by assumption) rfl (by first | rfl | simp [*]) rfl ?_ | refine hp_nsSet (i := 3) (by assumption) rfl (by first | rfl | simp [*]) rfl ?_); intro h' H'; dsimp only [List.set_cons_zero, List.set_cons_succ] at H') | ((with_reducible show wpAny _ _ (nsSetByValue _ _ _) _ _ _); (first | refine hp_nsSetBy (i := 0) (by assumption) rfl (by first | rfl | simp [*]) (by first | omega | (simp; done)) rfl ?_ | refine hp_nsSetBy (i := 1) (by assumption) rfl (by first | rfl | simp [*]) (by first | omega | (simp; done)) rfl ?_ | refine hp_nsSetBy (i := 2) (by assumption) rfl (by first | rfl | simp [*]) (by first | omega | (simp; done)) rfl ?_ | refine hp_nsSetBy (i := 3) (by assumption) rfl (by first | rfl | simp [*]) (by first | omega | (simp; done)) rfl ?_); intro h' H'; dsimp only [List.set_cons_zero, List.set_cons_succ] at H') | ((with_reducible show wpAny _ _ (Sem.update _ _ _ _) _ _ _); (first | refine hp_update (i := 0) (by assumption) rfl rfl ?_ | refine hp_update (i := 1) (by assumption) rfl rfl ?_ | refine hp_update (i := 2) (by assumption) rfl rfl ?_ | refine hp_update (i := 3) (by assumption) rfl rfl ?_); intro h' H'; dsimp only [List.set_cons_zero, List.set_cons_succ] at H') | ((with_reducible show wpAny _ _ (if (!(Array.any _ _)) = true then _ else _) _ _ _); refine wpAny_ite_false (decide_eq_false (by rw [← Array.any_toList]; exact Bool.false_ne_true)) ?_) | ((with_reducible show wpAny _ _ (setSlotAt _ _ _) _ _ _); (first | refine hp_setSlot (i := 0) (by assumption) rfl (by decide) rfl ?_ | refine hp_setSlot (i := 1) (by assumption) rfl (by decide) rfl ?_ | refine hp_setSlot (i := 2) (by assumption) rfl (by decide) rfl ?_ | refine hp_setSlot (i := 3) (by assumption) rfl (by decide) rfl ?_); intro h' H'; dsimp only [List.set_cons_zero, List.set_cons_succ] at H') | k_node | ((with_reducible show wpAny _ _ (if _ then _ else _) _ _ _); first | (refine wpAny_ite_false ?hc ?_; (case hc => decide +kernel)) | (refine wpAny_ite_true ?hc ?_; (case hc => decide +kernel)))))
  rename Hp _ _ _ => H9
  refine' typeCall_K (by assumption) (by assumption) ?hl₀ (H9.pick' [5, 7, 1, 0, 10, 12, 14, 16, 18, 20, 8, 9, 11] (by decide)) ?_
  case hl₀ => rfl
  intro K' ns' D' h' t' hs1' hs2' k1' k2' k3' m' dl' hdl' H'
  subst hdl'
  have hgL : ∃ oL, (hideAll h₁ [136]).get? s.heap.objs.size = some oL := by
    obtain ⟨o, es, ep, e, hd, _⟩ := F.ns
    exact ⟨o, hideAll_get _ e (by
      intro hm
      rcases List.mem_cons.mp hm with q | hm
      · have := F.keep _ _ hP
        rw [← q] at this
        exact absurd (Heap.lt_size hP) (by rw [← q]; exact Nat.lt_irrefl _)
      · cases hm)⟩
  iterate 7 (first | (first | with_reducible refine wpAny_standAt ?_ | ((with_reducible show wpAny _ _ (nsGet mainGlobals _) _ _ _); refine Looks.at (Looks.keeps (by assumption) (Hp.keep (by assumption))) ?_) | ((with_reducible show wpAny _ _ (nsGet builtinsNs _) _ _ _); refine Looks.at (Looks.keeps (by assumption) (Hp.keep (by assumption))) ?_) | ((with_reducible show wpAny _ _ (builtinsFor _ _) _ _ _); refine Looks.at (Looks.keeps (by assumption) (Hp.keep (by assumption))) ?_) | ((with_reducible show wpAny _ _ (nsGet (Env.builtins _) _) _ _ _); refine Looks.at (Looks.keeps (by assumption) (Hp.keep (by assumption))) ?_) | ((with_reducible show wpAny _ _ (nsGet (Env.globals _) _) _ _ _); refine Looks.at (Looks.keeps (by assumption) (Hp.keep (by assumption))) ?_) | ((with_reducible show wpAny _ _ (builtinsFor (Env.globals _) (Env.builtins _)) _ _ _); refine Looks.at (Looks.keeps (by assumption) (Hp.keep (by assumption))) ?_) | ((with_reducible show wpAny _ _ (buildClassGuard _) _ _ _); refine Looks.at (Looks.keeps (by assumption) (Hp.keep (by assumption))) ?_) | ((with_reducible show wpAny _ _ (loadName _ _) _ _ _); refine Looks.at (Looks.keeps (by assumption) (Hp.keep (by assumption))) ?_) | ((with_reducible show wpAny _ _ (getAttr? _ _) _ _ _); refine prep_get (by assumption) (by assumption) ?_; intro b' h' H') | ((with_reducible show wpAny _ _ (call (Value.ref _) _ _) _ _ _); refine prep_call (by assumption) (.head _) ?_; intro n' h' H' l'; have hng' : n' ≠ sysModules := fun e9 => by (have h9 := l' (136, tabObj #[]) (by k_mem)); (rw [e9] at h9); exact absurd h9 (by decide)) | ((with_reducible show wpAny _ _ (enterFrame _) _ _ _); refine wpAny_enterFrame (Heap.NoLimit.keeps (by assumption) (Hp.keep (by assumption))) (by assumption) ?_) | ((with_reducible show wpAny _ _ (classCode _ _ _ _ _ _) _ _ _); first | (refine hp_classCode (i := 0) (by assumption) rfl (CodeHd.keeps (by assumption) (Hp.keep (by assumption))) (by rfl) (by exact trivial) (by rfl) ?_; intro c' P' oc' h' tk' H' CH' kk'; have CO' := code_of CH' H' (.head _); dsimp only [List.set_cons_zero, List.set_cons_succ] at H') | (refine hp_classCode (i := 1) (by assumption) rfl (CodeHd.keeps (by assumption) (Hp.keep (by assumption))) (by rfl) (by exact trivial) (by rfl) ?_; intro c' P' oc' h' tk' H' CH' kk'; have CO' := code_of CH' H' (.head _); dsimp only [List.set_cons_zero, List.set_cons_succ] at H') | (refine hp_classCode (i := 2) (by assumption) rfl (CodeHd.keeps (by assumption) (Hp.keep (by assumption))) (by rfl) (by exact trivial) (by rfl) ?_; intro c' P' oc' h' tk' H' CH' kk'; have CO' := code_of CH' H' (.head _); dsimp only [List.set_cons_zero, List.set_cons_succ] at H') | (refine hp_classCode (i := 3) (by assumption) rfl (CodeHd.keeps (by assumption) (Hp.keep (by assumption))) (by rfl) (by exact trivial) (by rfl) ?_; intro c' P' oc' h' tk' H' CH' kk'; have CO' := code_of CH' H' (.head _); dsimp only [List.set_cons_zero, List.set_cons_succ] at H') | (refine hp_classCode (i := 4) (by assumption) rfl (CodeHd.keeps (by assumption) (Hp.keep (by assumption))) (by rfl) (by exact trivial) (by rfl) ?_; intro c' P' oc' h' tk' H' CH' kk'; have CO' := code_of CH' H' (.head _); dsimp only [List.set_cons_zero, List.set_cons_succ] at H') | (refine hp_classCode (i := 5) (by assumption) rfl (CodeHd.keeps (by assumption) (Hp.keep (by assumption))) (by rfl) (by exact trivial) (by rfl) ?_; intro c' P' oc' h' tk' H' CH' kk'; have CO' := code_of CH' H' (.head _); dsimp only [List.set_cons_zero, List.set_cons_succ] at H')) | with_reducible refine wpAny_execs_cons ?_ | with_reducible refine wpAny_execs_nil ?_ | ((with_reducible show wpAny _ _ (run (Code.body _ _)) _ _ _); refine wpAny_run (codeAny_body rfl rfl ?_)) | ((with_reducible show wpAny _ _ (exec (Stmt.Assign _ _ _) _) _ _ _); refine wpAny_Assign_Name ?_) | ((with_reducible show wpAny _ _ (eval (Expr.Constant (Const.str _) _ _) _) _ _ _); refine wpAny_Constant_str ?_) | ((with_reducible show wpAny _ _ (eval (Expr.Constant Const.none _ _) _) _ _ _); refine wpAny_Constant_none ?_) | ((with_reducible show wpAny _ _ (eval (Expr.List _ _) _) _ _ _); refine List_ (spliced_more ?_)) | with_reducible refine spliced_none ?_ | ((with_reducible show wpAny _ _ (exec (Stmt.FunctionDef _ _ _ _ _ _ _ _ _ _) _) _ _ _); refine nestDef_K rfl rfl rfl ?_) | ((with_reducible show wpAny _ _ (makeFunction _ _ _ _ _ _ _ _ _ _ _) _ _ _); first | (refine hp_makeFnL (i := 3) (by assumption) (by assumption) (by assumption) rfl (CodeOb.hd (by assumption) (Hp.get (by assumption) (by k_mem))) rfl rfl rfl (by repeat (first | exact trivial | refine TriplesOk_snoc _ _ _ _ ?_)) (by kernel_rfl) ?_; intro f' c' oc' vs' tq' ctv' doc' h' tk' H' d1' d2' kk'; dsimp only [List.set_cons_zero, List.set_cons_succ, List.cons_append, List.nil_append] at H') | (refine hp_makeFnL (i := 2) (by assumption) (by assumption) (by assumption) rfl (CodeOb.hd (by assumption) (Hp.get (by assumption) (by k_mem))) rfl rfl rfl (by repeat (first | exact trivial | refine TriplesOk_snoc _ _ _ _ ?_)) (by kernel_rfl) ?_; intro f' c' oc' vs' tq' ctv' doc' h' tk' H' d1' d2' kk'; dsimp only [List.set_cons_zero, List.set_cons_succ, List.cons_append, List.nil_append] at H') | (refine hp_makeFnL (i := 4) (by assumption) (by assumption) (by assumption) rfl (CodeOb.hd (by assumption) (Hp.get (by assumption) (by k_mem))) rfl rfl rfl (by repeat (first | exact trivial | refine TriplesOk_snoc _ _ _ _ ?_)) (by kernel_rfl) ?_; intro f' c' oc' vs' tq' ctv' doc' h' tk' H' d1' d2' kk'; dsimp only [List.set_cons_zero, List.set_cons_succ, List.cons_append, List.nil_append] at H')) | ((with_reducible show wpAny _ _ (storeName _ _ _) _ _ _); first | (refine hp_storeCls (j := 3) (by assumption) rfl rfl rfl (by first | exact .inl rfl | exact .inr ⟨rfl, rfl⟩) (by kernel_rfl) rfl ?_; intro h' H'; dsimp only [List.set_cons_zero, List.set_cons_succ, List.cons_append, List.nil_append] at H') | (refine hp_storeCls (j := 4) (by assumption) rfl rfl rfl (by first | exact .inl rfl | exact .inr ⟨rfl, rfl⟩) (by kernel_rfl) rfl ?_; intro h' H'; dsimp only [List.set_cons_zero, List.set_cons_succ, List.cons_append, List.nil_append] at H') | (refine hp_storeCls (j := 5) (by assumption) rfl rfl rfl (by first | exact .inl rfl | exact .inr ⟨rfl, rfl⟩) (by kernel_rfl) rfl ?_; intro h' H'; dsimp only [List.set_cons_zero, List.set_cons_succ, List.cons_append, List.nil_append] at H'))) | (first | with_reducible refine wpAny_pure ?_ | ((with_reducible show wpAny _ _ (Sem.pure _) _ _ _); with_reducible refine nd_pure ?_) | ((with_reducible show wpAny _ _ (Sem.tryCatch _ _) _ _ _); refine wpAny_tryCatch ?_) | with_reducible refine wpAny_bind ?_ | with_reducible refine nd_bind ?_ | with_reducible refine wpAny_holding ?_ | with_reducible refine wpAny_onRaise ?_ | ((with_reducible show wpAny _ _ (isSubtype _ _) _ _ _); first | refine wpAny_of_eq pf_tt ?_ | refine wpAny_of_eq pf_dd ?_ | refine wpAny_of_eq pf_ty ?_) | ((with_reducible show wpAny _ _ (typeLookup _ _) _ _ _); first | refine wpAny_of_eq pf_di ?_ | refine wpAny_of_eq pf_nc ?_ | refine wpAny_of_eq pf_fs ?_ | refine wpAny_of_eq pf_ss ?_ | refine wpAny_of_eq pf_is ?_ | refine wpAny_of_eq pf_ns1 ?_ | refine wpAny_of_eq pf_ls ?_ | refine wpAny_of_eq pf_ts ?_ | refine wpAny_of_eq pf_ms ?_) | ((with_reducible show wpAny _ _ (typeOf (Value.type _)) _ _ _); first | refine wpAny_of_eq pf_to ?_ | refine wpAny_of_eq pf_ft ?_) | ((with_reducible show wpAny _ _ (Builtin.notOverATurnedClass _) _ _ _); refine wpAny_of_eq pf_no ?_) | ((with_reducible show wpAny _ _ (Builtin.extendedBase _) _ _ _); refine wpAny_of_eq pf_ex ?_) | ((with_reducible show wpAny _ _ (Builtin.Slots.bestBase _) _ _ _); refine wpAny_of_eq pf_bb ?_) | ((with_reducible show wpAny _ _ (Builtin.Slots.slotNamesOf (Value.type _)) _ _ _); refine wpAny_of_eq pf_sn ?_) | ((with_reducible show wpAny _ _ (Builtin.Slots.givesDict (Value.type _)) _ _ _); refine wpAny_of_eq pf_gd ?_) | ((with_reducible show wpAny _ _ (Builtin.Slots.givesWeak (Value.type _)) _ _ _); refine wpAny_of_eq pf_gw ?_) | ((with_reducible show wpAny _ _ (Builtin.Slots.varSize (Value.type _)) _ _ _); refine wpAny_of_eq pf_vs ?_) | ((with_reducible show wpAny _ _ (Builtin.mroHook? (Value.type _)) _ _ _); refine wpAny_of_eq pf_mh ?_) | ((with_reducible show wpAny _ _ (Builtin.linearize _ _) _ _ _); refine wpAny_of_eq pf_ln ?_) | ((with_reducible show wpAny _ _ (mroOf (Value.type _)) _ _ _); refine wpAny_of_eq pf_mo ?_) | ((with_reducible show wpAny _ _ (Bind.madeBy (Value.type _)) _ _ _); refine wpAny_of_eq pf_mk ?_) | ((with_reducible show wpAny _ _ (Builtin.noteSubclassOfBuiltin _ _) _ _ _); refine wpAny_of_eq (pf_ns _) ?_) | ((with_reducible show wpAny _ _ (nsGet _ _) _ _ _); refine hp_nsGet (by assumption) (by k_mem) (by first | rfl | assumption) ?_) | ((with_reducible show wpAny _ _ (Sem.load _ _ _) _ _ _); refine hp_load (by assumption) (by k_mem) ?_) | ((with_reducible show wpAny _ _ (Sem.alloc _ _) _ _ _); refine hp_alloc (by assumption) rfl ?_; intro a' h' H' l') | ((with_reducible show wpAny _ _ (if (_ == sysModules) = true then _ else _) _ _ _); refine wpAny_ite_false (decide_eq_false (by rw [beq_iff_eq]; assumption)) ?_) | ((with_reducible show wpAny _ _ (collect _) _ _ _); refine hp_collect (by assumption) (by k_mem) (by simp) ?_; intro h' H') | ((with_reducible show wpAny _ _ (nsSet _ _ _) _ _ _); (first | refine hp_nsSet (i := 0) (by assumption) rfl (by first | rfl | simp [*]) rfl ?_ | refine hp_nsSet (i := 1) (by assumption) rfl (by first | rfl | simp [*]) rfl ?_ | refine hp_nsSet (i := 2) (by assumption) rfl (by first | rfl | simp [*]) rfl ?_ | refine hp_nsSet (i := 3) (by assumption) rfl (by first | rfl | simp [*]) rfl ?_); intro h' H'; dsimp only [List.set_cons_zero, List.set_cons_succ] at H') | ((with_reducible show wpAny _ _ (nsSetByValue _ _ _) _ _ _); (first | refine hp_nsSetBy (i := 0) (by assumption) rfl (by first | rfl | simp [*]) (by first | omega | (simp; done)) rfl ?_ | refine hp_nsSetBy (i := 1) (by assumption) rfl (by first | rfl | simp [*]) (by first | omega | (simp; done)) rfl ?_ | refine hp_nsSetBy (i := 2) (by assumption) rfl (by first | rfl | simp [*]) (by first | omega | (simp; done)) rfl ?_ | refine hp_nsSetBy (i := 3) (by assumption) rfl (by first | rfl | simp [*]) (by first | omega | (simp; done)) rfl ?_); intro h' H'; dsimp only [List.set_cons_zero, List.set_cons_succ] at H') | ((with_reducible show wpAny _ _ (Sem.update _ _ _ _) _ _ _); (first | refine hp_update (i := 0) (by assumption) rfl rfl ?_ | refine hp_update (i := 1) (by assumption) rfl rfl ?_ | refine hp_update (i := 2) (by assumption) rfl rfl ?_ | refine hp_update (i := 3) (by assumption) rfl rfl ?_); intro h' H'; dsimp only [List.set_cons_zero, List.set_cons_succ] at H') | ((with_reducible show wpAny _ _ (if (!(Array.any _ _)) = true then _ else _) _ _ _); refine wpAny_ite_false (decide_eq_false (by rw [← Array.any_toList]; exact Bool.false_ne_true)) ?_) | ((with_reducible show wpAny _ _ (setSlotAt _ _ _) _ _ _); (first | refine hp_setSlot (i := 0) (by assumption) rfl (by decide) rfl ?_ | refine hp_setSlot (i := 1) (by assumption) rfl (by decide) rfl ?_ | refine hp_setSlot (i := 2) (by assumption) rfl (by decide) rfl ?_ | refine hp_setSlot (i := 3) (by assumption) rfl (by decide) rfl ?_); intro h' H'; dsimp only [List.set_cons_zero, List.set_cons_succ] at H') | k_node | ((with_reducible show wpAny _ _ (if _ then _ else _) _ _ _); first | (refine wpAny_ite_false ?hc ?_; (case hc => decide +kernel)) | (refine wpAny_ite_true ?hc ?_; (case hc => decide +kernel)))))
  obtain ⟨oL, eL⟩ := hgL
  have hnsL : h'.Ns s.heap.objs.size _ := F.ns.at' fun o e => H'.keep _ _ (by rw [eL, ← e]; exact (of_hideAll _ eL).symm ▸ rfl)
  refine wpAny_bindName (wpAny_storeName_local rfl hnsL (fun h3 hn3 hs3 => ?_) rfl)
  refine wpAny_pure ?_
  refine wpAny_execs_cons (wpAny_Return_some (wpAny_Name (wpAny_loadName_local rfl rfl hn3 (v := .ref K') (by simp) ?_)))
  have CF := cmp_fin F N hP H' rfl eL hs3 (Nat.le_of_eq hs3.1.symm)
  refine q K' _ h3 _ CF.2.2.1 CF.2.2.2 CF.2.1 CF.1 ?_
  refine' kspec_of ?Y (.tail _ (.head _)) (.tail _ (.tail _ (.head _))) (.head _) (.tail _ (.tail _ (.tail _ (.head _)))) (.tail _ (.tail _ (.tail _ (.tail _ (.head _))))) (.tail _ (.tail _ (.tail _ (.tail _ (.tail _ (.head _)))))) ?e6 ?f6 (.tail _ (.tail _ (.tail _ (.tail _ (.tail _ (.tail _ (.head _))))))) ?e7 ?f7 (.tail _ (.tail _ (.tail _ (.tail _ (.tail _ (.tail _ (.tail _ (.head _)))))))) hc
  case Y => exact ⟨H'.apart (i := 2) (j := 1) rfl rfl (by decide), H'.apart (i := 0) (j := 1) rfl rfl (by decide), H'.apart (i := 0) (j := 2) rfl rfl (by decide), rfl, rfl, rfl, rfl, rfl, rfl⟩
  case e6 => assumption
  case f6 => assumption
  case e7 => assumption
  case f7 => assumption
end Mine
end
/-! So2 -/
section
open PySem PySem.W PyProof.Rows PySem.Calls
set_option maxRecDepth 100000
set_option linter.unusedVariables false
namespace Mine
theorem cmpL_lt (x y : List Str) : decide (cmpL x y < 0) = ltL x y := by
  unfold cmpL
  cases h1 : ltL x y with
  | true => rw [ltL_asymm h1]; decide
  | false => cases h2 : ltL y x <;> decide
/-- instances that stand in a ledger -/
structure InstLed (K : Addr) (ks : List Value) (xs : List Str) (il : List (Addr × Obj)) : Prop where
  len : ks.length = xs.length
  item : ∀ {i : Nat} {x : Str}, xs[i]? = some x → ∃ a dx t, ks[i]? = some (.ref a) ∧ (a, instK K dx (.str x t)) ∈ il ∧ (dx, emptyDict) ∈ il
theorem InstLed.nil {K : Addr} : InstLed K [] [] [] := ⟨rfl, fun h => by simp at h⟩
theorem InstLed.snoc {K a dx : Addr} {ks : List Value} {xs : List Str} {il : List (Addr × Obj)} {x : Str} {t : Tok} (r : InstLed K ks xs il) : InstLed K (ks ++ [.ref a]) (xs ++ [x]) ((a, instK K dx (.str x t)) :: (dx, emptyDict) :: il) := by
  refine ⟨by simp [r.len], fun {i y} e => ?_⟩
  by_cases hi : i < xs.length
  · rw [List.getElem?_append_left hi] at e
    obtain ⟨a', dx', t', e1, e2, e3⟩ := r.item e
    exact ⟨a', dx', t', by rw [List.getElem?_append_left (by rw [r.len]; exact hi)]; exact e1, .tail _ (.tail _ e2), .tail _ (.tail _ e3)⟩
  · rw [List.getElem?_append_right (by omega)] at e
    have hi' : i - xs.length = 0 := by
      cases h0 : i - xs.length with
      | zero => rfl
      | succ k => rw [h0] at e; simp at e
    rw [hi'] at e
    simp only [List.getElem?_cons_zero, Option.some.injEq] at e
    subst e
    exact ⟨a, dx, t, by rw [List.getElem?_append_right (by rw [r.len]; omega), r.len, hi']; rfl, .head _, .tail _ (.head _)⟩
section
variable {w : World} {A : Around} {s₀ : Shared} {h₀ : Heap} {L kS D K : Addr} {m : Str → Option Value} {news kl : List (Addr × Obj)}
theorem keys_loop {ps : List Str} {Fin : List Value → Nat → Shared → Prop} (hK : KSpec w kl K) (hkl : ∀ p ∈ kl, p ∈ news) (hC : Cx w h₀) (rA : Rm A 12 120)
    (hfin : ∀ ks e il h tk, Fr h₀ L h m → News h₀ L h ((kS, seqObj "list" (List.toArray ks) e) :: (il ++ news)) → (∀ p ∈ il ++ news, p.1 ≠ kS) → InstLed K ks ps il → Fin ks e { s₀ with heap := h, toks := tk }) :
    ∀ (rs : List Str) (r : List Value), StrsAre r rs → ∀ ks xs il e h tk, Fr h₀ L h m → News h₀ L h ((kS, seqObj "list" (List.toArray ks) e) :: (il ++ news)) → (∀ p ∈ il ++ news, p.1 ≠ kS) → InstLed K ks xs il → xs ++ rs = ps →
      KatKeys prog w A h₀ L m kS (.ref K) Fin r ks e { s₀ with heap := h, toks := tk } := by
  intro rs r hr
  induction hr with
  | nil =>
    intro ks xs il e h tk F N off hI hx
    rw [List.append_nil] at hx; subst hx
    exact KatKeys.nil (hfin ks e il h tk F N off hI)
  | cons x t hr ih =>
    intro ks xs il e h tk F N off hI hx
    refine KatKeys.cons ?_
    refine Does.frN (hK.make A _ x t (fun p hp => (N p (.tail _ (List.mem_append_right _ (hkl p hp)))).1) (hC.keeps F.keep) rA) F N ?_
    rintro v tl h' tk' F' N' off' ⟨a, dx, rfl, rfl⟩
    have hall : ∀ p ∈ (a, instK K dx (.str x t)) :: (dx, emptyDict) :: (il ++ news), p.1 ≠ kS := fun p hp => by
      rcases List.mem_cons.mp hp with rfl | hp
      · exact off' _ (.head _) (kS, _) (.head _)
      rcases List.mem_cons.mp hp with rfl | hp
      · exact off' _ (.tail _ (.head _)) (kS, _) (.head _)
      · exact off p hp
    refine KatBack.intro (news := (kS, seqObj "list" (List.toArray ks) e) :: (a, instK K dx (.str x t)) :: (dx, emptyDict) :: (il ++ news)) F' (fun p hp => N' p ?_) (UpdF.head hall) fun h2 c F2 N2 => ?_
    · simp only [List.mem_cons, List.mem_append, List.not_mem_nil, or_false] at hp ⊢
      rcases hp with hp | hp | hp | hp | hp <;> simp [hp]
    · exact ih (ks ++ [.ref a]) (xs ++ [x]) ((a, instK K dx (.str x t)) :: (dx, emptyDict) :: il) c h2 tk' F2 N2 hall hI.snoc (by rw [List.append_assoc]; exact hx)
theorem kall_run {α : Type} {n : Nat} {ans : Nat → Nat → Bool} {ks : List Value} {nw : List (Addr × Obj)} {Qp : α → Prop} {G : α → Shared → Prop}
    (hask : ∀ i j h tk, i < n → j < n → Fr h₀ L h m → News h₀ L h nw → Does w A (keyLt' oneType' (ks.getD i Value.none) (ks.getD j Value.none)) { s₀ with heap := h, toks := tk } (fun v _ => v = ans i j))
    (hG : ∀ a h tk, Fr h₀ L h m → News h₀ L h nw → Qp a → G a { s₀ with heap := h, toks := tk }) :
    ∀ (t : KasT α), KAll n ans t Qp → ∀ h tk, Fr h₀ L h m → News h₀ L h nw → t.kasWp (kas_ask prog w A oneType' ks) G { s₀ with heap := h, toks := tk }
  | .ret a, hq, h, tk, F, N => hG a h tk F N hq
  | .ask i j k, hq, h, tk, F, N => by
    refine Does.fr0 (hask i j h tk hq.1 hq.2.1 F N) F N ?_
    rintro v tl h' tk' F' N' rfl
    exact kall_run hask hG (k (ans i j)) hq.2.2 h' tk' F' N'
end
noncomputable def pathAt (ps : List Str) (i : Nat) : Str := (ps[i]?).getD ""
noncomputable def keyAt (ps : List Str) (i : Nat) : List Str := Txt.split (pathAt ps i) "/"
theorem map_pathAt (ps : List Str) : (List.range ps.length).map (pathAt ps) = ps := by
  apply List.ext_getElem
  · simp
  · intro i h1 h2
    simp [pathAt, h2]
set_option maxHeartbeats 4000000 in
theorem sorted_ok {w : World} {A : Around} {s : Shared} {h₀ : Heap} {L l K : Addr} {m : Str → Option Value} {news kl : List (Addr × Obj)} {vs : List Value} {ps : List Str} {Q E : Value → Shared → Prop}
    (F : Fr h₀ L s.heap m) (N : News h₀ L s.heap news) (hl : s.heap.IsList l vs.toArray) (hps : StrsAre vs ps) (h2 : 2 ≤ ps.length) (h64 : ps.length < 64) (hx : ∀ p ∈ ps, p.length ≤ 1000)
    (hK : KSpec w kl K) (hkl : ∀ p ∈ kl, p ∈ news) (hC : Cx w h₀) (rA : Rm A 40 500)
    (h : ∀ D n V S h' tk, Fr h₀ L h' m → News h₀ L h' ((D, W.listOf (List.toArray V) n) :: news) → (∀ q ∈ news, q.1 < D) → StrsAre V S → S.Perm ps → Asc ltL (keyAt S) S.length → Q (.ref D) { s with heap := h', toks := tk }) :
    wpAny (model prog w) A (call (.builtin "sorted") [.ref l] [("key", .ref K)]) Q E s := by
  have hlen := hps.length
  refine kat_sortedK (b := false) F N hl (by omega) (by omega) (by with_reducible exact ksk_s1 _ _) (fun _ => by with_reducible exact ksk_l1 _ _) (fun _ => rfl) ?_
  intro D kS e1 h1 F1 N1 hDk hlt
  have rA' : Rm A.in1.in1 40 400 := Rm.in1 (Rm.in1 (r := rA.le (Nat.le_refl _) (by decide)))
  refine keys_loop (ps := ps) (news := (D, seqObj "list" #[] e1) :: news) hK (fun p hp => .tail _ (hkl p hp)) hC (rA'.le (by decide) (by decide)) ?_ ps vs hps [] [] [] 0 h1 s.toks F1 N1 ?_ .nil rfl
  · intro ks e il h2' tk2 F2 N2 off hI
    have hkl2 : ks.length = ps.length := hI.len
    refine kas_kind (T := .ref K) (by omega) (fun v hv => ?_) (by rfl) (by simp) ?_
    · obtain ⟨i, hi⟩ := List.getElem?_of_mem hv
      have hil := (List.getElem?_eq_some_iff.mp hi).1
      obtain ⟨a, dx, t, e1', e2', e3'⟩ := hI.item (x := ps[i]'(by omega)) (List.getElem?_eq_getElem (by omega))
      rw [hi] at e1'
      obtain rfl := Option.some.inj e1'
      exact (inst_at (N2 _ (.tail _ (List.mem_append_left _ e2'))).1 (N2 _ (.tail _ (List.mem_append_left _ e3'))).1).type
    · rw [hlen]
      refine kall_run (n := ps.length) (ans := ansK ltL (keyAt ps)) (ks := ks) ?_ ?_ _ (sort_ok (key := keyAt ps) ltL_lin (by omega) (Q := fun p => Vp ps.length p ∧ Asc ltL (KP (keyAt ps) p) ps.length) fun p v a => ⟨v, a⟩) h2' tk2 F2 N2
      · intro i j h3 tk3 hi hj F3 N3
        obtain ⟨a, dx, t, ea, eb, ec⟩ := hI.item (x := ps[i]) (List.getElem?_eq_getElem hi)
        obtain ⟨a', dx', t', ea', eb', ec'⟩ := hI.item (x := ps[j]) (List.getElem?_eq_getElem hj)
        have g1 : ks.getD i Value.none = .ref a := by simp [ea]
        have g2 : ks.getD j Value.none = .ref a' := by simp [ea']
        rw [g1, g2]
        refine (hK.lt A.in1.in1 _ a a' dx dx' _ _ t t' (fun p hp => (N3 p (.tail _ (List.mem_append_right _ (.tail _ (hkl p hp))))).1) (hC.keeps F3.keep) rA' (N3 _ (.tail _ (List.mem_append_left _ eb))).1 (N3 _ (.tail _ (List.mem_append_left _ ec))).1 (N3 _ (.tail _ (List.mem_append_left _ eb'))).1 (N3 _ (.tail _ (List.mem_append_left _ ec'))).1 (hx _ (List.getElem_mem _)) (hx _ (List.getElem_mem _))).mono ?_
        rintro v tl rfl
        rw [cmpL_lt]
        show _ = ltL (keyAt ps i) (keyAt ps j)
        unfold keyAt pathAt
        rw [List.getElem?_eq_getElem hi, List.getElem?_eq_getElem hj]
        rfl
      · rintro p h3 tk3 F3 N3 ⟨hv, ha⟩
        refine KatFin.intro F3 N3 (UpdF.head off) fun h4 c F4 N4 => ?_
        refine KasFin.intro (news := (D, seqObj "list" #[] e1) :: news) F4 (fun q hq => N4 q (.tail _ (List.mem_append_right _ hq))) (UpdF.head fun q hq => Nat.ne_of_lt (hlt q hq)) fun h5 c5 F5 N5 => ?_
        refine h D c5 _ (p.toList.map (pathAt ps)) h5 tk3 F5 N5 hlt ?_ ?_ ?_
        · have hd : ∀ i ∈ p.toList, i < ps.length := fun i hi => by
            have := (Array.perm_iff_toList_perm.mp hv).mem_iff.mp hi
            simpa using this
          generalize p.toList = il at hd
          show StrsAre (il.map fun i => vs.getD i Value.none) _
          clear hv ha
          induction il with
          | nil => exact .nil
          | cons i il ih =>
            have hdi : i < ps.length := hd i (.head _)
            obtain ⟨t, et⟩ := StrsAre.at hps (List.getElem?_eq_getElem hdi)
            have e1 : vs.getD i Value.none = .str ps[i] t := by simp [et]
            have e2 : pathAt ps i = ps[i] := by unfold pathAt; rw [List.getElem?_eq_getElem hdi]; rfl
            rw [List.map_cons, List.map_cons, e1, e2]
            exact .cons _ _ (ih fun j hj => hd j (.tail _ hj))
        · have h6 := (Array.perm_iff_toList_perm.mp hv).map (pathAt ps)
          rw [show (List.toArray (List.range ps.length)).toList = List.range ps.length from rfl, map_pathAt] at h6
          exact h6
        · intro i j hij hj
          have hz : p.size = ps.length := hv.size
          rw [List.length_map, Array.length_toList, hz] at hj
          have := ha i j hij hj
          have key2 : ∀ k, k < ps.length → keyAt (p.toList.map (pathAt ps)) k = KP (keyAt ps) p k := fun k hk => by
            unfold KP at0 keyAt
            congr 1
            show ((p.toList.map (pathAt ps))[k]?).getD "" = _
            rw [List.getElem?_map]
            have e : p[k]? = some p[k] := Array.getElem?_eq_getElem (by omega)
            rw [Array.getElem?_toList, e]; rfl
          rw [key2 i (by omega), key2 j hj]; exact this
  · intro p hp
    simp only [List.nil_append, List.mem_cons] at hp
    rcases hp with rfl | hp
    · exact Nat.ne_of_lt hDk
    · exact Nat.ne_of_lt (Nat.lt_trans (hlt p hp) hDk)
end Mine
end
/-! W2 -/
section
open PySem PySem.W PyProof.Rows PySem.Calls
set_option maxRecDepth 100000
set_option linter.unusedVariables false
namespace Mine
noncomputable def writtenS (start : Str) (row : List Str) : Str := if start ≠ "" ∨ row ≠ [] then start ++ Txt.join "/" row else "."
local macro_rules | `(tactic| walk_at "has_r") => `(tactic| (first | exact led_list (by with_reducible assumption) (by k_mem) | exact isl_keep (by with_reducible assumption) (by with_reducible assumption)))
set_option maxHeartbeats 8000000 in
theorem written_ok {w : World} {A : Around} {s : Shared} {start : Str} {t : Tok} {P : Addr} {vals : List Value} {xs : List Str}
   (C : Cx w s.heap) (r0 : Rm A 40 400) (hl : s.heap.IsList P vals.toArray) (hxs : StrsAre vals xs) (hn : xs.length ≤ 3) (hs : start.length ≤ 1) (hx : ∀ x ∈ xs, x.length ≤ 3) :
   Does w A (call (.ref 174) [.str start t, .ref P]) s (fun v _ => ∃ t', v = .str (writtenS start xs) t') := by
  intro Q E h
  obtain ⟨ah, ad, af, ag, au⟩ := A
  obtain rfl : ah = none := r0.hh
  have hd := r0.dep
  dsimp only at hd
  have hok : (xs.map (·.length)).sum + xs.length * 64 ≤ 16777216 := by have := sum_short hx; omega
  have hj : (Txt.join "/" xs).length ≤ 200 := by
    rw [join_is]
    have := StrLaws.join_length_le "/" xs
    have e1 : (Str.ofString "/").length = 1 := by decide
    rw [e1] at this
    have := sum_short hx
    omega
  refine enter (binds := [("start", .str start t), ("row", .ref P)]) C (by k_is) (by k_is) (by dsimp only; omega) (BindsTo.of_eq rfl) (by decide) (locs rfl) rfl rfl rfl (fun h₁ p loose mean mg mb F N X T => ?_)
  (repeat' (first | (k_unfold; (try dsimp only)) | (k_end; kc_close) | ((with_reducible show wpAny _ _ (PySem.call (PySem.Value.builtin "str.join") _ _) _ _ _); with_reducible (refine Does.fr0 (join_does (isl_keep (by with_reducible assumption) (by with_reducible assumption)) (by with_reducible assumption) (by decide) (by with_reducible assumption)) (by with_reducible assumption) (by with_reducible assumption) ?_; (intro _ _ _ _ _ _ e'; obtain ⟨_, e'⟩ := e'; subst e'); (try k_sweep))) | ((with_reducible show wpAny _ _ (compareOp PySem.CmpOp.NotEq (PySem.Value.ref _) (PySem.Value.ref _)) _ _ _); with_reducible (k_dflt (refine ne_S (isl_keep (by with_reducible assumption) (by with_reducible assumption)) (led_list (by with_reducible assumption) (.head _)) (by with_reducible assumption) .nil (Rm.lt (Rm.deeper (by assumption))) ?_))) | walk1 | (dsimp only; (first | ((with_reducible show wpAny _ _ (PySem.call (PySem.Value.builtin "str.join") _ _) _ _ _); with_reducible (refine Does.fr0 (join_does (isl_keep (by with_reducible assumption) (by with_reducible assumption)) (by with_reducible assumption) (by decide) (by with_reducible assumption)) (by with_reducible assumption) (by with_reducible assumption) ?_; (intro _ _ _ _ _ _ e'; obtain ⟨_, e'⟩ := e'; subst e'); (try k_sweep))) | ((with_reducible show wpAny _ _ (compareOp PySem.CmpOp.NotEq (PySem.Value.ref _) (PySem.Value.ref _)) _ _ _); with_reducible (k_dflt (refine ne_S (isl_keep (by with_reducible assumption) (by with_reducible assumption)) (led_list (by with_reducible assumption) (.head _)) (by with_reducible assumption) .nil (Rm.lt (Rm.deeper (by assumption))) ?_))) | walk1)) | (leave1; (try dsimp only)) | fail "no step"))
  all_goals (rename ((start != Str.ofString "") = _) => a)
  all_goals (refine h _ [] _ _ (Fr.keep (by assumption)) (fr_le (by assumption)) Led.nil ?_)
  · rw [writtenS, if_pos (.inl (by simpa using a))]; exact ⟨_, rfl⟩
  · rename (xs != []) = true => b
    rw [writtenS, if_pos (.inr (by simpa using b))]; exact ⟨_, rfl⟩
  · rename (xs != []) = false => b
    have b' : xs = [] := by simpa using b
    have a' : start = "" := by simpa using a
    rw [writtenS, if_neg (by rw [a', b']; simp)]; exact ⟨_, rfl⟩
end Mine
end
/-! PL5 -/
section
open PySem PySem.W PyProof.Rows
set_option maxRecDepth 100000
set_option linter.unusedVariables false
namespace Mine
noncomputable def nm3 : List Str := ["a", "a-", "b"]
/-- the forty rows -/
noncomputable def allRows : List (List Str) := [] :: (nm3.map (fun a => [a]) ++ nm3.flatMap (fun a => nm3.map fun b => [a, b]) ++ nm3.flatMap (fun a => nm3.flatMap fun b => nm3.map fun c => [a, b, c]))
noncomputable def stOf (ia : Bool) : Str := if ia then "/" else ""
theorem nm3_get (d : Int) (h0 : 0 ≤ d) (h3 : d < 3) : ∃ j : Fin 3, (([("a" : Str), "a-", "b"] : List Str).getD d.toNat Str.empty) = nm3[j.1]'(by have := j.2; exact this) := by
  have : d = 0 ∨ d = 1 ∨ d = 2 := three_z h0 h3
  rcases this with rfl | rfl | rfl
  · exact ⟨0, rfl⟩
  · exact ⟨1, rfl⟩
  · exact ⟨2, rfl⟩
theorem row_in (x : Int) : rowS x ∈ allRows := by
  have h0 : 0 ≤ x.fmod 4 := Int.fmod_nonneg_of_pos x (by omega)
  have h4 : x.fmod 4 < 4 := Int.fmod_lt_of_pos x (by omega)
  have hd : ∀ k : Nat, ∃ j : Fin 3, (([("a" : Str), "a-", "b"] : List Str).getD (((x.fdiv 4).fdiv (3 ^ k)).fmod 3).toNat Str.empty) = nm3[j.1]'(by have := j.2; exact this) := fun k =>
    nm3_get _ (Int.fmod_nonneg_of_pos _ (by omega)) (Int.fmod_lt_of_pos _ (by omega))
  obtain ⟨j0, e0⟩ := hd 0
  obtain ⟨j1, e1⟩ := hd 1
  obtain ⟨j2, e2⟩ := hd 2
  have : x.fmod 4 = 0 ∨ x.fmod 4 = 1 ∨ x.fmod 4 = 2 ∨ x.fmod 4 = 3 := four_z h0 h4
  have k0 : ∃ j : Fin 3, True := ⟨0, trivial⟩
  rcases this with h | h | h | h
  · have e : rowS x = [] := by unfold rowS; rw [h]; rfl
    rw [e]; exact .head _
  · have e : rowS x = [nm3[j0.1]'(by have := j0.2; exact this)] := by
      unfold rowS; rw [h]
      show [_] = _
      rw [← e0]
    rw [e]; clear e e0; revert j0; decide +kernel
  · have e : rowS x = [nm3[j0.1]'(by have := j0.2; exact this), nm3[j1.1]'(by have := j1.2; exact this)] := by
      unfold rowS; rw [h]
      show [_, _] = _
      rw [← e0, ← e1]
    rw [e]; clear e e0 e1; revert j0 j1; decide +kernel
  · have e : rowS x = [nm3[j0.1]'(by have := j0.2; exact this), nm3[j1.1]'(by have := j1.2; exact this), nm3[j2.1]'(by have := j2.2; exact this)] := by
      unfold rowS; rw [h]
      show [_, _, _] = _
      rw [← e0, ← e1, ← e2]
    rw [e]; clear e e0 e1 e2; revert j0 j1 j2; decide +kernel
theorem rows_laid : ∀ ia : Bool, ∀ r ∈ allRows, laidS (stOf ia) r = writtenS (stOf ia) r := by decide +kernel
theorem rows_len : ∀ r ∈ allRows, r.length ≤ 3 ∧ ∀ c ∈ r, c.length ≤ 3 := by decide +kernel
theorem rows_take_in : ∀ r ∈ allRows, ∀ k : Fin 4, r.take k.1 ∈ allRows := by decide +kernel
theorem rows_nm : ∀ r ∈ allRows, ∀ c ∈ r, c ∈ nm3 := by decide +kernel
theorem rows_wlen : ∀ ia : Bool, ∀ r ∈ allRows, (writtenS (stOf ia) r).length ≤ 100 := by decide +kernel
theorem rows_abs : ∀ ia : Bool, ∀ r ∈ allRows, Txt.startswith (writtenS (stOf ia) r) "/" = ia := by decide +kernel
theorem rows_names : ∀ ia : Bool, ∀ r ∈ allRows, namesOf (writtenS (stOf ia) r) = r := by decide +kernel
theorem rows_good : ∀ ia : Bool, ∀ r ∈ allRows, namesOf (cpOf ia r) = r ∧ Txt.startswith (cpOf ia r) "/" = ia ∧ (cpOf ia r).length ≤ 100 := by decide +kernel
noncomputable def splS (ia : Bool) (r : List Str) : List Str := match r with
  | [] => if ia then ["", ""] else ["."]
  | x :: xs => if ia then "" :: x :: xs else x :: xs
theorem rows_split : ∀ ia : Bool, ∀ r ∈ allRows, Txt.split (writtenS (stOf ia) r) "/" = splS ia r := by decide +kernel
theorem nm_lt : ∀ c ∈ nm3, (((("" : Str)) == c) = false ∧ decide ((("" : Str)).cps.toList < c.cps.toList) = true) ∧ ((((".": Str)) == c) = false ∧ decide (((".": Str)).cps.toList < c.cps.toList) = true)
    ∧ ((c == ("" : Str)) = false ∧ decide (c.cps.toList < (("" : Str)).cps.toList) = false) ∧ ((c == ("." : Str)) = false ∧ decide (c.cps.toList < (("." : Str)).cps.toList) = false) := by decide +kernel
theorem spl_lt (ia : Bool) {r q : List Str} (hr : r ∈ allRows) (hq : q ∈ allRows) : ltL (splS ia r) (splS ia q) = ltL r q := by
  have e0 : (("" : Str) == ("" : Str)) = true := by decide
  cases r with
  | nil =>
    cases q with
    | nil => rw [ltL_irrefl, ltL_irrefl]
    | cons y ys =>
      have hy := nm_lt y (rows_nm _ hq y (.head _))
      cases ia with
      | true => simp only [splS, ltL, if_true, e0, hy.1.1, hy.1.2, Bool.false_eq_true, if_false]
      | false => simp only [splS, ltL, hy.2.1.1, hy.2.1.2, Bool.false_eq_true, if_false]
  | cons x xs =>
    have hx := nm_lt x (rows_nm _ hr x (.head _))
    cases q with
    | nil =>
      cases ia with
      | true => simp only [splS, ltL, if_true, e0, hx.2.2.1.1, hx.2.2.1.2, Bool.false_eq_true, if_false]
      | false => simp only [splS, ltL, hx.2.2.2.1, hx.2.2.2.2, Bool.false_eq_true, if_false]
    | cons y ys =>
      cases ia with
      | true => simp only [splS, if_true, ltL, e0]
      | false => simp only [splS, Bool.false_eq_true, if_false]
theorem pre_in {P r : List Str} (hr : r ∈ allRows) (h : P <+: r) : P ∈ allRows := by
  have e := List.prefix_iff_eq_take.mp h
  have hl := h.length_le
  have h3 := (rows_len r hr).1
  have := rows_take_in r hr ⟨P.length, by omega⟩
  rw [← e] at this; exact this
theorem good_in (ia : Bool) {P : List Str} (h : P ∈ allRows) : GoodP ia P := ⟨(rows_good ia P h).1, (rows_good ia P h).2.1, (rows_good ia P h).2.2⟩
end Mine
end
/-! Lh1 -/
section
open PySem PySem.W PyProof.Rows PySem.Calls
set_option maxRecDepth 100000
set_option linter.unusedVariables false
namespace Mine
section
variable {w : World} {A : Around} {E : Value → Shared → Prop} {s : Shared} {h₀ : Heap} {L : Addr} {m : Str → Option Value} {news : List (Addr × Obj)} {Q : Value → Shared → Prop}
/-- two lists added -/
theorem add_led {a b : Addr} {V W : List Value} (F : Fr h₀ L s.heap m) (N : News h₀ L s.heap news) (hl : s.heap.IsList a V.toArray) (hb : s.heap.IsList b W.toArray) (hz : V.length + W.length ≤ 10000)
    (h : ∀ D h', Fr h₀ L h' m → News h₀ L h' ((D, PySem.W.listOf (V ++ W).toArray 0) :: news) → (∀ p ∈ news, p.1 < D) → Q (.ref D) { s with heap := h' }) : wpAny (model prog w) A (binaryOp .Add (.ref a) (.ref b)) Q E s :=
  kmk_add_lit (its := V.toArray) (its2 := W.toArray) F N hl hb rfl h (by show V.length + W.length ≤ sizeLine; exact Nat.le_trans hz (by decide))
theorem ints_app {vs ws : List Value} {ns ms : List Int} (h : IntsAre vs ns) (k : IntsAre ws ms) : IntsAre (vs ++ ws) (ns ++ ms) := IntsAre.append h k
theorem rm_law (env : Env) : Rm (callerA.deeper env) 300 5000 := ⟨rfl, by show callerA.depth + 1 + 300 < recursionLimit; decide, by show callerA.units + 3 + 5000 < cLine; decide⟩
theorem ne_same {l b : Addr} {V W : List Value} {xs : List Str} (hl : s.heap.IsList l V.toArray) (hb : s.heap.IsList b W.toArray) (hx : StrsAre V xs) (hy : StrsAre W xs) (hu : A.units < cLine)
    (h : Q (.bool false) s) : wpAny (model prog w) A (compareOp .NotEq (.ref l) (.ref b)) Q E s := ne_S hl hb hx hy hu (by rw [bne_self_eq_false]; exact h)
/-- l[::-1] -/
theorem slice_rev {l : Addr} {V : List Value} {u : Tok} {value slice : Expr} {ops : List Value} (F : Fr h₀ L s.heap m) (N : News h₀ L s.heap news) (hl : s.heap.IsList l V.toArray) (hz : V.length ≤ 10000)
    (h : ∀ D h', Fr h₀ L h' m → News h₀ L h' ((D, W.listOf V.reverse.toArray 0) :: news) → (∀ p ∈ news, p.1 < D) → Q (.ref D) { s with heap := h' })
    (hs : subscripted slice false (.ref l) (.ref s.heap.objs.size) = operate ops (getItem (.ref l) (.ref s.heap.objs.size)))
    (ht : ∀ r, letTemporaryGo value (.ref l) r = pure ()) :
    wpAny (model prog w) A (subscriptTail value slice (.ref l) (.ref s.heap.objs.size)) Q E { s with heap := s.heap.push { cls := .type "slice", data := .fields #[.none, .none, .int (-1) u] } } :=
  krv_lit (its := V.toArray) (zs := V.reverse) F N hl (.int _ _) rfl h hs ht (by rw [List.size_toArray]; exact Nat.le_trans hz (by decide))
/-- a list that a block has made, in the ledger -/
theorem news_new {h h' : Heap} {D : Addr} {o : Obj} {tl : List (Addr × Obj)} (F : Fr h₀ L h m) (N : News h₀ L h news) (k : Keeps h h') (l : Led h h' ((D, o) :: tl)) : News h₀ L h' ((D, o) :: news) := fun p hp => by
  rcases List.mem_cons.mp hp with rfl | hp
  · have hD := l _ (.head _)
    exact ⟨hD.1, by obtain ⟨oL, _, _, e, _⟩ := F.ns; exact ne_of_none hD.2 e, none_of F.keep hD.2⟩
  · exact news_keeps N k p hp
theorem strs_rev {V : List Value} {xs : List Str} (h : StrsAre V xs) : StrsAre V.reverse xs.reverse := by
  induction h with
  | nil => exact .nil
  | cons x t h ih => rw [List.reverse_cons, List.reverse_cons]; exact StrsAre.append' ih (.cons _ _ .nil)
theorem eq_same {l b : Addr} {V W : List Value} {xs : List Str} (hl : s.heap.IsList l V.toArray) (hb : s.heap.IsList b W.toArray) (hx : StrsAre V xs) (hy : StrsAre W xs) (hu : A.units < cLine)
    (h : Q (.bool true) s) : wpAny (model prog w) A (compareOp .Eq (.ref l) (.ref b)) Q E s := eq_S hl hb hx hy hu (by rw [beq_self_eq_true]; exact h)
/-- the source's items -/
theorem ints_item {vs : List Value} {ns : List Int} (h : IntsAre vs ns) {i : Nat} {v : Value} (e : vs[i]? = some v) : ∃ n t, v = .int n t ∧ ns[i]? = some n := by
  induction h generalizing i with
  | nil => simp at e
  | cons x t h ih => cases i with
    | zero => simp at e; exact ⟨_, _, e.symm, rfl⟩
    | succ i => exact ih (by simpa using e)
end
theorem st_le (ia : Bool) : (stOf ia).length ≤ 1 := by cases ia <;> decide
theorem hide_keeps {g h : Heap} {tl : List (Addr × Obj)} (k : Keeps g h) (hn : ∀ p ∈ tl, g.get? p.1 = none) : Keeps g (hideAll h (tl.map (·.1))) := fun b o e => hideAll_get _ (k b o e) fun hm => by
  obtain ⟨p, hp, rfl⟩ := List.mem_map.mp hm
  rw [hn p hp] at e; cases e
theorem hide_get {h : Heap} {tl : List (Addr × Obj)} {b : Addr} {o : Obj} (e : h.get? b = some o) (hn : ∀ p ∈ tl, p.1 ≠ b) : (hideAll h (tl.map (·.1))).get? b = some o := hideAll_get _ e fun hm => by
  obtain ⟨p, hp, hb⟩ := List.mem_map.mp hm
  exact hn p hp hb
theorem hide_fr {g h : Heap} {L : Addr} {m : Str → Option Value} {tl : List (Addr × Obj)} (F : Fr g L h m) (hL : ∀ p ∈ tl, p.1 ≠ L) (hn : ∀ p ∈ tl, g.get? p.1 = none) : Fr g L (hideAll h (tl.map (·.1))) m :=
  ⟨F.ns.at' fun o e => hide_get e hL, hide_keeps F.keep hn, F.above⟩
theorem hide_news {g h : Heap} {L : Addr} {tl news : List (Addr × Obj)} (N : News g L h news) (ho : ∀ p ∈ news, ∀ q ∈ tl, q.1 ≠ p.1) : News g L (hideAll h (tl.map (·.1))) news := fun p hp => ⟨hide_get (N p hp).1 (ho p hp), (N p hp).2⟩
/-- the call of _law_folded in a block whose table may grow -/
theorem folded_in {w : World} {A : Around} {s : Shared} {g₀ : Heap} {CC I D : Addr} {oI oD : Obj} {tl : List (Addr × Obj)} {m : Str → Option Value} {P : Addr} {vals : List Value} {ps : List Str} {ia : Bool} {Q E : Value → Shared → Prop}
    (C : Cx w g₀) (r0 : Rm A 80 800) (F : Fr g₀ CC s.heap m) (N : News g₀ CC s.heap ((I, oI) :: (D, oD) :: tl)) (off : ∀ p ∈ tl, p.1 ≠ I ∧ p.1 ≠ D) (zg : g₀.objs.size ≤ s.heap.objs.size) (hl : g₀.IsList P vals.toArray) (hps : StrsAre vals ps) (hn : 2 ≤ ps.length) (hx : ∀ p ∈ ps, p.length ≤ 100) (hia : ∀ p ∈ ps, Txt.startswith p "/" = ia) (hg : ∀ p ∈ ps, ∀ P, P <+: namesOf p → GoodP ia P)
    (hcd : CodeHd g₀ 187 183) (hT : TabL tl)
    (q : ∀ v tl' h' tk, Fr g₀ CC h' m → News g₀ CC h' ((I, oI) :: (D, oD) :: tl') → (∀ p ∈ tl', p.1 ≠ I ∧ p.1 ≠ D) → TabL tl' → (∃ t' P, v = .str (cpOf ia P) t' ∧ IsLcp P (ps.map namesOf)) → Q v { s with heap := h', toks := tk }) :
    wpAny (model prog w) A (call (.ref 188) [.ref P]) Q E s := by
  have nt : ∀ p ∈ tl, s.heap.get? p.1 = some p.2 ∧ p.1 ≠ CC ∧ g₀.get? p.1 = none := fun p hp => N p (.tail _ (.tail _ hp))
  have kg : Keeps g₀ (hideAll s.heap (tl.map (·.1))) := hide_keeps F.keep fun p hp => (nt p hp).2.2
  have hCC : ∃ o, (hideAll s.heap (tl.map (·.1))).get? CC = some o := by
    obtain ⟨o, _, _, e, _⟩ := F.ns
    exact ⟨o, hide_get e fun p hp => (nt p hp).2.1⟩
  have hI : (hideAll s.heap (tl.map (·.1))).get? I = some oI := hide_get (N _ (.head _)).1 fun p hp => (off p hp).1
  have hD : (hideAll s.heap (tl.map (·.1))).get? D = some oD := hide_get (N _ (.tail _ (.head _))).1 fun p hp => (off p hp).2
  obtain ⟨oC, eC⟩ := hCC
  refine folded_ok (g := hideAll s.heap (tl.map (·.1))) (C.keeps kg) r0 (fun b o e => of_hideAll _ e) (by rw [hideAll_size]; exact Nat.le_refl _) (IsL.keep hl kg) hps hn hx hia hg (hcd.keeps kg) hT (fun p hp => ⟨(nt p hp).1, hideAll_none _ (List.mem_map_of_mem hp)⟩) ?_
  rintro v tl' h' tk k' z' hT' l' hv
  refine q v tl' h' tk ⟨F.ns.at' fun o e => k' _ o (hide_get e fun p hp => (nt p hp).2.1), fun b o e => k' b o (kg b o e), F.above⟩ (fun p hp => ?_) (fun p hp => ⟨ne_of_none (l' p hp).2 hI, ne_of_none (l' p hp).2 hD⟩) hT' hv
  rcases List.mem_cons.mp hp with rfl | hp
  · exact ⟨k' _ _ hI, (N _ (.head _)).2⟩
  rcases List.mem_cons.mp hp with rfl | hp
  · exact ⟨k' _ _ hD, (N _ (.tail _ (.head _))).2⟩
  · exact ⟨(l' p hp).1, ne_of_none (l' p hp).2 eC, none_of kg (l' p hp).2⟩
theorem sorted_rows {ia : Bool} {rws : List (List Str)} {Sp : List Str} (hA : ∀ r ∈ rws, r ∈ allRows) (hp : Sp.Perm (rws.map (writtenS (stOf ia)))) (ha : Asc ltL (keyAt Sp) Sp.length) :
    ∃ S : List (List Str), S.Perm rws ∧ S.map (writtenS (stOf ia)) = Sp ∧ Asc ltL (rowAt S) S.length := by
  have h1 : (Sp.map namesOf).Perm rws := by
    have h := hp.map namesOf
    rw [List.map_map] at h
    have e : rws.map (namesOf ∘ writtenS (stOf ia)) = rws := by
      conv => rhs; rw [← List.map_id rws]
      exact List.map_congr_left fun r hr => rows_names ia r (hA r hr)
    rw [e] at h; exact h
  have hSA : ∀ r ∈ Sp.map namesOf, r ∈ allRows := fun r hr => hA r (h1.mem_iff.mp hr)
  have hw : ∀ p ∈ Sp, writtenS (stOf ia) (namesOf p) = p := fun p hpm => by
    obtain ⟨r, hr, rfl⟩ := List.mem_map.mp (hp.mem_iff.mp hpm)
    rw [rows_names ia r (hA r hr)]
  refine ⟨Sp.map namesOf, h1, ?_, fun i j hij hj => ?_⟩
  · rw [List.map_map]
    conv => rhs; rw [← List.map_id Sp]
    exact List.map_congr_left hw
  · rw [List.length_map] at hj
    have key : ∀ k, k < Sp.length → keyAt Sp k = splS ia (rowAt (Sp.map namesOf) k) ∧ rowAt (Sp.map namesOf) k ∈ allRows := fun k hk => by
      have e : Sp[k]? = some Sp[k] := List.getElem?_eq_getElem hk
      have e2 : rowAt (Sp.map namesOf) k = namesOf Sp[k] := by unfold rowAt; rw [List.getElem?_map, e]; rfl
      have hm : namesOf Sp[k] ∈ allRows := hSA _ (List.mem_map_of_mem (List.getElem_mem hk))
      refine ⟨?_, by rw [e2]; exact hm⟩
      rw [e2, ← rows_split ia _ hm, hw _ (List.getElem_mem hk)]
      unfold keyAt pathAt; rw [e]; rfl
    obtain ⟨k1, m1⟩ := key i (by omega)
    obtain ⟨k2, m2⟩ := key j hj
    have := ha i j hij hj
    rw [k1, k2, spl_lt ia m2 m1] at this; exact this
theorem order_rows {h : Heap} {vals V : List Value} {rws S : List (List Str)} (hr : RowsIn h vals rws) (hS : S.Perm rws) (ha : Asc ltL (rowAt S) S.length) (hl : V.length = rws.length) (hV : ∀ k, k < rws.length → V[posN rws k]? = vals[k]?) : RowsIn h V S := by
  have hSl := hS.length_eq
  refine ⟨by rw [hl, hSl], fun {i v} e => ?_⟩
  have hi : i < S.length := by rw [hSl, ← hl]; exact (List.getElem?_eq_some_iff.mp e).1
  obtain ⟨k, h1, h2⟩ := pos_all hS ha hi
  have hk : k < rws.length := (List.getElem?_eq_some_iff.mp h1).1
  have h3 := hV k hk
  rw [h2, e] at h3
  obtain ⟨a, W, xs, e1, e2, e3, e4⟩ := hr.item h3.symm
  rw [h1] at e4
  obtain rfl := Option.some.inj e4
  exact ⟨a, W, _, e1, e2, e3, rowAt_get hi⟩
theorem names_at {ia : Bool} {S : List (List Str)} {Sp : List Str} (hA : ∀ r ∈ S, r ∈ allRows) (e : S.map (writtenS (stOf ia)) = Sp) {k : Nat} {p : Str} (h : Sp[k]? = some p) : namesOf p = rowAt S k := by
  subst e
  rw [List.getElem?_map] at h
  cases e2 : S[k]? with
  | none => rw [e2] at h; cases h
  | some r =>
    rw [e2] at h
    obtain rfl := Option.some.inj h
    rw [rows_names ia r (hA r (List.mem_of_getElem? e2))]
    unfold rowAt; rw [e2]; rfl
theorem names_map {ia : Bool} {S : List (List Str)} (hA : ∀ r ∈ S, r ∈ allRows) : (S.map (writtenS (stOf ia))).map namesOf = S := by
  rw [List.map_map]
  conv => rhs; rw [← List.map_id S]
  exact List.map_congr_left fun r hr => rows_names ia r (hA r hr)
/-- a statement's end: the next one, in such a state -/
noncomputable def NextS (P : Shared → Prop) (f : Flow) (s' : Shared) : Prop := f = .next ∧ P s'
/-- behind the first row -/
noncomputable def StartB (s : Shared) (g : Heap) (L : Addr) (S : Addr) (s₂ : Shared) : Prop :=
  ∃ h' tk' m' oc ia t, s₂ = { s with heap := h', toks := tk' } ∧ Fr g L h' m' ∧ News g L h' [(L + 1, oc), (183, tabObj #[]), (136, tabObj #[])] ∧ m' "script" = some (.ref S) ∧ oc.data = .cell (some (.str (stOf ia) t))
end Mine
end
/-! Cu1 -/
section
open PySem PySem.W PyProof.Rows PySem.Calls
set_option maxRecDepth 100000
set_option linter.unusedVariables false
namespace Mine
/-- a continuation that stands under a name -/
noncomputable def Cut {α : Type} (K Q : α → Shared → Prop) : Prop := ∀ v s, Q v s → K v s
theorem Cut.go {α : Type} {K Q : α → Shared → Prop} (h : Cut K Q) {v : α} {s : Shared} (x : Q v s) : K v s := h v s x
theorem cutQ {α : Type} {M : Model} {A : Around} {t : Sem α} {Q : α → Shared → Prop} {E : Value → Shared → Prop} {s : Shared} (h : ∀ K, Cut K Q → wpAny M A t K E s) : wpAny M A t Q E s := h Q fun _ _ x => x
theorem cutE {α : Type} {M : Model} {A : Around} {t : Sem α} {Q : α → Shared → Prop} {E : Value → Shared → Prop} {s : Shared} (h : ∀ K, Cut K Q → wpAny M A t K (fun _ _ => False) s) : wpAny M A t Q E s :=
  wpAny_mono (h Q fun _ _ x => x) (fun _ _ x => x) (fun _ _ x => x.elim)
theorem news_pick {h₀ h : Heap} {L : Addr} {news : List (Addr × Obj)} (N : News h₀ L h news) (is : List Nat) (k : Nat) : News h₀ L h (is.filterMap (news[·]?) ++ news.drop k) := fun p hp => by
  rcases List.mem_append.mp hp with hp | hp
  · obtain ⟨i, _, e⟩ := List.mem_filterMap.mp hp
    exact N p (List.mem_of_getElem? e)
  · exact N p (List.mem_of_mem_drop hp)
theorem news_swap {h₀ h : Heap} {L : Addr} {a : Addr × Obj} {t b : List (Addr × Obj)} (N : News h₀ L h (a :: (t ++ b))) : News h₀ L h (a :: (b ++ t)) := fun p hp => by
  rcases List.mem_cons.mp hp with rfl | hp
  · exact N _ (.head _)
  · exact N p (.tail _ (List.mem_append.mpr ((List.mem_append.mp hp).symm)))
theorem news_cons {h₀ h : Heap} {L : Addr} {news news' : List (Addr × Obj)} {a : Addr × Obj} (N : News h₀ L h news) (ha : a ∈ news) (N' : News h₀ L h news') : News h₀ L h (a :: news') := fun p hp => by
  rcases List.mem_cons.mp hp with rfl | hp
  · exact N _ ha
  · exact N' p hp
end Mine
end
/-! Lw1 -/
section
open PySem PySem.W PyProof.Rows PySem.Calls
set_option maxRecDepth 100000
set_option linter.unusedVariables false
namespace Mine
local macro_rules | `(tactic| walk_at "exec Assign cons ListComp") => `(tactic| (refine Stop.out ?_))
local macro_rules | `(tactic| walk_at "call ref") => `(tactic| (refine Stop.out ?_))
local macro_rules | `(tactic| walk_at "call builtin:sorted") => `(tactic| (refine Stop.out ?_))
local macro_rules | `(tactic| walk_at "eval ListComp") => `(tactic| (refine Stop.out ?_))
local macro_rules | `(tactic| walk_at "compareOp Eq ref ref") => `(tactic| (refine Stop.out ?_))
local macro_rules | `(tactic| walk_at "GoodW cons ok") => `(tactic| (refine Stop.out ?_))
set_option maxHeartbeats 8000000 in
theorem law_holds : PySem.Challenge.rw_pd0104_01.Holds := Mine.hd (by
  k_go0
  all_goals (try k_fold)
  rename_i S vals la hL ra w1 r0 hI hr hc1 hc2 hD hp0 tk0 oc0 hoc0 hcells X0 T0 K0 F0 hcd1 N0 l0
  rename World => w
  rename List Int => ns
  rename Shared => s
  have hS : (ghostOf s.heap [(187, 183), (140, 136)]).IsList S vals.toArray := by assumption
  have hcd2 : CodeHd (ghostOf s.heap [(187, 183), (140, 136)]) 140 136 := by assumption
  generalize hg9 : ghostOf _ _ = g at *
  have C0 : Cx w g := ⟨X0, _, _, _, _, _, T0⟩
  have hvl := IntsAre.length hI
  refine cutE (fun K0 hK0 => ?_)
  refine wpAny_execs_cons (wpAny_mono (Q := NextS (StartB s g s.heap.objs.size S)) ?_ ?_ (fun _ _ e => e))
  · (repeat' (first | (k_unfold; (try dsimp only)) | (k_end; kc_close) | ((with_reducible show wpAny _ _ (subscriptTail (PySem.Expr.Name ..) (PySem.Expr.Slice ..) (PySem.Value.ref _) (PySem.Value.ref _)) _ _ _); with_reducible ((with_reducible show wpAny _ _ (subscriptTail _ (PySem.Expr.Slice none none (some _) _) (Value.ref _) (Value.ref _)) _ _ _); k_dflt (refine' slice_rev ?F ?N ?l ?z ?_ ?s ?t; (case F => with_reducible assumption); (case N => with_reducible assumption); (case l => exact led_list (by with_reducible assumption) (by k_mem)); (case z => with_reducible assumption); (case s => with_unfolding_all rfl); (case t => (intro _; with_unfolding_all rfl))); intro _ _ _ _ _)) | ((with_reducible show wpAny _ _ (eval (PySem.Expr.Name _ _) _) _ _ _); with_reducible (k_dflt (first | refine ldVarK (Fr.ns (by assumption)) (by with_reducible assumption) ?_ | refine ldCellK rfl (Heap.IsCell.keeps (by with_reducible assumption) (Fr.keep (by assumption))) ?_ | refine ldCC (by with_reducible assumption) (by k_mem) (by with_reducible assumption) rfl ?_ | (refine' ldC (h₀ := _) ?k1 ?k2 ?_; (case k1 => assumption); (case k2 => ((try dsimp only); (repeat rw [if_neg (by decide)]); first | rfl | with_reducible assumption))) | refine ldG (fr_cx (by assumption) (by assumption)) (by k_is) ?_ | refine ldB (fr_cx (by assumption) (by assumption)) (by k_is) (by boot_by_name) (by decide) ?_))) | walk1 | (dsimp only; (first | ((with_reducible show wpAny _ _ (subscriptTail (PySem.Expr.Name ..) (PySem.Expr.Slice ..) (PySem.Value.ref _) (PySem.Value.ref _)) _ _ _); with_reducible ((with_reducible show wpAny _ _ (subscriptTail _ (PySem.Expr.Slice none none (some _) _) (Value.ref _) (Value.ref _)) _ _ _); k_dflt (refine' slice_rev ?F ?N ?l ?z ?_ ?s ?t; (case F => with_reducible assumption); (case N => with_reducible assumption); (case l => exact led_list (by with_reducible assumption) (by k_mem)); (case z => with_reducible assumption); (case s => with_unfolding_all rfl); (case t => (intro _; with_unfolding_all rfl))); intro _ _ _ _ _)) | ((with_reducible show wpAny _ _ (eval (PySem.Expr.Name _ _) _) _ _ _); with_reducible (k_dflt (first | refine ldVarK (Fr.ns (by assumption)) (by with_reducible assumption) ?_ | refine ldCellK rfl (Heap.IsCell.keeps (by with_reducible assumption) (Fr.keep (by assumption))) ?_ | refine ldCC (by with_reducible assumption) (by k_mem) (by with_reducible assumption) rfl ?_ | (refine' ldC (h₀ := _) ?k1 ?k2 ?_; (case k1 => assumption); (case k2 => ((try dsimp only); (repeat rw [if_neg (by decide)]); first | rfl | with_reducible assumption))) | refine ldG (fr_cx (by assumption) (by assumption)) (by k_is) ?_ | refine ldB (fr_cx (by assumption) (by assumption)) (by k_is) (by boot_by_name) (by decide) ?_))) | walk1)) | (leave1; (try dsimp only)) | fail "no step"))
    all_goals (rename News _ _ _ (_ :: _) => N9)
    · exact ⟨rfl, _, _, _, _, true, _, rfl, by assumption, fun p hp => N9 p (.tail _ hp), rfl, by assumption⟩
    · exact ⟨rfl, _, _, _, _, false, _, rfl, by assumption, fun p hp => N9 p (.tail _ hp), rfl, by assumption⟩
  · rintro _ s2 ⟨rfl, h1, tk1, m1, oc, ia, tst, rfl, F1, N1, hscr, hoc⟩
    clear F0 N0 hoc0
    have hvz : vals.length ≤ 63 := by omega
    refine wpAny_execs_cons (cutQ fun K1 hK1 => ?_)
    refine assignCompK (h₀ := g) (cl := []) rfl rfl (by decide) rfl (by decide) rfl rfl rfl ?_
    (repeat' (first | (k_unfold; (try dsimp only)) | (k_end; kc_close) | ((with_reducible show wpAny _ _ (subscriptTail (PySem.Expr.Name ..) (PySem.Expr.Slice ..) (PySem.Value.ref _) (PySem.Value.ref _)) _ _ _); with_reducible ((with_reducible show wpAny _ _ (subscriptTail _ (PySem.Expr.Slice none none (some _) _) (Value.ref _) (Value.ref _)) _ _ _); k_dflt (refine' slice_rev ?F ?N ?l ?z ?_ ?s ?t; (case F => with_reducible assumption); (case N => with_reducible assumption); (case l => exact led_list (by with_reducible assumption) (by k_mem)); (case z => with_reducible assumption); (case s => with_unfolding_all rfl); (case t => (intro _; with_unfolding_all rfl))); intro _ _ _ _ _)) | ((with_reducible show wpAny _ _ (binaryOp PySem.Operator.Add (PySem.Value.ref _) (PySem.Value.ref _)) _ _ _); with_reducible (k_dflt (first | refine add_led (by with_reducible assumption) (by with_reducible assumption) (led_list (by with_reducible assumption) (.tail _ (.head _))) ⟨_, News.get (by with_reducible assumption) (.head _), rfl, _, rfl⟩ (by (rename IntsAre _ (List.take 4 _) => hq9); (have hq8 := IntsAre.length hq9); simp only [List.length_take, List.length_cons, List.length_nil] at hq8 ⊢; rw [hq8]; exact Nat.le_trans (Nat.add_le_add_right (Nat.min_le_left 4 _) _) (by decide)) ?_ | refine add_led (by with_reducible assumption) (by with_reducible assumption) (led_list (by with_reducible assumption) (by k_mem)) (led_list (by with_reducible assumption) (by k_mem)) (by simp only [List.length_cons, List.length_nil]; omega) ?_); intro _ _ _ _ _)) | ((with_reducible show wpAny _ _ (eval (PySem.Expr.Name _ _) _) _ _ _); with_reducible (k_dflt (first | refine ldVarK (Fr.ns (by assumption)) (by with_reducible assumption) ?_ | refine ldCellK rfl (Heap.IsCell.keeps (by with_reducible assumption) (Fr.keep (by assumption))) ?_ | refine ldCC (by with_reducible assumption) (by k_mem) (by with_reducible assumption) rfl ?_ | (refine' ldC (h₀ := _) ?k1 ?k2 ?_; (case k1 => assumption); (case k2 => ((try dsimp only); (repeat rw [if_neg (by decide)]); first | rfl | with_reducible assumption))) | refine ldG (fr_cx (by assumption) (by assumption)) (by k_is) ?_ | refine ldB (fr_cx (by assumption) (by assumption)) (by k_is) (by boot_by_name) (by decide) ?_))) | walk1 | (dsimp only; (first | ((with_reducible show wpAny _ _ (subscriptTail (PySem.Expr.Name ..) (PySem.Expr.Slice ..) (PySem.Value.ref _) (PySem.Value.ref _)) _ _ _); with_reducible ((with_reducible show wpAny _ _ (subscriptTail _ (PySem.Expr.Slice none none (some _) _) (Value.ref _) (Value.ref _)) _ _ _); k_dflt (refine' slice_rev ?F ?N ?l ?z ?_ ?s ?t; (case F => with_reducible assumption); (case N => with_reducible assumption); (case l => exact led_list (by with_reducible assumption) (by k_mem)); (case z => with_reducible assumption); (case s => with_unfolding_all rfl); (case t => (intro _; with_unfolding_all rfl))); intro _ _ _ _ _)) | ((with_reducible show wpAny _ _ (binaryOp PySem.Operator.Add (PySem.Value.ref _) (PySem.Value.ref _)) _ _ _); with_reducible (k_dflt (first | refine add_led (by with_reducible assumption) (by with_reducible assumption) (led_list (by with_reducible assumption) (.tail _ (.head _))) ⟨_, News.get (by with_reducible assumption) (.head _), rfl, _, rfl⟩ (by (rename IntsAre _ (List.take 4 _) => hq9); (have hq8 := IntsAre.length hq9); simp only [List.length_take, List.length_cons, List.length_nil] at hq8 ⊢; rw [hq8]; exact Nat.le_trans (Nat.add_le_add_right (Nat.min_le_left 4 _) _) (by decide)) ?_ | refine add_led (by with_reducible assumption) (by with_reducible assumption) (led_list (by with_reducible assumption) (by k_mem)) (led_list (by with_reducible assumption) (by k_mem)) (by simp only [List.length_cons, List.length_nil]; omega) ?_); intro _ _ _ _ _)) | ((with_reducible show wpAny _ _ (eval (PySem.Expr.Name _ _) _) _ _ _); with_reducible (k_dflt (first | refine ldVarK (Fr.ns (by assumption)) (by with_reducible assumption) ?_ | refine ldCellK rfl (Heap.IsCell.keeps (by with_reducible assumption) (Fr.keep (by assumption))) ?_ | refine ldCC (by with_reducible assumption) (by k_mem) (by with_reducible assumption) rfl ?_ | (refine' ldC (h₀ := _) ?k1 ?k2 ?_; (case k1 => assumption); (case k2 => ((try dsimp only); (repeat rw [if_neg (by decide)]); first | rfl | with_reducible assumption))) | refine ldG (fr_cx (by assumption) (by assumption)) (by k_is) ?_ | refine ldB (fr_cx (by assumption) (by assumption)) (by k_is) (by boot_by_name) (by decide) ?_))) | walk1)) | (leave1; (try dsimp only)) | fail "no step"))
    rename Fr _ _ _ _ => F2
    rename News _ _ _ (_ :: _) => N2
    rename IntsAre _ (List.take 4 _) => hI4
    have hI2 := ints_app hI4 (.cons 27 (tk1 + 1) (.cons 26 (tk1 + 1 + 1) (.cons 87 (tk1 + 1 + 1 + 1) (.cons 99 (tk1 + 1 + 1 + 1 + 1) .nil))))
    have hx8 : (List.take 4 ns ++ [27, 26, 87, 99]).length ≤ 8 ∧ 4 ≤ (List.take 4 ns ++ [27, 26, 87, 99]).length := by
      rw [List.length_append, List.length_take]; simp only [List.length_cons, List.length_nil]; exact ⟨Nat.add_le_add_right (Nat.min_le_left 4 _) 4, Nat.le_add_left 4 _⟩
    generalize hxs : List.take 4 ns ++ [27, 26, 87, 99] = xs at hI2 hx8
    generalize (_ ++ [Value.int 27 _, Value.int 26 _, Value.int 87 _, Value.int 99 _] : List Value) = xv at N2 hI2
    rename_i D2 g2 _
    replace N2 : News g s.heap.objs.size g2 [(D2, W.listOf xv.toArray 0), (s.heap.objs.size + 1, oc), (183, tabObj #[]), (136, tabObj #[])] := news_pick N2 [0, 3, 4, 5] 6
    have hxvl := IntsAre.length hI2
    have hxvs : xv.toArray.size = xs.length := by rw [List.size_toArray, hxvl]
    have Cg2 : Cx w g2 := fr_cx F2 C0
    have X2 := Cg2.X
    refine ⟨xv.toArray.size, _, fun i ys tl => ys.length = i ∧ RowsLed ys tl ((xs.take i).map rowS) ∧ ∀ p ∈ tl, g2.get? p.1 = none, D2, iterOf_list rfl ⟨_, (N2 _ (.head _)).1, rfl, _, rfl⟩, ?_, ⟨rfl, .nil, fun p hp => by cases hp⟩, fun i ys tl h => Nat.le_of_eq h.1, ?_, ?_⟩
    · rw [hxvs]; exact Nat.le_trans hx8.1 (by decide)
    · rintro i v ys tl CC m₃ h₃ tk₃ I oI DD hi hP ⟨hlen, hR, hnw⟩ F3 N3 hm off hID
      obtain ⟨n, t, rfl, hn⟩ := ints_item hI2 (i := i) (v := v) (by simpa using hP)
      (try dsimp only at F3 N3)
      refine wpAny_tests_nil ?_
      rw [if_pos rfl]
      (repeat' (first | (k_unfold; (try dsimp only)) | (k_end; kc_close) | ((with_reducible show wpAny _ _ (eval (PySem.Expr.Name _ _) _) _ _ _); with_reducible (k_dflt (first | refine ldVarK (Fr.ns (by assumption)) (by with_reducible assumption) ?_ | refine ldCellK rfl (Heap.IsCell.keeps (by with_reducible assumption) (Fr.keep (by assumption))) ?_ | refine ldCC (by with_reducible assumption) (by k_mem) (by with_reducible assumption) rfl ?_ | (refine' ldC (h₀ := _) ?k1 ?k2 ?_; (case k1 => assumption); (case k2 => ((try dsimp only); (repeat rw [if_neg (by decide)]); first | rfl | with_reducible assumption))) | refine ldG (fr_cx (by assumption) (by assumption)) (by k_is) ?_ | refine ldB (fr_cx (by assumption) (by assumption)) (by k_is) (by boot_by_name) (by decide) ?_))) | walk1 | (dsimp only; (first | ((with_reducible show wpAny _ _ (eval (PySem.Expr.Name _ _) _) _ _ _); with_reducible (k_dflt (first | refine ldVarK (Fr.ns (by assumption)) (by with_reducible assumption) ?_ | refine ldCellK rfl (Heap.IsCell.keeps (by with_reducible assumption) (Fr.keep (by assumption))) ?_ | refine ldCC (by with_reducible assumption) (by k_mem) (by with_reducible assumption) rfl ?_ | (refine' ldC (h₀ := _) ?k1 ?k2 ?_; (case k1 => assumption); (case k2 => ((try dsimp only); (repeat rw [if_neg (by decide)]); first | rfl | with_reducible assumption))) | refine ldG (fr_cx (by assumption) (by assumption)) (by k_is) ?_ | refine ldB (fr_cx (by assumption) (by assumption)) (by k_is) (by boot_by_name) (by decide) ?_))) | walk1)) | (leave1; (try dsimp only)) | fail "no step"))
      refine Stop.mk ?_
      refine Does.frN (row_ok (fr_cx F3 Cg2) ((rm_law _).le (by decide) (by decide))) F3 N3 ?_
      rintro v' tl' h' tk' F4 N4 off4 ⟨D4, V4, n4, rfl, rfl, hV4⟩
      refine elt_end F4 (tl' := (D4, W.listOf V4.toArray n4) :: tl) (news_pick N4 [1, 2, 0] 3) (fun p hp => ?_) ⟨by simp [hlen], ?_, fun p hp => ?_⟩
      · rcases List.mem_cons.mp hp with rfl | hp
        · exact ⟨off4 _ (.head _) (I, oI) (.head _), off4 _ (.head _) (DD, lst ys) (.tail _ (.head _))⟩
        · exact off p hp
      · rw [List.take_add_one, hn, List.map_append]
        exact hR.snoc hV4
      · rcases List.mem_cons.mp hp with rfl | hp
        · exact (N4 _ (.head _)).2.2
        · exact hnw p hp
    · rintro ys tlr ⟨hlen, hR, hnw⟩
      rw [hxvs, List.take_length] at hR
      refine ⟨_, _, F2, N2, fun D3 g3 tk3 F3 N3 hD3 => ?_⟩
      refine Cut.go hK1 ?_
      clear Cg2 X2
      replace F3 : Fr g s.heap.objs.size g3 _ := F3
      replace N3 : News g s.heap.objs.size g3 ((D3, lst ys) :: (s.heap.objs.size + 1, oc) :: (183, tabObj #[]) :: (136, tabObj #[]) :: tlr) := news_pick (news_swap N3) [0, 2, 3, 4] 5
      have hn136 : ∀ p ∈ (D3, lst ys) :: (s.heap.objs.size + 1, oc) :: (183, tabObj #[]) :: tlr, p.1 ≠ 136 := fun p hp => by
        rcases List.mem_cons.mp hp with rfl | hp
        · exact Nat.ne_of_gt (Nat.lt_of_lt_of_le (Heap.lt_size (N2 (136, _) (.tail _ (.tail _ (.tail _ (.head _))))).1) hD3)
        rcases List.mem_cons.mp hp with rfl | hp
        · exact Nat.ne_of_gt (Nat.lt_succ_of_lt l0.2)
        rcases List.mem_cons.mp hp with rfl | hp
        · exact Nat.ne_of_gt (by decide)
        · exact ne_of_none (hnw p hp) (N2 (136, _) (.tail _ (.tail _ (.tail _ (.head _))))).1
      have hn183 : ∀ p ∈ (D3, lst ys) :: (s.heap.objs.size + 1, oc) :: tlr, p.1 ≠ 183 := fun p hp => by
        rcases List.mem_cons.mp hp with rfl | hp
        · exact Nat.ne_of_gt (Nat.lt_of_lt_of_le (Heap.lt_size (N2 (183, _) (.tail _ (.tail _ (.head _)))).1) hD3)
        rcases List.mem_cons.mp hp with rfl | hp
        · exact Nat.ne_of_gt (Nat.lt_succ_of_lt l0.1)
        · exact ne_of_none (hnw p hp) (N2 (183, _) (.tail _ (.tail _ (.head _)))).1
      clear F2 N2 hD3
      have hrws8 : (xs.map rowS).length ≤ 8 ∧ 4 ≤ (xs.map rowS).length := by rw [List.length_map]; exact hx8
      have hrwsA : ∀ r ∈ xs.map rowS, r ∈ allRows := fun r hr => by
        obtain ⟨x, _, rfl⟩ := List.mem_map.mp hr
        exact row_in x
      generalize hrw : xs.map rowS = rws at hR hrws8 hrwsA
      have hyl : ys.length = rws.length := hR.len
      have hys : ys.toArray.size = rws.length := by rw [List.size_toArray, hyl]
      dsimp only at F3 ⊢
      refine wpAny_execs_cons (cutQ fun K2 hK2 => ?_)
      refine assignCompK (h₀ := g) (cl := [("start", s.heap.objs.size + 1)]) rfl rfl (by decide) rfl (by decide) rfl rfl rfl ?_
      (repeat' (first | (k_unfold; (try dsimp only)) | (k_end; kc_close) | ((with_reducible show wpAny _ _ (eval (PySem.Expr.Name _ _) _) _ _ _); with_reducible (k_dflt (first | refine ldVarK (Fr.ns (by assumption)) (by with_reducible assumption) ?_ | refine ldCellK rfl (Heap.IsCell.keeps (by with_reducible assumption) (Fr.keep (by assumption))) ?_ | refine ldCC (by with_reducible assumption) (by k_mem) (by with_reducible assumption) rfl ?_ | (refine' ldC (h₀ := _) ?k1 ?k2 ?_; (case k1 => assumption); (case k2 => ((try dsimp only); (repeat rw [if_neg (by decide)]); first | rfl | with_reducible assumption))) | refine ldG (fr_cx (by assumption) (by assumption)) (by k_is) ?_ | refine ldB (fr_cx (by assumption) (by assumption)) (by k_is) (by boot_by_name) (by decide) ?_))) | walk1 | (dsimp only; (first | ((with_reducible show wpAny _ _ (eval (PySem.Expr.Name _ _) _) _ _ _); with_reducible (k_dflt (first | refine ldVarK (Fr.ns (by assumption)) (by with_reducible assumption) ?_ | refine ldCellK rfl (Heap.IsCell.keeps (by with_reducible assumption) (Fr.keep (by assumption))) ?_ | refine ldCC (by with_reducible assumption) (by k_mem) (by with_reducible assumption) rfl ?_ | (refine' ldC (h₀ := _) ?k1 ?k2 ?_; (case k1 => assumption); (case k2 => ((try dsimp only); (repeat rw [if_neg (by decide)]); first | rfl | with_reducible assumption))) | refine ldG (fr_cx (by assumption) (by assumption)) (by k_is) ?_ | refine ldB (fr_cx (by assumption) (by assumption)) (by k_is) (by boot_by_name) (by decide) ?_))) | walk1)) | (leave1; (try dsimp only)) | fail "no step"))
      have Cg3 : Cx w g3 := fr_cx F3 C0
      have X3 := Cg3.X
      have hst3 : g3.IsCell (s.heap.objs.size + 1) (some (.str (stOf ia) tst)) := ⟨_, (N3 _ (.tail _ (.head _))).1, hoc⟩
      have hrow3 : RowsIn g3 ys rws := hR.rowsN N3 (fun p hp => .tail _ (.tail _ (.tail _ (.tail _ hp))))
      refine ⟨ys.toArray.size, _, fun i zs tl2 => tl2 = [] ∧ zs.length = i ∧ StrsAre zs ((rws.take i).map (laidS (stOf ia))), D3, iterOf_list rfl ⟨_, (N3 _ (.head _)).1, rfl, _, rfl⟩, ?_, ⟨rfl, rfl, .nil⟩, fun i zs tl h => Nat.le_of_eq h.2.1, ?_, ?_⟩
      · rw [hys]; exact Nat.le_trans hrws8.1 (by decide)
      · rintro i v zs tl2 CC m₃ h₃ tk₃ I oI DD hi hP ⟨rfl, hlz, hzs⟩ F4 N4 hm off hID
        obtain ⟨a, V, r, rfl, hla, hxa, hxi⟩ := hrow3.item (by simpa using hP)
        have hrA := hrwsA r (List.mem_of_getElem? hxi)
        have hr3 := rows_len r hrA
        (try dsimp only at F4 N4)
        refine wpAny_tests_nil ?_
        rw [if_pos rfl]
        (repeat' (first | (k_unfold; (try dsimp only)) | (k_end; kc_close) | ((with_reducible show wpAny _ _ (eval (PySem.Expr.Name _ _) _) _ _ _); with_reducible (k_dflt (first | refine ldVarK (Fr.ns (by assumption)) (by with_reducible assumption) ?_ | refine ldCellK rfl (Heap.IsCell.keeps (by with_reducible assumption) (Fr.keep (by assumption))) ?_ | refine ldCC (by with_reducible assumption) (by k_mem) (by with_reducible assumption) rfl ?_ | (refine' ldC (h₀ := _) ?k1 ?k2 ?_; (case k1 => assumption); (case k2 => ((try dsimp only); (repeat rw [if_neg (by decide)]); first | rfl | with_reducible assumption))) | refine ldG (fr_cx (by assumption) (by assumption)) (by k_is) ?_ | refine ldB (fr_cx (by assumption) (by assumption)) (by k_is) (by boot_by_name) (by decide) ?_))) | walk1 | (dsimp only; (first | ((with_reducible show wpAny _ _ (eval (PySem.Expr.Name _ _) _) _ _ _); with_reducible (k_dflt (first | refine ldVarK (Fr.ns (by assumption)) (by with_reducible assumption) ?_ | refine ldCellK rfl (Heap.IsCell.keeps (by with_reducible assumption) (Fr.keep (by assumption))) ?_ | refine ldCC (by with_reducible assumption) (by k_mem) (by with_reducible assumption) rfl ?_ | (refine' ldC (h₀ := _) ?k1 ?k2 ?_; (case k1 => assumption); (case k2 => ((try dsimp only); (repeat rw [if_neg (by decide)]); first | rfl | with_reducible assumption))) | refine ldG (fr_cx (by assumption) (by assumption)) (by k_is) ?_ | refine ldB (fr_cx (by assumption) (by assumption)) (by k_is) (by boot_by_name) (by decide) ?_))) | walk1)) | (leave1; (try dsimp only)) | fail "no step"))
        refine Stop.mk ?_
        refine Does.fr0 (laid_ok (fr_cx F4 Cg3) ((rm_law _).le (by decide) (by decide)) (IsL.keep hla F4.keep) hxa hr3.1 (st_le ia) hr3.2) F4 N4 ?_
        rintro v' tl' h' tk' F5 N5 ⟨t', rfl⟩
        refine elt_end F5 N5 off ⟨rfl, by simp [hlz], ?_⟩
        rw [List.take_add_one, hxi, List.map_append]
        exact StrsAre.append' hzs (.cons _ _ .nil)
      · rintro zs tl2 ⟨rfl, hlz, hzs⟩
        rw [hys, List.take_length] at hzs
        refine ⟨_, _, F3, N3, fun D4 g4 tk4 F4 N4 hD4 => ?_⟩
        refine Cut.go hK2 ?_
        clear Cg3 X3 hst3 hrow3
        have hpz : rws.map (laidS (stOf ia)) = rws.map (writtenS (stOf ia)) := List.map_congr_left fun r hr => rows_laid ia r (hrwsA r hr)
        rw [hpz] at hzs
        generalize hpth : rws.map (writtenS (stOf ia)) = pths at hzs
        have hpl : pths.length = rws.length := by rw [← hpth, List.length_map]
        have hr0 : 0 < rws.length := Nat.lt_of_lt_of_le (by decide) hrws8.2
        have hr100 : rws.length ≤ 100 := Nat.le_trans hrws8.1 (by decide)
        have hpl2 : 2 ≤ pths.length := by rw [hpl]; exact Nat.le_trans (by decide) hrws8.2
        have hpl8 : pths.length ≤ 8 := by rw [hpl]; exact hrws8.1
        replace F4 : Fr g s.heap.objs.size g4 _ := F4
        replace N4 : News g s.heap.objs.size g4 ((136, tabObj #[]) :: (D4, lst zs) :: (D3, lst ys) :: (s.heap.objs.size + 1, oc) :: (183, tabObj #[]) :: tlr) := news_pick N4 [4, 0, 1, 2, 3] 5
        have hn136' : ∀ p ∈ (D4, lst zs) :: (D3, lst ys) :: (s.heap.objs.size + 1, oc) :: (183, tabObj #[]) :: tlr, p.1 ≠ 136 := fun p hp => by
          rcases List.mem_cons.mp hp with rfl | hp
          · exact Nat.ne_of_gt (Nat.lt_of_lt_of_le (Heap.lt_size (N3 (136, _) (.tail _ (.tail _ (.tail _ (.head _))))).1) hD4)
          · exact hn136 p hp
        have hn183' : ∀ p ∈ (D4, lst zs) :: (D3, lst ys) :: (s.heap.objs.size + 1, oc) :: tlr, p.1 ≠ 183 := fun p hp => by
          rcases List.mem_cons.mp hp with rfl | hp
          · exact Nat.ne_of_gt (Nat.lt_of_lt_of_le (Heap.lt_size (N3 (183, _) (.tail _ (.tail _ (.head _)))).1) hD4)
          · exact hn183 p hp
        clear F3 N3 hD4 hn136 hn183
        dsimp only at F4 ⊢
        refine wpAny_execs_cons (cutQ fun K3 hK3 => ?_)
        (repeat' (first | (k_unfold; (try dsimp only)) | (k_end; kc_close) | ((with_reducible show wpAny _ _ (eval (PySem.Expr.Name _ _) _) _ _ _); with_reducible (k_dflt (first | refine ldVarK (Fr.ns (by assumption)) (by with_reducible assumption) ?_ | refine ldCellK rfl (Heap.IsCell.keeps (by with_reducible assumption) (Fr.keep (by assumption))) ?_ | refine ldCC (by with_reducible assumption) (by k_mem) (by with_reducible assumption) rfl ?_ | (refine' ldC (h₀ := _) ?k1 ?k2 ?_; (case k1 => assumption); (case k2 => ((try dsimp only); (repeat rw [if_neg (by decide)]); first | rfl | with_reducible assumption))) | refine ldG (fr_cx (by assumption) (by assumption)) (by k_is) ?_ | refine ldB (fr_cx (by assumption) (by assumption)) (by k_is) (by boot_by_name) (by decide) ?_))) | walk1 | (dsimp only; (first | ((with_reducible show wpAny _ _ (eval (PySem.Expr.Name _ _) _) _ _ _); with_reducible (k_dflt (first | refine ldVarK (Fr.ns (by assumption)) (by with_reducible assumption) ?_ | refine ldCellK rfl (Heap.IsCell.keeps (by with_reducible assumption) (Fr.keep (by assumption))) ?_ | refine ldCC (by with_reducible assumption) (by k_mem) (by with_reducible assumption) rfl ?_ | (refine' ldC (h₀ := _) ?k1 ?k2 ?_; (case k1 => assumption); (case k2 => ((try dsimp only); (repeat rw [if_neg (by decide)]); first | rfl | with_reducible assumption))) | refine ldG (fr_cx (by assumption) (by assumption)) (by k_is) ?_ | refine ldB (fr_cx (by assumption) (by assumption)) (by k_is) (by boot_by_name) (by decide) ?_))) | walk1)) | (leave1; (try dsimp only)) | fail "no step"))
        refine Stop.mk ?_
        refine cmp_ok (fr_cx F4 C0) ((rm_law _).le (by decide) (by decide)) (N4 _ (.head _)).1 (hcd2.keeps F4.keep) ?_
        rintro K kl g5 tk5 kk5 zz5 ⟨pq, hpq⟩ hkl hK
        have n136 := (N4 _ (.head _)).2
        have F5 : Fr g s.heap.objs.size g5 _ := ⟨F4.ns.at' fun o e => kk5 _ o (Nat.ne_of_gt l0.2) e, fun b o e => kk5 b o (fun q => by rw [q] at e; rw [n136.2] at e; cases e) (F4.keep b o e), F4.above⟩
        have hkl' : ∀ p ∈ kl, p.1 ≠ 183 := fun p hp => ne_of_none (hkl p hp).2 (N4 (183, _) (.tail _ (.tail _ (.tail _ (.tail _ (.head _)))))).1
        have N5 : News g s.heap.objs.size g5 ((136, tabObj pq) :: (183, tabObj #[]) :: (D4, lst zs) :: (D3, lst ys) :: (s.heap.objs.size + 1, oc) :: (kl ++ tlr)) := fun p hp => by
          rcases List.mem_cons.mp hp with rfl | hp
          · exact ⟨hpq, n136⟩
          have hold : ∀ q ∈ (D4, lst zs) :: (D3, lst ys) :: (s.heap.objs.size + 1, oc) :: (183, tabObj #[]) :: tlr, g5.get? q.1 = some q.2 ∧ q.1 ≠ s.heap.objs.size ∧ g.get? q.1 = none := fun q hq => ⟨kk5 _ _ (hn136' q hq) (N4 q (.tail _ hq)).1, (N4 q (.tail _ hq)).2⟩
          rcases List.mem_cons.mp hp with rfl | hp
          · exact hold _ (.tail _ (.tail _ (.tail _ (.head _))))
          rcases List.mem_cons.mp hp with rfl | hp
          · exact hold _ (.head _)
          rcases List.mem_cons.mp hp with rfl | hp
          · exact hold _ (.tail _ (.head _))
          rcases List.mem_cons.mp hp with rfl | hp
          · exact hold _ (.tail _ (.tail _ (.head _)))
          rcases List.mem_append.mp hp with hp | hp
          · exact ⟨(hkl p hp).1, by obtain ⟨oL, _, _, e, _⟩ := F4.ns; exact ne_of_none (hkl p hp).2 e, none_of F4.keep (hkl p hp).2⟩
          · exact hold _ (.tail _ (.tail _ (.tail _ (.tail _ hp))))
        have hn183 : ∀ p ∈ (D4, lst zs) :: (D3, lst ys) :: (s.heap.objs.size + 1, oc) :: (kl ++ tlr), p.1 ≠ 183 := fun p hp => by
          rcases List.mem_cons.mp hp with rfl | hp
          · exact hn183' _ (.head _)
          rcases List.mem_cons.mp hp with rfl | hp
          · exact hn183' _ (.tail _ (.head _))
          rcases List.mem_cons.mp hp with rfl | hp
          · exact hn183' _ (.tail _ (.tail _ (.head _)))
          rcases List.mem_append.mp hp with hp | hp
          · exact hkl' p hp
          · exact hn183' p (.tail _ (.tail _ (.tail _ hp)))
        clear F4 N4 hn136' hn183' hkl' kk5 zz5
        (try dsimp only at F5 ⊢)
        k_steps
        refine Stop.mk ?_
        have hplen : ∀ p ∈ pths, p.length ≤ 100 := fun p hp => by
          rw [← hpth] at hp
          obtain ⟨r, hr, rfl⟩ := List.mem_map.mp hp
          exact rows_wlen ia r (hrwsA r hr)
        refine sorted_ok F5 N5 (led_list N5 (.tail _ (.tail _ (.head _)))) hzs hpl2 (Nat.lt_of_le_of_lt hpl8 (by decide)) (fun p hp => Nat.le_trans (hplen p hp) (by decide)) hK (fun p hp => .tail _ (.tail _ (.tail _ (.tail _ (.tail _ (List.mem_append_left _ hp)))))) C0 ((rm_law _).le (by decide) (by decide)) ?_
        intro D6 n6 V6 Sp g6 tk6 F6 N6 hD6 hV6 hSp hAsc
        clear F5 N5
        k_steps
        refine Cut.go hK3 ?_
        refine wpAny_execs_cons (cutQ fun K4 hK4 => ?_)
        (repeat' (first | (k_unfold; (try dsimp only)) | (k_end; kc_close) | ((with_reducible show wpAny _ _ (eval (PySem.Expr.Name _ _) _) _ _ _); with_reducible (k_dflt (first | refine ldVarK (Fr.ns (by assumption)) (by with_reducible assumption) ?_ | refine ldCellK rfl (Heap.IsCell.keeps (by with_reducible assumption) (Fr.keep (by assumption))) ?_ | refine ldCC (by with_reducible assumption) (by k_mem) (by with_reducible assumption) rfl ?_ | (refine' ldC (h₀ := _) ?k1 ?k2 ?_; (case k1 => assumption); (case k2 => ((try dsimp only); (repeat rw [if_neg (by decide)]); first | rfl | with_reducible assumption))) | refine ldG (fr_cx (by assumption) (by assumption)) (by k_is) ?_ | refine ldB (fr_cx (by assumption) (by assumption)) (by k_is) (by boot_by_name) (by decide) ?_))) | walk1 | (dsimp only; (first | ((with_reducible show wpAny _ _ (eval (PySem.Expr.Name _ _) _) _ _ _); with_reducible (k_dflt (first | refine ldVarK (Fr.ns (by assumption)) (by with_reducible assumption) ?_ | refine ldCellK rfl (Heap.IsCell.keeps (by with_reducible assumption) (Fr.keep (by assumption))) ?_ | refine ldCC (by with_reducible assumption) (by k_mem) (by with_reducible assumption) rfl ?_ | (refine' ldC (h₀ := _) ?k1 ?k2 ?_; (case k1 => assumption); (case k2 => ((try dsimp only); (repeat rw [if_neg (by decide)]); first | rfl | with_reducible assumption))) | refine ldG (fr_cx (by assumption) (by assumption)) (by k_is) ?_ | refine ldB (fr_cx (by assumption) (by assumption)) (by k_is) (by boot_by_name) (by decide) ?_))) | walk1)) | (leave1; (try dsimp only)) | fail "no step"))
        refine Stop.mk ?_
        rename Fr _ _ _ _ => F7
        rename News _ _ _ (_ :: _ :: _) => N7
        rename Heap => g7
        have Cg7 : Cx w g7 := fr_cx F7 C0
        have X7 := Cg7.X
        have hst7 : g7.IsCell (s.heap.objs.size + 1) (some (.str (stOf ia) tst)) := ⟨_, (N7 _ (.tail _ (.tail _ (.tail _ (.tail _ (.tail _ (.head _))))))).1, hoc⟩
        have hrow7 : RowsIn g7 ys rws := hR.rowsN N7 (fun p hp => .tail _ (.tail _ (.tail _ (.tail _ (.tail _ (.tail _ (List.mem_append_right _ hp)))))))
        refine listCompK (cl := [("start", s.heap.objs.size + 1)]) rfl (by decide) rfl (by decide) rfl ?_
        (repeat' (first | (k_unfold; (try dsimp only)) | (k_end; kc_close) | ((with_reducible show wpAny _ _ (eval (PySem.Expr.Name _ _) _) _ _ _); with_reducible (k_dflt (first | refine ldVarK (Fr.ns (by assumption)) (by with_reducible assumption) ?_ | refine ldCellK rfl (Heap.IsCell.keeps (by with_reducible assumption) (Fr.keep (by assumption))) ?_ | refine ldCC (by with_reducible assumption) (by k_mem) (by with_reducible assumption) rfl ?_ | (refine' ldC (h₀ := _) ?k1 ?k2 ?_; (case k1 => assumption); (case k2 => ((try dsimp only); (repeat rw [if_neg (by decide)]); first | rfl | with_reducible assumption))) | refine ldG (fr_cx (by assumption) (by assumption)) (by k_is) ?_ | refine ldB (fr_cx (by assumption) (by assumption)) (by k_is) (by boot_by_name) (by decide) ?_))) | walk1 | (dsimp only; (first | ((with_reducible show wpAny _ _ (eval (PySem.Expr.Name _ _) _) _ _ _); with_reducible (k_dflt (first | refine ldVarK (Fr.ns (by assumption)) (by with_reducible assumption) ?_ | refine ldCellK rfl (Heap.IsCell.keeps (by with_reducible assumption) (Fr.keep (by assumption))) ?_ | refine ldCC (by with_reducible assumption) (by k_mem) (by with_reducible assumption) rfl ?_ | (refine' ldC (h₀ := _) ?k1 ?k2 ?_; (case k1 => assumption); (case k2 => ((try dsimp only); (repeat rw [if_neg (by decide)]); first | rfl | with_reducible assumption))) | refine ldG (fr_cx (by assumption) (by assumption)) (by k_is) ?_ | refine ldB (fr_cx (by assumption) (by assumption)) (by k_is) (by boot_by_name) (by decide) ?_))) | walk1)) | (leave1; (try dsimp only)) | fail "no step"))
        refine ⟨ys.toArray.size, _, fun i us tl2 => tl2 = [] ∧ us.length = i ∧ StrsAre us ((rws.take i).map (writtenS (stOf ia))), D3, iterOf_list rfl ⟨_, (N7 _ (.tail _ (.tail _ (.tail _ (.tail _ (.head _)))))).1, rfl, _, rfl⟩, ?_, ⟨rfl, rfl, .nil⟩, fun i zs tl h => Nat.le_of_eq h.2.1, ?_, ?_⟩
        · rw [hys]; exact Nat.le_trans hrws8.1 (by decide)
        · rintro i v us tl2 CC m₃ h₃ tk₃ I oI DD hi hP ⟨rfl, hlu, hus⟩ F8 N8 hm off hID
          obtain ⟨a, V, r, rfl, hla, hxa, hxi⟩ := hrow7.item (by simpa using hP)
          have hrA := hrwsA r (List.mem_of_getElem? hxi)
          have hr3 := rows_len r hrA
          (try dsimp only at F8 N8)
          refine wpAny_tests_nil ?_
          rw [if_pos rfl]
          (repeat' (first | (k_unfold; (try dsimp only)) | (k_end; kc_close) | ((with_reducible show wpAny _ _ (eval (PySem.Expr.Name _ _) _) _ _ _); with_reducible (k_dflt (first | refine ldVarK (Fr.ns (by assumption)) (by with_reducible assumption) ?_ | refine ldCellK rfl (Heap.IsCell.keeps (by with_reducible assumption) (Fr.keep (by assumption))) ?_ | refine ldCC (by with_reducible assumption) (by k_mem) (by with_reducible assumption) rfl ?_ | (refine' ldC (h₀ := _) ?k1 ?k2 ?_; (case k1 => assumption); (case k2 => ((try dsimp only); (repeat rw [if_neg (by decide)]); first | rfl | with_reducible assumption))) | refine ldG (fr_cx (by assumption) (by assumption)) (by k_is) ?_ | refine ldB (fr_cx (by assumption) (by assumption)) (by k_is) (by boot_by_name) (by decide) ?_))) | walk1 | (dsimp only; (first | ((with_reducible show wpAny _ _ (eval (PySem.Expr.Name _ _) _) _ _ _); with_reducible (k_dflt (first | refine ldVarK (Fr.ns (by assumption)) (by with_reducible assumption) ?_ | refine ldCellK rfl (Heap.IsCell.keeps (by with_reducible assumption) (Fr.keep (by assumption))) ?_ | refine ldCC (by with_reducible assumption) (by k_mem) (by with_reducible assumption) rfl ?_ | (refine' ldC (h₀ := _) ?k1 ?k2 ?_; (case k1 => assumption); (case k2 => ((try dsimp only); (repeat rw [if_neg (by decide)]); first | rfl | with_reducible assumption))) | refine ldG (fr_cx (by assumption) (by assumption)) (by k_is) ?_ | refine ldB (fr_cx (by assumption) (by assumption)) (by k_is) (by boot_by_name) (by decide) ?_))) | walk1)) | (leave1; (try dsimp only)) | fail "no step"))
          refine Stop.mk ?_
          refine Does.fr0 (written_ok (fr_cx F8 Cg7) ((rm_law _).le (by decide) (by decide)) (IsL.keep hla F8.keep) hxa hr3.1 (st_le ia) hr3.2) F8 N8 ?_
          rintro v' tl' h' tk' F9 N9 ⟨t', rfl⟩
          refine elt_end F9 N9 off ⟨rfl, by simp [hlu], ?_⟩
          rw [List.take_add_one, hxi, List.map_append]
          exact StrsAre.append' hus (.cons _ _ .nil)
        · rintro us tl2 ⟨rfl, hlu, hus⟩ D8 g8 tk8 k8 z8 l8
          rw [hys, List.take_length, hpth] at hus
          (try dsimp only at k8 z8 l8 ⊢)
          have F8 := fr_keeps F7 k8
          have N8 : News g s.heap.objs.size g8 ((D8, W.listOf us.toArray us.length) :: _) := news_new F7 N7 k8 l8
          clear F7 N7 k8 z8 l8 Cg7 X7 hst7 hrow7
          (repeat' (first | (k_unfold; (try dsimp only)) | (k_end; kc_close) | ((with_reducible show wpAny _ _ (compareOp PySem.CmpOp.NotEq (PySem.Value.ref _) (PySem.Value.ref _)) _ _ _); with_reducible (k_dflt (refine ne_same (led_list (by with_reducible assumption) (by k_mem)) (led_list (by with_reducible assumption) (by k_mem)) (by with_reducible assumption) (by with_reducible assumption) (Rm.lt (rm_law _)) ?_))) | walk1 | (dsimp only; (first | ((with_reducible show wpAny _ _ (compareOp PySem.CmpOp.NotEq (PySem.Value.ref _) (PySem.Value.ref _)) _ _ _); with_reducible (k_dflt (refine ne_same (led_list (by with_reducible assumption) (by k_mem)) (led_list (by with_reducible assumption) (by k_mem)) (by with_reducible assumption) (by with_reducible assumption) (Rm.lt (rm_law _)) ?_))) | walk1)) | (leave1; (try dsimp only)) | fail "no step"))
          refine Cut.go hK4 ?_
          refine wpAny_execs_cons (cutQ fun K5 hK5 => ?_)
          (repeat' (first | (k_unfold; (try dsimp only)) | (k_end; kc_close) | ((with_reducible show wpAny _ _ (eval (PySem.Expr.Name _ _) _) _ _ _); with_reducible (k_dflt (first | refine ldVarK (Fr.ns (by assumption)) (by with_reducible assumption) ?_ | refine ldCellK rfl (Heap.IsCell.keeps (by with_reducible assumption) (Fr.keep (by assumption))) ?_ | refine ldCC (by with_reducible assumption) (by k_mem) (by with_reducible assumption) rfl ?_ | (refine' ldC (h₀ := _) ?k1 ?k2 ?_; (case k1 => assumption); (case k2 => ((try dsimp only); (repeat rw [if_neg (by decide)]); first | rfl | with_reducible assumption))) | refine ldG (fr_cx (by assumption) (by assumption)) (by k_is) ?_ | refine ldB (fr_cx (by assumption) (by assumption)) (by k_is) (by boot_by_name) (by decide) ?_))) | walk1 | (dsimp only; (first | ((with_reducible show wpAny _ _ (eval (PySem.Expr.Name _ _) _) _ _ _); with_reducible (k_dflt (first | refine ldVarK (Fr.ns (by assumption)) (by with_reducible assumption) ?_ | refine ldCellK rfl (Heap.IsCell.keeps (by with_reducible assumption) (Fr.keep (by assumption))) ?_ | refine ldCC (by with_reducible assumption) (by k_mem) (by with_reducible assumption) rfl ?_ | (refine' ldC (h₀ := _) ?k1 ?k2 ?_; (case k1 => assumption); (case k2 => ((try dsimp only); (repeat rw [if_neg (by decide)]); first | rfl | with_reducible assumption))) | refine ldG (fr_cx (by assumption) (by assumption)) (by k_is) ?_ | refine ldB (fr_cx (by assumption) (by assumption)) (by k_is) (by boot_by_name) (by decide) ?_))) | walk1)) | (leave1; (try dsimp only)) | fail "no step"))
          refine Stop.mk ?_
          obtain ⟨Sr, hSr, hSpe, hSa⟩ := sorted_rows (ia := ia) hrwsA (by rw [hpth]; exact hSp) hAsc
          have hSl := hSr.length_eq
          refine listCompK (cl := [("start", s.heap.objs.size + 1)]) rfl (by decide) rfl (by decide) rfl ?_
          (repeat' (first | (k_unfold; (try dsimp only)) | (k_end; kc_close) | ((with_reducible show wpAny _ _ (eval (PySem.Expr.Name _ _) _) _ _ _); with_reducible (k_dflt (first | refine ldVarK (Fr.ns (by assumption)) (by with_reducible assumption) ?_ | refine ldCellK rfl (Heap.IsCell.keeps (by with_reducible assumption) (Fr.keep (by assumption))) ?_ | refine ldCC (by with_reducible assumption) (by k_mem) (by with_reducible assumption) rfl ?_ | (refine' ldC (h₀ := _) ?k1 ?k2 ?_; (case k1 => assumption); (case k2 => ((try dsimp only); (repeat rw [if_neg (by decide)]); first | rfl | with_reducible assumption))) | refine ldG (fr_cx (by assumption) (by assumption)) (by k_is) ?_ | refine ldB (fr_cx (by assumption) (by assumption)) (by k_is) (by boot_by_name) (by decide) ?_))) | walk1 | (dsimp only; (first | ((with_reducible show wpAny _ _ (eval (PySem.Expr.Name _ _) _) _ _ _); with_reducible (k_dflt (first | refine ldVarK (Fr.ns (by assumption)) (by with_reducible assumption) ?_ | refine ldCellK rfl (Heap.IsCell.keeps (by with_reducible assumption) (Fr.keep (by assumption))) ?_ | refine ldCC (by with_reducible assumption) (by k_mem) (by with_reducible assumption) rfl ?_ | (refine' ldC (h₀ := _) ?k1 ?k2 ?_; (case k1 => assumption); (case k2 => ((try dsimp only); (repeat rw [if_neg (by decide)]); first | rfl | with_reducible assumption))) | refine ldG (fr_cx (by assumption) (by assumption)) (by k_is) ?_ | refine ldB (fr_cx (by assumption) (by assumption)) (by k_is) (by boot_by_name) (by decide) ?_))) | walk1)) | (leave1; (try dsimp only)) | fail "no step"))
          refine Stop.mk ?_
          have hrow8 : RowsIn g8 ys rws := hR.rowsN N8 (fun p hp => .tail _ (.tail _ (.tail _ (.tail _ (.tail _ (.tail _ (.tail _ (List.mem_append_right _ hp))))))))
          refine Does.frN (order_ok (fr_cx F8 C0) ((rm_law _).le (by decide) (by decide)) ⟨_, (N8 _ (.tail _ (.tail _ (.tail _ (.tail _ (.tail _ (.head _))))))).1, rfl, _, rfl⟩ hrow8 hr0 hr100 (fun r hr => (rows_len r (hrwsA r hr)).1)) F8 N8 ?_
          rintro v9 tl9 g9 tk9 F9 N9 off9 ⟨D9, V9, n9, rfl, rfl, hV9, hV9p⟩
          clear F8 N8 off9
          have Cg9 : Cx w g9 := fr_cx F9 C0
          have X9 := Cg9.X
          have hst9 : g9.IsCell (s.heap.objs.size + 1) (some (.str (stOf ia) tst)) := ⟨_, (N9 _ (.tail _ (.tail _ (.tail _ (.tail _ (.tail _ (.tail _ (.tail _ (.head _))))))))).1, hoc⟩
          have hrow9 : RowsIn g9 V9 Sr := order_rows (hR.rowsN N9 (fun p hp => .tail _ (.tail _ (.tail _ (.tail _ (.tail _ (.tail _ (.tail _ (.tail _ (List.mem_append_right _ hp)))))))))) hSr hSa hV9 hV9p
          have hSrA : ∀ r ∈ Sr, r ∈ allRows := fun r hr => hrwsA r (hSr.mem_iff.mp hr)
          have hV9s : V9.toArray.size = Sr.length := by rw [List.size_toArray, hrow9.len]
          refine ⟨V9.toArray.size, _, fun i us tl2 => tl2 = [] ∧ us.length = i ∧ StrsAre us ((Sr.take i).map (writtenS (stOf ia))), D9, iterOf_list rfl ⟨_, (N9 _ (.head _)).1, rfl, _, rfl⟩, ?_, ⟨rfl, rfl, .nil⟩, fun i zs tl h => Nat.le_of_eq h.2.1, ?_, ?_⟩
          · rw [hV9s, hSl]; exact Nat.le_trans hrws8.1 (by decide)
          · rintro i v us2 tl2 CC m₃ h₃ tk₃ I oI DD hi hP ⟨rfl, hlu, hus⟩ F10 N10 hm off hID
            obtain ⟨a, V, r, rfl, hla, hxa, hxi⟩ := hrow9.item (by simpa using hP)
            have hrA := hSrA r (List.mem_of_getElem? hxi)
            have hr3 := rows_len r hrA
            (try dsimp only at F10 N10)
            refine wpAny_tests_nil ?_
            rw [if_pos rfl]
            (repeat' (first | (k_unfold; (try dsimp only)) | (k_end; kc_close) | ((with_reducible show wpAny _ _ (eval (PySem.Expr.Name _ _) _) _ _ _); with_reducible (k_dflt (first | refine ldVarK (Fr.ns (by assumption)) (by with_reducible assumption) ?_ | refine ldCellK rfl (Heap.IsCell.keeps (by with_reducible assumption) (Fr.keep (by assumption))) ?_ | refine ldCC (by with_reducible assumption) (by k_mem) (by with_reducible assumption) rfl ?_ | (refine' ldC (h₀ := _) ?k1 ?k2 ?_; (case k1 => assumption); (case k2 => ((try dsimp only); (repeat rw [if_neg (by decide)]); first | rfl | with_reducible assumption))) | refine ldG (fr_cx (by assumption) (by assumption)) (by k_is) ?_ | refine ldB (fr_cx (by assumption) (by assumption)) (by k_is) (by boot_by_name) (by decide) ?_))) | walk1 | (dsimp only; (first | ((with_reducible show wpAny _ _ (eval (PySem.Expr.Name _ _) _) _ _ _); with_reducible (k_dflt (first | refine ldVarK (Fr.ns (by assumption)) (by with_reducible assumption) ?_ | refine ldCellK rfl (Heap.IsCell.keeps (by with_reducible assumption) (Fr.keep (by assumption))) ?_ | refine ldCC (by with_reducible assumption) (by k_mem) (by with_reducible assumption) rfl ?_ | (refine' ldC (h₀ := _) ?k1 ?k2 ?_; (case k1 => assumption); (case k2 => ((try dsimp only); (repeat rw [if_neg (by decide)]); first | rfl | with_reducible assumption))) | refine ldG (fr_cx (by assumption) (by assumption)) (by k_is) ?_ | refine ldB (fr_cx (by assumption) (by assumption)) (by k_is) (by boot_by_name) (by decide) ?_))) | walk1)) | (leave1; (try dsimp only)) | fail "no step"))
            refine Stop.mk ?_
            refine Does.fr0 (written_ok (fr_cx F10 Cg9) ((rm_law _).le (by decide) (by decide)) (IsL.keep hla F10.keep) hxa hr3.1 (st_le ia) hr3.2) F10 N10 ?_
            rintro v' tl' h' tk' F11 N11 ⟨t', rfl⟩
            refine elt_end F11 N11 off ⟨rfl, by simp [hlu], ?_⟩
            rw [List.take_add_one, hxi, List.map_append]
            exact StrsAre.append' hus (.cons _ _ .nil)
          · rintro us2 tl2 ⟨rfl, hlu2, hus2⟩ D10 g10 tk10 k10 z10 l10
            rw [hV9s, List.take_length, hSpe] at hus2
            (try dsimp only at k10 z10 l10 ⊢)
            have F10 := fr_keeps F9 k10
            have N10 : News g s.heap.objs.size g10 ((D10, W.listOf us2.toArray us2.length) :: _) := news_new F9 N9 k10 l10
            have hSpl : Sp.length = rws.length := by rw [← hSpe, List.length_map, hSl]
            obtain ⟨Vi, Vl, rfl⟩ : ∃ Vi Vl, V6 = Vi ++ [Vl] := by
              rcases List.eq_nil_or_concat V6 with h | ⟨a, b, h⟩
              · exfalso
                have h2 := hV6.length
                rw [h] at h2; simp at h2; exact Nat.ne_of_lt hr0 (h2.trans hSpl)
              · exact ⟨a, b, by rw [h, List.concat_eq_append]⟩
            have hV6' := hV6
            obtain ⟨Si, sl, tsl, hSpE, rfl, hVi⟩ := strs_snoc hV6'
            obtain ⟨s0, hs0⟩ : ∃ s0, Sp[0]? = some s0 := ⟨Sp[0], List.getElem?_eq_getElem (by rw [hSpl]; exact hr0)⟩
            obtain ⟨ts0, hv0⟩ := StrsAre.at hV6 hs0
            have hsl : Sp[Sp.length - 1]? = some sl := by rw [hSpE]; simp
            clear F9 N9 k10 z10 l10 Cg9 X9 hst9 hrow9
            have hab : ∀ p ∈ pths, Txt.startswith p "/" = ia := fun p hp => by
              rw [← hpth] at hp
              obtain ⟨r, hr, rfl⟩ := List.mem_map.mp hp
              exact rows_abs ia r (hrwsA r hr)
            have hpn : pths.map namesOf = rws := by rw [← hpth]; exact names_map hrwsA
            (repeat' (first | (k_unfold; (try dsimp only)) | (k_end; kc_close) | ((with_reducible show wpAny _ _ (compareOp PySem.CmpOp.NotEq (PySem.Value.ref _) (PySem.Value.ref _)) _ _ _); with_reducible (k_dflt (refine ne_same (led_list (by with_reducible assumption) (by k_mem)) (led_list (by with_reducible assumption) (by k_mem)) (by with_reducible assumption) (by with_reducible assumption) (Rm.lt (rm_law _)) ?_))) | walk1 | (dsimp only; (first | ((with_reducible show wpAny _ _ (compareOp PySem.CmpOp.NotEq (PySem.Value.ref _) (PySem.Value.ref _)) _ _ _); with_reducible (k_dflt (refine ne_same (led_list (by with_reducible assumption) (by k_mem)) (led_list (by with_reducible assumption) (by k_mem)) (by with_reducible assumption) (by with_reducible assumption) (Rm.lt (rm_law _)) ?_))) | walk1)) | (leave1; (try dsimp only)) | fail "no step"))
            refine Cut.go hK5 ?_
            refine wpAny_execs_cons (cutQ fun K6 hK6 => ?_)
            (repeat' (first | (k_unfold; (try dsimp only)) | (k_end; kc_close) | ((with_reducible show wpAny _ _ (eval (PySem.Expr.Name _ _) _) _ _ _); with_reducible (k_dflt (first | refine ldVarK (Fr.ns (by assumption)) (by with_reducible assumption) ?_ | refine ldCellK rfl (Heap.IsCell.keeps (by with_reducible assumption) (Fr.keep (by assumption))) ?_ | refine ldCC (by with_reducible assumption) (by k_mem) (by with_reducible assumption) rfl ?_ | (refine' ldC (h₀ := _) ?k1 ?k2 ?_; (case k1 => assumption); (case k2 => ((try dsimp only); (repeat rw [if_neg (by decide)]); first | rfl | with_reducible assumption))) | refine ldG (fr_cx (by assumption) (by assumption)) (by k_is) ?_ | refine ldB (fr_cx (by assumption) (by assumption)) (by k_is) (by boot_by_name) (by decide) ?_))) | walk1 | (dsimp only; (first | ((with_reducible show wpAny _ _ (eval (PySem.Expr.Name _ _) _) _ _ _); with_reducible (k_dflt (first | refine ldVarK (Fr.ns (by assumption)) (by with_reducible assumption) ?_ | refine ldCellK rfl (Heap.IsCell.keeps (by with_reducible assumption) (Fr.keep (by assumption))) ?_ | refine ldCC (by with_reducible assumption) (by k_mem) (by with_reducible assumption) rfl ?_ | (refine' ldC (h₀ := _) ?k1 ?k2 ?_; (case k1 => assumption); (case k2 => ((try dsimp only); (repeat rw [if_neg (by decide)]); first | rfl | with_reducible assumption))) | refine ldG (fr_cx (by assumption) (by assumption)) (by k_is) ?_ | refine ldB (fr_cx (by assumption) (by assumption)) (by k_is) (by boot_by_name) (by decide) ?_))) | walk1)) | (leave1; (try dsimp only)) | fail "no step"))
            refine Stop.mk ?_
            replace N10 : News g s.heap.objs.size g10 ((D6, W.listOf (Vi ++ [Value.str sl tsl]).toArray n6) :: (183, tabObj #[]) :: (136, tabObj pq) :: (D4, lst zs) :: (D3, lst ys) :: (s.heap.objs.size + 1, oc) :: (kl ++ tlr)) := news_pick N10 [3, 5, 4, 6, 7, 8] 9
            refine Does.fr0 (commonpath_ok (ia := ia) (fr_cx F10 C0) ((rm_law _).le (by decide) (by decide)) (led_list N10 (.tail _ (.tail _ (.tail _ (.head _))))) hzs (Nat.lt_of_lt_of_le (by decide) hpl2) (Nat.le_trans hpl8 (by decide)) hplen hab) F10 N10 ?_
            rintro v11 tl11 g11 tk11 F11 N11 ⟨t11, P1, rfl, hP1⟩
            replace hP1 : IsLcp P1 (pths.map namesOf) := hP1
            rw [hpn] at hP1
            clear F10 N10
            (repeat' (first | (k_unfold; (try dsimp only)) | (k_end; kc_close) | ((with_reducible show wpAny _ _ (subscriptTail (PySem.Expr.Name ..) (PySem.Expr.UnaryOp ..) (PySem.Value.ref _) (PySem.Value.int _ _)) _ _ _); with_reducible (k_dflt (refine last_led (by with_reducible assumption) (by k_mem) ?_ (by with_unfolding_all rfl)))) | ((with_reducible show wpAny _ _ (subscriptTail (PySem.Expr.Name ..) (PySem.Expr.Constant ..) (PySem.Value.ref _) (PySem.Value.int _ _)) _ _ _); with_reducible (k_dflt (refine item_at (i := 0) (led_list (by with_reducible assumption) (by k_mem)) (by decide) (by with_reducible assumption) ?_))) | ((with_reducible show wpAny _ _ (eval (PySem.Expr.Name _ _) _) _ _ _); with_reducible (k_dflt (first | refine ldVarK (Fr.ns (by assumption)) (by with_reducible assumption) ?_ | refine ldCellK rfl (Heap.IsCell.keeps (by with_reducible assumption) (Fr.keep (by assumption))) ?_ | refine ldCC (by with_reducible assumption) (by k_mem) (by with_reducible assumption) rfl ?_ | (refine' ldC (h₀ := _) ?k1 ?k2 ?_; (case k1 => assumption); (case k2 => ((try dsimp only); (repeat rw [if_neg (by decide)]); first | rfl | with_reducible assumption))) | refine ldG (fr_cx (by assumption) (by assumption)) (by k_is) ?_ | refine ldB (fr_cx (by assumption) (by assumption)) (by k_is) (by boot_by_name) (by decide) ?_))) | walk1 | (dsimp only; (first | ((with_reducible show wpAny _ _ (subscriptTail (PySem.Expr.Name ..) (PySem.Expr.UnaryOp ..) (PySem.Value.ref _) (PySem.Value.int _ _)) _ _ _); with_reducible (k_dflt (refine last_led (by with_reducible assumption) (by k_mem) ?_ (by with_unfolding_all rfl)))) | ((with_reducible show wpAny _ _ (subscriptTail (PySem.Expr.Name ..) (PySem.Expr.Constant ..) (PySem.Value.ref _) (PySem.Value.int _ _)) _ _ _); with_reducible (k_dflt (refine item_at (i := 0) (led_list (by with_reducible assumption) (by k_mem)) (by decide) (by with_reducible assumption) ?_))) | ((with_reducible show wpAny _ _ (eval (PySem.Expr.Name _ _) _) _ _ _); with_reducible (k_dflt (first | refine ldVarK (Fr.ns (by assumption)) (by with_reducible assumption) ?_ | refine ldCellK rfl (Heap.IsCell.keeps (by with_reducible assumption) (Fr.keep (by assumption))) ?_ | refine ldCC (by with_reducible assumption) (by k_mem) (by with_reducible assumption) rfl ?_ | (refine' ldC (h₀ := _) ?k1 ?k2 ?_; (case k1 => assumption); (case k2 => ((try dsimp only); (repeat rw [if_neg (by decide)]); first | rfl | with_reducible assumption))) | refine ldG (fr_cx (by assumption) (by assumption)) (by k_is) ?_ | refine ldB (fr_cx (by assumption) (by assumption)) (by k_is) (by boot_by_name) (by decide) ?_))) | walk1)) | (leave1; (try dsimp only)) | fail "no step"))
            refine Stop.mk ?_
            have hsm : ∀ p ∈ [s0, sl], p ∈ pths := fun p hp => by
              simp only [List.mem_cons, List.not_mem_nil, or_false] at hp
              rcases hp with rfl | rfl
              · exact hSp.mem_iff.mp (List.mem_of_getElem? hs0)
              · exact hSp.mem_iff.mp (List.mem_of_getElem? hsl)
            rename Fr _ _ _ _ => F12
            rename News _ _ _ (_ :: _ :: _) => N12
            refine Does.fr0 (commonpath_ok (ia := ia) (ps := [s0, sl]) (vals := [.str s0 ts0, .str sl tsl]) (fr_cx F12 C0) ((rm_law _).le (by decide) (by decide)) ⟨_, (N12 _ (.head _)).1, rfl, _, rfl⟩ (.cons _ _ (.cons _ _ .nil)) (show 0 < 2 by decide) (show 2 ≤ 100 by decide) (fun p hp => hplen p (hsm p hp)) (fun p hp => hab p (hsm p hp))) F12 N12 ?_
            rintro v13 tl13 g13 tk13 F13 N13 ⟨t13, P2, rfl, hP2⟩
            have hPP : P2 = P1 := by
              replace hP2 : IsLcp P2 [namesOf s0, namesOf sl] := hP2
              have h0 := names_at hSrA hSpe hs0
              have h1 := names_at hSrA hSpe hsl
              rw [hSpl, ← hSl] at h1
              rw [h0, h1] at hP2
              have h3 := (lcp_ends hSa (by rw [hSl]; exact hr0) hP2).same (fun r => hSr.mem_iff)
              exact h3.uniq hP1
            subst hPP
            clear hP2 F12
            k_steps
            refine Cut.go hK6 ?_
            refine wpAny_execs_cons (cutQ fun K7 hK7 => ?_)

            rename Fr _ _ _ _ => F14
            rename News _ _ _ (_ :: _ :: _) => N14
            rename Heap => g14
            rename_i T14 hh14 l14
            have hzsz : zs.length ≤ 10000 := by rw [hzs.length]; exact Nat.le_trans hpl8 (by decide)
            replace N14 : News g s.heap.objs.size g14 ((T14, W.listOf [Value.str (cpOf ia P2) t11, Value.str (cpOf ia P2) t13].toArray 0) :: (D6, W.listOf (Vi ++ [Value.str sl tsl]).toArray n6) :: (183, tabObj #[]) :: (136, tabObj pq) :: (D4, lst zs) :: (D3, lst ys) :: (s.heap.objs.size + 1, oc) :: (kl ++ tlr)) := news_pick N14 [0, 2, 3, 4, 5, 6, 7] 8
            refine assignCompG (h₀ := g) (cl := []) rfl rfl (by decide) rfl (by decide) rfl rfl rfl ?_
            (repeat' (first | (k_unfold; (try dsimp only)) | (k_end; kc_close) | ((with_reducible show wpAny _ _ (subscriptTail (PySem.Expr.Name ..) (PySem.Expr.Slice ..) (PySem.Value.ref _) (PySem.Value.ref _)) _ _ _); with_reducible ((with_reducible show wpAny _ _ (subscriptTail _ (PySem.Expr.Slice none none (some _) _) (Value.ref _) (Value.ref _)) _ _ _); k_dflt (refine' slice_rev ?F ?N ?l ?z ?_ ?s ?t; (case F => with_reducible assumption); (case N => with_reducible assumption); (case l => exact led_list (by with_reducible assumption) (by k_mem)); (case z => with_reducible assumption); (case s => with_unfolding_all rfl); (case t => (intro _; with_unfolding_all rfl))); intro _ _ _ _ _)) | ((with_reducible show wpAny _ _ (eval (PySem.Expr.Name _ _) _) _ _ _); with_reducible (k_dflt (first | refine ldVarK (Fr.ns (by assumption)) (by with_reducible assumption) ?_ | refine ldCellK rfl (Heap.IsCell.keeps (by with_reducible assumption) (Fr.keep (by assumption))) ?_ | refine ldCC (by with_reducible assumption) (by k_mem) (by with_reducible assumption) rfl ?_ | (refine' ldC (h₀ := _) ?k1 ?k2 ?_; (case k1 => assumption); (case k2 => ((try dsimp only); (repeat rw [if_neg (by decide)]); first | rfl | with_reducible assumption))) | refine ldG (fr_cx (by assumption) (by assumption)) (by k_is) ?_ | refine ldB (fr_cx (by assumption) (by assumption)) (by k_is) (by boot_by_name) (by decide) ?_))) | walk1 | (dsimp only; (first | ((with_reducible show wpAny _ _ (subscriptTail (PySem.Expr.Name ..) (PySem.Expr.Slice ..) (PySem.Value.ref _) (PySem.Value.ref _)) _ _ _); with_reducible ((with_reducible show wpAny _ _ (subscriptTail _ (PySem.Expr.Slice none none (some _) _) (Value.ref _) (Value.ref _)) _ _ _); k_dflt (refine' slice_rev ?F ?N ?l ?z ?_ ?s ?t; (case F => with_reducible assumption); (case N => with_reducible assumption); (case l => exact led_list (by with_reducible assumption) (by k_mem)); (case z => with_reducible assumption); (case s => with_unfolding_all rfl); (case t => (intro _; with_unfolding_all rfl))); intro _ _ _ _ _)) | ((with_reducible show wpAny _ _ (eval (PySem.Expr.Name _ _) _) _ _ _); with_reducible (k_dflt (first | refine ldVarK (Fr.ns (by assumption)) (by with_reducible assumption) ?_ | refine ldCellK rfl (Heap.IsCell.keeps (by with_reducible assumption) (Fr.keep (by assumption))) ?_ | refine ldCC (by with_reducible assumption) (by k_mem) (by with_reducible assumption) rfl ?_ | (refine' ldC (h₀ := _) ?k1 ?k2 ?_; (case k1 => assumption); (case k2 => ((try dsimp only); (repeat rw [if_neg (by decide)]); first | rfl | with_reducible assumption))) | refine ldG (fr_cx (by assumption) (by assumption)) (by k_is) ?_ | refine ldB (fr_cx (by assumption) (by assumption)) (by k_is) (by boot_by_name) (by decide) ?_))) | walk1)) | (leave1; (try dsimp only)) | fail "no step"))
            rename Fr _ _ _ _ => F15
            rename News _ _ _ (_ :: _ :: _) => N15
            rename_i D15 ha15 la15 Ls g15 lb15
            replace N15 : News g s.heap.objs.size g15 ((183, tabObj #[]) :: (Ls, W.listOf #[Value.ref D4, Value.ref D15, Value.ref D6] 0) :: (D15, W.listOf zs.reverse.toArray 0) :: (T14, W.listOf [Value.str (cpOf ia P2) t11, Value.str (cpOf ia P2) t13].toArray 0) :: (D6, W.listOf (Vi ++ [Value.str sl tsl]).toArray n6) :: (136, tabObj pq) :: (D4, lst zs) :: (D3, lst ys) :: (s.heap.objs.size + 1, oc) :: (kl ++ tlr)) := news_pick N15 [4, 0, 1, 2, 3, 5, 6, 7, 8] 9
            have h183 : ∀ p ∈ (Ls, W.listOf #[Value.ref D4, Value.ref D15, Value.ref D6] 0) :: (D15, W.listOf zs.reverse.toArray 0) :: (T14, W.listOf [Value.str (cpOf ia P2) t11, Value.str (cpOf ia P2) t13].toArray 0) :: (D6, W.listOf (Vi ++ [Value.str sl tsl]).toArray n6) :: (136, tabObj pq) :: (D4, lst zs) :: (D3, lst ys) :: (s.heap.objs.size + 1, oc) :: (kl ++ tlr), ∀ q ∈ [((183 : Addr), tabObj #[])], q.1 ≠ p.1 := fun p hp q hq => by
              obtain rfl := List.mem_singleton.mp hq
              rcases List.mem_cons.mp hp with rfl | hp
              · exact Nat.ne_of_lt lb15.2.2.2.1
              rcases List.mem_cons.mp hp with rfl | hp
              · exact Nat.ne_of_lt (la15 (183, _) (.tail _ (.tail _ (.head _))))
              rcases List.mem_cons.mp hp with rfl | hp
              · exact Nat.ne_of_lt l14.2.2.1
              rcases List.mem_cons.mp hp with rfl | hp
              · exact Nat.ne_of_lt (hD6 (183, _) (.tail _ (.head _)))
              rcases List.mem_cons.mp hp with rfl | hp
              · show (183 : Nat) ≠ 136
                decide
              · exact Ne.symm (hn183 p hp)
            have F16 := hide_fr (tl := [((183 : Addr), tabObj #[])]) F15 (fun p hp => by obtain rfl := List.mem_singleton.mp hp; exact Nat.ne_of_lt l0.1) (fun p hp => by obtain rfl := List.mem_singleton.mp hp; exact (N15 _ (.head _)).2.2)
            have N16 := hide_news (tl := [((183 : Addr), tabObj #[])]) (fun p hp => N15 p (.tail _ hp)) h183
            have k16 : Keeps (hideAll g15 ([((183 : Addr), tabObj #[])].map (·.1))) g15 := fun b o e => of_hideAll _ e
            have z16 : (hideAll g15 ([((183 : Addr), tabObj #[])].map (·.1))).objs.size = g15.objs.size := hideAll_size _ _
            have l16 : Led (hideAll g15 ([((183 : Addr), tabObj #[])].map (·.1))) g15 [((183 : Addr), tabObj #[])] := fun p hp => ⟨(N15 p (by rw [List.mem_singleton.mp hp]; exact .head _)).1, hideAll_none _ (List.mem_map_of_mem hp)⟩
            have s16 := (N15 _ (.tail _ (.head _))).1
            clear F15 N15
            generalize hideAll g15 ([((183 : Addr), tabObj #[])].map (·.1)) = g16 at F16 N16 k16 z16 l16
            have Cg16 : Cx w g16 := fr_cx F16 C0
            have X16 := Cg16.X
            refine ⟨g16, [(183, tabObj #[])], _, _, fun i fs tl => TabL tl ∧ fs.length = i ∧ StrsAre fs (List.replicate i (cpOf ia P2)), Ls, k16, z16, l16, .inl ⟨_, (N16 _ (.head _)).1⟩, iterOf_list rfl ⟨_, s16, rfl, _, rfl⟩, (show 3 ≤ sizeLine by decide), ⟨.inl rfl, rfl, .nil⟩, fun i zs tl h => Nat.le_of_eq h.2.1, ?_, ?_⟩
            · rintro i v fs tl CC m₃ h₃ tk₃ I oI DD hi hP ⟨hT, hlf, hfs⟩ F17 N17 hm off hID
              have hsrc : ∃ a Va pa, v = .ref a ∧ g16.IsList a (List.toArray Va) ∧ StrsAre Va pa ∧ (∀ p, p ∈ pa ↔ p ∈ pths) ∧ 2 ≤ pa.length := by
                have hi3 : i = 0 ∨ i = 1 ∨ i = 2 := three hi
                rcases hi3 with rfl | rfl | rfl
                · obtain rfl : v = .ref D4 := by simpa using hP.symm
                  exact ⟨D4, zs, pths, rfl, ⟨_, (N16 (D4, lst zs) (.tail _ (.tail _ (.tail _ (.tail _ (.tail _ (.head _))))))).1, rfl, _, rfl⟩, hzs, fun _ => Iff.rfl, hpl2⟩
                · obtain rfl : v = .ref D15 := by simpa using hP.symm
                  exact ⟨D15, zs.reverse, pths.reverse, rfl, ⟨_, (N16 (D15, _) (.tail _ (.head _))).1, rfl, _, rfl⟩, strs_rev hzs, fun _ => List.mem_reverse, by rw [List.length_reverse]; exact hpl2⟩
                · obtain rfl : v = .ref D6 := by simpa using hP.symm
                  exact ⟨D6, _, Sp, rfl, ⟨_, (N16 (D6, _) (.tail _ (.tail _ (.tail _ (.head _))))).1, rfl, _, rfl⟩, hV6, fun _ => hSp.mem_iff, by rw [hSpl, ← hpl]; exact hpl2⟩
              obtain ⟨a, Va, pa, rfl, hla, hVa, hmem, hpa2⟩ := hsrc
              (try dsimp only at F17 N17)
              refine wpAny_tests_nil ?_
              rw [if_pos rfl]
              (repeat' (first | (k_unfold; (try dsimp only)) | (k_end; kc_close) | ((with_reducible show wpAny _ _ (eval (PySem.Expr.Name _ _) _) _ _ _); with_reducible (k_dflt (first | refine ldVarK (Fr.ns (by assumption)) (by with_reducible assumption) ?_ | refine ldCellK rfl (Heap.IsCell.keeps (by with_reducible assumption) (Fr.keep (by assumption))) ?_ | refine ldCC (by with_reducible assumption) (by k_mem) (by with_reducible assumption) rfl ?_ | (refine' ldC (h₀ := _) ?k1 ?k2 ?_; (case k1 => assumption); (case k2 => ((try dsimp only); (repeat rw [if_neg (by decide)]); first | rfl | with_reducible assumption))) | refine ldG (fr_cx (by assumption) (by assumption)) (by k_is) ?_ | refine ldB (fr_cx (by assumption) (by assumption)) (by k_is) (by boot_by_name) (by decide) ?_))) | walk1 | (dsimp only; (first | ((with_reducible show wpAny _ _ (eval (PySem.Expr.Name _ _) _) _ _ _); with_reducible (k_dflt (first | refine ldVarK (Fr.ns (by assumption)) (by with_reducible assumption) ?_ | refine ldCellK rfl (Heap.IsCell.keeps (by with_reducible assumption) (Fr.keep (by assumption))) ?_ | refine ldCC (by with_reducible assumption) (by k_mem) (by with_reducible assumption) rfl ?_ | (refine' ldC (h₀ := _) ?k1 ?k2 ?_; (case k1 => assumption); (case k2 => ((try dsimp only); (repeat rw [if_neg (by decide)]); first | rfl | with_reducible assumption))) | refine ldG (fr_cx (by assumption) (by assumption)) (by k_is) ?_ | refine ldB (fr_cx (by assumption) (by assumption)) (by k_is) (by boot_by_name) (by decide) ?_))) | walk1)) | (leave1; (try dsimp only)) | fail "no step"))
              refine Stop.mk ?_
              refine folded_in (ia := ia) Cg16 ((rm_law _).le (by decide) (by decide)) F17 N17 off (fr_le F17) hla hVa hpa2 (fun p hp => hplen p ((hmem p).mp hp)) (fun p hp => hab p ((hmem p).mp hp)) (fun p hp P hP => good_in ia (pre_in (by
                have h1 := List.mem_map_of_mem (f := namesOf) ((hmem p).mp hp)
                rw [hpn] at h1
                exact hrwsA _ h1) hP)) (hcd1.keeps F16.keep) hT ?_
              rintro v' tl' h' tk' F18 N18 off18 hT18 ⟨t', P', rfl, hP'⟩
              have hPe : P' = P2 := by
                refine (hP'.same (yss := rws) fun r => ?_).uniq hP1
                rw [← hpn]
                simp only [List.mem_map, hmem]
              subst hPe
              refine elt_endG F18 N18 off18 ⟨hT18, by simp [hlf], ?_⟩
              rw [List.replicate_succ']
              exact StrsAre.append' hfs (.cons _ _ .nil)
            · rintro fs tl ⟨hT, hlf, hfs⟩
              refine ⟨_, _, F16, N16, fun D17 g17 tk17 F17 N17 hD17 => ?_⟩
              refine Cut.go hK7 ?_
              have hf3 : fs.length = 3 := hlf
              replace hfs : StrsAre fs [cpOf ia P2, cpOf ia P2, cpOf ia P2] := hfs
              obtain ⟨pz, hpz⟩ : ∃ pz, (183, tabObj pz) ∈ tl := by
                rcases hT with rfl | ⟨c', oc', vs', t', rfl, _, _⟩
                · exact ⟨_, .head _⟩
                · exact ⟨_, .tail _ (.head _)⟩
              replace F17 : Fr g s.heap.objs.size g17 _ := F17
              replace N17 : News g s.heap.objs.size g17 ((183, tabObj pz) :: (D17, W.listOf fs.toArray fs.length) :: (T14, W.listOf [Value.str (cpOf ia P2) t11, Value.str (cpOf ia P2) t13].toArray 0) :: (136, tabObj pq) :: (D3, lst ys) :: (s.heap.objs.size + 1, oc) :: ((kl ++ tlr) ++ tl)) :=
                news_cons N17 (.tail _ (List.mem_append_left _ hpz)) (news_pick (news_swap N17) [0, 3, 5, 7, 8] 9)
              clear F16 N16 k16 z16 l16 s16 Cg16 X16 hD17
              have hP2A : P2 ∈ allRows := by
                have h0 : rowAt rws 0 ∈ rws := rowAt_in hr0
                exact pre_in (hrwsA _ h0) (hP1.all _ h0)
              have hP23 := rows_len P2 hP2A
              have hok : (P2.map (·.length)).sum + P2.length * 64 ≤ 16777216 := Nat.le_trans (Nat.add_le_add (Nat.le_trans (sum_short hP23.2) (Nat.mul_le_mul_right 3 hP23.1)) (Nat.mul_le_mul_right 64 hP23.1)) (by decide)
              have hj : (Txt.join "/" P2).length ≤ 200 := by
                rw [join_is]
                have := StrLaws.join_length_le "/" P2
                have e1 : (Str.ofString "/").length = 1 := by decide
                rw [e1] at this
                exact Nat.le_trans this (Nat.le_trans (Nat.add_le_add (Nat.le_trans (sum_short hP23.2) (Nat.mul_le_mul_right 3 hP23.1)) (Nat.mul_le_mul_right 1 hP23.1)) (by decide))
              have hst1 := st_le ia
              dsimp only at F17 ⊢
              refine wpAny_execs_cons ?_
              (repeat' (first | (k_unfold; (try dsimp only)) | (k_end; kc_close) | ((with_reducible show wpAny _ _ (binaryOp PySem.Operator.Add (PySem.Value.ref _) (PySem.Value.ref _)) _ _ _); with_reducible (k_dflt (first | refine add_led (by with_reducible assumption) (by with_reducible assumption) (led_list (by with_reducible assumption) (.tail _ (.head _))) ⟨_, News.get (by with_reducible assumption) (.head _), rfl, _, rfl⟩ (by (rename IntsAre _ (List.take 4 _) => hq9); (have hq8 := IntsAre.length hq9); simp only [List.length_take, List.length_cons, List.length_nil] at hq8 ⊢; rw [hq8]; exact Nat.le_trans (Nat.add_le_add_right (Nat.min_le_left 4 _) _) (by decide)) ?_ | refine add_led (by with_reducible assumption) (by with_reducible assumption) (led_list (by with_reducible assumption) (by k_mem)) (led_list (by with_reducible assumption) (by k_mem)) (by simp only [List.length_cons, List.length_nil]; omega) ?_); intro _ _ _ _ _)) | ((with_reducible show wpAny _ _ (eval (PySem.Expr.Name _ _) _) _ _ _); with_reducible (k_dflt (first | refine ldVarK (Fr.ns (by assumption)) (by with_reducible assumption) ?_ | refine ldCellK rfl (Heap.IsCell.keeps (by with_reducible assumption) (Fr.keep (by assumption))) ?_ | refine ldCC (by with_reducible assumption) (by k_mem) (by with_reducible assumption) rfl ?_ | (refine' ldC (h₀ := _) ?k1 ?k2 ?_; (case k1 => assumption); (case k2 => ((try dsimp only); (repeat rw [if_neg (by decide)]); first | rfl | with_reducible assumption))) | refine ldG (fr_cx (by assumption) (by assumption)) (by k_is) ?_ | refine ldB (fr_cx (by assumption) (by assumption)) (by k_is) (by boot_by_name) (by decide) ?_))) | walk1 | (dsimp only; (first | ((with_reducible show wpAny _ _ (binaryOp PySem.Operator.Add (PySem.Value.ref _) (PySem.Value.ref _)) _ _ _); with_reducible (k_dflt (first | refine add_led (by with_reducible assumption) (by with_reducible assumption) (led_list (by with_reducible assumption) (.tail _ (.head _))) ⟨_, News.get (by with_reducible assumption) (.head _), rfl, _, rfl⟩ (by (rename IntsAre _ (List.take 4 _) => hq9); (have hq8 := IntsAre.length hq9); simp only [List.length_take, List.length_cons, List.length_nil] at hq8 ⊢; rw [hq8]; exact Nat.le_trans (Nat.add_le_add_right (Nat.min_le_left 4 _) _) (by decide)) ?_ | refine add_led (by with_reducible assumption) (by with_reducible assumption) (led_list (by with_reducible assumption) (by k_mem)) (led_list (by with_reducible assumption) (by k_mem)) (by simp only [List.length_cons, List.length_nil]; omega) ?_); intro _ _ _ _ _)) | ((with_reducible show wpAny _ _ (eval (PySem.Expr.Name _ _) _) _ _ _); with_reducible (k_dflt (first | refine ldVarK (Fr.ns (by assumption)) (by with_reducible assumption) ?_ | refine ldCellK rfl (Heap.IsCell.keeps (by with_reducible assumption) (Fr.keep (by assumption))) ?_ | refine ldCC (by with_reducible assumption) (by k_mem) (by with_reducible assumption) rfl ?_ | (refine' ldC (h₀ := _) ?k1 ?k2 ?_; (case k1 => assumption); (case k2 => ((try dsimp only); (repeat rw [if_neg (by decide)]); first | rfl | with_reducible assumption))) | refine ldG (fr_cx (by assumption) (by assumption)) (by k_is) ?_ | refine ldB (fr_cx (by assumption) (by assumption)) (by k_is) (by boot_by_name) (by decide) ?_))) | walk1)) | (leave1; (try dsimp only)) | fail "no step"))
              refine Stop.mk ?_
              rename Fr _ _ _ _ => F18
              rename News _ _ _ (_ :: _ :: _) => N18
              rename_i D18 g18 lb18
              have hrow18 : RowsIn g18 ys rws := hR.rowsN N18 (fun p hp => .tail _ (.tail _ (.tail _ (.tail _ (.tail _ (.tail _ (.tail _ (List.mem_append_left _ (List.mem_append_right _ hp)))))))))
              refine Does.frN (shared_ok (fr_cx F18 C0) ((rm_law _).le (by decide) (by decide)) ⟨_, (N18 (D3, lst ys) (.tail _ (.tail _ (.tail _ (.tail _ (.tail _ (.head _))))))).1, rfl, _, rfl⟩ hrow18 hr0 hr100 (fun r hr => (rows_len r (hrwsA r hr)).1)) F18 N18 ?_
              rintro v19 tl19 g19 tk19 F19 N19 off19 ⟨D19, V19, n19, L19, rfl, rfl, hV19, hL19⟩
              obtain rfl := hL19.uniq hP1
              clear F18 N18 off19 hrow18
              (repeat' (first | (k_unfold; (try dsimp only)) | (k_end; kc_close) | ((with_reducible show wpAny _ _ (binaryOp PySem.Operator.Mult (PySem.Value.ref _) (PySem.Value.int _ _)) _ _ _); with_reducible (k_dflt (refine KMa.mul (by with_reducible assumption) (by with_reducible assumption) (vs := [_]) ⟨_, News.get (by with_reducible assumption) (.head _), rfl, _, rfl⟩ (by decide) (by decide) (show 5 ≤ 256 by decide) rfl ?_); intro _ _ _ _ _)) | ((with_reducible show wpAny _ _ (PySem.call (PySem.Value.builtin "str.join") _ _) _ _ _); (first | with_reducible (refine Does.fr0 (join_does (led_list (by with_reducible assumption) (by k_mem)) (by with_reducible assumption) (by decide) (by with_reducible assumption)) (by with_reducible assumption) (by with_reducible assumption) ?_; (intro _ _ _ _ _ _ e'; obtain ⟨_, e'⟩ := e'; subst e'); (try k_sweep)) | (refine Does.fr0 (join_does (led_list (by with_reducible assumption) (by k_mem)) (by with_reducible assumption) (by decide) (by with_reducible assumption)) (by with_reducible assumption) (by with_reducible assumption) ?_; (intro _ _ _ _ _ _ e'; obtain ⟨_, e'⟩ := e'; subst e'); (try k_sweep)))) | walk1 | (dsimp only; (first | ((with_reducible show wpAny _ _ (binaryOp PySem.Operator.Mult (PySem.Value.ref _) (PySem.Value.int _ _)) _ _ _); with_reducible (k_dflt (refine KMa.mul (by with_reducible assumption) (by with_reducible assumption) (vs := [_]) ⟨_, News.get (by with_reducible assumption) (.head _), rfl, _, rfl⟩ (by decide) (by decide) (show 5 ≤ 256 by decide) rfl ?_); intro _ _ _ _ _)) | ((with_reducible show wpAny _ _ (PySem.call (PySem.Value.builtin "str.join") _ _) _ _ _); (first | with_reducible (refine Does.fr0 (join_does (led_list (by with_reducible assumption) (by k_mem)) (by with_reducible assumption) (by decide) (by with_reducible assumption)) (by with_reducible assumption) (by with_reducible assumption) ?_; (intro _ _ _ _ _ _ e'; obtain ⟨_, e'⟩ := e'; subst e'); (try k_sweep)) | (refine Does.fr0 (join_does (led_list (by with_reducible assumption) (by k_mem)) (by with_reducible assumption) (by decide) (by with_reducible assumption)) (by with_reducible assumption) (by with_reducible assumption) ?_; (intro _ _ _ _ _ _ e'; obtain ⟨_, e'⟩ := e'; subst e'); (try k_sweep)))) | walk1)) | (leave1; (try dsimp only)) | fail "no step"))
              refine Stop.mk ?_
              rename Fr _ _ _ _ => F20
              rename News _ _ _ (_ :: _ :: _) => N20
              have hR5 : ∀ t : Tok, StrsAre (List.replicate (Int.toNat 5) [Value.str (stOf ia ++ Txt.join "/" L19) t]).flatten [cpOf ia L19, cpOf ia L19, cpOf ia L19, cpOf ia L19, cpOf ia L19] := fun t => .cons _ _ (.cons _ _ (.cons _ _ (.cons _ _ (.cons _ _ .nil))))
              refine eq_same (led_list N20 (.tail _ (.tail _ (.tail _ (.head _))))) (led_list N20 (.head _)) (.cons _ _ (.cons _ _ hfs)) (hR5 _) (Rm.lt (rm_law _)) ?_
              have G1 : ∃ p q, News g s.heap.objs.size _ [(183, tabObj p), (136, tabObj q)] := ⟨pz, pq, news_cons N20 (.tail _ (.tail _ (.tail _ (.tail _ (.head _))))) (news_cons N20 (.tail _ (.tail _ (.tail _ (.tail _ (.tail _ (.tail _ (.tail _ (.head _)))))))) News.nil)⟩
              clear N20
              obtain ⟨p20, q20, N20⟩ := G1
              k_steps
              refine Cut.go hK0 ?_
              k_steps)
end Mine
end
theorem PySem.Challenge.cw_pd0104_01_holds : PySem.Challenge.rw_pd0104_01.Holds :=
  Mine.law_holds
