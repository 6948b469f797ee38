import PyProof.Rows.All
import Wide.All
import OpenK.AllK
import Wide.FinOn
import Lean
import PySem.Challenge.RW_ie0009_01
open PySem PySem.W PyProof.Rows PySem.Spec PySem.Calls
set_option Elab.async false
set_option linter.all false
set_option rowWalk.seconds 0
section
namespace Mine
set_option maxRecDepth 100000 in
set_option maxHeartbeats 8000000 in
open_top hd for PySem.Challenge.rw_ie0009_01
end Mine
end
section
namespace Mine

abbrev tupO (vs : List Value) : Obj := { cls := .type "tuple", data := .seq vs.toArray }

def Bel (b : Nat) (l : List (Addr × Obj)) : Prop := ∀ p ∈ l, p.1 < b
theorem bel_ne {b d : Nat} {l : List (Addr × Obj)} (h : Bel b l) (hb : b ≤ d) : ∀ p ∈ l, p.1 ≠ d := fun p hp => Nat.ne_of_lt (Nat.lt_of_lt_of_le (h p hp) hb)

section
variable {prog : Program} {w : World} {A : Around} {E : Value → Shared → Prop} {s : Shared} {Q : Value → Shared → Prop}
theorem floor_as {x y k : Int} {t u : Tok} (h : x.fdiv y = k) (hy : y ≠ 0) (hp : Builtin.divisionGoesByPylong x y = false) (hq : ∀ t, Q (.int k t) { s with toks := s.toks + 1 }) : wpAny (model prog w) A (binaryOp .FloorDiv (.int x t) (.int y u)) Q E s :=
  floordiv_int hy (by rw [h]; exact hq _) (.inl hp)
theorem xor_as {x y k : Int} {t u : Tok} (h : Builtin.bitXor x y = k) (hq : ∀ t, Q (.int k t) { s with toks := s.toks + 1 }) : wpAny (model prog w) A (binaryOp .BitXor (.int x t) (.int y u)) Q E s :=
  xor_int (by rw [h]; exact hq _)
end

theorem fdiv4 (x : Int) : x.fdiv 4 = x / 4 := Int.fdiv_eq_ediv_of_nonneg _ (by decide)
theorem fdiv44 (x : Int) : (x.fdiv 4).fdiv 4 = x / 16 := by rw [fdiv4, fdiv4]; omega
theorem fdiv44m (x : Int) : (x.fdiv 4).fdiv 4 = x / 4 / 4 := by rw [fdiv4, fdiv4]
theorem d2 (y0 y1 : Int) : y1 * 4 + y0 = y0 + 4 * y1 := by omega
theorem d3 (y0 y1 y2 : Int) : (y2 * 4 + y1) * 4 + y0 = y0 + 4 * y1 + 16 * y2 := by omega
theorem bits_small {x : Int} (h0 : 0 ≤ x) (hx : x ≤ 63) : Builtin.Int.intBits x ≤ 64 := intBits_le_64 (by omega) (by omega)
theorem bel_cons {b x : Nat} {o : Obj} {l : List (Addr × Obj)} (h : x < b) (hl : Bel b l) : Bel b ((x, o) :: l) := fun p hp => by
  rcases List.mem_cons.mp hp with rfl | hp
  · exact h
  · exact hl p hp
theorem bel_mono {b c : Nat} {l : List (Addr × Obj)} (hl : Bel b l) (h : b ≤ c) : Bel c l := fun p hp => Nat.lt_of_lt_of_le (hl p hp) h
theorem ne_cons {b x : Nat} {o : Obj} {l : List (Addr × Obj)} (h : x ≠ b) (hl : ∀ p ∈ l, p.1 ≠ b) : ∀ p ∈ (x, o) :: l, p.1 ≠ b := fun p hp => by
  rcases List.mem_cons.mp hp with rfl | hp
  · exact h
  · exact hl p hp
theorem bits3 {prog : Program} {w : World} {A : Around} {E : Value → Shared → Prop} {s : Shared} {Q : Value → Shared → Prop} {t : Tok} (hq : ∀ t, Q (.int 2 t) { s with toks := s.toks + 1 }) : wpAny (model prog w) A (call (.builtin "int.bit_length") [.int 3 t]) Q E s :=
  call_int_bit_length (by have h : Builtin.Int.intBits 3 = 2 := by decide
                          rw [h]; exact hq _)
def hold {α : Type} (t : Sem α) : Sem α := t
theorem hold_of {α : Type} {M : Model} {A : Around} {t : Sem α} {Q : α → Shared → Prop} {E : Value → Shared → Prop} {s : Shared} (h : wpAny M A (hold t) Q E s) : wpAny M A t Q E s := h
theorem of_hold {α : Type} {M : Model} {A : Around} {t : Sem α} {Q : α → Shared → Prop} {E : Value → Shared → Prop} {s : Shared} (h : wpAny M A t Q E s) : wpAny M A (hold t) Q E s := h
end Mine
end
section
namespace Mine
set_option maxRecDepth 100000
section
variable {prog : Program} {w : World} {A₀ A : Around} {s : Shared} {base h₀ : Heap} {outer : List Env} {L : Addr} {m mg mb : Str → Option Value} {env : Env} {news : List (Addr × Obj)} {K : Frag} {p : Program} {loose : List Str} {mean : ExcName → Option Value}
  {R : Result → Shared → Prop}

/-- entering a def with a part of the ledger alone: all other objects stay in the ground -/
theorem code_defN {name qual : Str} {params : Arguments} {body : List Stmt} {scope : Scope} {dV kV doc pm cdv ct oc : Value} {an od : Option Addr} {osl : Array (Option Value)} {f : Addr} {args : Args} {binds : List (Str × Value)}
    (B : Below A₀ base outer h₀) (F : Fr h₀ L s.heap m) (X₀ : K.In h₀) (N : News h₀ L s.heap news) (T : Top p loose mean mg mb h₀) (hA : A.frames = some (env :: outer)) (hf : env.frame = some L) (hke : env.scope.kind = .function)
    (ho : K.lookup f = some ⟨oc, od, .func (fnOf name qual params body scope dV kV doc pm an cdv ct), osl⟩) (hcd : codeIn K cdv qual = true) (hroom : A.depth < recursionLimit)
    (hbind : BindsTo s (fnOf name qual params body scope dV kV doc pm an cdv ct) args binds) (hloc : ∀ y ∈ binds, scope.names.lookup y.1 = some .local)
    (h : ∀ g L' h₁, Fr h₀ L g m → Fr g L' h₁ (fun y => binds.reverse.lookup y) → News g L' h₁ news → Below A base (env :: outer) g → K.In g → Top p loose mean mg mb g →
      (∀ b o, s.heap.get? b = some o → b ∉ news.map (·.1) → g.get? b = some o) →
      wpAny (model prog w) (A.deeper (envOf qual scope L' f cdv)) (execs body (envOf qual scope L' f cdv))
        (fun fl s' => LeaveK h₀ L m g R (match fl with | .ret v => v | _ => .none) s')
        (fun e s' => wpAny (model prog w) (A.deeper (envOf qual scope L' f cdv)) (leaving (envOf qual scope L' f cdv) e) (fun _ s'' => R (.error e) s'') (fun e' s'' => R (.error e') s'') s')
        { s with heap := h₁, toks := s.toks + binds.length })
    (hco : scope.isCoroutine = false) (hgen : scope.isGenerator = false) (hk : scope.kind = .function)
    (hcell : ∀ x ∈ scope.names, x.2 ≠ .cell) : codeAny (model prog w) A (.call (.ref f) args) R s := by
  obtain ⟨FG, BG, st, lv⟩ := groundX (R := R) B F N hA hf hke
  have ho' := (X₀.keeps F.keep) _ _ ho
  refine codeAny_call_def (fd := fnX name qual params body scope [] dV kV doc pm an cdv ct) (body := body) (binds := binds) hroom ho' rfl (T.nolimit.keeps F.keep) (codeRec_of (X₀.keeps F.keep) hcd) rfl hbind hcell hloc (fun h₁ hns hk₁ => ?_) hco hgen hk
  exact wpAny_mono (h _ s.heap.objs.size h₁ FG ⟨hns, fun b o e => hk₁ b o (of_hideAll _ e), Nat.le_of_eq (hideAll_size _ _)⟩
    (fun p hp => ⟨hk₁ _ _ (N p hp).1, Nat.ne_of_lt (Heap.lt_size (N p hp).1), hideAll_none _ (List.mem_map_of_mem hp)⟩) BG (X₀.keeps st) (T.keeps st) (fun b o e hb => hideAll_get _ e hb)) (fun fl s' hl => lv _ _ hl) fun _ _ y => y

/-- what a call keeps: all but the written addresses -/
def Kept (S : List Addr) (h h' : Heap) : Prop := ∀ b o, h.get? b = some o → b ∉ S → h'.get? b = some o
theorem kept_news {S : List Addr} {h h' : Heap} {l : List (Addr × Obj)} (k : Kept S h h') (N : News h₀ L h l) (hS : ∀ q ∈ l, q.1 ∉ S) : News h₀ L h' l := fun q hq => ⟨k _ _ (N q hq).1 (hS q hq), (N q hq).2⟩
theorem fresh_of {S : List Addr} {h g h' : Heap} {L' r : Addr} {o : Obj} {l : List (Addr × Obj)} (kp : ∀ b o, h.get? b = some o → b ∉ S → g.get? b = some o) (N' : News g L' h' l) (hm : (r, o) ∈ l) (hS : r ∉ S) : h.get? r = none := by
  cases q : h.get? r with
  | none => rfl
  | some o' => have := (N' _ hm).2.2; rw [kp _ _ q hS] at this; cases this
theorem Kept.of {S : List Addr} {h g h' : Heap} {L' : Addr} {m' : Str → Option Value} (kp : ∀ b o, h.get? b = some o → b ∉ S → g.get? b = some o) (F' : Fr g L' h' m') : Kept S h h' := fun b o e hb => F'.keep b o (kp b o e hb)
theorem news_add {h h' : Heap} {r : Addr} {o : Obj} {l : List (Addr × Obj)} (F : Fr h₀ L h m) (hr : h.get? r = none) (ho : h'.get? r = some o) (N : News h₀ L h' l) : News h₀ L h' ((r, o) :: l) := fun q hq => by
  rcases List.mem_cons.mp hq with rfl | hq
  · refine ⟨ho, fun e => ?_, ?_⟩
    · obtain ⟨oL, _, _, hL, _⟩ := F.ns
      rw [show r = L from e, hL] at hr; cases hr
    · cases q : h₀.get? r with
      | none => rfl
      | some o' => have := F.keep _ _ q; rw [this] at hr; cases hr
  · exact N q hq
end
theorem nm2 {a b r : Nat} (h1 : r ≠ a) (h2 : r ≠ b) : r ∉ [a, b] := by simp [h1, h2]
theorem nm4 {a b c d r : Nat} (h1 : r ≠ a) (h2 : r ≠ b) (h3 : r ≠ c) (h4 : r ≠ d) : r ∉ [a, b, c, d] := by simp [h1, h2, h3, h4]
theorem dm3v {x y0 y1 y2 v0 v1 v2 : Int} (hx0 : 16 ≤ x) (hx : x ≤ 26) (e0 : y0 = x % 4) (e1 : y1 = x / 4 % 4) (e2 : y2 = x / 16) (h2 : v2 = y2 % 3) (h1 : v1 = (v2 * 4 + y1) % 3) (h0 : v0 = (v1 * 4 + y0) % 3) : v0 = x % 3 := by
  have h : x = 16 * y2 + 4 * y1 + y0 := by omega
  clear e0 e1 e2
  omega
theorem lsh2 {prog : Program} {w : World} {A : Around} {E : Value → Shared → Prop} {s : Shared} {Q : Value → Shared → Prop} {a : Int} {t u : Tok} (h : a.natAbs < 2 ^ 64) (hq : ∀ t, Q (.int (a * 4) t) { s with toks := s.toks + 1 }) : wpAny (model prog w) A (binaryOp .LShift (.int a t) (.int 2 u)) Q E s :=
  lshift_int_small (by decide) (by decide) h (hq _)
def AllNe (d : Nat) : List (Addr × Obj) → Prop
  | [] => True
  | p :: r => @Ne Nat p.1 d ∧ AllNe d r
theorem allNe_of {h₀ h : Heap} {L d : Addr} : ∀ {l : List (Addr × Obj)}, News h₀ L h l → h.get? d = none → AllNe d l
  | [], _, _ => trivial
  | q :: r, N, hf => ⟨fun e => (by have := (N q (.head _)).1; rw [show q.1 = d from e, hf] at this; exact nomatch this), allNe_of (fun p hp => N p (.tail _ hp)) hf⟩
end Mine
end
section
set_option maxRecDepth 100000
namespace Mine
abbrev TupAt (h₀ : Heap) (ax : Addr) (its : Array Value) (nw : List (Addr × Obj)) : Prop := h₀.IsTuple ax its ∨ ∃ o, (ax, o) ∈ nw ∧ o.cls = .type "tuple" ∧ ∃ n, o.data = .seq its n
theorem TupAt.tup {h₀ h : Heap} {L ax : Addr} {its : Array Value} {nw : List (Addr × Obj)} (x : TupAt h₀ ax its nw) (k : ∀ b o, h₀.get? b = some o → h.get? b = some o) (N : News h₀ L h nw) : h.IsTuple ax its := by
  rcases x with ⟨o, e, r⟩ | ⟨o, hm, r⟩
  · exact ⟨o, k _ _ e, r⟩
  · exact ⟨o, (N _ hm).1, r⟩
section
variable {prog : Program} {w : World} {A : Around} {E : Value → Shared → Prop} {s : Shared} {h₀ : Heap} {L : Addr} {m : Str → Option Value} {env : Env}
def SrcT (prog : Program) (w : World) (A : Around) (h₀ : Heap) (L : Addr) (m : Str → Option Value) (env : Env) (elt : Expr) (x : Str) (scope : Scope) (cl : List (Str × Addr)) (Fin : Shared → List Value → List (Addr × Obj) → Prop) (xv : Value) (s₁ : Shared) : Prop :=
  ∃ ax its news, xv = .ref ax ∧ A.handled = none ∧ Fr h₀ L s₁.heap m ∧ News h₀ L s₁.heap news ∧ TupAt h₀ ax its news ∧ its.size ≤ sizeLine ∧
    ∀ s₂ : Shared, (∃ h, s₂ = { s₁ with heap := h }) → LCg.CompRest prog w A h₀ L m env elt x scope cl s₂ (TupAt h₀ ax its) (fun i v => its[i]? = some v) (Fin s₂) its.size 0 [] news
theorem SrcT.ledger {elt : Expr} {x : Str} {scope : Scope} {cl : List (Str × Addr)} {Fin : Shared → List Value → List (Addr × Obj) → Prop} {ax : Addr} {its : Array Value} {k : Nat} {news : List (Addr × Obj)} {s₁ : Shared}
    (hh : A.handled = none) (F : Fr h₀ L s₁.heap m) (N : News h₀ L s₁.heap news) (hm : (ax, ({ cls := .type "tuple", data := .seq its k } : Obj)) ∈ news) (hsz : its.size ≤ sizeLine)
    (h : ∀ g, LCg.CompRest prog w A h₀ L m env elt x scope cl { s₁ with heap := g } (TupAt h₀ ax its) (fun i v => its[i]? = some v) (Fin { s₁ with heap := g }) its.size 0 [] news) :
    SrcT prog w A h₀ L m env elt x scope cl Fin (.ref ax) s₁ := ⟨ax, its, news, rfl, hh, F, N, .inr ⟨_, hm, rfl, _, rfl⟩, hsz, fun _ ⟨g, e⟩ => e ▸ h g⟩
theorem tup_st {ax I : Addr} {its : Array Value} : ∀ i (h h' : Heap) (o : Obj) (nw : List (Addr × Obj)), (h.IsTupleIter I ax i ∧ h.IsTuple ax its) → h.get? I = some o → h'.get? I = some o → (∀ b o, h₀.get? b = some o → h'.get? b = some o) → News h₀ L h' nw → TupAt h₀ ax its nw → (h'.IsTupleIter I ax i ∧ h'.IsTuple ax its) :=
  fun i h h' o nw st e e' k N S => ⟨by obtain ⟨o', q, r⟩ := st.1; rw [e] at q; cases q; exact ⟨o, e', r⟩, S.tup k N⟩
theorem lc_tup {elt iter : Expr} {x : Str} {px : Pos} {scope : Scope} {cl : List (Str × Addr)} {pos : Pos} {Q : Value → Shared → Prop} (F₀ : Fr h₀ L s.heap m)
    (hclos : closureFor scope env = pure cl) (hcell : ∀ y ∈ scope.names, y.2 ≠ .cell) (hkind : scope.kind = .function)
    (hnames : ∀ y ∈ scope.names, y.2 = .local → scope.names.lookup y.1 = some .local) (hx : scope.names.lookup x = some .local)
    (h : wpAny (model prog w) A (eval iter env) (SrcT prog w A h₀ L m env elt x scope cl (fun s₂ => LCg.FinE h₀ L m s₂ Q)) E s)
    (hs : ∀ x, foldedSetIterable iter env x = pure x := by intro _; rfl) :
    wpAny (model prog w) A (eval (.ListComp elt [⟨.Name x px, iter, [], 0⟩] scope pos) env) Q E s := by
  rw [eval_ListComp]
  refine wpAny_comprehension_free (use := none) rfl hs hclos hkind hnames (wpAny_mono h (fun xv s₁ h₁ => ?_) fun _ _ e => e)
  obtain ⟨ax, its, news, rfl, hh, F, N, S, hsz, R⟩ := h₁
  have hl := S.tup F.keep N
  have hlt : ax < s₁.heap.objs.size := by obtain ⟨_, e, _⟩ := hl; exact Heap.lt_size e
  refine wpAny_pyIter_tuple hl ?_
  have up : ∀ b o, s₁.heap.get? b = some o → (s₁.heap.push { cls := .type "tuple_iterator", data := .fields #[.ref ax, .int 0 0] }).get? b = some o := fun b o e => Heap.get?_push_of_some _ e
  refine LCg.block_U (Walks.tuple hh s₁.heap.objs.size ax (Nat.ne_of_lt hlt) its) hsz (fun i h st => by obtain ⟨o, e, _⟩ := st.1; exact ⟨o, e⟩) tup_st hcell hkind hx ⟨⟨_, Heap.get?_push_size _ rfl, rfl, rfl⟩, hl.at fun o e => up _ _ e⟩ (fun b hb => ?_)
    (F.keeps up) (N.grown up) (Nat.ne_of_lt F.ns.lt) (next_is_new F) (fun p hp => Nat.ne_of_lt (Heap.lt_size (N p hp).1)) S (R _ ⟨_, rfl⟩) ?_
  · show b < (s₁.heap.push _).objs.size
    rw [Heap.size_push]
    rcases List.mem_cons.mp hb with rfl | hb
    · exact Nat.lt_succ_self _
    · rw [List.mem_singleton.mp hb]; exact Nat.lt_succ_of_lt hlt
  · intro D C h tk m' ys news' F' N' o1 hn hC₀ hD₀ hCL hDL hCD offC fin
    refine ⟨m', hn, fun h'' hs'' => fin D h'' tk (F'.change hs'' hCL hC₀) (fun p hp => ?_) o1⟩
    refine ⟨hs''.extBut _ _ ?_ (N' p hp).1, (N' p hp).2⟩
    rcases List.mem_cons.mp hp with rfl | hp
    · exact Ne.symm hCD
    · exact offC p hp
end
end Mine
end
section
set_option maxRecDepth 100000
namespace Mine
theorem lk_list_keys : typeLookup (.type "list") "keys" = pure none := by rw [typeLookup_type, builtinLookup_eq_fast]; kernel_rfl
theorem getattr_no_keys {prog : Program} {w : World} {A : Around} {E : Value → Shared → Prop} {s : Shared} {a : Addr} {xs : Array Value} {k : Nat} {Q : Option Value → Shared → Prop}
    (hx : s.heap.get? a = some { cls := .type "list", data := .seq xs k }) (hA : A.handled = none)
    (h : ∀ h' tk, (∀ b o, s.heap.get? b = some o → h'.get? b = some o) → Q none { s with heap := h', toks := tk }) :
    wpAny (model prog w) A (getAttr? (.ref a) "keys") Q E s := by
  obtain ⟨hp, g, d, tk, os⟩ := s
  have hT : ∀ tk', (⟨hp, g, d, tk', os⟩ : Shared).TypeIs (.ref a) "list" := fun _ => ⟨_, hx, rfl⟩
  have f1 := sub_AttributeError
  have f3 := F.slot_list_getattribute.lookup
  have f4 := F.slot_list_getattribute.bind (.ref a)
  have f5 := am_list_getattr_none
  unfold getAttr? getAttrBy? getAttrBy
  repeat (any_goals (first | assumption | exact hT _ | ((with_reducible show wpAny _ _ (call (Value.builtin "list.__getattribute__") _ _) _ _ _); refine call_meets F.slot_list_getattribute (hT _) am_entry_list_getattribute (F.args_list_getattribute_2 _ _) (meets_getattribute_miss_list a xs k #[] "keys" _ lk_list_keys (by decide) (by size_fits)) ⟨hx, hA, fun h' tk' e hx' => ?_⟩) | wp_step))
  obtain ⟨t', u', he⟩ := hx'.there
  show wpAny _ _ (getattributeRaised _ _ _ _ _ _ _) _ _ _
  unfold getattributeRaised
  repeat (any_goals (first | assumption | wp_step))
  exact h _ _ hx'.keeps
end Mine
end
section
set_option maxRecDepth 100000
namespace Mine
theorem entry_upd_loop : entryFor table "dict.update.loop" = some Builtin.«dict.update.loop» := entryFor_of_tree (by kernel_rfl)
theorem plain_upd_loop : plainId "dict.update.loop" = true := by decide +kernel
section
variable {prog : Program} {w : World} {K : Type} [DecidableEq K] {knd : KeyKind prog w K} {A : Around} {R : Result → Shared → Prop}
/-- a pair tuple of a key and a value -/
def PairAt (knd : KeyKind prog w K) (h : Heap) (x : Value) (kv : K × Value) : Prop := ∃ p key, x = .ref p ∧ h.IsTuple p #[key, kv.2] ∧ knd.is kv.1 key = true
theorem stored_length_le (kvs : List (K × Value)) (k : K) (v : Value) : (stored kvs k v).length ≤ kvs.length + 1 := by
  unfold stored; split <;> simp
theorem code_upd_loop (hh : A.in1.handled = none) {I lx D : Nat} {items : Array Value} (hIx : lx ≠ I) (hDI : D ≠ I) (hDx : D ≠ lx) (kws : List (K × Value)) (hlen : kws.length = items.size) (hsz : items.size ≤ 1000) :
    ∀ (n i : Nat) (s : Shared) (kvs : List (K × Value)) (t : Tok), items.size - i = n → i ≤ items.size → kvs.length ≤ i → s.heap.IsListIter I lx i → s.heap.IsList lx items → s.heap.DictOf knd D kvs →
    (∀ (j : Nat) x kv, items[j]? = some x → kws[j]? = some kv → PairAt knd s.heap x kv ∧ x ≠ .ref D ∧ x ≠ .ref I) →
    (∀ h' tk, (∀ b o, b ≠ I → b ≠ D → s.heap.get? b = some o → h'.get? b = some o) → h'.DictOf knd D ((kws.drop i).foldl (fun a kv => stored a kv.1 kv.2) kvs) → R (.ok (.ret .none)) { s with heap := h', toks := tk }) →
    codeAny (model prog w) A (.builtin "dict.update.loop" ⟨[.ref D, .ref I, .int i t, .none], []⟩) R s := by
  intro n
  induction n with
  | zero =>
    intro i s kvs t hk hi hlk hit hl hD hp hR
    have hin : i = items.size := by omega
    refine codeAny_builtin entry_upd_loop ?_
    rw [Around.under_plainId plain_upd_loop _]
    show wpAny _ A.in1 (pyNext (.ref I) >>= _) _ _ s
    refine wpAny_bind (wpAny_pyNext_list_end hh hit hl (by simp [hin]) fun h' hs => ?_)
    refine wpAny_pure ?_
    have e : kws.drop i = [] := List.drop_eq_nil_of_le (by omega)
    refine hR h' s.toks (fun b o hb _ e => hs b o hb e) ?_
    rw [e]
    obtain ⟨o, es, ep, ho, r⟩ := hD
    exact ⟨o, es, ep, hs _ _ hDI ho, r⟩
  | succ n ih =>
    intro i s kvs t hk hi hlk hit hl hD hp hR
    have hlt : i < items.size := by omega
    have hltk : i < kws.length := by omega
    refine codeAny_builtin entry_upd_loop ?_
    rw [Around.under_plainId plain_upd_loop _]
    show wpAny _ A.in1 (pyNext (.ref I) >>= _) _ _ s
    refine wpAny_bind (wpAny_pyNext_list_item hit hl (x := items[i]) (by simp [hlt]) fun h₁ hit₁ hs₁ => ?_)
    obtain ⟨⟨p, key, hx, hpt, hkey⟩, hxD, hxI⟩ := hp i items[i] kws[i] (by simp [hlt]) (by simp [hltk])
    rw [hx]
    have hpI : p ≠ I := fun e => hxI (by rw [hx, e])
    have hpD : p ≠ D := fun e => hxD (by rw [hx, e])
    have hpt₁ : h₁.IsTuple p #[key, kws[i].2] := hpt.extBut hs₁.extBut hpI
    have hD₁ : h₁.DictOf knd D kvs := by
      obtain ⟨o, es, ep, ho, r⟩ := hD
      exact ⟨o, es, ep, hs₁.extBut _ _ hDI ho, r⟩
    obtain ⟨ot, hot, hct, nt, hdt⟩ := id hpt₁
    refine wpAny_bind (wpAny_holding ?_)
    refine wpAny_bind (wpAny_tryCatch ?_)
    unfold Builtin.Dict.pairItems
    refine wpAny_bind (wpAny_typeOf (T := "tuple") ⟨_, hot, hct⟩ ?_)
    simp only [beq_self_eq_true, Bool.or_true, if_true]
    refine wpAny_bind (wpAny_seqItems hot hdt (wpAny_pure ?_))
    show wpAny _ _ (holding [key, kws[i].2] (dictSet D key kws[i].2)) _ _ _
    refine wpAny_holding ?_
    refine wpAny_dictSet_pairs (hsz := by rw [sizeLine_eq]; omega) hkey hD₁ fun h₂ hD₂ hs₂ => ?_
    refine wpAny_pure ⟨plainId_quiet plain_upd_loop _, ?_⟩
    have hs12 : ∀ b o, b ≠ I → b ≠ D → s.heap.get? b = some o → h₂.get? b = some o := fun b o hI hDb e => hs₂.extBut _ _ hDb (hs₁.extBut _ _ hI e)
    refine ih (i + 1) _ (stored kvs kws[i].1 kws[i].2) 0 (by omega) hlt (Nat.le_trans (stored_length_le _ _ _) (by omega)) (hit₁.extBut hs₂.extBut (Ne.symm hDI)) ((hl.extBut hs₁.extBut hIx).extBut hs₂.extBut (Ne.symm hDx)) hD₂ (fun j x kv hj hkv => ?_) (fun h' tk hk' hd' => ?_)
    · obtain ⟨⟨p', key', hx', hpt', hkey'⟩, a, b⟩ := hp j x kv hj hkv
      refine ⟨⟨p', key', hx', ?_, hkey'⟩, a, b⟩
      exact (hpt'.extBut hs₁.extBut (fun e => b (by rw [hx', e]))).extBut hs₂.extBut (fun e => a (by rw [hx', e]))
    · refine hR h' tk (fun b o hI hDb e => hk' b o hI hDb (hs12 b o hI hDb e)) ?_
      rw [List.drop_eq_getElem_cons hltk, List.foldl_cons]
      exact hd'
end
end Mine
end
section
set_option maxRecDepth 100000
namespace Mine
section
variable {prog : Program} {w : World} {K : Type} [DecidableEq K] {knd : KeyKind prog w K} {A : Around} {E : Value → Shared → Prop} {s : Shared}
def dictFold (kws : List (K × Value)) : List (K × Value) := kws.foldl (fun a kv => stored a kv.1 kv.2) []
theorem call_dict_pairs {l : Addr} {items : Array Value} {nn : Nat} {kws : List (K × Value)} {Q : Value → Shared → Prop} (hh : A.handled = none) (hl : s.heap.get? l = some { cls := .type "list", data := .seq items nn }) (hlen : kws.length = items.size) (hsz : items.size ≤ 1000)
    (hp : ∀ (j : Nat) x kv, items[j]? = some x → kws[j]? = some kv → PairAt knd s.heap x kv)
    (h : ∀ h' tk, (∀ b o, s.heap.get? b = some o → h'.get? b = some o) → h'.DictOf knd s.heap.objs.size (dictFold kws) → Q (.ref s.heap.objs.size) { s with heap := h', toks := tk }) :
    wpAny (model prog w) A (call (.type "dict") [.ref l]) Q E s := by
  refine callType_codes (Q₁ := fun obj s₁ => obj = .ref s.heap.objs.size ∧ s₁ = { s with heap := s.heap.push { cls := .type "dict", data := .dict #[] } }) F.kt_called_dict (F.kt_typeCall_dict_1 _) F.entry_dict_init (kt_code_dict_new _ ⟨rfl, rfl⟩) ?_
  rintro obj s₁ ⟨rfl, rfl⟩
  have hnew : (s.heap.push { cls := .type "dict", data := .dict #[] }).DictOf knd s.heap.objs.size [] := Heap.DictOf.new s.heap
  have hl' : (s.heap.push { cls := .type "dict", data := .dict #[] }).get? l = some { cls := .type "list", data := .seq items nn } := Heap.get?_push_of_some _ hl
  have hll : l < s.heap.objs.size := Heap.lt_size hl
  refine ⟨hnew.typeIs, F.args_dict_init_2 _ _, ?_⟩
  unfold Builtin.«dict.__init__»
  refine wpAny_bind ?_
  unfold Builtin.Dict.selfAndRest
  refine wpAny_bind (wpAny_notOrdered_dict hnew.typeIs ?_)
  show wpAny _ _ (pure (s.heap.objs.size, [Value.ref l])) _ _ _
  refine wpAny_pure ?_
  show wpAny _ _ (Builtin.Dict.updateFrom "dict.__init__" s.heap.objs.size (.ref l) [] .none) _ _ _
  unfold Builtin.Dict.updateFrom
  refine wpAny_bind (wpAny_typeOf (T := "list") ⟨_, hl', rfl⟩ ?_)
  rw [if_pos (by decide)]
  refine wpAny_bind (getattr_no_keys hl' hh fun h₂ tk₂ hk₂ => ?_)
  simp only [Option.isNone_none, if_true]
  refine wpAny_bind (wpAny_rule ?_)
  have hl₂ := hk₂ _ _ hl'
  refine wpAny_bind (wpAny_pyIter_list (items := items) (show h₂.IsList l items from ⟨{ cls := .type "list", data := .seq items nn }, hl₂, rfl, nn, rfl⟩) ?_)
  refine wpAny_pure ⟨plainId_quiet plain_upd_loop _, ?_⟩
  have hle : s.heap.objs.size < h₂.objs.size := by
    obtain ⟨o, es, ep, ho, _⟩ := hnew
    exact Heap.lt_size (hk₂ _ _ ho)
  have hold : ∀ b o, s.heap.get? b = some o → (h₂.push { cls := .type "list_iterator", data := .fields #[.ref l, .int 0 0] }).get? b = some o := fun b o e => Heap.get?_push_of_some _ (hk₂ _ _ (Heap.get?_push_of_some _ e))
  refine code_upd_loop (A := A.in1) (knd := knd) (kws := kws) (items := items) (lx := l) hh (Nat.ne_of_lt (Nat.lt_trans hll hle)) (Nat.ne_of_lt hle) (Nat.ne_of_gt hll) hlen hsz items.size 0 _ [] 0 rfl (Nat.zero_le _) (Nat.zero_le _)
    ?_ ?_ ?_ (fun j x kv hj hkv => ?_) (fun h' tk hk hd => ?_)
  · exact ⟨_, Heap.get?_push_size _ rfl, rfl, rfl⟩
  · exact ⟨_, hold _ _ hl, rfl, nn, rfl⟩
  · obtain ⟨o, es, ep, ho, r⟩ := hnew
    exact ⟨o, es, ep, Heap.get?_push_of_some _ (hk₂ _ _ ho), r⟩
  · obtain ⟨p, key, hx, ⟨o, ho, r⟩, hkey⟩ := hp j x kv hj hkv
    have hpl : p < s.heap.objs.size := Heap.lt_size ho
    refine ⟨⟨p, key, hx, ⟨o, hold _ _ ho, r⟩, hkey⟩, fun e => ?_, fun e => ?_⟩
    · rw [hx] at e; cases e; exact Nat.lt_irrefl _ hpl
    · rw [hx] at e; cases e; exact Nat.lt_irrefl _ (Nat.lt_trans hpl hle)
  · refine ⟨rfl, h h' tk (fun b o e => hk b o (Nat.ne_of_lt (Nat.lt_trans (Heap.lt_size e) hle)) (Nat.ne_of_lt (Heap.lt_size e)) (hold _ _ e)) ?_⟩
    simpa [dictFold] using hd
end
end Mine
end
section
namespace Mine
set_option maxRecDepth 100000
section
variable {prog : Program} {w : World} {A₀ A : Around} {s : Shared} {base h₀ : Heap} {outer : List Env} {L : Addr} {m mg mb : Str → Option Value} {env : Env} {news : List (Addr × Obj)} {K : Frag} {p : Program} {loose : List Str} {mean : ExcName → Option Value}
  {R : Result → Shared → Prop}
theorem none_of_hide {h : Heap} {l : List Addr} {b : Addr} (hn : ∀ o, h.get? b = some o → False) : (hideAll h l).get? b = none := by
  cases q : (hideAll h l).get? b with
  | none => rfl
  | some o => exact (hn o (of_hideAll _ q)).elim

/-- the same for a def with cells -/
theorem code_defCN {name qual : Str} {params : Arguments} {body : List Stmt} {scope : Scope} {dV kV doc pm cdv ct oc : Value} {an od : Option Addr} {osl : Array (Option Value)} {f : Addr} {args : Args} {binds : List (Str × Value)}
    (B : Below A₀ base outer h₀) (F : Fr h₀ L s.heap m) (X₀ : K.In h₀) (N : News h₀ L s.heap news) (T : Top p loose mean mg mb h₀) (hA : A.frames = some (env :: outer)) (hf : env.frame = some L) (hke : env.scope.kind = .function)
    (ho : K.lookup f = some ⟨oc, od, .func (fnOf name qual params body scope dV kV doc pm an cdv ct), osl⟩) (hcd : codeIn K cdv qual = true) (hroom : A.depth < recursionLimit)
    (hbind : BindsTo s (fnOf name qual params body scope dV kV doc pm an cdv ct) args binds) (hkind : (binds.all fun y => scope.names.lookup y.1 == some .local || scope.names.lookup y.1 == some .cell) = true)
    (hnd : ((cellsFrom 0 scope.names []).map (·.1)).Nodup)
    (h : ∀ g L' h₁ tk cells, Fr h₀ L g m → Fr g L' h₁ (bindL (envOfC qual scope L' f cdv).kindOf binds fun _ => none) → News g L' h₁ (cells ++ news) →
      CellsAre (bindC (envOfC qual scope L' f cdv).kindOf binds fun _ => none) (cellsFrom (L' + 1) scope.names []) cells → Below A base (env :: outer) g → K.In g → Top p loose mean mg mb g → (∀ p ∈ news, p.1 < L') →
      (∀ b o, s.heap.get? b = some o → b ∉ news.map (·.1) → g.get? b = some o) →
      wpAny (model prog w) (A.deeper (envOfC qual scope L' f cdv)) (execs body (envOfC qual scope L' f cdv))
        (fun fl s' => LeaveK h₀ L m g R (match fl with | .ret v => v | _ => .none) s')
        (fun e s' => wpAny (model prog w) (A.deeper (envOfC qual scope L' f cdv)) (leaving (envOfC qual scope L' f cdv) e) (fun _ s'' => R (.error e) s'') (fun e' s'' => R (.error e') s'') s')
        { s with heap := h₁, toks := tk })
    (hco : scope.isCoroutine = false) (hgen : scope.isGenerator = false) (hk : scope.kind = .function) : codeAny (model prog w) A (.call (.ref f) args) R s := by
  obtain ⟨FG, BG, st, lv⟩ := groundX (R := R) B F N hA hf hke
  have hlim := T.nolimit
  refine codeAny_call_function (fd := fnX name qual params body scope [] dV kV doc pm an cdv ct) hroom ((X₀.keeps F.keep) _ _ ho) rfl hco hgen rfl (codeRec_of (X₀.keeps F.keep) hcd) (hbind _ _ _ _ ?_)
  refine wpAny_newFunctionEnv_cells hk (kindsX hkind _) fun env' he s' x => ?_
  subst he
  refine ⟨(hlim.keeps F.keep).keeps x.toInCall.keep, codeAny_func ?_⟩
  obtain ⟨h₁, tk, rfl, _⟩ := x.done
  have hk₁ := x.toInCall.keep
  obtain ⟨cells, NC, Y⟩ := Cl.news (h₀ := s.heap) (Nat.le_refl _) fun n c hm => ⟨x.cell n c (lookup_of_mem_nodup (cellsFrom_names scope.names 0 (s.heap.objs.size + 1) [] [] rfl ▸ hnd) hm), x.above n c hm⟩
  refine wpAny_mono (h _ s.heap.objs.size h₁ tk cells FG ⟨x.toInCall.ns, fun b o e => hk₁ b o (of_hideAll _ e), Nat.le_of_eq (hideAll_size _ _)⟩ (fun p hp => ?_) Y BG (X₀.keeps st) (T.keeps st) (fun p hp => Heap.lt_size (N p hp).1) (fun b o e hb => hideAll_get _ e hb)) (fun fl s' hl => lv _ _ hl) fun _ _ y => y
  rcases List.mem_append.mp hp with hp | hp
  · exact ⟨(NC p hp).1, (NC p hp).2.1, none_of_hide fun o e => by rw [(NC p hp).2.2] at e; cases e⟩
  · exact ⟨hk₁ _ _ (N p hp).1, Nat.ne_of_lt (Heap.lt_size (N p hp).1), hideAll_none _ (List.mem_map_of_mem hp)⟩


/-- a part of a ledger that a call gives back as it was: the whole ledger stands -/
theorem news_lift {h h' : Heap} {sub all : List (Addr × Obj)} (N : News h₀ L h all) (N' : News h₀ L h' sub) (K : Kept (sub.map (·.1)) h h') (hs : ∀ q ∈ sub, h.get? q.1 = some q.2) : News h₀ L h' all := fun p hp => by
  refine ⟨?_, (N p hp).2⟩
  by_cases q : p.1 ∈ sub.map (·.1)
  · obtain ⟨q', hq, e⟩ := List.mem_map.mp q
    have h1 := hs q' hq
    have h2 := (N p hp).1
    have e' : q'.1 = p.1 := e
    rw [e', h2] at h1
    have h3 := (N' q' hq).1
    rw [e'] at h3
    rw [h3, Option.some.inj h1]
  · exact K _ _ (N p hp).1 q
end
end Mine
end
section
set_option maxRecDepth 100000
namespace Mine
section
variable {s : Shared} {K : Frag}
theorem binds_KW {fd : FuncData} {args : Args} {binds : List (Str × Value)} {T : Addr} {o : Obj} {items : Array Value} {n : Nat} {k : Option (Array Value) → Sem (List (Str × Value))} {kd : Addr} {name : Str} {r : Option Value} {α β : Type} {k1 : Option Value → Sem α} {k2 : α → Sem β} {k3 : β → Sem (List (Str × Value))} {a : α} {b : β}
    (X : K.In s.heap) (hd : fd.defaults = .ref T) (ho : K.lookup T = some o) (hs : o.data = .seq items n) (h₁ : bindArgs fd args = seqItems? fd.defaults >>= k) (h₂ : k (some items) = ((nsGet kd name >>= k1) >>= k2) >>= k3) (h₃ : nsIn K kd name = some r) (h₄ : k1 r = pure a) (h₅ : k2 a = pure b) (h₆ : k3 b = pure binds) : BindsTo s fd args binds :=
  fun M A E Q hq => by
    rw [h₁, hd]
    refine wpAny_bind (wpAny_seqItems (X _ _ ho) hs ?_)
    rw [h₂]
    refine wpAny_bind (wpAny_bind (wpAny_bind ((looks_nsIn X h₃).at ?_)))
    rw [h₄]; refine wpAny_pure ?_
    rw [h₅]; refine wpAny_pure ?_
    rw [h₆]; exact wpAny_pure hq
end
end Mine
end
section
set_option maxRecDepth 100000
namespace Mine
section
variable {prog : Program} {w : World} {A : Around} {E : Value → Shared → Prop} {s : Shared} {env : Env} {test : Expr} {body : List Stmt} {Q : Flow → Shared → Prop} {h₀ h : Heap} {L : Addr} {m : Str → Option Value}
def WPost (J : Nat → Shared → Prop) (n : Nat) (Q : Flow → Shared → Prop) (f : Flow) (s : Shared) : Prop :=
  match f with
  | .next => ∃ k, k < n ∧ J k s
  | .cont => ∃ k, k < n ∧ J k s
  | .brk => Q .next s
  | .ret v => Q (.ret v) s
theorem while_inv {pos : Pos} (J : Nat → Shared → Prop) (hE : PassesOwn (model prog w) A env E)
    (turn : ∀ n s, J n s → wpAny (model prog w) A (isTrue test env (eval test env)) (fun b s₂ => WhlIf b (wpAny (model prog w) A (execs body env) (WPost J n Q) E s₂) (Q .next s₂)) E s)
    (n : Nat) (h : J n s) : wpAny (model prog w) A (exec (.While test body [] pos) env) Q E s := by
  refine wpAny_While (codeAny_whileLoop J (fun n s hJ => ?_) n h)
  refine wpAny_mono (turn n s hJ) (fun b s₂ h₂ => ?_) hE
  cases b with
  | false =>
    have h₃ : Q .next s₂ := by unfold WhlIf at h₂; rwa [if_neg Bool.false_ne_true] at h₂
    exact wpAny_execs_nil h₃
  | true =>
    have h₃ : wpAny (model prog w) A (execs body env) (WPost J n Q) E s₂ := by unfold WhlIf at h₂; rwa [if_pos rfl] at h₂
    refine wpAny_mono h₃ (fun f s₃ h₄ => ?_) hE
    cases f <;> exact h₄
theorem fr_at {x : Str} {v : Value} (F : Fr h₀ L h m) (e : m x = some v) : Fr h₀ L h (fun y => if y = x then some v else m y) := by
  have q : (fun y => if y = x then some v else m y) = m := by
    funext y; split
    · subst_vars; exact e.symm
    · rfl
  rw [q]; exact F
theorem fr_at4 {x1 x2 x3 x4 : Str} {v1 v2 v3 v4 : Value} (F : Fr h₀ L h m) (e1 : m x1 = some v1) (e2 : m x2 = some v2) (e3 : m x3 = some v3) (e4 : m x4 = some v4) :
    Fr h₀ L h (fun y => if y = x1 then some v1 else if y = x2 then some v2 else if y = x3 then some v3 else if y = x4 then some v4 else m y) := by
  have q : (fun y => if y = x1 then some v1 else if y = x2 then some v2 else if y = x3 then some v3 else if y = x4 then some v4 else m y) = m := by
    funext y
    by_cases h1 : y = x1
    · rw [if_pos h1, h1]; exact e1.symm
    rw [if_neg h1]
    by_cases h2 : y = x2
    · rw [if_pos h2, h2]; exact e2.symm
    rw [if_neg h2]
    by_cases h3 : y = x3
    · rw [if_pos h3, h3]; exact e3.symm
    rw [if_neg h3]
    by_cases h4 : y = x4
    · rw [if_pos h4, h4]; exact e4.symm
    rw [if_neg h4]
  rw [q]; exact F
end
end Mine
end
section
namespace Mine
theorem AllNe.off {d : Nat} : ∀ {l : List (Addr × Obj)}, AllNe d l → ∀ p ∈ l, p.1 ≠ d
  | [], _, _, h => nomatch h
  | _ :: _, x, p, h => by
    rcases List.mem_cons.mp h with rfl | h
    · exact x.1
    · exact AllNe.off x.2 p h
theorem lt_at {l : List (Addr × Obj)} {r : Nat} (p : Addr × Obj) (h : ∀ p ∈ l, p.1 < r) (hm : p ∈ l) : p.1 < r := h p hm
theorem lt_nB {l : List (Addr × Obj)} {d : Addr} (h : ∀ p ∈ l, p.1 < d) : ∀ p ∈ l, p.1 ≠ d := fun p hp => Nat.ne_of_lt (h p hp)
def fnB (o : Option Obj) : List Stmt := match o with
  | some ⟨_, _, .func fd, _⟩ => (match fd.body with | .stmts b => b | _ => [])
  | _ => []
def fnS (o : Option Obj) : Scope := match o with
  | some ⟨_, _, .func fd, _⟩ => fd.scope
  | _ => default
def forB (b : List Stmt) (i : Nat) : List Stmt := match b[i]? with
  | some (.For _ _ body _ _) => body
  | _ => []
def defB (b : List Stmt) (i : Nat) : List Stmt := match b[i]? with
  | some (.FunctionDef _ _ b _ _ _ _ _ _ _) => b
  | _ => []
def defP (b : List Stmt) (i : Nat) : Arguments := match b[i]? with
  | some (.FunctionDef _ p _ _ _ _ _ _ _ _) => p
  | _ => default
def defS (b : List Stmt) (i : Nat) : Scope := match b[i]? with
  | some (.FunctionDef _ _ _ _ _ _ sc _ _ _) => sc
  | _ => default
theorem execs_app_eq {env : Env} (b : List Stmt) : ∀ a : List Stmt, execs (a ++ b) env = (do match ← execs a env with | .next => execs b env | f => pure f)
  | [] => rfl
  | st :: r => by
    rw [List.cons_append, execs_cons, execs_cons, execs_app_eq b r]
    show Sem.bind _ _ = Sem.bind (Sem.bind _ _) _
    rw [Sem.bind_assoc]
    congr 1
    funext f
    cases f <;> rfl
theorem execs_split {M : Model} {A : Around} {E : Value → Shared → Prop} {s : Shared} {env : Env} {Q : Flow → Shared → Prop} {a b : List Stmt} (h : wpAny M A (execs a env) (fun f s' => match f with | .next => wpAny M A (execs b env) Q E s' | f => Q f s') E s) :
    wpAny M A (execs (a ++ b) env) Q E s := fun Γ p hΓ => by
  rw [execs_app_eq, Sem.wp_bind']
  refine Sem.wp_mono M Γ _ (fun f p' s' h' => ?_) (fun _ _ _ h' => h') _ _ (h Γ p hΓ)
  cases f <;> first | exact h' Γ p' hΓ | exact h'
section
variable {prog : Program} {w : World} {A : Around} {E : Value → Shared → Prop} {s : Shared} {Q : Value → Shared → Prop}
theorem eqi_T {x y : Int} {t u : Tok} (hq : x = y) (h : Q (.bool true) s) : wpAny (model prog w) A (compareOp .Eq (.int x t) (.int y u)) Q E s :=
  PySem.P.eq_int (by rw [beq_iff_eq.mpr hq]; exact h)
theorem eqi_F {x y : Int} {t u : Tok} (hq : x ≠ y) (h : Q (.bool false) s) : wpAny (model prog w) A (compareOp .Eq (.int x t) (.int y u)) Q E s :=
  PySem.P.eq_int (by rw [beq_eq_false_iff_ne.mpr hq]; exact h)
theorem rsh_as {x k v : Int} {t u : Tok} (hn : 0 ≤ k) (hv : x.fdiv (2 ^ k.toNat) = v) (hq : ∀ t, Q (.int v t) { s with toks := s.toks + 1 }) : wpAny (model prog w) A (binaryOp .RShift (.int x t) (.int k u)) Q E s :=
  rshift_int hn (by rw [hv]; exact hq _)
theorem lsh_as {x k v : Int} {t u : Tok} (hn : 0 ≤ k) (hn2 : k ≤ 1000000) (ha : x.natAbs < 2 ^ 64) (hv : x * 2 ^ k.toNat = v) (hq : ∀ t, Q (.int v t) { s with toks := s.toks + 1 }) : wpAny (model prog w) A (binaryOp .LShift (.int x t) (.int k u)) Q E s :=
  lshift_int_small hn hn2 ha (by rw [hv]; exact hq _)
theorem mul_as {x y v : Int} {t u : Tok} (hv : x * y = v) (hm : IntMulOk x y) (hq : ∀ t, Q (.int v t) { s with toks := s.toks + 1 }) : wpAny (model prog w) A (binaryOp .Mult (.int x t) (.int y u)) Q E s :=
  mul_int (by rw [hv]; exact hq _) hm
end
end Mine
end
local macro_rules | `(tactic| walk_at $s:str) => `(tactic| k_extra $s)
local macro_rules | `(tactic| k_room) => `(tactic| ktr_room)
local macro_rules | `(tactic| k_mem) => `(tactic| k_extra "k_mem")
local macro_rules | `(tactic| k_all) => `(tactic| k_extra "k_all")
local macro_rules | `(tactic| k_ne) => `(tactic| k_extra "k_ne")
local macro_rules | `(tactic| k_lt $h:ident) => `(tactic| k_extra "k_lt")
example : True := by
  w_top off
  trivial
section
namespace Mine
example : (fun p => hd.heap_39 p) = (fun p => hd.heap_39 p) ∧ PySem.Challenge.rw_ie0009_01 = PySem.Challenge.rw_ie0009_01 := by k_fill; exact ⟨rfl, rfl⟩
example : True := by
  k_with_none
  k_with "enterN" => (refine' code_defN ?Zk1 ?Zk2 ?Zk3 ?Zk4 ?Zk5 ?ZkA ?ZkF ?ZkK ?Zk6 ?Zk7 ?Zk8 ?Zk9 ?ZkB ?_ ?Zc2 ?Zc3 ?Zc4 ?Zc5; (case ZkA => exact rfl); (case ZkF => exact rfl); (case ZkK => assumption); (case Zk1 => k_asm); (case Zk2 => k_asm); (case Zk3 => k_asm); (case Zk4 => k_asm); (case Zk5 => k_asm); (case Zk6 => k_is); (case Zk7 => k_is); (case Zk8 => ktr_room); (case Zk9 => first | exact BindsTo.of_eq rfl | (refine' binds_KW ?Zz1 ?Zz2 ?Zz3 ?Zz4 ?Zz5 ?Zz6 ?Zz7 ?Zz8 ?Zz9 ?Zza; (case Zz1 => k_in); (case Zz2 => exact rfl); (case Zz3 => k_is); (case Zz4 => exact rfl); (case Zz5 => exact rfl); (case Zz6 => exact rfl); (case Zz7 => exact rfl); (case Zz8 => exact rfl); (case Zz9 => exact rfl); (case Zza => exact rfl))); (case Zc5 => decide); (case ZkB => exact locs rfl); (case Zc2 => exact rfl); (case Zc3 => exact rfl); (case Zc4 => exact rfl); k_whole)
  k_with "exec While Compare" => k_dflt (refine hold_of ?_)
  trivial
def BInv (ns : List Int) (x lo hi : Int) : Prop := (∀ i : Nat, (i : Int) < lo → i < ns.length → ns.getD i 0 < x) ∧ (∀ i : Nat, hi ≤ (i : Int) → i < ns.length → x ≤ ns.getD i 0)
theorem BInv.start (ns : List Int) (x : Int) : BInv ns x 0 ns.length := ⟨fun i h => by omega, fun i h h' => by omega⟩
def Srt (ns : List Int) : Prop := ∀ i j : Nat, i ≤ j → j < ns.length → ns.getD i 0 ≤ ns.getD j 0
theorem BInv.up {ns : List Int} {x lo hi md : Int} (S : Srt ns) (h : BInv ns x lo hi) (h0 : 0 ≤ md) (h1 : md < ns.length) (hx : ns.getD md.toNat 0 < x) : BInv ns x (md + 1) hi :=
  ⟨fun i hi hl => Int.lt_of_le_of_lt (S i md.toNat (by omega) (by omega)) hx, h.2⟩
theorem BInv.down {ns : List Int} {x lo hi md : Int} (S : Srt ns) (h : BInv ns x lo hi) (h0 : 0 ≤ md) (hx : ¬ ns.getD md.toNat 0 < x) : BInv ns x lo md :=
  ⟨h.1, fun i hi hl => Int.le_trans (Int.not_lt.mp hx) (S md.toNat i (by omega) hl)⟩
section
variable {prog : Program} {w : World} {mg mb : Str → Option Value} {mean : ExcName → Option Value} {loose : List Str}
  {A₀ : Around} {base h₀ : Heap} {m : Str → Option Value} {s : Shared}
set_option maxRecDepth 100000 in
set_option maxHeartbeats 8000000 in
theorem bis_body {body : List Stmt} {sc : Scope} {fa L dp un o nn : Nat} {vs : List Value} {ns : List Int} {x : Int} {tx t0 : Tok} {gd : Option (List Code)} {ccd : Value} {outer : List Env} {Q : Flow → Shared → Prop} {E : Value → Shared → Prop}
    (hb : body = fnB ((hd.heap_39 w.params).lookup 74)) (hsc : sc = fnS ((hd.heap_39 w.params).lookup 74))
    (B : Below A₀ base outer h₀) (F : Fr h₀ L s.heap m) (X : (hd.heap_39 w.params).In h₀) (T : Top topProg loose mean mg mb h₀) (N : News h₀ L s.heap [(o, W.listOf vs.toArray nn)])
    (e1 : m (Str.ofString "a") = some (.ref o)) (e2 : m (Str.ofString "x") = some (.int x tx)) (e3 : m (Str.ofString "lo") = some (.int 0 t0)) (e4 : m (Str.ofString "hi") = some .none) (e5 : m (Str.ofString "key") = some .none)
    (hi : IntsAre vs ns) (hlen : ns.length ≤ 1000) (hS : Srt ns) (hdp : dp + 12 < recursionLimit) (hun : un + 120 < cLine) (hE : PassesOwn (model prog w) (ktrTop dp un gd (Str.ofString "bisect_left") sc L fa ccd [] outer) (envX (Str.ofString "bisect_left") sc L fa ccd []) E)
    (hret : ∀ (p : Int) t (m' : Str → Option Value) h' tk', Fr h₀ L h' m' → News h₀ L h' [(o, W.listOf vs.toArray nn)] → 0 ≤ p → p ≤ ns.length → BInv ns x p p → Q (.ret (.int p t)) { s with heap := h', toks := tk' }) :
    wpAny (model prog w) (ktrTop dp un gd (Str.ofString "bisect_left") sc L fa ccd [] outer) (execs body (envX (Str.ofString "bisect_left") sc L fa ccd [])) Q E s := by
  conv at hb => rhs; whnf
  conv at hsc => rhs; whnf
  subst hb hsc
  have hk : (ScopeKind.function = ScopeKind.function) := rfl
  have F4 := fr_at4 (x1 := Str.ofString "a") (x2 := Str.ofString "x") (x3 := Str.ofString "lo") (x4 := Str.ofString "hi") (fr_at (x := Str.ofString "key") F e5) e1 e2 e3 e4
  clear F
  k_steps
  refine of_hold ?_
  rename Fr _ _ _ _ => F5
  rename News _ _ _ _ => N5
  refine' while_inv (fun k s' => ∃ (lo hi : Int) (tl th : Tok) (h' : Heap) (tk' : Nat) (m' : Str → Option Value), s' = { s with heap := h', toks := tk' } ∧ Fr h₀ L h' m' ∧ News h₀ L h' [(o, W.listOf vs.toArray nn)] ∧ m' (Str.ofString "a") = some (.ref o) ∧ m' (Str.ofString "x") = some (.int x tx) ∧ m' (Str.ofString "lo") = some (.int lo tl) ∧ m' (Str.ofString "hi") = some (.int hi th) ∧ 0 ≤ lo ∧ lo ≤ hi ∧ hi ≤ ns.length ∧ hi - lo = k ∧ BInv ns x lo hi) ?wE ?wT ns.length ?w0
  case wE => exact hE
  case w0 => exact ⟨0, ns.length, _, _, _, _, _, rfl, F5, N5, rfl, rfl, rfl, rfl, by omega, by omega, by omega, by omega, BInv.start _ _⟩
  case wT =>
    clear F5 N5
    rintro k s' ⟨lo, hi, tl, th, h', tk', m', rfl, F6, N6, ea, ex, el, eh, b0, b1, b2, b3, bi⟩
    have F7 := fr_at4 F6 ea ex el eh
    clear F6
    rcases Int.lt_or_le lo hi with hlt | hge
    · (try dsimp only)
      k_steps
      refine WhlIf.yes (decide_eq_true hlt) ?_
      have d0 : (lo + hi).fdiv 2 = (lo + hi) / 2 := Int.fdiv_eq_ediv_of_nonneg _ (by decide)
      have d1 : lo ≤ (lo + hi).fdiv 2 := by omega
      have d2 : (lo + hi).fdiv 2 < hi := by omega
      (try dsimp only); (try k_fold)
      k_steps
      · rename _ < x => hx
        rename Fr _ _ _ _ => F8
        refine ⟨(hi - ((lo + hi).fdiv 2 + 1)).toNat, by omega, (lo + hi).fdiv 2 + 1, hi, _, _, _, _, _, rfl, F8, by assumption, rfl, rfl, rfl, rfl, by omega, by omega, by omega, by omega, bi.up hS (by omega) (by omega) hx⟩
      · rename ¬ _ < x => hx
        rename Fr _ _ _ _ => F8
        refine ⟨((lo + hi).fdiv 2 - lo).toNat, by omega, lo, (lo + hi).fdiv 2, _, _, _, _, _, rfl, F8, by assumption, rfl, rfl, rfl, rfl, by omega, by omega, by omega, by omega, bi.down hS (by omega) hx⟩
    · (try dsimp only)
      have e : lo = hi := by omega
      subst e
      k_steps
      refine WhlIf.no (decide_eq_false (by omega)) ?_
      (try k_unfold)
      (try dsimp only)
      k_steps
      exact hret _ _ _ _ _ (by k_asm) (by refine cb_drop (by assumption) ?_; kcj_all) b0 b2 bi
end
section
variable {prog : Program} {w : World} {mg mb : Str → Option Value} {mean : ExcName → Option Value} {loose : List Str}
  {dp un : Nat} {gd : Option (List Code)} {cn : Str} {cs : Scope} {L a : Addr} {ccd : Value} {cl : List (Str × Addr)} {outer : List Env} {A₀ : Around} {base h₀ : Heap} {m : Str → Option Value} {s : Shared} {Q E : Value → Shared → Prop}

set_option maxRecDepth 100000 in
set_option maxHeartbeats 8000000 in
theorem c_bis {all : List (Addr × Obj)} {o : Nat} {vs : List Value} {ns : List Int} {nn : Nat} {x : Int} {tx : Tok} 
    (B : Below A₀ base outer h₀) (F : Fr h₀ L s.heap m) (X : (hd.heap_39 w.params).In h₀) (T : Top topProg loose mean mg mb h₀) (hk : cs.kind = .function) (Na : News h₀ L s.heap all)
    (hm : (o, W.listOf vs.toArray nn) ∈ all) (hi : IntsAre vs ns) (hlen : ns.length ≤ 1000) (hS : Srt ns)
    (hdp : dp + 24 < recursionLimit) (hun : un + 240 < cLine)
    (hret : ∀ (p : Int) t h' tk', Fr h₀ L h' m → News h₀ L h' all → 0 ≤ p → p ≤ ns.length → BInv ns x p p → Q (.int p t) { s with heap := h', toks := tk' }) :
    wpAny (model prog w) (ktrTop dp un gd cn cs L a ccd cl outer) (call (.ref 74) [.ref o, .int x tx]) Q E s := by
  have N : News h₀ L s.heap [(o, W.listOf vs.toArray nn)] := fun q hq => by rw [List.mem_singleton.mp hq]; exact Na _ hm
  have hs : ∀ q ∈ [(o, W.listOf vs.toArray nn)], s.heap.get? q.1 = some q.2 := fun q hq => (N q hq).1
  have hfin : ∀ h', News h₀ L h' [(o, W.listOf vs.toArray nn)] → Kept [o] s.heap h' → News h₀ L h' all := fun h' N' K' => news_lift Na N' K' hs
  clear Na hs hm
  refine wpAny_call ?_
  k_dflt (walk_at "enterN")
  intro g L' h₁ FG F' N' B' X' T' kp
  (try dsimp only); (try k_fold)
  k_dflt (refine' bis_body rfl rfl B' F' X' T' N' rfl rfl rfl rfl rfl hi hlen hS ?dp ?un ?pE ?_)
  case dp => ktr_room
  case un => ktr_units
  case pE => first | passes_own | with_unfolding_all passes_own
  intro p t m2 h2 tk2 F2 N2 b0 b2 bi
  (try dsimp only)
  k_steps
  exact hret _ _ _ _ (by k_asm) (hfin _ (by k_asm) (Kept.of kp F2)) b0 b2 bi
set_option maxRecDepth 100000 in
set_option maxHeartbeats 8000000 in
theorem c_bis4 {all : List (Addr × Obj)} {o : Nat} {vs : List Value} {ns : List Int} {nn : Nat} {x : Int} {tx : Tok} {t0 : Tok}
    (B : Below A₀ base outer h₀) (F : Fr h₀ L s.heap m) (X : (hd.heap_39 w.params).In h₀) (T : Top topProg loose mean mg mb h₀) (hk : cs.kind = .function) (Na : News h₀ L s.heap all)
    (hm : (o, W.listOf vs.toArray nn) ∈ all) (hi : IntsAre vs ns) (hlen : ns.length ≤ 1000) (hS : Srt ns)
    (hdp : dp + 24 < recursionLimit) (hun : un + 240 < cLine)
    (hret : ∀ (p : Int) t h' tk', Fr h₀ L h' m → News h₀ L h' all → 0 ≤ p → p ≤ ns.length → BInv ns x p p → Q (.int p t) { s with heap := h', toks := tk' }) :
    wpAny (model prog w) (ktrTop dp un gd cn cs L a ccd cl outer) (call (.ref 74) [.ref o, .int x tx, .int 0 t0, .none]) Q E s := by
  have N : News h₀ L s.heap [(o, W.listOf vs.toArray nn)] := fun q hq => by rw [List.mem_singleton.mp hq]; exact Na _ hm
  have hs : ∀ q ∈ [(o, W.listOf vs.toArray nn)], s.heap.get? q.1 = some q.2 := fun q hq => (N q hq).1
  have hfin : ∀ h', News h₀ L h' [(o, W.listOf vs.toArray nn)] → Kept [o] s.heap h' → News h₀ L h' all := fun h' N' K' => news_lift Na N' K' hs
  clear Na hs hm
  refine wpAny_call ?_
  k_dflt (walk_at "enterN")
  intro g L' h₁ FG F' N' B' X' T' kp
  (try dsimp only); (try k_fold)
  k_dflt (refine' bis_body rfl rfl B' F' X' T' N' rfl rfl rfl rfl rfl hi hlen hS ?dp ?un ?pE ?_)
  case dp => ktr_room
  case un => ktr_units
  case pE => first | passes_own | with_unfolding_all passes_own
  intro p t m2 h2 tk2 F2 N2 b0 b2 bi
  (try dsimp only)
  k_steps
  exact hret _ _ _ _ (by k_asm) (hfin _ (by k_asm) (Kept.of kp F2)) b0 b2 bi
end
end Mine
end
section
namespace Mine
def insAt (ns : List Int) (p : Nat) (x : Int) : List Int := ns.take p ++ x :: ns.drop p
theorem insAt_getD {ns : List Int} {p : Nat} {x : Int} (hp : p ≤ ns.length) (i : Nat) : (insAt ns p x).getD i 0 = if i < p then ns.getD i 0 else if i = p then x else ns.getD (i - 1) 0 := by
  simp only [insAt, List.getD_eq_getElem?_getD]
  by_cases h : i < p
  · rw [if_pos h, List.getElem?_append_left (by rw [List.length_take]; omega), List.getElem?_take, if_pos h]
  · rw [if_neg h, List.getElem?_append_right (by rw [List.length_take]; omega), List.length_take, Nat.min_eq_left hp]
    by_cases h2 : i = p
    · rw [if_pos h2, h2, Nat.sub_self]; rfl
    · rw [if_neg h2]
      obtain ⟨k, hk⟩ : ∃ k, i - p = k + 1 := ⟨i - p - 1, by omega⟩
      rw [hk, List.getElem?_cons_succ, List.getElem?_drop, show p + k = i - 1 by omega]
theorem insAt_length {ns : List Int} {p : Nat} {x : Int} (hp : p ≤ ns.length) : (insAt ns p x).length = ns.length + 1 := by
  simp [insAt]; omega
theorem insAt_perm (ns : List Int) (p : Nat) (x : Int) : (insAt ns p x).Perm (x :: ns) := by
  have h : (ns.take p ++ x :: ns.drop p).Perm (x :: (ns.take p ++ ns.drop p)) := List.perm_middle
  rw [List.take_append_drop] at h
  exact h
theorem insAt_srt {ns : List Int} {p : Int} {x : Int} (S : Srt ns) (b : BInv ns x p p) (p0 : 0 ≤ p) (hp : p ≤ ns.length) : Srt (insAt ns p.toNat x) := by
  intro i j hij hj
  rw [insAt_length (by omega)] at hj
  rw [insAt_getD (by omega), insAt_getD (by omega)]
  by_cases h1 : i < p.toNat
  · rw [if_pos h1]
    by_cases h2 : j < p.toNat
    · rw [if_pos h2]; exact S i j hij (by omega)
    · rw [if_neg h2]
      by_cases h3 : j = p.toNat
      · rw [if_pos h3]; exact Int.le_of_lt (b.1 i (by omega) (by omega))
      · rw [if_neg h3]; exact S i (j - 1) (by omega) (by omega)
  · rw [if_neg h1, if_neg (by omega : ¬ j < p.toNat)]
    by_cases h3 : i = p.toNat
    · rw [if_pos h3]
      by_cases h4 : j = p.toNat
      · rw [if_pos h4]; exact Int.le_refl _
      · rw [if_neg h4]; exact b.2 (j - 1) (by omega) (by omega)
    · rw [if_neg h3, if_neg (by omega : ¬ j = p.toNat)]; exact S (i - 1) (j - 1) (by omega) (by omega)
theorem ints_ins {x : Int} {t : Tok} : ∀ (n : Nat) {vs : List Value} {ns : List Int}, IntsAre vs ns → IntsAre (vs.take n ++ .int x t :: vs.drop n) (ns.take n ++ x :: ns.drop n)
  | 0, _, _, h => .cons x t h
  | _ + 1, _, _, .nil => .cons x t .nil
  | n + 1, _, _, .cons y u h => .cons y u (ints_ins n h)
theorem fits_small {p : Int} (h0 : 0 ≤ p) (h1 : p ≤ 1000) : Builtin.List.listFitsIndex p = true := by
  unfold Builtin.List.listFitsIndex
  rw [Bool.and_eq_true]
  exact ⟨decide_eq_true (by omega), decide_eq_true (by omega)⟩
theorem ins_eq {vs : List Value} {ns : List Int} {p : Int} {v : Value} (h0 : 0 ≤ p) (hi : IntsAre vs ns) (h1 : p ≤ ns.length) : kl_ins vs p v = vs.take p.toNat ++ v :: vs.drop p.toNat := by
  have := hi.length
  unfold kl_ins
  rw [if_neg (by omega), Nat.min_eq_left (by omega)]
end Mine
end
example : True := by
  w_top off
  trivial
section
namespace Mine
example : True := by
  k_with_none
  k_with "k_mem" => first | exact List.Mem.head _ | exact List.Mem.tail _ (by with_reducible assumption) | exact List.Mem.tail _ (by assumption) | fail "no member"
  k_with "enterK" => (refine' kdv_code ?k1 ?k2 ?k3 ?k4 ?k5 ?kA ?kF ?kK ?k6 ?k7 ?k8 ?k9 ?kB ?_ ?c2 ?c3 ?c4 ?c5; (case kA => exact rfl); (case kF => exact rfl); (case kK => assumption); (case k1 => k_asm); (case k2 => k_asm); (case k3 => k_asm); (case k4 => k_asm); (case k5 => k_asm); (case k6 => k_mem); (case k7 => exact codeRec_news (by k_asm) (by k_mem) (by assumption) (by assumption)); (case k8 => k_room); (case k9 => kdv_bind); (case c5 => decide); (case kB => exact locs rfl); (case c2 => exact rfl); (case c3 => exact rfl); (case c4 => exact rfl); k_whole; intro g' L' h' FG' F' N' B' X' T'; (try dsimp only); (try k_lift B'); (try k_fold))
  k_with "k_all" => with_reducible assumption
  k_with "binaryOp BitXor int int" => k_dflt (refine xor_as (by with_reducible assumption) (fun _ => ?_))
  k_with "binaryOp RShift int int" => k_dflt (refine rsh_as (by first | decide | omega) (by with_reducible assumption) (fun _ => ?_))
  k_with "binaryOp LShift int int" => k_dflt (refine lsh_as (by omega) (by omega) (by omega) (by with_reducible assumption) (fun _ => ?_))
  k_with "compareOp Eq int int" => first | (refine eqi_T (by with_reducible assumption) ?_) | (refine eqi_F (by with_reducible assumption) ?_)
  k_with "call ref" => (k_here; k_dflt (refine hold_of ?_))
  trivial
/-- what a call of _int2digits' inner def does to the list of digits -/
def InnOK (w : World) (f D n : Nat) (own : List (Addr × Obj)) (K d : Nat) (x l r : Int) (us : List Int → List Int) : Prop :=
  ∀ (prog : Program) (mg mb : Str → Option Value) (mean : ExcName → Option Value) (loose : List Str) (dp un : Nat) (gd : Option (List Code)) (cn : Str) (cs : Scope) (L a : Addr) (ccd : Value) (cl : List (Str × Addr)) (outer : List Env) (A₀ : Around) (base h₀ : Heap) (m : Str → Option Value) (s : Shared) (Q E : Value → Shared → Prop) (tx tl tr : Tok) (vs : List Value) (ns : List Int),
    Below A₀ base outer h₀ → Fr h₀ L s.heap m → (hd.heap_39 w.params).In h₀ → Top topProg loose mean mg mb h₀ → cs.kind = .function → CodeHd base 34 30 → dp + d < recursionLimit → un + 10 * d < cLine →
    News h₀ L s.heap ((D, W.listOf vs.toArray n) :: own) → IntsAre vs ns → ns.length = K →
    (∀ vs' h' tk', Fr h₀ L h' m → News h₀ L h' ((D, W.listOf vs'.toArray n) :: own) → IntsAre vs' (us ns) → Q .none { s with heap := h', toks := tk' }) →
    wpAny (model prog w) (ktrTop dp un gd cn cs L a ccd cl outer) (call (.ref f) [.int x tx, .int l tl, .int r tr]) Q E s
section
variable {w : World} {nb : List Stmt} {pp : Arguments} {sc : Scope} {D f c cI cA cN n K d : Nat} {own : List (Addr × Obj)} {oc oI oA oN : Obj} {q : Str} {vsc : Array Value} {u : Tok} {doc pm ctv : Value} {x l r : Int} {tN : Tok}
set_option maxRecDepth 100000 in
set_option maxHeartbeats 8000000 in
theorem inA_leaf
    (hb : nb = defB (fnB ((hd.heap_39 w.params).lookup 35)) 1) (hp : pp = defP (fnB ((hd.heap_39 w.params).lookup 35)) 1) (hs : sc = defS (fnB ((hd.heap_39 w.params).lookup 35)) 1) (off : ∀ p ∈ own, p.1 ≠ D)
    (hf : (f, fnMade (Str.ofString "inner") q pp nb sc [(Str.ofString "n", cN), (Str.ofString "inner", cI), (Str.ofString "a_digits", cA)] doc pm c ctv) ∈ own) (hc : (c, oc) ∈ own) (dc : oc.data = .fields vsc) (ec : vsc[1]? = some (.str q u))
    (hA : (cA, oA) ∈ own) (dA : oA.data = .cell (some (.ref D))) (l0 : 0 ≤ l) (l1 : l < K) (l2 : K ≤ 3) (hr : l + 1 = r) :
    InnOK w f D n own K 3 x l r (fun ns => ns.set l.toNat x) := by
  intro prog mg mb mean loose dp un gd cn cs L a ccd cl outer A₀ base h₀ m s Q E tx tl tr vs ns B F X T hk C2 hdp hun N hi hl hret
  conv at hb => rhs; whnf
  conv at hp => rhs; whnf
  conv at hs => rhs; whnf
  subst hb hp hs
  refine wpAny_call ?_
  k_dflt (walk_at "enterK")
  k_steps
  exact hret _ _ _ (by k_asm) (by k_asm) (by assumption)
set_option maxRecDepth 100000 in
set_option maxHeartbeats 8000000 in
theorem inA_split {md up sl lo : Int} {us1 us2 : List Int → List Int}
    (hb : nb = defB (fnB ((hd.heap_39 w.params).lookup 35)) 1) (hp : pp = defP (fnB ((hd.heap_39 w.params).lookup 35)) 1) (hs : sc = defS (fnB ((hd.heap_39 w.params).lookup 35)) 1) (off : ∀ p ∈ own, p.1 ≠ D)
    (hf : (f, fnMade (Str.ofString "inner") q pp nb sc [(Str.ofString "n", cN), (Str.ofString "inner", cI), (Str.ofString "a_digits", cA)] doc pm c ctv) ∈ own) (hc : (c, oc) ∈ own) (dc : oc.data = .fields vsc) (ec : vsc[1]? = some (.str q u))
    (hI : (cI, oI) ∈ own) (dI : oI.data = .cell (some (.ref f))) (hN : (cN, oN) ∈ own) (dN : oN.data = .cell (some (.int 2 tN))) (hr : l + 1 ≠ r)
    (hmd : (l + r).fdiv (2 ^ Int.toNat 1) = md) (hlm : md - l = 1) (hup : x.fdiv (2 ^ ((md - l) * 2).toNat) = up) (hup0 : 0 ≤ up) (hup1 : up ≤ 63) (hsl : up * 2 ^ ((md - l) * 2).toNat = sl) (hlo : Builtin.bitXor x sl = lo)
    (hus : ∀ ns, ns.length = K → (us1 ns).length = K) (call1 : InnOK w f D n own K d lo l md us1) (call2 : InnOK w f D n own K d up md r us2) :
    InnOK w f D n own K (d + 3) x l r (fun ns => us2 (us1 ns)) := by
  intro prog mg mb mean loose dp un gd cn cs L a ccd cl outer A₀ base h₀ m s Q E tx tl tr vs ns B F X T hk C2 hdp hun N hi hl hret
  conv at hb => rhs; whnf
  conv at hp => rhs; whnf
  conv at hs => rhs; whnf
  subst hb hp hs
  refine wpAny_call ?_
  k_dflt (walk_at "enterK")
  k_steps
  refine of_hold ?_
  k_dflt (refine' call1 _ _ _ _ _ _ _ _ _ _ _ _ _ _ _ _ _ _ _ _ _ _ _ _ _ _ _ ?B ?F ?X ?T ?hk ?C ?hdp ?hun ?N ?hi hl ?_)
  case B => k_asm
  case F => k_asm
  case X => k_asm
  case T => k_asm
  case hk => exact rfl
  case C => kn_code
  case hdp => ktr_room
  case hun => ktr_units
  case N => k_asm
  case hi => assumption
  intro vs1 h1 tk1 F1 N1 i1
  k_steps
  refine of_hold ?_
  k_dflt (refine' call2 _ _ _ _ _ _ _ _ _ _ _ _ _ _ _ _ _ _ _ _ _ _ _ _ _ _ _ ?wB ?wF ?wX ?wT ?whk ?wC ?whdp ?whun ?wN ?whi (hus _ hl) ?_)
  case wB => k_asm
  case wF => k_asm
  case wX => k_asm
  case wT => k_asm
  case whk => exact rfl
  case wC => kn_code
  case whdp => ktr_room
  case whun => ktr_units
  case wN => k_asm
  case whi => assumption
  intro vs2 h2 tk2 F2 N2 i2
  k_steps
  exact hret _ _ _ (by k_asm) (by k_asm) (by assumption)
end
end Mine
end
section
namespace Mine
/-- a code table that is empty or made: the second entry is the code object, or the empty table again -/
def TabOK (P : Nat) (line : Int) (q : Str) (t : Obj) (c : Nat) (oc : Obj) : Prop :=
  (t = tabObj #[] ∧ c = P ∧ oc = t) ∨ (t = tabObj #[rawInt line, rawInt 4, .ref c] ∧ P < c ∧ ∃ vs u, oc.data = .fields vs ∧ vs[1]? = some (.str q u))
/-- what a first or a later making leaves -/
def TabTo (P : Nat) (line : Int) (q : Str) (t : Obj) (c : Nat) (oc : Obj) (c' : Nat) (oc' : Obj) : Prop :=
  P < c' ∧ (∃ vs u, oc'.data = .fields vs ∧ vs[1]? = some (.str q u)) ∧ ((t = tabObj #[] ∧ c = P) ∨ (t = tabObj #[rawInt line, rawInt 4, .ref c] ∧ c' = c ∧ oc' = oc))
abbrev dlT (l : List (Addr × Obj)) := l.dropLast.dropLast
theorem allNe_in {d : Addr} : ∀ {l : List (Addr × Obj)}, (∀ q ∈ l, q.1 ≠ d) → AllNe d l
  | [], _ => trivial
  | q :: r, k => ⟨k q (.head _), allNe_in fun p hp => k p (.tail _ hp)⟩
theorem updF_last {P : Nat} {o : Obj} : ∀ {own : List (Addr × Obj)}, (∀ p ∈ own, p.1 ≠ P) → UpdF P o (own ++ [(P, o)]) (fun o' => own ++ [(P, o')])
  | [], _ => .head (fun _ h => nomatch h)
  | p :: r, k => .tail (k p (.head _)) (updF_last fun q hq => k q (.tail _ hq))
section
variable {M : Model} {A : Around} {E : Value → Shared → Prop} {s : Shared} {h₀ : Heap} {L a cP P : Addr} {m mg mb : Str → Option Value} {cn : Str} {cs : Scope} {ccd : Value} {cl : List (Str × Addr)} {all : List (Addr × Obj)}
  {p : Program} {loose : List Str} {mean : ExcName → Option Value} {name qual : Str} {params : Arguments} {body : List Stmt} {scope : Scope} {pos : Pos} {firstLine : Nat} {clos : List (Str × Addr)}
theorem nest_T {Q : Value → Shared → Prop} {line : Int} {t oc : Obj} {c : Nat} (F : Fr h₀ L s.heap m) (N : News h₀ L s.heap all) (T : Top p loose mean mg mb h₀) (C : CodeHd h₀ cP P) (hcd : ccd = .ref cP)
    (hall : all = dlT all ++ [(P, t), (c, oc)]) (hT : TabOK P line qual t c oc) (off : ∀ q ∈ dlT all, q.1 ≠ P) (offc : ∀ q ∈ dlT all, q.1 ≠ c) (hline : (pos.line : Int) = line) (hcol : (pos.col : Int) = 4)
    (hcl : closureFor scope (envX cn cs L a ccd cl) = pure clos)
    (h : ∀ f c' oc' vs u ctv doc h' tk, Fr h₀ L h' m →
      News h₀ L h' ((f, fnMade name qual params body scope clos doc ((mg "__name__").getD .none) c' ctv) :: (dlT all ++ [(P, tabObj #[rawInt line, rawInt 4, .ref c']), (c', oc')])) →
      TabTo P line qual t c oc c' oc' → oc'.data = .fields vs → vs[1]? = some (.str qual u) → (∀ q ∈ all, q.1 < f) → c' < f → AllNe c' (dlT all) → (t = tabObj #[] → ∀ q ∈ dlT all, q.1 < c') → Q (.ref f) { s with heap := h', toks := tk }) :
    wpAny M A (makeFunction name qual params (.stmts body) scope (envX cn cs L a ccd cl) [] [] [] pos firstLine) Q E s := by
  rcases hT with ⟨rfl, rfl, rfl⟩ | ⟨rfl, hPc, vs, u, hd, hv⟩
  · have N1 : News h₀ L s.heap (dlT all ++ [(c, tabObj #[])]) := fun q hq => N q (by rw [hall]; rcases List.mem_append.mp hq with hq | hq; exact List.mem_append_left _ hq; exact List.mem_append_right _ (by rw [List.mem_singleton.mp hq]; exact .head _))
    have hm : ∀ q ∈ all, q ∈ dlT all ++ [(c, tabObj #[])] := fun q hq => by
      rw [hall] at hq
      rcases List.mem_append.mp hq with hq | hq
      · exact List.mem_append_left _ hq
      · refine List.mem_append_right _ ?_
        rcases List.mem_cons.mp hq with rfl | hq
        · exact .head _
        · exact hq
    refine nest_K F N1 T C hcd (updF_last off) True.intro rfl hcl fun f c' oc' vs u ctv doc h' tk F' N' hd hv hlt hcf => ?_
    refine h f c' oc' vs u ctv doc h' tk F' (fun q hq => N' q ?_) ⟨hlt (c, _) (List.mem_append_right _ (.head _)), ⟨vs, u, hd, hv⟩, .inl ⟨rfl, rfl⟩⟩ hd hv (fun q hq => Nat.lt_trans (hlt q (hm q hq)) hcf) hcf (allNe_in fun q hq => Nat.ne_of_lt (hlt q (List.mem_append_left _ hq))) (fun _ q hq => hlt q (List.mem_append_left _ hq))
    · rcases List.mem_cons.mp hq with rfl | hq
      · exact .head _
      · rcases List.mem_append.mp hq with hq | hq
        · exact .tail _ (.tail _ (List.mem_append_left _ hq))
        · rcases List.mem_cons.mp hq with rfl | hq
          · refine .tail _ (.tail _ (List.mem_append_right _ ?_))
            rw [hline, hcol]; exact .head _
          · rw [List.mem_singleton.mp hq]; exact .tail _ (.head _)
  · have hmem : (P, tabObj #[rawInt line, rawInt 4, .ref c]) ∈ all := by rw [hall]; exact List.mem_append_right _ (.head _)
    refine nestHit_K (c' := c) F N T C hcd hmem ?_ ?_ hcl fun f ctv doc h' tk F' N' hlt => ?_
    · simp [TriplesOk, rawInt]
    · simp [codeAmong, rawInt, hline, hcol]
    · refine h f c oc vs u ctv doc h' tk F' (fun q hq => N' q ?_) ⟨hPc, ⟨vs, u, hd, hv⟩, .inr ⟨rfl, rfl, rfl⟩⟩ hd hv hlt (hlt (c, oc) (by rw [hall]; exact List.mem_append_right _ (.tail _ (.head _)))) (allNe_in offc) (fun e => by simp at e)
      rcases List.mem_cons.mp hq with rfl | hq
      · exact .head _
      · exact .tail _ (by rw [hall]; exact hq)
end
theorem lt_in1 {a c : Nat} (h1 : a < c) : ∀ y ∈ [a], y ≠ c := by simpa using Nat.ne_of_lt h1
theorem lt_in2 {a b c : Nat} (h1 : a ≠ c) (h2 : b ≠ c) : ∀ y ∈ [a, b], y ≠ c := by simp [h1, h2]
theorem nmA3 {a b c r : Nat} (h1 : r ≠ a) (h2 : r ≠ b) (h3 : r ≠ c) : r ∉ [a, b, c] := by simp [h1, h2, h3]
theorem TabTo.fresh {P : Nat} {line : Int} {q : Str} {t oc oc' : Obj} {c c' : Nat} {h g h' : Heap} {L' : Addr} {l : List (Addr × Obj)} {S : List Nat} (x : TabTo P line q t c oc c' oc') (kp : ∀ b o, h.get? b = some o → b ∉ S ++ [P, c] → g.get? b = some o) (hS : t = tabObj #[] → ∀ y ∈ S, y ≠ c') (N' : News g L' h' l) (hm : (c', oc') ∈ l) : t = tabObj #[] → h.get? c' = none := fun ht => by
  obtain ⟨h1, _, h2⟩ := x
  rcases h2 with ⟨_, rfl⟩ | ⟨h3, _, _⟩
  · refine fresh_of kp N' hm fun hmm => ?_
    rcases List.mem_append.mp hmm with hmm | hmm
    · exact hS ht _ hmm rfl
    · exact nm2 (Nat.ne_of_gt h1) (Nat.ne_of_gt h1) hmm
  · rw [ht] at h3; cases h3
section
variable {prog : Program} {w : World} {A : Around} {E : Value → Shared → Prop} {s : Shared} {h₀ : Heap} {L : Addr} {m : Str → Option Value} {news : List (Addr × Obj)} {x : Int} {u : Tok} {Q : Value → Shared → Prop}
theorem rep0 : ∀ K : Nat, (List.replicate K [(0 : Int)]).flatten = List.replicate K 0
  | 0 => rfl
  | k + 1 => by rw [List.replicate_succ, List.flatten_cons, rep0 k]; rfl
theorem mul_zeros {K l n : Nat} {t : Tok} (hx : x = K) (hK : K ≤ 3) (F : Fr h₀ L s.heap m) (N : News h₀ L s.heap ((l, W.listOf #[.int 0 t] n) :: news))
    (h : ∀ D h' vs, Fr h₀ L h' m → News h₀ L h' ((D, W.listOf vs.toArray 0) :: news) → (∀ p ∈ news, p.1 < D) → IntsAre vs (List.replicate K 0) → Q (.ref D) { s with heap := h' }) : wpAny (model prog w) A (binaryOp .Mult (.ref l) (.int x u)) Q E s := by
  subst hx
  refine KM.mul (vs := [.int 0 t]) (ns := [0]) F N (News.isList N (.head _)) (.cons 0 t .nil) (by omega) (by omega) (by simp; omega) fun D h' F' N' lt hi _ _ _ _ _ => ?_
  refine h D h' (List.replicate (K : Int).toNat [Value.int 0 t]).flatten F' (fun p hp => N' p ?_) (fun p hp => lt p (.tail _ hp)) ?_
  · rcases List.mem_cons.mp hp with rfl | hp
    · exact .head _
    · exact .tail _ (.tail _ hp)
  · have e : (List.replicate ((K : Int)).toNat [(0 : Int)]).flatten = List.replicate K 0 := by
      rw [Int.toNat_natCast, rep0]
    rw [← e]; exact hi
theorem len_as {D n K : Nat} {vs : List Value} {ns : List Int} (N : News h₀ L s.heap news) (hm : (D, W.listOf vs.toArray n) ∈ news) (hi : IntsAre vs ns) (hl : ns.length = K) (hK : K ≤ 3) (h : ∀ t tk, Q (.int K t) { s with toks := tk }) :
    wpAny (model prog w) A (call (.builtin "len") [.ref D]) Q E s :=
  KM.len_K N hm (by rw [List.size_toArray, hi.length, hl]) (by omega) (h _ _)
end
end Mine
end
example : True := by
  w_top off
  trivial
section
namespace Mine
example : True := by
  k_with_none
  k_with "enterCN" => (refine' code_defCN ?k1 ?k2 ?k3 ?k4 ?k5 ?kA ?kF ?kK ?k6 ?k7 ?k8 ?k9 ?kB ?kD ?_ ?c2 ?c3 ?c4; (case kA => exact rfl); (case kF => exact rfl); (case kK => assumption); (case k1 => k_asm); (case k2 => k_asm); (case k3 => k_asm); (case k4 => k_asm); (case k5 => k_asm); (case k6 => k_is); (case k7 => k_is); (case k8 => ktr_room); (case k9 => exact BindsTo.of_eq rfl); (case kB => exact rfl); (case kD => decide +kernel); (case c2 => exact rfl); (case c3 => exact rfl); (case c4 => exact rfl); k_whole; intro g' L' h' tk' cells' FG' F' N' Y' B' X' T' l1 kp; (try k_lt l1); k_cells Y'; (try simp only [List.cons_append, List.nil_append] at N'); (try dsimp only); (try k_lift B'); (try k_fold))
  k_with "binaryOp FloorDiv int int" => k_dflt (refine floor_as (by assumption) (by decide) (by rfl) (fun _ => ?_))
  k_with "binaryOp Mult ref int" => k_dflt (refine mul_zeros rfl (by assumption) (by k_asm) (by k_asm) ?_; intro D' h' vs' F' N' l1 iz; (try k_lt l1))
  k_with "call builtin:len" => k_dflt (refine len_as (by k_asm) (by k_mem) (by with_reducible assumption) (by exact List.length_replicate) (by assumption) ?_; intro t' tk')
  k_with "exec FunctionDef" => (k_here; k_dflt (refine' nestDef_K ?d0 ?k0 ?a0 ?_; (case d0 => exact rfl); (case k0 => exact rfl); (case a0 => exact rfl)); k_dflt (refine' nest_T (line := 32) ?F ?N ?T ?C ?cd ?al ?ok ?o1 ?o2 ?ln ?co ?cl ?_; (case F => k_asm); (case N => k_asm); (case T => k_asm); (case cd => exact rfl); (case C => kn_code); (case al => exact rfl); (case ok => assumption); (case o1 => (simp only [dlT, List.dropLast]; k_all)); (case o2 => (simp only [dlT, List.dropLast]; k_all)); (case ln => exact rfl); (case co => exact rfl); (case cl => exact rfl)); k_dflt (intro f' c' oc' vc' uc' ct' dc' h' tk' F' N' tt cd' ce' l1 l2 l3 lt'; (simp only [dlT, List.dropLast, List.cons_append, List.nil_append] at N'); (simp only [dlT, List.dropLast, AllNe, and_true] at l3); (simp only [dlT, List.dropLast] at lt'); (try k_lt l1)))
  k_with "call ref" => (k_here; k_dflt (refine hold_of ?_))
  trivial
/-- the inner def does its work wherever it stands -/
def InnAll (w : World) (K : Nat) (x : Int) (us : List Int → List Int) : Prop :=
  ∀ (nb : List Stmt) (pp : Arguments) (sc : Scope) (D f c cI cA cN n : Nat) (own : List (Addr × Obj)) (oc oI oA oN : Obj) (q : Str) (vsc : Array Value) (u : Tok) (doc pm ctv : Value) (tN : Tok),
    nb = defB (fnB ((hd.heap_39 w.params).lookup 35)) 1 → pp = defP (fnB ((hd.heap_39 w.params).lookup 35)) 1 → sc = defS (fnB ((hd.heap_39 w.params).lookup 35)) 1 → (∀ p ∈ own, p.1 ≠ D) →
    (f, fnMade (Str.ofString "inner") q pp nb sc [(Str.ofString "n", cN), (Str.ofString "inner", cI), (Str.ofString "a_digits", cA)] doc pm c ctv) ∈ own → (c, oc) ∈ own → oc.data = .fields vsc → vsc[1]? = some (.str q u) →
    (cI, oI) ∈ own → oI.data = .cell (some (.ref f)) → (cA, oA) ∈ own → oA.data = .cell (some (.ref D)) → (cN, oN) ∈ own → oN.data = .cell (some (.int 2 tN)) → InnOK w f D n own K 9 x 0 K us
theorem news_swap {h₀ h : Heap} {L : Addr} {a b : Addr × Obj} {l : List (Addr × Obj)} (N : News h₀ L h (a :: b :: l)) : News h₀ L h (b :: a :: l) := fun p hp => by
  rcases List.mem_cons.mp hp with rfl | hp
  · exact N _ (.tail _ (.head _))
  · rcases List.mem_cons.mp hp with rfl | hp
    · exact N _ (.head _)
    · exact N _ (.tail _ (.tail _ hp))
section
variable {prog : Program} {w : World} {mg mb : Str → Option Value} {mean : ExcName → Option Value} {loose : List Str}
  {dp un : Nat} {gd : Option (List Code)} {cn : Str} {cs : Scope} {L a : Addr} {ccd : Value} {cl : List (Str × Addr)} {outer : List Env} {A₀ : Around} {base h₀ : Heap} {m : Str → Option Value} {s : Shared} {Q E : Value → Shared → Prop}
set_option maxRecDepth 100000 in
set_option maxHeartbeats 8000000 in
theorem c_i2d {x : Int} {K c0 : Nat} {t30 oc0 oe : Obj} {e : Nat} {tx tn : Tok} {us : List Int → List Int} {ds : List Int}
    (B : Below A₀ base outer h₀) (F : Fr h₀ L s.heap m) (X : (hd.heap_39 w.params).In h₀) (T : Top topProg loose mean mg mb h₀) (hk : cs.kind = .function) (C2 : CodeHd base 34 30)
    (hdp : dp + 15 < recursionLimit) (hun : un + 150 < cLine)
    (N : News h₀ L s.heap [(e, oe), (30, t30), (c0, oc0)]) (he0 : e ≠ 30) (he1 : e ≠ c0) (tok : TabOK 30 32 (Str.ofString "_int2digits.<locals>.inner") t30 c0 oc0)
    (hK : K ≤ 3) (hdig : (((Builtin.Int.intBits x : Nat) : Int) + 2 - 1).fdiv 2 = K) (hz : x = 0 → List.replicate K 0 = ds) (hnz : x ≠ 0 → us (List.replicate K 0) = ds) (hin : x ≠ 0 → InnAll w K x us)
    (hret : ∀ (r c n : Nat) vs oc h' tk', Fr h₀ L h' m → News h₀ L h' [(r, W.listOf vs.toArray n), (e, oe), (30, tabObj #[rawInt 32, rawInt 4, .ref c]), (c, oc)] → IntsAre vs ds → TabTo 30 32 (Str.ofString "_int2digits.<locals>.inner") t30 c0 oc0 c oc →
      (t30 = tabObj #[] → s.heap.get? c = none ∧ e < c) → c ≠ e → Kept [e, 30, c0] s.heap h' → s.heap.get? r = none → Q (.ref r) { s with heap := h', toks := tk' }) :
    wpAny (model prog w) (ktrTop dp un gd cn cs L a ccd cl outer) (call (.ref 35) [.int x tx, .int 2 tn]) Q E s := by
  refine wpAny_call ?_
  k_dflt (walk_at "enterCN")
  k_steps
  refine of_hold ?_
  have hne : x ≠ 0 := by assumption
  k_dflt (refine' (hin hne) _ _ _ _ _ _ _ _ _ _ _ _ _ _ _ _ _ _ _ _ _ _ rfl rfl rfl ?off ?hf ?hc ?dc ?ec ?hI ?dI ?hA ?dA ?hN ?dN _ _ _ _ _ _ _ _ _ _ _ _ _ _ _ _ _ _ _ _ _ _ _ _ _ _ _ ?B ?F ?X ?T ?hk ?C ?hdp ?hun ?N ?hi List.length_replicate ?_)
  case N => exact news_swap (by k_asm)
  case off => k_all
  case hf => k_mem
  case hI => k_mem
  case dI => assumption
  case hA => k_mem
  case dA => assumption
  case hN => k_mem
  case dN => assumption
  case hc => k_mem
  case dc => assumption
  case ec => assumption
  case B => k_asm
  case F => k_asm
  case X => k_asm
  case T => k_asm
  case hk => exact rfl
  case C => kn_code
  case hdp => ktr_room
  case hun => ktr_units
  case hi => assumption
  intro vs1 h1 tk1 F1 N1 i1
  k_steps
  all_goals (refine' hret _ _ _ _ _ _ _ (by k_asm) ?N ?i ?t ?f ?ce ?k ?r; (case i => first | (rw [← hz (by assumption)]; assumption) | (rw [← hnz (by assumption)]; assumption)); (case N => (refine cb_drop (by assumption) ?_; kcj_all)); (case t => assumption); (case f => exact fun ht => ⟨TabTo.fresh (S := [e]) (by assumption) kp (fun ht => lt_in1 (lt' ht (e, oe) (by k_mem))) (by assumption) (by k_mem) ht, lt' ht (e, oe) (by k_mem)⟩); (case ce => k_ne); (case k => exact Kept.of kp (by assumption)); (case r => exact fresh_of kp (by assumption) (by k_mem) (nmA3 (by k_ne) (by k_ne) (by k_ne))))
end
end Mine
end
section
namespace Mine
/-- how many figures to the base 4, and the figures from the lowest on -/
def nd (x : Int) : Nat := if x = 0 then 0 else if x ≤ 3 then 1 else if x ≤ 15 then 2 else 3
def digs (x : Int) : List Int := if x = 0 then [] else if x ≤ 3 then [x] else if x ≤ 15 then [x % 4, x / 4] else [x % 4, x / 4 % 4, x / 4 / 4]
theorem fin27 {P : Int → Prop} (h : ∀ k : Fin 27, P (k.val : Int)) {x : Int} (h0 : 0 ≤ x) (h1 : x ≤ 26) : P x := by
  have e := h ⟨x.toNat, by omega⟩
  rwa [show (((⟨x.toNat, by omega⟩ : Fin 27).val : Nat) : Int) = x from Int.toNat_of_nonneg h0] at e
theorem xor4 {x : Int} (h0 : 0 ≤ x) (h1 : x ≤ 26) : Builtin.bitXor x (x / 4 * 4) = x % 4 := fin27 (P := fun x => Builtin.bitXor x (x / 4 * 4) = x % 4) (by decide +kernel) h0 h1
theorem bits4 {x : Int} (h0 : 0 ≤ x) (h1 : x ≤ 26) : (((Builtin.Int.intBits x : Nat) : Int) + 2 - 1).fdiv 2 = nd x := fin27 (P := fun x => (((Builtin.Int.intBits x : Nat) : Int) + 2 - 1).fdiv 2 = nd x) (by decide +kernel) h0 h1
theorem nd3 (x : Int) : nd x ≤ 3 := by unfold nd; split <;> (try split) <;> (try split) <;> omega
theorem InnOK.mono {w : World} {f D n : Nat} {own : List (Addr × Obj)} {K d d' : Nat} {x l r : Int} {us : List Int → List Int} (h : InnOK w f D n own K d x l r us) (hd : d ≤ d') : InnOK w f D n own K d' x l r us := by
  intro prog mg mb mean loose dp un gd cn cs L a ccd cl outer A₀ base h₀ m s Q E tx tl tr vs ns B F X T hk C2 hdp hun N hi hl hret
  exact h prog mg mb mean loose dp un gd cn cs L a ccd cl outer A₀ base h₀ m s Q E tx tl tr vs ns B F X T hk C2 (by omega) (by omega) N hi hl hret
theorem inn1 {w : World} {x : Int} : InnAll w 1 x (fun ns => ns.set 0 x) := by
  intro nb pp sc D f c cI cA cN n own oc oI oA oN q vsc u doc pm ctv tN hb hp hs off hf hc dc ec hI dI hA dA hN dN
  exact (inA_leaf (x := x) (l := 0) (r := 1) (K := 1) hb hp hs off hf hc dc ec hA dA (by decide) (by decide) (by decide) rfl).mono (by decide)
theorem p4 {md l : Int} (h : md - l = 1) : (2 : Int) ^ ((md - l) * 2).toNat = 4 := by rw [h]; rfl
theorem inn2 {w : World} {x : Int} (h0 : 0 ≤ x) (h1 : x ≤ 26) : InnAll w 2 x (fun ns => (ns.set 0 (x % 4)).set 1 (x / 4)) := by
  intro nb pp sc D f c cI cA cN n own oc oI oA oN q vsc u doc pm ctv tN hb hp hs off hf hc dc ec hI dI hA dA hN dN
  refine (inA_split (x := x) (l := 0) (r := 2) (K := 2) (d := 3) (md := 1) (up := x / 4) (sl := x / 4 * 4) (lo := x % 4) (us1 := fun ns => ns.set 0 (x % 4)) (us2 := fun ns => ns.set 1 (x / 4))
    hb hp hs off hf hc dc ec hI dI hN dN (by decide) rfl rfl ?_ (by omega) (by omega) ?_ (xor4 h0 h1) (fun ns h => by simpa using h) ?_ ?_).mono (by decide)
  · rw [p4 rfl]; exact Int.fdiv_eq_ediv_of_nonneg _ (by decide)
  · rw [p4 rfl]
  · exact inA_leaf (l := 0) (r := 1) hb hp hs off hf hc dc ec hA dA (by decide) (by decide) (by decide) rfl
  · exact inA_leaf (l := 1) (r := 2) hb hp hs off hf hc dc ec hA dA (by decide) (by decide) (by decide) rfl
theorem inn3 {w : World} {x : Int} (h0 : 0 ≤ x) (h1 : x ≤ 26) : InnAll w 3 x (fun ns => ((ns.set 0 (x % 4)).set 1 (x / 4 % 4)).set 2 (x / 4 / 4)) := by
  intro nb pp sc D f c cI cA cN n own oc oI oA oN q vsc u doc pm ctv tN hb hp hs off hf hc dc ec hI dI hA dA hN dN
  refine inA_split (x := x) (l := 0) (r := 3) (K := 3) (d := 6) (md := 1) (up := x / 4) (sl := x / 4 * 4) (lo := x % 4) (us1 := fun ns => ns.set 0 (x % 4)) (us2 := fun ns => (ns.set 1 (x / 4 % 4)).set 2 (x / 4 / 4))
    hb hp hs off hf hc dc ec hI dI hN dN (by decide) rfl rfl ?_ (by omega) (by omega) ?_ (xor4 h0 h1) (fun ns h => by simpa using h) ?_ ?_
  · rw [p4 rfl]; exact Int.fdiv_eq_ediv_of_nonneg _ (by decide)
  · rw [p4 rfl]
  · exact (inA_leaf (l := 0) (r := 1) hb hp hs off hf hc dc ec hA dA (by decide) (by decide) (by decide) rfl).mono (by decide)
  · refine inA_split (x := x / 4) (l := 1) (r := 3) (K := 3) (d := 3) (md := 2) (up := x / 4 / 4) (sl := x / 4 / 4 * 4) (lo := x / 4 % 4) (us1 := fun ns => ns.set 1 (x / 4 % 4)) (us2 := fun ns => ns.set 2 (x / 4 / 4))
      hb hp hs off hf hc dc ec hI dI hN dN (by decide) rfl rfl ?_ (by omega) (by omega) ?_ (xor4 (by omega) (by omega)) (fun ns h => by simpa using h) ?_ ?_
    · rw [p4 rfl]; exact Int.fdiv_eq_ediv_of_nonneg _ (by decide)
    · rw [p4 rfl]
    · exact inA_leaf (l := 1) (r := 2) hb hp hs off hf hc dc ec hA dA (by decide) (by decide) (by decide) rfl
    · exact inA_leaf (l := 2) (r := 3) hb hp hs off hf hc dc ec hA dA (by decide) (by decide) (by decide) rfl
section
variable {prog : Program} {w : World} {mg mb : Str → Option Value} {mean : ExcName → Option Value} {loose : List Str}
  {dp un : Nat} {gd : Option (List Code)} {cn : Str} {cs : Scope} {L a : Addr} {ccd : Value} {cl : List (Str × Addr)} {outer : List Env} {A₀ : Around} {base h₀ : Heap} {m : Str → Option Value} {s : Shared} {Q E : Value → Shared → Prop}
theorem c_i2dx {x : Int} {c0 : Nat} {t30 oc0 oe : Obj} {e : Nat} {tx tn : Tok}
    (B : Below A₀ base outer h₀) (F : Fr h₀ L s.heap m) (X : (hd.heap_39 w.params).In h₀) (T : Top topProg loose mean mg mb h₀) (hk : cs.kind = .function) (C2 : CodeHd base 34 30)
    (hdp : dp + 15 < recursionLimit) (hun : un + 150 < cLine)
    (N : News h₀ L s.heap [(e, oe), (30, t30), (c0, oc0)]) (he0 : e ≠ 30) (he1 : e ≠ c0) (tok : TabOK 30 32 (Str.ofString "_int2digits.<locals>.inner") t30 c0 oc0) (h0 : 0 ≤ x) (h1 : x ≤ 26)
    (hret : ∀ (r c n : Nat) vs oc h' tk', Fr h₀ L h' m → News h₀ L h' [(r, W.listOf vs.toArray n), (e, oe), (30, tabObj #[rawInt 32, rawInt 4, .ref c]), (c, oc)] → IntsAre vs (digs x) → TabTo 30 32 (Str.ofString "_int2digits.<locals>.inner") t30 c0 oc0 c oc →
      (t30 = tabObj #[] → s.heap.get? c = none ∧ e < c) → c ≠ e → Kept [e, 30, c0] s.heap h' → s.heap.get? r = none → Q (.ref r) { s with heap := h', toks := tk' }) :
    wpAny (model prog w) (ktrTop dp un gd cn cs L a ccd cl outer) (call (.ref 35) [.int x tx, .int 2 tn]) Q E s := by
  have key : ∃ us : List Int → List Int, (x = 0 → List.replicate (nd x) 0 = digs x) ∧ (x ≠ 0 → us (List.replicate (nd x) 0) = digs x) ∧ (x ≠ 0 → InnAll w (nd x) x us) := by
    by_cases e0 : x = 0
    · subst e0; exact ⟨id, fun _ => rfl, fun h => (h rfl).elim, fun h => (h rfl).elim⟩
    by_cases e1 : x ≤ 3
    · rw [show nd x = 1 by simp [nd, e0, e1], show digs x = [x] by simp [digs, e0, e1]]; exact ⟨_, fun h => (e0 h).elim, fun _ => rfl, fun _ => inn1⟩
    by_cases e2 : x ≤ 15
    · rw [show nd x = 2 by simp [nd, e0, e1, e2], show digs x = [x % 4, x / 4] by simp [digs, e0, e1, e2]]; exact ⟨_, fun h => (e0 h).elim, fun _ => rfl, fun _ => inn2 h0 h1⟩
    · rw [show nd x = 3 by simp [nd, e0, e1, e2], show digs x = [x % 4, x / 4 % 4, x / 4 / 4] by simp [digs, e0, e1, e2]]; exact ⟨_, fun h => (e0 h).elim, fun _ => rfl, fun _ => inn3 h0 h1⟩
  obtain ⟨us, k1, k2, k3⟩ := key
  exact c_i2d B F X T hk C2 hdp hun N he0 he1 tok (nd3 x) (bits4 h0 h1) k1 k2 k3 hret
end
end Mine
end
example : True := by
  w_top off
  trivial
section
namespace Mine
example : True := by
  k_with_none
  k_with "k_mem" => first | with_reducible assumption | assumption | fail "no member"
  k_with "enterK" => (refine' kdv_code ?k1 ?k2 ?k3 ?k4 ?k5 ?kA ?kF ?kK ?k6 ?k7 ?k8 ?k9 ?kB ?_ ?c2 ?c3 ?c4 ?c5; (case kA => exact rfl); (case kF => exact rfl); (case kK => assumption); (case k1 => k_asm); (case k2 => k_asm); (case k3 => k_asm); (case k4 => k_asm); (case k5 => k_asm); (case k6 => k_mem); (case k7 => exact codeRec_news (by k_asm) (by k_mem) (by assumption) (by assumption)); (case k8 => k_room); (case k9 => kdv_bind); (case c5 => decide); (case kB => exact locs rfl); (case c2 => exact rfl); (case c3 => exact rfl); (case c4 => exact rfl); k_whole; intro g' L' h' FG' F' N' B' X' T'; (try dsimp only); (try k_lift B'); (try k_fold))
  k_with "binaryOp BitXor int int" => k_dflt (refine xor_as (by with_reducible assumption) (fun _ => ?_))
  k_with "binaryOp RShift int int" => k_dflt (refine rsh_as (by first | decide | omega) (by with_reducible assumption) (fun _ => ?_))
  k_with "binaryOp LShift int int" => k_dflt (refine lsh_as (by omega) (by omega) (by omega) (by with_reducible assumption) (fun _ => ?_))
  k_with "compareOp Eq int int" => first | (refine eqi_T (by with_reducible assumption) ?_) | (refine eqi_F (by with_reducible assumption) ?_)
  k_with "call ref" => (k_here; k_dflt (refine hold_of ?_))
  trivial
/-- what a call of _digits2int's inner def gives back -/
def InnD (w : World) (f : Nat) (all : List (Addr × Obj)) (d : Nat) (l r v : Int) : Prop :=
  ∀ (prog : Program) (mg mb : Str → Option Value) (mean : ExcName → Option Value) (loose : List Str) (dp un : Nat) (gd : Option (List Code)) (cn : Str) (cs : Scope) (L a : Addr) (ccd : Value) (cl : List (Str × Addr)) (outer : List Env) (A₀ : Around) (base h₀ : Heap) (m : Str → Option Value) (s : Shared) (Q E : Value → Shared → Prop) (tl tr : Tok),
    Below A₀ base outer h₀ → Fr h₀ L s.heap m → (hd.heap_39 w.params).In h₀ → Top topProg loose mean mg mb h₀ → cs.kind = .function → CodeHd base 41 37 → dp + d < recursionLimit → un + 10 * d < cLine →
    News h₀ L s.heap all → (∀ tv h' tk', Fr h₀ L h' m → News h₀ L h' all → Q (.int v tv) { s with heap := h', toks := tk' }) →
    wpAny (model prog w) (ktrTop dp un gd cn cs L a ccd cl outer) (call (.ref f) [.int l tl, .int r tr]) Q E s
section
variable {w : World} {nb : List Stmt} {pp : Arguments} {sc : Scope} {f c cI cA cN ld n d : Nat} {all : List (Addr × Obj)} {oc oI oA oN : Obj} {q : Str} {vsc : Array Value} {u : Tok} {doc pm ctv : Value} {l r : Int} {tN : Tok} {vs : List Value} {ns : List Int}
set_option maxRecDepth 100000 in
set_option maxHeartbeats 8000000 in
theorem inD_leaf
    (hb : nb = defB (fnB ((hd.heap_39 w.params).lookup 42)) 0) (hp : pp = defP (fnB ((hd.heap_39 w.params).lookup 42)) 0) (hs : sc = defS (fnB ((hd.heap_39 w.params).lookup 42)) 0)
    (hf : (f, fnMade (Str.ofString "inner") q pp nb sc [(Str.ofString "n", cN), (Str.ofString "inner", cI), (Str.ofString "digits", cA)] doc pm c ctv) ∈ all) (hc : (c, oc) ∈ all) (dc : oc.data = .fields vsc) (ec : vsc[1]? = some (.str q u))
    (hA : (cA, oA) ∈ all) (dA : oA.data = .cell (some (.ref ld))) (hD : (ld, W.listOf vs.toArray n) ∈ all) (hi : IntsAre vs ns) (l0 : 0 ≤ l) (l1 : l < ns.length) (l2 : ns.length ≤ 3) (hr : l + 1 = r) :
    InnD w f all 3 l r (ns.getD l.toNat 0) := by
  intro prog mg mb mean loose dp un gd cn cs L a ccd cl outer A₀ base h₀ m s Q E tl tr B F X T hk C2 hdp hun N hret
  conv at hb => rhs; whnf
  conv at hp => rhs; whnf
  conv at hs => rhs; whnf
  subst hb hp hs
  refine wpAny_call ?_
  k_dflt (walk_at "enterK")
  k_steps
  exact hret _ _ _ (by k_asm) (by k_asm)
set_option maxRecDepth 100000 in
set_option maxHeartbeats 8000000 in
theorem inD_split {md v1 v2 sl : Int}
    (hb : nb = defB (fnB ((hd.heap_39 w.params).lookup 42)) 0) (hp : pp = defP (fnB ((hd.heap_39 w.params).lookup 42)) 0) (hs : sc = defS (fnB ((hd.heap_39 w.params).lookup 42)) 0)
    (hf : (f, fnMade (Str.ofString "inner") q pp nb sc [(Str.ofString "n", cN), (Str.ofString "inner", cI), (Str.ofString "digits", cA)] doc pm c ctv) ∈ all) (hc : (c, oc) ∈ all) (dc : oc.data = .fields vsc) (ec : vsc[1]? = some (.str q u))
    (hI : (cI, oI) ∈ all) (dI : oI.data = .cell (some (.ref f))) (hN : (cN, oN) ∈ all) (dN : oN.data = .cell (some (.int 2 tN))) (hr : l + 1 ≠ r)
    (hmd : (l + r).fdiv (2 ^ Int.toNat 1) = md) (hlm : md - l = 1) (hv0 : 0 ≤ v1) (hv1 : v1 ≤ 63) (hsl : v1 * 2 ^ ((md - l) * 2).toNat = sl) (call1 : InnD w f all d md r v1) (call2 : InnD w f all d l md v2) :
    InnD w f all (d + 3) l r (sl + v2) := by
  intro prog mg mb mean loose dp un gd cn cs L a ccd cl outer A₀ base h₀ m s Q E tl tr B F X T hk C2 hdp hun N hret
  conv at hb => rhs; whnf
  conv at hp => rhs; whnf
  conv at hs => rhs; whnf
  subst hb hp hs
  refine wpAny_call ?_
  k_dflt (walk_at "enterK")
  k_steps
  refine of_hold ?_
  k_dflt (refine' call1 _ _ _ _ _ _ _ _ _ _ _ _ _ _ _ _ _ _ _ _ _ _ _ _ ?xB ?xF ?xX ?xT ?xhk ?xC ?xhdp ?xhun ?xN ?_)
  case xB => k_asm
  case xF => k_asm
  case xX => k_asm
  case xT => k_asm
  case xhk => exact rfl
  case xC => kn_code
  case xhdp => ktr_room
  case xhun => ktr_units
  case xN => k_asm
  intro tvx hx tkx Fx Nx
  k_steps
  refine of_hold ?_
  k_dflt (refine' call2 _ _ _ _ _ _ _ _ _ _ _ _ _ _ _ _ _ _ _ _ _ _ _ _ ?yB ?yF ?yX ?yT ?yhk ?yC ?yhdp ?yhun ?yN ?_)
  case yB => k_asm
  case yF => k_asm
  case yX => k_asm
  case yT => k_asm
  case yhk => exact rfl
  case yC => kn_code
  case yhdp => ktr_room
  case yhun => ktr_units
  case yN => k_asm
  intro tvy hy tky Fy Ny
  k_steps
  exact hret _ _ _ (by k_asm) (by k_asm)
end
end Mine
end
example : True := by
  w_top off
  trivial
section
namespace Mine
example : True := by
  k_with_none
  k_with "enterCN" => (refine' code_defCN ?k1 ?k2 ?k3 ?k4 ?k5 ?kA ?kF ?kK ?k6 ?k7 ?k8 ?k9 ?kB ?kD ?_ ?c2 ?c3 ?c4; (case kA => exact rfl); (case kF => exact rfl); (case kK => assumption); (case k1 => k_asm); (case k2 => k_asm); (case k3 => k_asm); (case k4 => k_asm); (case k5 => k_asm); (case k6 => k_is); (case k7 => k_is); (case k8 => ktr_room); (case k9 => exact BindsTo.of_eq rfl); (case kB => exact rfl); (case kD => decide +kernel); (case c2 => exact rfl); (case c3 => exact rfl); (case c4 => exact rfl); k_whole; intro g' L' h' tk' cells' FG' F' N' Y' B' X' T' l1 kp; (try k_lt l1); k_cells Y'; (try simp only [List.cons_append, List.nil_append] at N'); (try dsimp only); (try k_lift B'); (try k_fold))
  k_with "exec FunctionDef" => (k_here; k_dflt (refine' nestDef_K ?d0 ?k0 ?a0 ?_; (case d0 => exact rfl); (case k0 => exact rfl); (case a0 => exact rfl)); k_dflt (refine' nest_T (line := 47) ?F ?N ?T ?C ?cd ?al ?ok ?o1 ?o2 ?ln ?co ?cl ?_; (case F => k_asm); (case N => k_asm); (case T => k_asm); (case cd => exact rfl); (case C => kn_code); (case al => exact rfl); (case ok => assumption); (case o1 => (simp only [dlT, List.dropLast]; k_all)); (case o2 => (simp only [dlT, List.dropLast]; k_all)); (case ln => exact rfl); (case co => exact rfl); (case cl => exact rfl)); k_dflt (intro f' c' oc' vc' uc' ct' dc' h' tk' F' N' tt cd' ce' l1 l2 l3 lt'; (simp only [dlT, List.dropLast, List.cons_append, List.nil_append] at N'); (simp only [dlT, List.dropLast, AllNe, and_true] at l3); (simp only [dlT, List.dropLast] at lt'); (try k_lt l1)))
  k_with "call ref" => (k_here; k_dflt (refine hold_of ?_))
  trivial
def InnDAll (w : World) (ns : List Int) (v : Int) : Prop :=
  ∀ (nb : List Stmt) (pp : Arguments) (sc : Scope) (f c cI cA cN ld n : Nat) (all : List (Addr × Obj)) (oc oI oA oN : Obj) (q : Str) (vsc : Array Value) (u : Tok) (doc pm ctv : Value) (tN : Tok) (vs : List Value),
    nb = defB (fnB ((hd.heap_39 w.params).lookup 42)) 0 → pp = defP (fnB ((hd.heap_39 w.params).lookup 42)) 0 → sc = defS (fnB ((hd.heap_39 w.params).lookup 42)) 0 →
    (f, fnMade (Str.ofString "inner") q pp nb sc [(Str.ofString "n", cN), (Str.ofString "inner", cI), (Str.ofString "digits", cA)] doc pm c ctv) ∈ all → (c, oc) ∈ all → oc.data = .fields vsc → vsc[1]? = some (.str q u) →
    (cI, oI) ∈ all → oI.data = .cell (some (.ref f)) → (cA, oA) ∈ all → oA.data = .cell (some (.ref ld)) → (cN, oN) ∈ all → oN.data = .cell (some (.int 2 tN)) → (ld, W.listOf vs.toArray n) ∈ all → IntsAre vs ns → InnD w f all 9 0 ns.length v
section
variable {prog : Program} {w : World} {mg mb : Str → Option Value} {mean : ExcName → Option Value} {loose : List Str}
  {dp un : Nat} {gd : Option (List Code)} {cn : Str} {cs : Scope} {L a : Addr} {ccd : Value} {cl : List (Str × Addr)} {outer : List Env} {A₀ : Around} {base h₀ : Heap} {m : Str → Option Value} {s : Shared} {Q E : Value → Shared → Prop}
set_option maxRecDepth 100000 in
set_option maxHeartbeats 8000000 in
theorem c_d2i {c0 ld n : Nat} {t37 oc0 oe : Obj} {e : Nat} {tn : Tok} {vs : List Value} {ns : List Int}
    (B : Below A₀ base outer h₀) (F : Fr h₀ L s.heap m) (X : (hd.heap_39 w.params).In h₀) (T : Top topProg loose mean mg mb h₀) (hk : cs.kind = .function) (C1 : CodeHd base 41 37)
    (hdp : dp + 15 < recursionLimit) (hun : un + 150 < cLine)
    (N : News h₀ L s.heap [(ld, W.listOf vs.toArray n), (e, oe), (37, t37), (c0, oc0)]) (hld : ld ≠ 37 ∧ ld ≠ c0) (he : e ≠ 37 ∧ e ≠ c0) (tok : TabOK 37 47 (Str.ofString "_digits2int.<locals>.inner") t37 c0 oc0) (hi : IntsAre vs ns) (hK : ns.length ≤ 3) {v : Int} (hz : ns = [] → v = 0) (hin : 0 < ns.length → InnDAll w ns v)
    (hret : ∀ (tv : Tok) (c : Nat) oc h' tk', Fr h₀ L h' m → News h₀ L h' [(ld, W.listOf vs.toArray n), (e, oe), (37, tabObj #[rawInt 47, rawInt 4, .ref c]), (c, oc)] → TabTo 37 47 (Str.ofString "_digits2int.<locals>.inner") t37 c0 oc0 c oc →
      (t37 = tabObj #[] → s.heap.get? c = none ∧ e < c) → c ≠ e → Kept [ld, e, 37, c0] s.heap h' → Q (.int v tv) { s with heap := h', toks := tk' }) :
    wpAny (model prog w) (ktrTop dp un gd cn cs L a ccd cl outer) (call (.ref 42) [.ref ld, .int 2 tn]) Q E s := by
  refine wpAny_call ?_
  k_dflt (walk_at "enterCN")
  k_steps
  refine of_hold ?_
  have hne : 0 < ns.length := by assumption
  k_dflt (refine' (hin hne) _ _ _ _ _ _ _ _ _ _ _ _ _ _ _ _ _ _ _ _ _ _ _ rfl rfl rfl ?hf ?hc ?dc ?ec ?hI ?dI ?hA ?dA ?hN ?dN ?hD ?hi _ _ _ _ _ _ _ _ _ _ _ _ _ _ _ _ _ _ _ _ _ _ _ _ ?B ?F ?X ?T ?hk ?C ?hdp ?hun ?N ?_)
  case N => k_asm
  case hf => k_mem
  case hI => k_mem
  case dI => assumption
  case hA => k_mem
  case dA => assumption
  case hN => k_mem
  case dN => assumption
  case hD => k_mem
  case hi => assumption
  case hc => k_mem
  case dc => assumption
  case ec => assumption
  case B => k_asm
  case F => k_asm
  case X => k_asm
  case T => k_asm
  case hk => exact rfl
  case C => kn_code
  case hdp => ktr_room
  case hun => ktr_units
  intro tv1 h1 tk1 F1 N1
  k_steps
  all_goals (try (have e9 : v = 0 := hz (List.eq_nil_of_length_eq_zero (Nat.eq_zero_of_not_pos (by assumption))); rw [e9] at hret))
  all_goals (refine' hret _ _ _ _ _ (by k_asm) ?N9 ?t9 ?f9 ?ce ?k9; (case N9 => (refine cb_drop (by assumption) ?_; kcj_all)); (case t9 => assumption); (case f9 => exact fun ht => ⟨TabTo.fresh (S := [ld, e]) (by assumption) kp (fun ht => lt_in2 (Nat.ne_of_lt (lt' ht (ld, W.listOf vs.toArray n) (by k_mem))) (Nat.ne_of_lt (lt' ht (e, oe) (by k_mem)))) (by assumption) (by k_mem) ht, lt' ht (e, oe) (by k_mem)⟩); (case ce => k_ne); (case k9 => exact Kept.of kp (by assumption)))
end
end Mine
end
section
namespace Mine
/-- the number that the figures tell -/
def dval : List Int → Int
  | [] => 0
  | y :: r => dval r * 4 + y
/-- division by 3, figure by figure from the highest on -/
def dv : List Int → Int × List Int → Int × List Int
  | [], p => p
  | y :: r, p => dv r ((p.1 * 4 + y) % 3, p.2 ++ [(p.1 * 4 + y) / 3])
def small (l : List Int) : Bool := l.all fun y => decide (0 ≤ y) && decide (y ≤ 12)
theorem dv_all {x : Int} (h0 : 0 ≤ x) (h1 : x ≤ 26) : (dv (digs x).reverse (0, [])).1 = x % 3 ∧ dval (dv (digs x).reverse (0, [])).2.reverse = x / 3 ∧ (digs x).length ≤ 3 ∧ ((digs x).all fun y => decide (0 ≤ y) && decide (y ≤ 3)) = true ∧ (dv (digs x).reverse (0, [])).2.length = (digs x).length ∧ small (dv (digs x).reverse (0, [])).2 = true :=
  fin27 (P := fun x => (dv (digs x).reverse (0, [])).1 = x % 3 ∧ dval (dv (digs x).reverse (0, [])).2.reverse = x / 3 ∧ (digs x).length ≤ 3 ∧ ((digs x).all fun y => decide (0 ≤ y) && decide (y ≤ 3)) = true ∧ (dv (digs x).reverse (0, [])).2.length = (digs x).length ∧ small (dv (digs x).reverse (0, [])).2 = true) (by decide +kernel) h0 h1
theorem InnD.mono {w : World} {f : Nat} {all : List (Addr × Obj)} {d d' : Nat} {l r v : Int} (h : InnD w f all d l r v) (hd : d ≤ d') : InnD w f all d' l r v := by
  intro prog mg mb mean loose dp un gd cn cs L a ccd cl outer A₀ base h₀ m s Q E tl tr B F X T hk C1 hdp hun N hret
  exact h prog mg mb mean loose dp un gd cn cs L a ccd cl outer A₀ base h₀ m s Q E tl tr B F X T hk C1 (by omega) (by omega) N hret
theorem ind1 {w : World} {y0 : Int} : InnDAll w [y0] (dval [y0]) := by
  intro nb pp sc f c cI cA cN ld n all oc oI oA oN q vsc u doc pm ctv tN vs hb hp hs hf hc dc ec hI dI hA dA hN dN hD hi
  have h := (inD_leaf (l := 0) (r := 1) hb hp hs hf hc dc ec hA dA hD hi (by decide) (by simp) (by simp) rfl).mono (show 3 ≤ 9 by decide)
  rw [show dval [y0] = [y0].getD (Int.toNat 0) 0 by simp [dval]]; exact h
theorem ind2 {w : World} {y0 y1 : Int} (h10 : 0 ≤ y1) (h11 : y1 ≤ 63) : InnDAll w [y0, y1] (dval [y0, y1]) := by
  intro nb pp sc f c cI cA cN ld n all oc oI oA oN q vsc u doc pm ctv tN vs hb hp hs hf hc dc ec hI dI hA dA hN dN hD hi
  have h := inD_split (l := 0) (r := 2) (d := 3) (md := 1) (v1 := y1) (v2 := y0) (sl := y1 * 4) hb hp hs hf hc dc ec hI dI hN dN (by decide) rfl rfl h10 h11 (by rw [p4 rfl])
    (inD_leaf (l := 1) (r := 2) hb hp hs hf hc dc ec hA dA hD hi (by decide) (by simp) (by simp) rfl) (inD_leaf (l := 0) (r := 1) hb hp hs hf hc dc ec hA dA hD hi (by decide) (by simp) (by simp) rfl)
  rw [show dval [y0, y1] = y1 * 4 + y0 by simp [dval]]; exact h.mono (by decide)
theorem ind3 {w : World} {y0 y1 y2 : Int} (h10 : 0 ≤ y2) (h11 : y2 ≤ 63) (h20 : 0 ≤ y2 * 4 + y1) (h21 : y2 * 4 + y1 ≤ 63) : InnDAll w [y0, y1, y2] (dval [y0, y1, y2]) := by
  intro nb pp sc f c cI cA cN ld n all oc oI oA oN q vsc u doc pm ctv tN vs hb hp hs hf hc dc ec hI dI hA dA hN dN hD hi
  have h := inD_split (l := 0) (r := 3) (d := 6) (md := 1) (v1 := y2 * 4 + y1) (v2 := y0) (sl := (y2 * 4 + y1) * 4) hb hp hs hf hc dc ec hI dI hN dN (by decide) rfl rfl h20 h21 (by rw [p4 rfl])
    (inD_split (l := 1) (r := 3) (d := 3) (md := 2) (v1 := y2) (v2 := y1) (sl := y2 * 4) hb hp hs hf hc dc ec hI dI hN dN (by decide) rfl rfl h10 h11 (by rw [p4 rfl])
      (inD_leaf (l := 2) (r := 3) hb hp hs hf hc dc ec hA dA hD hi (by decide) (by simp) (by simp) rfl) (inD_leaf (l := 1) (r := 2) hb hp hs hf hc dc ec hA dA hD hi (by decide) (by simp) (by simp) rfl))
    ((inD_leaf (l := 0) (r := 1) hb hp hs hf hc dc ec hA dA hD hi (by decide) (by simp) (by simp) rfl).mono (by decide))
  rw [show dval [y0, y1, y2] = (y2 * 4 + y1) * 4 + y0 by simp [dval]]; exact h
theorem indAll {w : World} {ns : List Int} (hl : ns.length ≤ 3) (hs : (ns.all fun y => decide (0 ≤ y) && decide (y ≤ 12)) = true) (hp : 0 < ns.length) : InnDAll w ns (dval ns) := by
  have hb : ∀ y ∈ ns, 0 ≤ y ∧ y ≤ 12 := fun y hy => by simpa using List.all_eq_true.mp hs y hy
  match ns, hl, hp, hb with
  | [y0], _, _, _ => exact ind1
  | [y0, y1], _, _, hb => exact ind2 (hb y1 (by simp)).1 (by have := (hb y1 (by simp)).2; omega)
  | [y0, y1, y2], _, _, hb =>
    have a := hb y1 (by simp); have b := hb y2 (by simp)
    exact ind3 b.1 (by omega) (by omega) (by omega)
end Mine
end
example : True := by
  w_top off
  trivial
section
namespace Mine
example : True := by
  k_with_none
  trivial
section
variable {prog : Program} {w : World} {mg mb : Str → Option Value} {mean : ExcName → Option Value} {loose : List Str}
  {dp un : Nat} {gd : Option (List Code)} {cn : Str} {cs : Scope} {L a : Addr} {ccd : Value} {cl : List (Str × Addr)} {outer : List Env} {A₀ : Around} {base h₀ : Heap} {m : Str → Option Value} {news : List (Addr × Obj)} {s : Shared} {Q E : Value → Shared → Prop}
  {b0 : Nat} {ob : Obj}
set_option maxRecDepth 100000 in
set_option maxHeartbeats 4000000 in
theorem c_2n1n {x : Int} {tx ty tz : Tok}
    (B : Below A₀ base outer h₀) (F : Fr h₀ L s.heap m) (X : (hd.heap_39 w.params).In h₀) (N : News h₀ L s.heap news) (T : Top topProg loose mean mg mb h₀) (hk : cs.kind = .function)
    (hdp : dp + 10 < recursionLimit) (hun : un + 100 < cLine) (hx0 : 0 ≤ x) (hx : x ≤ 63)
    (hret : ∀ (r : Nat) q t v u h' tk', Fr h₀ L h' m → News h₀ L h' ((r, tupO [.int q t, .int v u]) :: news) → (∀ p ∈ news, p.1 < r) → q = x / 3 → v = x % 3 → Q (.ref r) { s with heap := h', toks := tk' }) :
    wpAny (model prog w) (ktrTop dp un gd cn cs L a ccd cl outer) (call (.ref 21) [.int x tx, .int 3 ty, .int 2 tz]) Q E s := by
  have hbits := bits_small hx0 hx
  refine wpAny_call ?_
  k_dflt ktr_enter
  k_steps
  refine' hret _ _ _ _ _ _ _ (by k_asm) ?N ?o ?e1 ?e2
  case N => k_asm
  case o => exact fun p hp => @Heap.lt_size _ _ _ (And.left ((by assumption : News _ _ _ _) p hp))
  case e1 => exact Int.fdiv_eq_ediv_of_nonneg _ (by decide)
  case e2 => exact Int.fmod_eq_emod_of_nonneg _ (by decide)
end
end Mine
end
example : True := by
  w_top off
  trivial
section
namespace Mine
def stmtAt (b : List Stmt) (i : Nat) : List Stmt := match b[i]? with
  | some s => [s]
  | none => []
section
variable {prog : Program} {w : World} {A : Around} {E : Value → Shared → Prop} {s : Shared} {env : Env} {h₀ : Heap} {x : Str} {body : List Stmt} {Q : Flow → Shared → Prop} {L D n : Nat} {m : Str → Option Value} {news news' : List (Addr × Obj)} {vs : List Value} {ns : List Int}
theorem rev_ind {I : Addr} {lp : Addr × Obj} (J : List Value → (Str → Option Value) → List (Addr × Obj) → Prop)
    (turn : ∀ v r m news, J (v :: r) m news → ∀ (it : Obj) h tk, it.cls = .type "list_reverseiterator" → Fr h₀ env.locals h (fun y => if y = x then some v else m y) → News h₀ env.locals h ((I, it) :: news) →
      wpAny (model prog w) A (execs body env) (UnrPost h₀ env.locals { s with heap := h, toks := tk } I it (fun m' n' => lp ∈ n' ∧ J r m' n') Q) E { s with heap := h, toks := tk })
    (done : ∀ m news, J [] m news → ∀ h tk, Fr h₀ env.locals h m → News h₀ env.locals h news → Q .next { s with heap := h, toks := tk }) :
    ∀ r m news, J r m news → RevRest prog w A E h₀ env x body Q s I lp r m news
  | [], m, news, j => RevRest.zero (done m news j)
  | v :: r, m, news, j => RevRest.succ fun it h tk hc F N => by
    refine wpAny_mono (turn v r m news j it h tk hc F N) (fun f s₂ p => ?_) fun _ _ e => e
    have up : UnrEnd h₀ env.locals { s with heap := h, toks := tk } I it (fun m' n' => lp ∈ n' ∧ J r m' n') s₂ → UnrEnd h₀ env.locals { s with heap := h, toks := tk } I it (fun m' n' => lp ∈ n' ∧ RevRest prog w A E h₀ env x body Q s I lp r m' n') s₂ := by
      rintro ⟨h', tk', m', n', e, F', N', o, hm, hj⟩
      exact ⟨h', tk', m', n', e, F', N', o, hm, rev_ind J turn done r m' n' hj⟩
    cases f with
    | ret v => exact p
    | brk => exact p
    | next => exact up p
    | cont => exact up p
theorem offI_lt {I : Addr} {it : Obj} : ∀ {l : List (Addr × Obj)}, (∀ p ∈ l, p.1 < I) → OffI I it l
  | [], _ => trivial
  | p :: r, h => ⟨.inl (Nat.ne_of_lt (h p (.head _))), offI_lt fun q hq => h q (.tail _ hq)⟩
theorem app_as {k : Int} {t : Tok} {D : Addr} {Q : Value → Shared → Prop} (F : Fr h₀ L s.heap m) (N : News h₀ L s.heap news) (hi : IntsAre vs ns) (hl : ns.length ≤ 100) (U : Upd D (W.listOf vs.toArray n) (W.listOf (vs ++ [Value.int k t]).toArray (n + 1)) news news')
    (h : ∀ h', Fr h₀ L h' m → News h₀ L h' news' → IntsAre (vs ++ [Value.int k t]) (ns ++ [k]) → Q .none { s with heap := h' }) : wpAny (model prog w) A (call (.builtin "list.append") [.ref D, .int k t]) Q E s := by
  have e : vs.toArray.push (Value.int k t) = (vs ++ [Value.int k t]).toArray := by simp
  rw [← e] at U
  have hz := hi.length
  exact append_K F N U (fun h' F' N' => h h' F' N' (hi.append (.cons k t .nil))) (by rw [sizeLine_eq, List.size_toArray]; omega)
theorem rev_as {Q : Value → Shared → Prop} (F : Fr h₀ L s.heap m) (N : News h₀ L s.heap news) (hl : vs.length ≤ 100) (U : Upd D (W.listOf vs.toArray n) (W.listOf vs.reverse.toArray n) news news')
    (h : ∀ h', Fr h₀ L h' m → News h₀ L h' news' → Q .none { s with heap := h' }) : wpAny (model prog w) A (call (.builtin "list.reverse") [.ref D]) Q E s :=
  kl_reverse F N (by simp) U (by rw [sizeLine_eq]; simp; omega) h
theorem ints_rev {vs : List Value} {ns : List Int} (h : IntsAre vs ns) : IntsAre vs.reverse ns.reverse := by
  induction h with
  | nil => exact .nil
  | cons k t _ ih => rw [List.reverse_cons, List.reverse_cons]; exact ih.append (.cons k t .nil)
end
example : True := by
  k_with_none
  k_with "pyIter ref" => (k_here; k_dflt (refine hold_of ?_))
  k_with "call builtin:list.append" => (k_here; k_dflt (refine' app_as ?k1 ?k2 ?k3 ?k4 ?k5 ?_; (case k1 => k_asm); (case k2 => k_asm); (case k3 => assumption); (case k4 => assumption); (case k5 => k_upd)); intro h' F' N' ia; (try k_sweep))
  k_with "call type:reversed" => (k_here; k_dflt (refine' krv_reversed ?F ?N ?l ?_; (case F => k_asm); (case N => k_asm); (case l => is_list)); intro I9 h9 F9 N9 l9; (try k_sweep))
  k_with "k_lt" => skip
  k_with "k_all" => with_reducible assumption
  k_with "binaryOp LShift int int" => k_dflt (refine lsh2 (by omega) (fun _ => ?_))
  k_with "call ref" => (k_here; (with_reducible show wpAny _ _ (call (Value.ref 21) _) _ _ _); k_dflt (refine' c_2n1n ?B ?F ?X ?N ?T ?hk ?hdp ?hun ?hx0 ?hx ?_; (case B => k_asm); (case F => k_asm); (case X => k_asm); (case N => k_asm); (case T => k_asm); (case hk => first | exact rfl | assumption); (case hdp => ktr_room); (case hun => ktr_units); (case hx0 => omega); (case hx => omega)); intro r2 q2 t2 v2 u2 h2' tk2' F2 N2 o2 eq2 ev2; (have o3 := o2 _ (List.Mem.tail _ (List.Mem.head _))); (try dsimp only at o3); clear o2; subst eq2 ev2; (try k_sweep))
  k_with "k_ne" => (refine neN ?_; (try dsimp only); first | exact Nat.ne_of_gt (by with_reducible assumption) | exact Nat.ne_of_lt (by with_reducible assumption) | with_reducible assumption | exact Ne.symm (by with_reducible assumption))
  trivial
section
variable {prog : Program} {w : World} {mg mb : Str → Option Value} {mean : ExcName → Option Value} {loose : List Str}
  {A₀ : Around} {base h₀ : Heap} {m : Str → Option Value} {s : Shared}
set_option maxRecDepth 100000 in
set_option maxHeartbeats 8000000 in
theorem dmp_turn {body : List Stmt} {sc : Scope} {qd I nq fa L dp un : Nat} {it : Obj} {tn tb tr ty : Tok} {rv y : Int} {vq : List Value} {qs : List Int} {tl : List (Addr × Obj)} {gd : Option (List Code)} {ccd : Value} {outer : List Env} {Q : Flow → Shared → Prop} {E : Value → Shared → Prop}
    (hb : body = forB (fnB ((hd.heap_39 w.params).lookup 49)) 4) (hsc : sc = fnS ((hd.heap_39 w.params).lookup 49))
    (B : Below A₀ base outer h₀) (F : Fr h₀ L s.heap (fun y' => if y' = Str.ofString "a_digit" then some (.int y ty) else m y')) (X : (hd.heap_39 w.params).In h₀) (T : Top topProg loose mean mg mb h₀)
    (N : News h₀ L s.heap ((I, it) :: (qd, W.listOf vq.toArray nq) :: tl)) (offI : I ≠ qd) (off : ∀ p ∈ tl, p.1 ≠ qd)
    (e1 : m (Str.ofString "n") = some (.int 2 tn)) (e2 : m (Str.ofString "b") = some (.int 3 tb)) (e3 : m (Str.ofString "r") = some (.int rv tr)) (e4 : m (Str.ofString "q_digits") = some (.ref qd))
    (hi : IntsAre vq qs) (hl : qs.length ≤ 100) (r0 : 0 ≤ rv) (r1 : rv ≤ 2) (y0 : 0 ≤ y) (y1 : y ≤ 3) (hdp : dp + 12 < recursionLimit) (hun : un + 120 < cLine)
    (hE : PassesOwn (model prog w) (ktrTop dp un gd (Str.ofString "_divmod_pos") sc L fa ccd [] outer) (envX (Str.ofString "_divmod_pos") sc L fa ccd []) E)
    (hret : ∀ (m' : Str → Option Value) (h' : Heap) (tk' : Nat) (tq tr' : Tok), Fr h₀ L h' m' → m' (Str.ofString "n") = some (.int 2 tn) → m' (Str.ofString "b") = some (.int 3 tb) → m' (Str.ofString "r") = some (.int ((rv * 4 + y) % 3) tr') → m' (Str.ofString "q_digits") = some (.ref qd) →
      IntsAre (vq ++ [.int ((rv * 4 + y) / 3) tq]) (qs ++ [(rv * 4 + y) / 3]) → News h₀ L h' ((I, it) :: (qd, W.listOf (vq ++ [Value.int ((rv * 4 + y) / 3) tq]).toArray (nq + 1)) :: tl) → Q .next { s with heap := h', toks := tk' }) :
    wpAny (model prog w) (ktrTop dp un gd (Str.ofString "_divmod_pos") sc L fa ccd [] outer) (execs body (envX (Str.ofString "_divmod_pos") sc L fa ccd [])) Q E s := by
  conv at hb => rhs; whnf
  conv at hsc => rhs; whnf
  subst hb hsc
  have hk : (ScopeKind.function = ScopeKind.function) := rfl
  have F5 := fr_at4 (x1 := Str.ofString "n") (x2 := Str.ofString "b") (x3 := Str.ofString "r") (x4 := Str.ofString "q_digits") F e1 e2 e3 e4
  clear F
  k_steps
  refine' hret _ _ _ _ _ (by k_asm) ?q1 ?q2 ?q3 ?q4 (by assumption) ?q5
  case q1 => rfl
  case q2 => rfl
  case q3 => rfl
  case q4 => rfl
  case q5 => exact fun p hp => (by assumption : News _ _ _ (_ :: _)) p (.tail _ hp)
set_option maxRecDepth 100000 in
set_option maxHeartbeats 8000000 in
theorem dmp_for {body : List Stmt} {sc : Scope} {ax qd na nq fa L dp un : Nat} {tn tb tr : Tok} {vs : List Value} {ys : List Int} {tl : List (Addr × Obj)} {gd : Option (List Code)} {ccd : Value} {outer : List Env} {Q : Flow → Shared → Prop} {E : Value → Shared → Prop}
    (hb : body = stmtAt (fnB ((hd.heap_39 w.params).lookup 49)) 4) (hsc : sc = fnS ((hd.heap_39 w.params).lookup 49))
    (B : Below A₀ base outer h₀) (F : Fr h₀ L s.heap m) (X : (hd.heap_39 w.params).In h₀) (T : Top topProg loose mean mg mb h₀)
    (N : News h₀ L s.heap ((qd, W.listOf #[] nq) :: (ax, W.listOf vs.toArray na) :: tl)) (off : ∀ p ∈ (ax, W.listOf vs.toArray na) :: tl, p.1 ≠ qd)
    (e1 : m (Str.ofString "n") = some (.int 2 tn)) (e2 : m (Str.ofString "b") = some (.int 3 tb)) (e3 : m (Str.ofString "r") = some (.int 0 tr)) (e4 : m (Str.ofString "q_digits") = some (.ref qd)) (e5 : m (Str.ofString "a_digits") = some (.ref ax))
    (hi : IntsAre vs ys) (hy : ∀ y ∈ ys, 0 ≤ y ∧ y ≤ 3) (hl : ys.length ≤ 3) (hdp : dp + 12 < recursionLimit) (hun : un + 120 < cLine)
    (hE : PassesOwn (model prog w) (ktrTop dp un gd (Str.ofString "_divmod_pos") sc L fa ccd [] outer) (envX (Str.ofString "_divmod_pos") sc L fa ccd []) E)
    (hret : ∀ (m' : Str → Option Value) (h' : Heap) (tk' : Nat) (vq : List Value) (nq' : Nat) (tr' : Tok), Fr h₀ L h' m' → m' (Str.ofString "n") = some (.int 2 tn) → m' (Str.ofString "q_digits") = some (.ref qd) → m' (Str.ofString "r") = some (.int (dv ys.reverse (0, [])).1 tr') → IntsAre vq (dv ys.reverse (0, [])).2 →
      News h₀ L h' ((qd, W.listOf vq.toArray nq') :: (ax, W.listOf vs.toArray na) :: tl) → Q .next { s with heap := h', toks := tk' }) :
    wpAny (model prog w) (ktrTop dp un gd (Str.ofString "_divmod_pos") sc L fa ccd [] outer) (execs body (envX (Str.ofString "_divmod_pos") sc L fa ccd [])) Q E s := by
  conv at hb => rhs; whnf
  conv at hsc => rhs; whnf
  subst hb hsc
  have hk : (ScopeKind.function = ScopeKind.function) := rfl
  have F5 := fr_at4 F e1 e2 e3 e5
  clear F
  k_steps
  refine of_hold ?_
  k_dflt (refine' iter_revUnr (lo := W.listOf vs.toArray na) (vs := vs) rfl ?F ?N ?of ?mm rfl rfl ?rest)
  case F => k_asm
  case N => k_asm
  case mm => exact List.Mem.tail _ (List.Mem.head _)
  case of => exact offI_lt (by assumption)
  case rest =>
    refine rev_ind (fun r m news => ∃ rv trv vq qs rs nq', m (Str.ofString "n") = some (.int 2 tn) ∧ m (Str.ofString "b") = some (.int 3 tb) ∧ m (Str.ofString "r") = some (.int rv trv) ∧ m (Str.ofString "q_digits") = some (.ref qd) ∧
      news = (qd, W.listOf vq.toArray nq') :: (ax, W.listOf vs.toArray na) :: tl ∧ IntsAre vq qs ∧ IntsAre r rs ∧ (∀ y ∈ rs, 0 ≤ y ∧ y ≤ 3) ∧ 0 ≤ rv ∧ rv ≤ 2 ∧ qs.length + rs.length ≤ 3 ∧ dv rs (rv, qs) = dv ys.reverse (0, [])) ?turn ?done _ _ _ ?start
    case start => exact ⟨0, tr, [], [], ys.reverse, nq, rfl, rfl, rfl, e4, rfl, .nil, ints_rev hi, fun y hy' => hy y (List.mem_reverse.mp hy'), by decide, by decide, by simpa using hl, rfl⟩
    case done =>
      rintro m' news' ⟨rv, trv, vq, qs, rs, nq', f1, f2, f3, f4, rfl, iq, ir, hr, r0, r1, hlen, hd⟩ h tk F' N'
      cases ir
      (try dsimp only)
      refine wpAny_execs_nil ?_
      have hq : (rv, qs) = dv ys.reverse (0, []) := hd
      rw [← hq] at hret
      exact hret m' h tk vq nq' trv F' f1 f4 f3 iq N'
    case turn =>
      rintro v r m' news' ⟨rv, trv, vq, qs, rs, nq', f1, f2, f3, f4, rfl, iq, ir, hr, r0, r1, hlen, hd⟩ it h tk hc F' N'
      have hlt : ∀ p ∈ (qd, W.listOf #[] nq) :: (ax, W.listOf vs.toArray na) :: tl, p.1 < I9 := l9
      cases ir with
      | cons y ty ir' =>
        have hy9 := hr y (.head _)
        rw [List.length_cons] at hlen
        refine dmp_turn rfl rfl B F' X T N' (Nat.ne_of_gt (hlt _ (.head _))) off f1 f2 f3 f4 iq (by omega) r0 r1 hy9.1 hy9.2 hdp hun hE ?_
        intro m2 h2 tk2 tq2 tr2 F2 g1 g2 g3 g4 iq2 N2
        refine ⟨h2, tk2, m2, _, rfl, F2, N2, ?_, .tail _ (.head _), _, tr2, _, _, _, _, g1, g2, g3, g4, rfl, iq2, ir', fun y hy' => hr y (.tail _ hy'), by omega, by omega, by rw [List.length_append]; simp; omega, hd⟩
        intro p hp
        rcases List.mem_cons.mp hp with rfl | hp
        · exact Nat.ne_of_lt (hlt (qd, W.listOf #[] nq) (.head _))
        · exact Nat.ne_of_lt (hlt _ (.tail _ hp))
end
end Mine
end
section
namespace Mine
/-- the two code tables: empty (each entry told twice), or made -/
abbrev TL (t37 t30 : Obj) (c1 c2 : Nat) (oc1 oc2 : Obj) : List (Addr × Obj) := [(37, t37), (30, t30), (c1, oc1), (c2, oc2)]
abbrev made (line : Int) (c : Nat) : Obj := tabObj #[rawInt line, rawInt 4, .ref c]
/-- the two code objects that the nested defs have left -/
structure MF (c1 c2 : Nat) (oc1 oc2 : Obj) : Prop where
  d1 : ∃ vs1 u1, oc1.data = .fields vs1 ∧ vs1[1]? = some (.str (Str.ofString "_int2digits.<locals>.inner") u1)
  d2 : ∃ vs2 u2, oc2.data = .fields vs2 ∧ vs2[1]? = some (.str (Str.ofString "_digits2int.<locals>.inner") u2)
  l1 : 37 < c1
  l2 : c1 < c2
abbrev EL : List (Addr × Obj) := [(37, tabObj #[]), (30, tabObj #[])]
abbrev ML (c1 c2 : Nat) (oc1 oc2 : Obj) : List (Addr × Obj) := [(37, tabObj #[rawInt 47, rawInt 4, .ref c2]), (30, tabObj #[rawInt 32, rawInt 4, .ref c1]), (c1, oc1), (c2, oc2)]
abbrev dl2 (l : List (Addr × Obj)) := l.dropLast.dropLast
abbrev dl4 (l : List (Addr × Obj)) := l.dropLast.dropLast.dropLast.dropLast
theorem news_app {h₀ h : Heap} {L : Addr} {l1 l2 : List (Addr × Obj)} (a : News h₀ L h l1) (b : News h₀ L h l2) : News h₀ L h (l1 ++ l2) := fun p hp => (List.mem_append.mp hp).elim (a p) (b p)
section
variable {prog : Program} {w : World} {A : Around} {L : Addr} {h₀ : Heap} {m : Str → Option Value} {s : Shared} {Q E : Value → Shared → Prop} {P : List Value → Prop} {c : Sem Value}
def CallE (prog : Program) (w : World) (A : Around) (h₀ : Heap) (L : Addr) (m : Str → Option Value) (s : Shared) (P : List Value → Prop) (c : Sem Value) : Prop :=
  ∀ Q E : Value → Shared → Prop, (∀ (r : Nat) vs (c1 c2 : Nat) oc1 oc2 h' tk', Fr h₀ L h' m → News h₀ L h' ((r, tupO vs) :: ML c1 c2 oc1 oc2) → Kept [37, 30] s.heap h' → s.heap.get? r = none → s.heap.get? c1 = none → s.heap.get? c2 = none → c2 < r → MF c1 c2 oc1 oc2 → P vs → Q (.ref r) { s with heap := h', toks := tk' }) → wpAny (model prog w) A c Q E s
def CallM (prog : Program) (w : World) (A : Around) (h₀ : Heap) (L : Addr) (m : Str → Option Value) (s : Shared) (c1 c2 : Nat) (oc1 oc2 : Obj) (P : List Value → Prop) (c : Sem Value) : Prop :=
  ∀ Q E : Value → Shared → Prop, (∀ (r : Nat) vs h' tk', Fr h₀ L h' m → News h₀ L h' ((r, tupO vs) :: ML c1 c2 oc1 oc2) → Kept [37, 30, c1, c2] s.heap h' → s.heap.get? r = none → c2 < r → P vs → Q (.ref r) { s with heap := h', toks := tk' }) → wpAny (model prog w) A c Q E s
/-- a call under a longer ledger, the tables standing last -/
theorem liftE {all : List (Addr × Obj)} (N : News h₀ L s.heap all) (hall : all = dl2 all ++ EL) (o1 : AllNe 37 (dl2 all)) (o2 : AllNe 30 (dl2 all)) (h : News h₀ L s.heap EL → CallE prog w A h₀ L m s P c)
    (hret : ∀ (r : Nat) vs (c1 c2 : Nat) oc1 oc2 h' tk', Fr h₀ L h' m → News h₀ L h' ((r, tupO vs) :: (dl2 all ++ ML c1 c2 oc1 oc2)) → AllNe r (dl2 all) → AllNe c1 (dl2 all) → AllNe c2 (dl2 all) → 37 < c1 → c1 < c2 → c2 < r → MF c1 c2 oc1 oc2 → P vs → Q (.ref r) { s with heap := h', toks := tk' }) :
    wpAny (model prog w) A c Q E s := by
  have hN : News h₀ L s.heap (dl2 all) := fun p hp => N p (by rw [hall]; exact List.mem_append_left _ hp)
  have hT : News h₀ L s.heap EL := fun p hp => N p (by rw [hall]; exact List.mem_append_right _ hp)
  refine h hT Q E fun r vs c1 c2 oc1 oc2 h' tk' F' N' K' hr h1 h2 hlt mf hp => ?_
  refine hret r vs c1 c2 oc1 oc2 h' tk' F' (fun p hp => ?_) (allNe_of hN hr) (allNe_of hN h1) (allNe_of hN h2) mf.l1 mf.l2 hlt mf hp
  rcases List.mem_cons.mp hp with rfl | hp
  · exact N' _ (List.mem_cons_self ..)
  · rcases List.mem_append.mp hp with hp | hp
    · exact kept_news K' hN (fun q hq => nm2 (o1.off q hq) (o2.off q hq)) p hp
    · exact N' _ (List.mem_cons_of_mem _ hp)
theorem liftM {all : List (Addr × Obj)} {c1 c2 : Nat} {oc1 oc2 : Obj} (N : News h₀ L s.heap all) (hall : all = dl4 all ++ ML c1 c2 oc1 oc2) (o1 : AllNe 37 (dl4 all)) (o2 : AllNe 30 (dl4 all)) (o3 : AllNe c1 (dl4 all)) (o4 : AllNe c2 (dl4 all))
    (h : News h₀ L s.heap (ML c1 c2 oc1 oc2) → CallM prog w A h₀ L m s c1 c2 oc1 oc2 P c)
    (hret : ∀ (r : Nat) vs h' tk', Fr h₀ L h' m → News h₀ L h' ((r, tupO vs) :: (dl4 all ++ ML c1 c2 oc1 oc2)) → AllNe r (dl4 all) → c2 < r → P vs → Q (.ref r) { s with heap := h', toks := tk' }) :
    wpAny (model prog w) A c Q E s := by
  have hN : News h₀ L s.heap (dl4 all) := fun p hp => N p (by rw [hall]; exact List.mem_append_left _ hp)
  have hT : News h₀ L s.heap (ML c1 c2 oc1 oc2) := fun p hp => N p (by rw [hall]; exact List.mem_append_right _ hp)
  refine h hT Q E fun r vs h' tk' F' N' K' hr hlt hp => ?_
  refine hret r vs h' tk' F' (fun p hp => ?_) (allNe_of hN hr) hlt hp
  rcases List.mem_cons.mp hp with rfl | hp
  · exact N' _ (List.mem_cons_self ..)
  · rcases List.mem_append.mp hp with hp | hp
    · exact kept_news K' hN (fun q hq => nm4 (o1.off q hq) (o2.off q hq) (o3.off q hq) (o4.off q hq)) p hp
    · exact N' _ (List.mem_cons_of_mem _ hp)
end
/-- the tables' state: both empty, or both made -/
def St (t37 t30 : Obj) (c1 c2 : Nat) (oc1 oc2 : Obj) : Prop :=
  (t37 = tabObj #[] ∧ t30 = tabObj #[] ∧ c1 = 30 ∧ c2 = 37 ∧ oc1 = t30 ∧ oc2 = t37) ∨ (t37 = made 47 c2 ∧ t30 = made 32 c1 ∧ MF c1 c2 oc1 oc2)
/-- what a call does to the tables -/
def To (h : Heap) (t37 t30 : Obj) (c1 c2 : Nat) (oc1 oc2 : Obj) (c1' c2' : Nat) (oc1' oc2' : Obj) : Prop :=
  (t37 = tabObj #[] ∧ t30 = tabObj #[] ∧ h.get? c1' = none ∧ h.get? c2' = none) ∨ (t37 = made 47 c2 ∧ t30 = made 32 c1 ∧ c1' = c1 ∧ c2' = c2 ∧ oc1' = oc1 ∧ oc2' = oc2)
section
variable {t37 t30 oc1 oc2 oc1' oc2' : Obj} {c1 c2 c1' c2' : Nat}
theorem made_ne {l : Int} {c : Nat} (h : made l c = tabObj #[]) : False := by simp at h
theorem St.ok30 (S : St t37 t30 c1 c2 oc1 oc2) : TabOK 30 32 (Str.ofString "_int2digits.<locals>.inner") t30 c1 oc1 := by
  rcases S with ⟨_, a, b, _, d, _⟩ | ⟨_, a, M⟩
  · exact .inl ⟨a, b, d⟩
  · exact .inr ⟨a, Nat.lt_trans (by decide) M.l1, M.d1⟩
theorem St.ok37 (S : St t37 t30 c1 c2 oc1 oc2) : TabOK 37 47 (Str.ofString "_digits2int.<locals>.inner") t37 c2 oc2 := by
  rcases S with ⟨a, _, _, b, _, d⟩ | ⟨a, _, M⟩
  · exact .inl ⟨a, b, d⟩
  · exact .inr ⟨a, Nat.lt_trans M.l1 M.l2, M.d2⟩
theorem St.ne (S : St t37 t30 c1 c2 oc1 oc2) : c1 ≠ 37 ∧ c2 ≠ 30 ∧ c1 ≠ c2 := by
  rcases S with ⟨_, _, rfl, rfl, _, _⟩ | ⟨_, _, M⟩
  · decide
  · have := M.l1; have := M.l2; omega
theorem St.fin (S : St t37 t30 c1 c2 oc1 oc2) (a : TabTo 30 32 (Str.ofString "_int2digits.<locals>.inner") t30 c1 oc1 c1' oc1') (b : TabTo 37 47 (Str.ofString "_digits2int.<locals>.inner") t37 c2 oc2 c2' oc2') (l1 : t30 = tabObj #[] → 37 < c1') (l2 : t37 = tabObj #[] → c1' < c2') : MF c1' c2' oc1' oc2' := by
  obtain ⟨a1, a2, a3⟩ := a
  obtain ⟨b1, b2, b3⟩ := b
  rcases S with ⟨e1, e2, _⟩ | ⟨e1, e2, M⟩
  · exact ⟨a2, b2, l1 e2, l2 e1⟩
  · rcases a3 with ⟨q, _⟩ | ⟨_, rfl, rfl⟩
    · exact (made_ne (e2.symm.trans q)).elim
    · rcases b3 with ⟨q, _⟩ | ⟨_, rfl, rfl⟩
      · exact (made_ne (e1.symm.trans q)).elim
      · exact M
theorem St.to {h : Heap} (S : St t37 t30 c1 c2 oc1 oc2) (a : TabTo 30 32 (Str.ofString "_int2digits.<locals>.inner") t30 c1 oc1 c1' oc1') (b : TabTo 37 47 (Str.ofString "_digits2int.<locals>.inner") t37 c2 oc2 c2' oc2') (l1 : t30 = tabObj #[] → h.get? c1' = none) (l2 : t37 = tabObj #[] → h.get? c2' = none) : To h t37 t30 c1 c2 oc1 oc2 c1' c2' oc1' oc2' := by
  obtain ⟨a1, a2, a3⟩ := a
  obtain ⟨b1, b2, b3⟩ := b
  rcases S with ⟨e1, e2, _⟩ | ⟨e1, e2, M⟩
  · exact .inl ⟨e1, e2, l1 e2, l2 e1⟩
  · rcases a3 with ⟨q, _⟩ | ⟨_, rfl, rfl⟩
    · exact (made_ne (e2.symm.trans q)).elim
    · rcases b3 with ⟨q, _⟩ | ⟨_, rfl, rfl⟩
      · exact (made_ne (e1.symm.trans q)).elim
      · exact .inr ⟨e1, e2, rfl, rfl, rfl, rfl⟩
theorem St.made (M : MF c1 c2 oc1 oc2) : St (Mine.made 47 c2) (Mine.made 32 c1) c1 c2 oc1 oc2 := .inr ⟨rfl, rfl, M⟩
theorem To.trans {h h' : Heap} {c1'' c2'' : Nat} {oc1'' oc2'' : Obj} (x : To h t37 t30 c1 c2 oc1 oc2 c1' c2' oc1' oc2') (y : To h' (Mine.made 47 c2') (Mine.made 32 c1') c1' c2' oc1' oc2' c1'' c2'' oc1'' oc2'') : To h t37 t30 c1 c2 oc1 oc2 c1'' c2'' oc1'' oc2'' := by
  rcases y with ⟨q, _⟩ | ⟨_, _, rfl, rfl, rfl, rfl⟩
  · exact (made_ne q).elim
  · exact x
end
def CallT (prog : Program) (w : World) (A : Around) (h₀ : Heap) (L : Addr) (m : Str → Option Value) (s : Shared) (t37 t30 : Obj) (c1 c2 : Nat) (oc1 oc2 : Obj) (P : List Value → Prop) (c : Sem Value) : Prop :=
  ∀ Q E : Value → Shared → Prop, (∀ (r : Nat) vs (c1' c2' : Nat) oc1' oc2' h' tk', Fr h₀ L h' m → News h₀ L h' ((r, tupO vs) :: ML c1' c2' oc1' oc2') → Kept [37, 30, c1, c2] s.heap h' → s.heap.get? r = none → c2' < r → MF c1' c2' oc1' oc2' → To s.heap t37 t30 c1 c2 oc1 oc2 c1' c2' oc1' oc2' → P vs → Q (.ref r) { s with heap := h', toks := tk' }) → wpAny (model prog w) A c Q E s
section
variable {prog : Program} {w : World} {A : Around} {L : Addr} {h₀ : Heap} {m : Str → Option Value} {s : Shared} {Q E : Value → Shared → Prop} {P : List Value → Prop} {c : Sem Value}
theorem CallT.toE (h : ∀ t37 t30 c1 c2 oc1 oc2, St t37 t30 c1 c2 oc1 oc2 → News h₀ L s.heap (TL t37 t30 c1 c2 oc1 oc2) → CallT prog w A h₀ L m s t37 t30 c1 c2 oc1 oc2 P c) (N : News h₀ L s.heap EL) : CallE prog w A h₀ L m s P c := by
  intro Q E k
  refine h _ _ 30 37 _ _ (.inl ⟨rfl, rfl, rfl, rfl, rfl, rfl⟩) (fun p hp => N p ?_) Q E fun r vs c1' c2' oc1' oc2' h' tk' F' N' K' hr hlt M T hp => ?_
  · simp only [List.mem_cons, List.not_mem_nil, or_false] at hp ⊢
    rcases hp with rfl | rfl | rfl | rfl <;> simp
  · rcases T with ⟨_, _, a, b⟩ | ⟨q, _⟩
    · exact k r vs c1' c2' oc1' oc2' h' tk' F' N' (fun b o e hb => K' b o e (fun q => hb (by simp only [List.mem_cons, List.not_mem_nil, or_false] at q ⊢; rcases q with q | q | q | q <;> simp [q]))) hr a b hlt M hp
    · exact (made_ne q.symm).elim
theorem CallT.toM {c1 c2 : Nat} {oc1 oc2 : Obj} (M : MF c1 c2 oc1 oc2) (h : ∀ t37 t30 c1 c2 oc1 oc2, St t37 t30 c1 c2 oc1 oc2 → News h₀ L s.heap (TL t37 t30 c1 c2 oc1 oc2) → CallT prog w A h₀ L m s t37 t30 c1 c2 oc1 oc2 P c) (N : News h₀ L s.heap (ML c1 c2 oc1 oc2)) : CallM prog w A h₀ L m s c1 c2 oc1 oc2 P c := by
  intro Q E k
  refine h _ _ _ _ _ _ (St.made M) N Q E fun r vs c1' c2' oc1' oc2' h' tk' F' N' K' hr hlt M' T hp => ?_
  rcases T with ⟨q, _⟩ | ⟨_, _, rfl, rfl, rfl, rfl⟩
  · exact (made_ne q).elim
  · exact k r vs h' tk' F' N' K' hr hlt hp
/-- a call under a longer ledger, the tables standing last -/
theorem liftT {all : List (Addr × Obj)} {t37 t30 : Obj} {c1 c2 : Nat} {oc1 oc2 : Obj} (N : News h₀ L s.heap all) (hall : all = dl4 all ++ TL t37 t30 c1 c2 oc1 oc2) (o1 : AllNe 37 (dl4 all)) (o2 : AllNe 30 (dl4 all)) (o3 : AllNe c1 (dl4 all)) (o4 : AllNe c2 (dl4 all))
    (h : News h₀ L s.heap (TL t37 t30 c1 c2 oc1 oc2) → CallT prog w A h₀ L m s t37 t30 c1 c2 oc1 oc2 P c)
    (hret : ∀ (r : Nat) vs c1' c2' oc1' oc2' h' tk', Fr h₀ L h' m → News h₀ L h' ((r, tupO vs) :: (dl4 all ++ ML c1' c2' oc1' oc2')) → AllNe r (dl4 all) → AllNe c1' (dl4 all) → AllNe c2' (dl4 all) → c2' < r → MF c1' c2' oc1' oc2' → To s.heap t37 t30 c1 c2 oc1 oc2 c1' c2' oc1' oc2' → P vs → Q (.ref r) { s with heap := h', toks := tk' }) :
    wpAny (model prog w) A c Q E s := by
  have hN : News h₀ L s.heap (dl4 all) := fun p hp => N p (by rw [hall]; exact List.mem_append_left _ hp)
  have hT : News h₀ L s.heap (TL t37 t30 c1 c2 oc1 oc2) := fun p hp => N p (by rw [hall]; exact List.mem_append_right _ hp)
  refine h hT Q E fun r vs c1' c2' oc1' oc2' h' tk' F' N' K' hr hlt M T hp => ?_
  have hn : AllNe c1' (dl4 all) ∧ AllNe c2' (dl4 all) := by
    rcases T with ⟨_, _, a, b⟩ | ⟨_, _, rfl, rfl, rfl, rfl⟩
    · exact ⟨allNe_of hN a, allNe_of hN b⟩
    · exact ⟨o3, o4⟩
  refine hret r vs c1' c2' oc1' oc2' h' tk' F' (fun p hp => ?_) (allNe_of hN hr) hn.1 hn.2 hlt M T hp
  rcases List.mem_cons.mp hp with rfl | hp
  · exact N' _ (List.mem_cons_self ..)
  · rcases List.mem_append.mp hp with hp | hp
    · exact kept_news K' hN (fun q hq => nm4 (o1.off q hq) (o2.off q hq) (o3.off q hq) (o4.off q hq)) p hp
    · exact N' _ (List.mem_cons_of_mem _ hp)
end
end Mine
end
example : True := by
  w_top off
  trivial
section
namespace Mine
theorem TabTo.ne2 {P c2 : Nat} {line : Int} {q : Str} {t oc oc' oc2 : Obj} {c c' : Nat} {h : Heap} (x : TabTo P line q t c oc c' oc') (f : t = tabObj #[] → h.get? c' = none) (h2 : h.get? c2 = some oc2) (hn : c ≠ c2) : c' ≠ c2 := fun e => by
  obtain ⟨_, _, x⟩ := x
  rcases x with ⟨h1, _⟩ | ⟨_, h3, _⟩
  · rw [e, h2] at f; cases f h1
  · exact hn (h3.symm.trans e)
/-- a table that a call leaves as it was -/
theorem TabOK.kept {P : Nat} {line : Int} {q : Str} {t oc : Obj} {c : Nat} {S : List Addr} {h₀ h h' : Heap} {L : Addr} {l : List (Addr × Obj)} (x : TabOK P line q t c oc) (N : News h₀ L h ((c, oc) :: l)) (N' : News h₀ L h' [(P, t)]) (K : Kept S h h') (hS : c ≠ P → c ∉ S) : News h₀ L h' [(c, oc)] := by
  rcases x with ⟨_, rfl, rfl⟩ | ⟨_, hl, _⟩
  · exact N'
  · exact kept_news K (fun p hp => N p (by rw [List.mem_singleton.mp hp]; exact .head _)) (fun p hp => by rw [List.mem_singleton.mp hp]; exact hS (Nat.ne_of_gt hl))
section
variable {prog : Program} {w : World} {mg mb : Str → Option Value} {mean : ExcName → Option Value} {loose : List Str}
  {dp un : Nat} {gd : Option (List Code)} {cn : Str} {cs : Scope} {L a : Addr} {ccd : Value} {cl : List (Str × Addr)} {outer : List Env} {A₀ : Around} {base h₀ : Heap} {m : Str → Option Value} {s : Shared} {Q E : Value → Shared → Prop}
theorem c_d2ix {c0 ld n e : Nat} {t37 oc0 oe : Obj} {tn : Tok} {vs : List Value} {ns : List Int}
    (B : Below A₀ base outer h₀) (F : Fr h₀ L s.heap m) (X : (hd.heap_39 w.params).In h₀) (T : Top topProg loose mean mg mb h₀) (hk : cs.kind = .function) (C1 : CodeHd base 41 37)
    (hdp : dp + 15 < recursionLimit) (hun : un + 150 < cLine)
    (N : News h₀ L s.heap [(ld, W.listOf vs.toArray n), (e, oe), (37, t37), (c0, oc0)]) (hld : ld ≠ 37 ∧ ld ≠ c0) (he : e ≠ 37 ∧ e ≠ c0) (tok : TabOK 37 47 (Str.ofString "_digits2int.<locals>.inner") t37 c0 oc0) (hi : IntsAre vs ns) (hK : ns.length ≤ 3) (hs : small ns = true) {v : Int} (hv : dval ns = v)
    (hret : ∀ (tv : Tok) (c : Nat) oc h' tk', Fr h₀ L h' m → News h₀ L h' [(ld, W.listOf vs.toArray n), (e, oe), (37, tabObj #[rawInt 47, rawInt 4, .ref c]), (c, oc)] → TabTo 37 47 (Str.ofString "_digits2int.<locals>.inner") t37 c0 oc0 c oc →
      (t37 = tabObj #[] → s.heap.get? c = none ∧ e < c) → c ≠ e → Kept [ld, e, 37, c0] s.heap h' → Q (.int v tv) { s with heap := h', toks := tk' }) :
    wpAny (model prog w) (ktrTop dp un gd cn cs L a ccd cl outer) (call (.ref 42) [.ref ld, .int 2 tn]) Q E s :=
  c_d2i B F X T hk C1 hdp hun N hld he tok hi hK (v := v) (fun h => by rw [← hv, h]; rfl) (fun h => by rw [← hv]; exact indAll hK hs h) hret
end
theorem small3 {l : List Int} (h : (l.all fun y => decide (0 ≤ y) && decide (y ≤ 3)) = true) : ∀ y ∈ l, 0 ≤ y ∧ y ≤ 3 := fun y hy => by simpa using List.all_eq_true.mp h y hy
section
variable {t37 t30 oc1 oc2 oc1' oc2' : Obj} {c1 c2 c1' c2' r : Nat}
theorem TabTo.inE {P : Nat} {line : Int} {q : Str} {t oc oc' : Obj} {c c' : Nat} (x : TabTo P line q t c oc c' oc') (h : t = tabObj #[]) : c = P := by
  rcases x.2.2 with ⟨_, e⟩ | ⟨e, _⟩
  · exact e
  · exact (made_ne (e.symm.trans h)).elim
theorem TabTo.lt {P : Nat} {line : Int} {q : Str} {t oc oc' : Obj} {c c' : Nat} (x : TabTo P line q t c oc c' oc') (h1 : P < r) (h2 : c' < r) : c < r := by
  rcases x.2.2 with ⟨_, e⟩ | ⟨_, e, _⟩
  · rw [e]; exact h1
  · rw [← e]; exact h2
theorem St.e30 (S : St t37 t30 c1 c2 oc1 oc2) (h : t37 = tabObj #[]) : c1 = 30 := by
  rcases S with ⟨_, _, e, _⟩ | ⟨e, _⟩
  · exact e
  · exact (made_ne (e.symm.trans h)).elim
end
theorem swap_in {a b p : Addr × Obj} {l : List (Addr × Obj)} (h : p ∈ a :: l) : p ∈ a :: b :: l := by
  rcases List.mem_cons.mp h with rfl | h
  · exact .head _
  · exact .tail _ (.tail _ h)
example : True := by
  k_with_none
  k_with "enterN" => (refine' code_defN ?k1 ?k2 ?k3 ?k4 ?k5 ?kA ?kF ?kK ?k6 ?k7 ?k8 ?k9 ?kB ?_ ?c2 ?c3 ?c4 ?c5; (case kA => exact rfl); (case kF => exact rfl); (case kK => assumption); (case k1 => k_asm); (case k2 => k_asm); (case k3 => k_asm); (case k4 => k_asm); (case k5 => k_asm); (case k6 => k_is); (case k7 => k_is); (case k8 => ktr_room); (case k9 => exact BindsTo.of_eq rfl); (case c5 => decide); (case kB => exact locs rfl); (case c2 => exact rfl); (case c3 => exact rfl); (case c4 => exact rfl); k_whole)
  k_with "k_lt" => skip
  k_with "call ref" => (k_here; k_dflt (refine hold_of ?_))
  k_with "execs cons" => (k_here; (with_reducible show wpAny _ _ (execs (Stmt.For _ _ _ _ _ :: _) _) _ _ _); k_dflt (refine hold_of ?_))
  k_with "call builtin:list.reverse" => (k_here; k_dflt (refine' rev_as ?F ?N ?l ?U ?_; (case F => k_asm); (case N => k_asm); (case U => exact Upd.head (fun p hp => Nat.ne_of_lt (hlt p hp))); (case l => omega)); intro h' F' N')
  k_with "call builtin:int.bit_length" => k_dflt (refine bits3 (fun _ => ?_))
  trivial
section
variable {prog : Program} {w : World} {mg mb : Str → Option Value} {mean : ExcName → Option Value} {loose : List Str}
  {dp un : Nat} {gd : Option (List Code)} {cn : Str} {cs : Scope} {L a : Addr} {ccd : Value} {cl : List (Str × Addr)} {outer : List Env} {A₀ : Around} {base h₀ : Heap} {m : Str → Option Value} {s : Shared} {Q E : Value → Shared → Prop}
abbrev Pdiv (x : Int) (vs : List Value) : Prop := ∃ t u, vs = [.int (x / 3) t, .int (x % 3) u]
set_option maxRecDepth 100000 in
set_option maxHeartbeats 8000000 in
theorem dmp_a {body : List Stmt} {sc : Scope} {fa L dp un : Nat} {gd : Option (List Code)} {ccd : Value} {outer : List Env} {Q : Flow → Shared → Prop} {E : Value → Shared → Prop} {x : Int} {tx ty : Tok} {t37 t30 oc1 oc2 : Obj} {c1 c2 : Nat}
    (hb : body = (fnB ((hd.heap_39 w.params).lookup 49)).take 4) (hsc : sc = fnS ((hd.heap_39 w.params).lookup 49))
    (B : Below A₀ base outer h₀) (F : Fr h₀ L s.heap m) (X : (hd.heap_39 w.params).In h₀) (T : Top topProg loose mean mg mb h₀) (C2 : CodeHd base 34 30)
    (N : News h₀ L s.heap (TL t37 t30 c1 c2 oc1 oc2)) (n1 : c1 ≠ 37) (n2 : c2 ≠ 30) (n3 : c1 ≠ c2) (ok : TabOK 30 32 (Str.ofString "_int2digits.<locals>.inner") t30 c1 oc1) (ok2 : TabOK 37 47 (Str.ofString "_digits2int.<locals>.inner") t37 c2 oc2)
    (e1 : m (Str.ofString "a") = some (.int x tx)) (e2 : m (Str.ofString "b") = some (.int 3 ty)) (hx0 : 0 ≤ x) (hx : x ≤ 26) (hdp : dp + 17 < recursionLimit) (hun : un + 170 < cLine)
    (hret : ∀ (m' : Str → Option Value) (h' : Heap) (tk' : Nat) (vs : List Value) (ax na qd nq c1' : Nat) (oc1' : Obj) (tn tr : Tok), Fr h₀ L h' m' → m' (Str.ofString "n") = some (.int 2 tn) → m' (Str.ofString "b") = some (.int 3 ty) → m' (Str.ofString "r") = some (.int 0 tr) → m' (Str.ofString "q_digits") = some (.ref qd) → m' (Str.ofString "a_digits") = some (.ref ax) → IntsAre vs (digs x) →
      News h₀ L h' ((qd, W.listOf #[] nq) :: (ax, W.listOf vs.toArray na) :: TL t37 (made 32 c1') c1' c2 oc1' oc2) → (∀ p ∈ (ax, W.listOf vs.toArray na) :: TL t37 (made 32 c1') c1' c2 oc1' oc2, p.1 < qd) → TabTo 30 32 (Str.ofString "_int2digits.<locals>.inner") t30 c1 oc1 c1' oc1' → (t30 = tabObj #[] → 37 < c1') → c1' ≠ 37 → c1' ≠ c2 → Q .next { s with heap := h', toks := tk' }) :
    wpAny (model prog w) (ktrTop dp un gd (Str.ofString "_divmod_pos") sc L fa ccd [] outer) (execs body (envX (Str.ofString "_divmod_pos") sc L fa ccd [])) Q E s := by
  conv at hb => rhs; whnf
  conv at hsc => rhs; whnf
  subst hb hsc
  have hk : (ScopeKind.function = ScopeKind.function) := rfl
  have F5 := fr_at4 F e1 e2 e1 e2
  clear F
  simp only [TL] at N
  k_steps
  refine of_hold ?_
  rename News _ _ _ _ => N0
  k_dflt (refine' c_i2dx (e := 37) (oe := t37) ?B ?F ?X ?T ?hk ?C2 ?hdp ?hun ?N (by decide) (Ne.symm n1) ok hx0 hx ?_)
  case B => k_asm
  case F => k_asm
  case X => k_asm
  case T => k_asm
  case hk => exact rfl
  case C2 => kn_code
  case hdp => ktr_room
  case hun => ktr_units
  case N => (refine cb_drop (by assumption) ?_; kcj_all)
  intro ax c1' na vs oc1' h1 tk1 F1 N1 iv tt fr ne K1 hr
  have hne := TabTo.ne2 tt (fun h => (fr h).1) (N0 (c2, oc2) (by k_mem)).1 n3
  have N2 := TabOK.kept (l := []) ok2 (fun p hp => N0 p (by rw [List.mem_singleton.mp hp]; k_mem)) (fun p hp => N1 p (by rw [List.mem_singleton.mp hp]; k_mem)) K1 (fun h => nmA3 h n2 (Ne.symm n3))
  have N3 := news_app N1 N2
  simp only [List.cons_append, List.nil_append] at N3
  clear N0 N1 N2 K1 hr
  k_steps
  k_dflt (refine wpAny_execs_nil ?_)
  exact hret _ _ _ _ _ _ _ _ _ _ _ _ (by k_asm) rfl rfl rfl rfl rfl (by assumption) (by k_asm) (by assumption) tt (fun h => (fr h).2) ne hne
set_option maxRecDepth 100000 in
set_option maxHeartbeats 8000000 in
theorem dmp_b {body : List Stmt} {sc : Scope} {fa L dp un : Nat} {gd : Option (List Code)} {ccd : Value} {outer : List Env} {Q : Flow → Shared → Prop} {E : Value → Shared → Prop} {v k : Int} {tn tr : Tok} {t37 t30 oc1 oc2 : Obj} {c1 c2 qd nq : Nat} {vq : List Value} {qs : List Int}
    (hb : body = (fnB ((hd.heap_39 w.params).lookup 49)).drop 5) (hsc : sc = fnS ((hd.heap_39 w.params).lookup 49))
    (B : Below A₀ base outer h₀) (F : Fr h₀ L s.heap m) (X : (hd.heap_39 w.params).In h₀) (T : Top topProg loose mean mg mb h₀) (C1 : CodeHd base 41 37)
    (N : News h₀ L s.heap ((qd, W.listOf vq.toArray nq) :: TL t37 t30 c1 c2 oc1 oc2)) (hlt : ∀ p ∈ TL t37 t30 c1 c2 oc1 oc2, p.1 < qd) (n1 : c1 ≠ 37) (n2 : c2 ≠ 30) (n3 : c1 ≠ c2) (n4 : 30 < c1) (ok : TabOK 37 47 (Str.ofString "_digits2int.<locals>.inner") t37 c2 oc2)
    (e1 : m (Str.ofString "q_digits") = some (.ref qd)) (e2 : m (Str.ofString "n") = some (.int 2 tn)) (e3 : m (Str.ofString "r") = some (.int k tr)) (hi : IntsAre vq qs) (hl : qs.length ≤ 3) (hs : small qs.reverse = true) (hv : dval qs.reverse = v) (hdp : dp + 17 < recursionLimit) (hun : un + 170 < cLine)
    (hret : ∀ (m' : Str → Option Value) (h' : Heap) (tk' : Nat) (r c2' : Nat) (oc2' : Obj) (t u : Tok), Fr h₀ L h' m' → News h₀ L h' ((r, tupO [.int v t, .int k u]) :: TL (made 47 c2') t30 c1 c2' oc1 oc2') → (37 < r ∧ 30 < r ∧ c1 < r ∧ c2' < r) → TabTo 37 47 (Str.ofString "_digits2int.<locals>.inner") t37 c2 oc2 c2' oc2' → (t37 = tabObj #[] → c1 < c2') → Q (.ret (.ref r)) { s with heap := h', toks := tk' }) :
    wpAny (model prog w) (ktrTop dp un gd (Str.ofString "_divmod_pos") sc L fa ccd [] outer) (execs body (envX (Str.ofString "_divmod_pos") sc L fa ccd [])) Q E s := by
  conv at hb => rhs; whnf
  conv at hsc => rhs; whnf
  subst hb hsc
  have hk : (ScopeKind.function = ScopeKind.function) := rfl
  have F5 := fr_at4 F e1 e2 e3 e3
  clear F
  have hl5 := hi.length
  simp only [TL] at N
  k_steps
  refine of_hold ?_
  rename News _ _ _ _ => N0
  have g1 := hlt (37, t37) (.head _)
  have g2 := hlt (c2, oc2) (.tail _ (.tail _ (.tail _ (.head _))))
  have g3 := hlt (30, t30) (.tail _ (.head _))
  k_dflt (refine' c_d2ix (e := c1) (oe := oc1) ?B ?F ?X ?T ?hk ?C1 ?hdp ?hun ?N ⟨Nat.ne_of_gt g1, Nat.ne_of_gt g2⟩ ⟨n1, n3⟩ ok (ints_rev hi) (by simpa using hl) hs hv ?_)
  case B => k_asm
  case F => k_asm
  case X => k_asm
  case T => k_asm
  case hk => exact rfl
  case C1 => kn_code
  case hdp => ktr_room
  case hun => ktr_units
  case N => (refine cb_drop (by assumption) ?_; kcj_all)
  intro tv c2' oc2' h1 tk1 F1 N1 tt fr ne K1
  have N2 := kept_news (l := [(30, t30)]) K1 (fun p hp => N0 p (by rw [List.mem_singleton.mp hp]; k_mem)) (fun p hp => by rw [List.mem_singleton.mp hp]; exact nm4 (Nat.ne_of_lt g3) (Nat.ne_of_lt n4) (show (30 : Nat) ≠ 37 by decide) (Ne.symm n2))
  have N3 := news_app N1 N2
  simp only [List.cons_append, List.nil_append] at N3
  clear N0 N1 N2 K1
  k_steps
  refine' hret _ _ _ _ _ _ _ _ (by k_asm) ?N9 ?l9 tt (fun h => (fr h).2)
  case N9 => (simp only [TL, made]; refine cb_drop (by assumption) ?_; kcj_all)
  case l9 => exact ⟨lt_at (37, _) (by assumption) (by k_mem), lt_at (30, _) (by assumption) (by k_mem), lt_at (c1, _) (by assumption) (by k_mem), lt_at (c2', _) (by assumption) (by k_mem)⟩
end
example : True := by
  k_with_none
  k_with "enterN" => (refine' code_defN ?k1 ?k2 ?k3 ?k4 ?k5 ?kA ?kF ?kK ?k6 ?k7 ?k8 ?k9 ?kB ?_ ?c2 ?c3 ?c4 ?c5; (case kA => exact rfl); (case kF => exact rfl); (case kK => assumption); (case k1 => k_asm); (case k2 => k_asm); (case k3 => k_asm); (case k4 => k_asm); (case k5 => k_asm); (case k6 => k_is); (case k7 => k_is); (case k8 => ktr_room); (case k9 => exact BindsTo.of_eq rfl); (case c5 => decide); (case kB => exact locs rfl); (case c2 => exact rfl); (case c3 => exact rfl); (case c4 => exact rfl); k_whole)
  k_with "k_lt" => skip
  trivial
section
variable {prog : Program} {w : World} {mg mb : Str → Option Value} {mean : ExcName → Option Value} {loose : List Str}
  {dp un : Nat} {gd : Option (List Code)} {cn : Str} {cs : Scope} {L a : Addr} {ccd : Value} {cl : List (Str × Addr)} {outer : List Env} {A₀ : Around} {base h₀ : Heap} {m : Str → Option Value} {s : Shared} {Q E : Value → Shared → Prop}
set_option maxRecDepth 100000 in
set_option maxHeartbeats 8000000 in
theorem c_dmp {x : Int} {tx ty : Tok} {t37 t30 oc1 oc2 : Obj} {c1 c2 : Nat} (S : St t37 t30 c1 c2 oc1 oc2)
    (B : Below A₀ base outer h₀) (F : Fr h₀ L s.heap m) (X : (hd.heap_39 w.params).In h₀) (T : Top topProg loose mean mg mb h₀) (hk : cs.kind = .function) (C1 : CodeHd base 41 37) (C2 : CodeHd base 34 30)
    (hdp : dp + 20 < recursionLimit) (hun : un + 200 < cLine) (hx0 : 0 ≤ x) (hx : x ≤ 26) (N : News h₀ L s.heap (TL t37 t30 c1 c2 oc1 oc2)) :
    CallT prog w (ktrTop dp un gd cn cs L a ccd cl outer) h₀ L m s t37 t30 c1 c2 oc1 oc2 (Pdiv x) (call (.ref 49) [.int x tx, .int 3 ty]) := by
  intro Q E hret
  simp only [TL] at N
  obtain ⟨n1, n2, n3⟩ := S.ne
  obtain ⟨q1, q2, q3, q4, q5, q6⟩ := dv_all hx0 hx
  refine wpAny_call ?_
  k_dflt (walk_at "enterN")
  intro g L' h₁ FG F' N' B' X' T' kp
  (try dsimp only); (try k_fold)
  k_dflt (refine execs_split (a := (fnB ((hd.heap_39 w.params).lookup 49)).take 4) (b := (fnB ((hd.heap_39 w.params).lookup 49)).drop 4) ?_)
  k_dflt (refine dmp_a (x := x) rfl rfl B' F' X' T' (by kn_code) N' n1 n2 n3 S.ok30 S.ok37 rfl rfl hx0 hx (by ktr_room) (by ktr_units) ?_)
  intro m1 h1 tk1 vs ax na qd nq c1' oc1' tn tr F1 f1 f2 f3 f4 f5 iv N1 lq tt l1 ne1 ne2
  (try dsimp only)
  k_dflt (refine execs_split (a := stmtAt (fnB ((hd.heap_39 w.params).lookup 49)) 4) (b := (fnB ((hd.heap_39 w.params).lookup 49)).drop 5) ?_)
  k_dflt (refine' dmp_for rfl rfl B' F1 X' T' N1 (fun p hp => Nat.ne_of_lt (lq p hp)) f1 f2 f3 f4 f5 iv (small3 q4) q3 ?dp ?un ?pE ?_)
  case dp => ktr_room
  case un => ktr_units
  case pE => first | passes_own | with_unfolding_all passes_own
  intro m2 h2 tk2 vq nq2 tr2 F2 g1 g2 g3 iq N2
  rw [q1] at g3
  (try dsimp only)
  k_dflt (refine' dmp_b (v := x / 3) (k := x % 3) rfl rfl B' F2 X' T' ?C1 (fun p hp => N2 p (swap_in hp)) (fun p hp => lq p (.tail _ hp)) ne1 n2 ne2 tt.1 S.ok37 g2 g1 g3 iq (by rw [q5]; exact q3) (by rw [small, List.all_reverse]; exact q6) q2 ?dp ?un ?_)
  case C1 => kn_code
  case dp => ktr_room
  case un => ktr_units
  intro m3 h3 tk3 r c2' oc2' t u F3 N3 l3 tt2 l4
  (try dsimp only)
  k_steps
  refine' hret _ _ _ _ _ _ _ _ (by k_asm) ?N9 ?K9 ?r9 l3.2.2.2 (S.fin tt tt2 l1 l4) ?T9 ⟨_, _, rfl⟩
  case N9 => (simp only [ML]; refine cb_drop (by assumption) ?_; kcj_all)
  case K9 => exact Kept.of kp F3
  case r9 => exact fresh_of kp N3 (.head _) (nm4 (Nat.ne_of_gt l3.1) (Nat.ne_of_gt l3.2.1) (Nat.ne_of_gt (tt.lt l3.2.1 l3.2.2.1)) (Nat.ne_of_gt (tt2.lt l3.1 l3.2.2.2)))
  case T9 => exact S.to tt tt2 (fun h => fresh_of kp N3 (.tail _ (.tail _ (.tail _ (.head _)))) (nm4 ne1 (Nat.ne_of_gt tt.1) (by rw [tt.inE h]; exact Nat.ne_of_gt tt.1) ne2)) (fun h => fresh_of kp N3 (.tail _ (.tail _ (.tail _ (.tail _ (.head _))))) (nm4 (Nat.ne_of_gt tt2.1) (Nat.ne_of_gt (Nat.lt_trans (show (30 : Nat) < 37 by decide) tt2.1)) (by rw [S.e30 h]; exact Nat.ne_of_gt (Nat.lt_trans (show (30 : Nat) < 37 by decide) tt2.1)) (by rw [tt2.inE h]; exact Nat.ne_of_gt tt2.1)))
end
end Mine
end
example : True := by
  w_top off
  trivial
section
namespace Mine
theorem fresh_up {h g h₁ : Heap} {L' : Addr} {m' : Str → Option Value} {l : List (Addr × Obj)} (kp : ∀ b o, h.get? b = some o → b ∉ l.map (·.1) → g.get? b = some o) (F' : Fr g L' h₁ m') (N : News g L' h₁ l) : ∀ r : Nat, h₁.get? r = none → h.get? r = none := fun r hr => by
  cases q : h.get? r with
  | none => rfl
  | some o =>
    by_cases hm : r ∈ l.map (·.1)
    · obtain ⟨p, hp, e⟩ := List.mem_map.mp hm
      have h1 := (N p hp).1
      rw [e, hr] at h1; cases h1
    · have h1 := F'.keep _ _ (kp r o q hm)
      rw [hr] at h1; cases h1
theorem To.up {h h' : Heap} {t37 t30 oc1 oc2 oc1' oc2' : Obj} {c1 c2 c1' c2' : Nat} (x : To h' t37 t30 c1 c2 oc1 oc2 c1' c2' oc1' oc2') (f : ∀ r : Nat, h'.get? r = none → h.get? r = none) : To h t37 t30 c1 c2 oc1 oc2 c1' c2' oc1' oc2' := by
  rcases x with ⟨a, b, c, d⟩ | x
  · exact .inl ⟨a, b, f _ c, f _ d⟩
  · exact .inr x
theorem To.fin {h h' g h'' : Heap} {L' : Addr} {l : List (Addr × Obj)} {t37 t30 oc1 oc2 oc1' oc2' : Obj} {c1 c2 c1' c2' : Nat} (x : To h' t37 t30 c1 c2 oc1 oc2 c1' c2' oc1' oc2') (S : St t37 t30 c1 c2 oc1 oc2) (M : MF c1' c2' oc1' oc2') (kp : ∀ b o, h.get? b = some o → b ∉ [37, 30, c1, c2] → g.get? b = some o) (N : News g L' h'' l) (m1 : (c1', oc1') ∈ l) (m2 : (c2', oc2') ∈ l) : To h t37 t30 c1 c2 oc1 oc2 c1' c2' oc1' oc2' := by
  rcases x with ⟨a, b, _, _⟩ | x
  · rcases S with ⟨_, _, rfl, rfl, _⟩ | ⟨e, _⟩
    · have h1 := M.l1
      have h2 := M.l2
      exact .inl ⟨a, b, fresh_of kp N m1 (nm4 (by omega) (by omega) (by omega) (by omega)), fresh_of kp N m2 (nm4 (by omega) (by omega) (by omega) (by omega))⟩
    · exact (made_ne (e.symm.trans a)).elim
  · exact .inr x
theorem To.notin {h' : Heap} {t37 t30 oc1 oc2 oc1' oc2' : Obj} {c1 c2 c1' c2' r : Nat} (x : To h' t37 t30 c1 c2 oc1 oc2 c1' c2' oc1' oc2') (S : St t37 t30 c1 c2 oc1 oc2) (a : 37 < r) (b : 30 < r) (c : c1' < r) (d : c2' < r) : r ∉ [37, 30, c1, c2] := by
  have k : c1 < r ∧ c2 < r := by
    rcases x with ⟨e, _⟩ | ⟨_, _, rfl, rfl, _⟩
    · rcases S with ⟨_, _, rfl, rfl, _⟩ | ⟨q, _⟩
      · exact ⟨b, a⟩
      · exact (made_ne (q.symm.trans e)).elim
    · exact ⟨c, d⟩
  exact nm4 (Nat.ne_of_gt a) (Nat.ne_of_gt b) (Nat.ne_of_gt k.1) (Nat.ne_of_gt k.2)
theorem app_v {prog : Program} {w : World} {A : Around} {E : Value → Shared → Prop} {s : Shared} {h₀ : Heap} {L D n : Nat} {m : Str → Option Value} {news news' : List (Addr × Obj)} {vs : List Value} {v : Value} {Q : Value → Shared → Prop} (F : Fr h₀ L s.heap m) (N : News h₀ L s.heap news) (hl : vs.length ≤ 10) (U : Upd D (W.listOf vs.toArray n) (W.listOf (vs ++ [v]).toArray (n + 1)) news news')
    (h : ∀ h', Fr h₀ L h' m → News h₀ L h' news' → Q .none { s with heap := h' }) : wpAny (model prog w) A (call (.builtin "list.append") [.ref D, v]) Q E s := by
  have e : vs.toArray.push v = (vs ++ [v]).toArray := by simp
  rw [← e] at U
  exact append_K F N U h (by rw [sizeLine_eq, List.size_toArray]; omega)
example : True := by
  k_with_none
  k_with "enterN" => (refine' code_defN ?k1 ?k2 ?k3 ?k4 ?k5 ?kA ?kF ?kK ?k6 ?k7 ?k8 ?k9 ?kB ?_ ?c2 ?c3 ?c4 ?c5; (case kA => exact rfl); (case kF => exact rfl); (case kK => assumption); (case k1 => k_asm); (case k2 => k_asm); (case k3 => k_asm); (case k4 => k_asm); (case k5 => k_asm); (case k6 => k_is); (case k7 => k_is); (case k8 => ktr_room); (case k9 => exact BindsTo.of_eq rfl); (case c5 => decide); (case kB => exact locs rfl); (case c2 => exact rfl); (case c3 => exact rfl); (case c4 => exact rfl); k_whole)
  k_with "k_lt" => skip
  k_with "k_ne" => (refine neN ?_; (try dsimp only); first | with_reducible assumption | exact Ne.symm (by with_reducible assumption) | exact Nat.ne_of_lt (by with_reducible assumption) | exact Nat.ne_of_gt (by with_reducible assumption) | exact AllNe.off (by with_reducible assumption) (_, _) (by k_mem) | exact Ne.symm (AllNe.off (by with_reducible assumption) (_, _) (by k_mem)) | exact lt_nB (by with_reducible assumption) (_, _) (by k_mem) | exact Ne.symm (lt_nB (by with_reducible assumption) (_, _) (by k_mem)) | omega)
  k_with "call builtin:list.append" => (k_here; k_dflt (refine' app_v ?Zk1 ?Zk2 ?Zk4 ?Zk5 ?_; (case Zk1 => k_asm); (case Zk2 => k_asm); (case Zk4 => assumption); (case Zk5 => k_upd)); intro h' F' N'; (try k_sweep))
  k_with "call ref" => (k_here; k_dflt (refine hold_of ?_))
  k_with "call ref" => (k_here; (with_reducible show wpAny _ _ (call (Value.ref 56) _) _ _ _); k_dflt (refine' liftT (P := Pdiv _) ?N ?hall ?o1 ?o2 ?o3 ?o4 ?h ?_; (case N => k_asm); (case hall => exact rfl); (case o1 => (simp only [dl4, List.dropLast, AllNe]; (repeat' apply And.intro) <;> first | trivial | k_ne)); (case o2 => (simp only [dl4, List.dropLast, AllNe]; (repeat' apply And.intro) <;> first | trivial | k_ne)); (case o3 => (simp only [dl4, List.dropLast, AllNe]; (repeat' apply And.intro) <;> first | trivial | k_ne)); (case o4 => (simp only [dl4, List.dropLast, AllNe]; (repeat' apply And.intro) <;> first | trivial | k_ne)); (case h => (intro N5; refine' c_divmod ?gS ?g2 ?g3 ?g4 ?g5 ?g6 ?g7 ?g8 ?g9 ?ga ?gb ?gc N5; (case gS => first | with_reducible assumption | exact St.made (by with_reducible assumption)); (case g2 => k_asm); (case g3 => k_asm); (case g4 => k_asm); (case g5 => k_asm); (case g6 => first | exact rfl | assumption); (case g7 => kn_code); (case g8 => kn_code); (case g9 => ktr_room); (case ga => ktr_units); (case gb => omega); (case gc => omega)))); k_dflt (intro r2 vs2 c1' c2' oc1' oc2' h2' tk2' F2 N2 o2 o3' o4' lt2 M2 T2 hp2; (simp only [dl4, List.dropLast] at o2 o3' o4'); (simp only [dl4, List.dropLast, List.cons_append, List.nil_append, ML] at N2); (have b1 := Nat.lt_trans M2.l2 lt2); (have b2 := Nat.lt_trans M2.l1 b1); (have b3 := Nat.lt_trans (show (30 : Nat) < 37 by decide) b2); (obtain ⟨t2, u2, e2⟩ := hp2); (subst e2); (try k_sweep)))
  trivial
section
variable {prog : Program} {w : World} {mg mb : Str → Option Value} {mean : ExcName → Option Value} {loose : List Str}
  {dp un : Nat} {gd : Option (List Code)} {cn : Str} {cs : Scope} {L a : Addr} {ccd : Value} {cl : List (Str × Addr)} {outer : List Env} {A₀ : Around} {base h₀ : Heap} {m : Str → Option Value} {s : Shared} {Q E : Value → Shared → Prop}
set_option maxRecDepth 100000 in
set_option maxHeartbeats 8000000 in
theorem c_divmod {x : Int} {tx ty : Tok} {t37 t30 oc1 oc2 : Obj} {c1 c2 : Nat} (S : St t37 t30 c1 c2 oc1 oc2)
    (B : Below A₀ base outer h₀) (F : Fr h₀ L s.heap m) (X : (hd.heap_39 w.params).In h₀) (T : Top topProg loose mean mg mb h₀) (hk : cs.kind = .function) (C1 : CodeHd base 41 37) (C2 : CodeHd base 34 30)
    (hdp : dp + 22 < recursionLimit) (hun : un + 220 < cLine) (hx0 : 0 ≤ x) (hx : x ≤ 26) (N : News h₀ L s.heap (TL t37 t30 c1 c2 oc1 oc2)) :
    CallT prog w (ktrTop dp un gd cn cs L a ccd cl outer) h₀ L m s t37 t30 c1 c2 oc1 oc2 (Pdiv x) (call (.ref 56) [.int x tx, .int 3 ty]) := by
  intro Q E hret
  simp only [TL] at N
  refine wpAny_call ?_
  k_dflt (walk_at "enterN")
  intro g L' h₁ FG F' N' B' X' T' kp
  have fu := fresh_up kp F' N'
  (try dsimp only); (try k_fold)
  k_steps
  refine of_hold ?_
  k_dflt (refine' c_dmp S ?B ?F ?X ?T ?hk ?C1 ?C2 ?hdp ?hun hx0 hx ?N _ _ ?_)
  case B => k_asm
  case F => k_asm
  case X => k_asm
  case T => k_asm
  case N => k_asm
  case hk => exact rfl
  case C1 => kn_code
  case C2 => kn_code
  case hdp => ktr_room
  case hun => ktr_units
  intro r vs c1' c2' oc1' oc2' h3 tk3 F3 N3 K3 hr hlt M3 T3 hp
  k_steps
  exact hret _ _ _ _ _ _ _ _ (by k_asm) (by k_asm) (Kept.of kp F3) (fu _ hr) hlt M3 (T3.up fu) hp
end
section
variable {prog : Program} {w : World} {mg mb : Str → Option Value} {mean : ExcName → Option Value} {loose : List Str}
  {A₀ : Around} {base h₀ : Heap} {m : Str → Option Value} {s : Shared}
set_option maxRecDepth 100000 in
set_option maxHeartbeats 8000000 in
theorem deed_turn {body : List Stmt} {sc : Scope} {I l n fa L dp un : Nat} {it : Obj} {x : Int} {tx : Tok} {vt : Value} {vs : List Value} {t37 t30 oc1 oc2 : Obj} {c1 c2 : Nat} {gd : Option (List Code)} {ccd : Value} {outer : List Env} {Q : Flow → Shared → Prop} {E : Value → Shared → Prop}
    (hb : body = forB (fnB ((hd.heap_39 w.params).lookup 88)) 1) (hsc : sc = fnS ((hd.heap_39 w.params).lookup 88)) (S : St t37 t30 c1 c2 oc1 oc2)
    (B : Below A₀ base outer h₀) (F : Fr h₀ L s.heap (fun y => if y = Str.ofString "turn" then some vt else m y)) (X : (hd.heap_39 w.params).In h₀) (T : Top topProg loose mean mg mb h₀) (C1 : CodeHd base 41 37) (C2 : CodeHd base 34 30)
    (N : News h₀ L s.heap ((I, it) :: (l, W.listOf vs.toArray n) :: TL t37 t30 c1 c2 oc1 oc2)) (hI : I ≠ l) (lI : AllNe I (TL t37 t30 c1 c2 oc1 oc2)) (ll : AllNe l (TL t37 t30 c1 c2 oc1 oc2))
    (e1 : m (Str.ofString "number") = some (.int x tx)) (e2 : m (Str.ofString "found") = some (.ref l)) (hv : vs.length ≤ 10) (hx0 : 0 ≤ x) (hx : x ≤ 26) (hdp : dp + 22 < recursionLimit) (hun : un + 220 < cLine)
    (hE : PassesOwn (model prog w) (ktrTop dp un gd (Str.ofString "_law_deed") sc L fa ccd [] outer) (envX (Str.ofString "_law_deed") sc L fa ccd []) E)
    (hret : ∀ (m' : Str → Option Value) (h' h9 : Heap) (tk' c1' c2' : Nat) (oc1' oc2' : Obj) (t u : Tok), Fr h₀ L h' m' → m' (Str.ofString "number") = some (.int (x / 3) t) → m' (Str.ofString "found") = some (.ref l) → To h9 t37 t30 c1 c2 oc1 oc2 c1' c2' oc1' oc2' → MF c1' c2' oc1' oc2' →
      News h₀ L h' ((I, it) :: (l, W.listOf (vs ++ [Value.int (x % 3) u]).toArray (n + 1)) :: ML c1' c2' oc1' oc2') → AllNe I (ML c1' c2' oc1' oc2') → AllNe l (ML c1' c2' oc1' oc2') → Q .next { s with heap := h', toks := tk' }) :
    wpAny (model prog w) (ktrTop dp un gd (Str.ofString "_law_deed") sc L fa ccd [] outer) (execs body (envX (Str.ofString "_law_deed") sc L fa ccd [])) Q E s := by
  conv at hb => rhs; whnf
  conv at hsc => rhs; whnf
  subst hb hsc
  have hk : (ScopeKind.function = ScopeKind.function) := rfl
  simp only [TL] at N lI ll
  have F5 := fr_at4 (x1 := Str.ofString "number") (x2 := Str.ofString "found") (x3 := Str.ofString "number") (x4 := Str.ofString "found") F e1 e2 e1 e2
  clear F
  k_steps
  refine' hret _ _ _ _ _ _ _ _ _ _ (by k_asm) rfl rfl (by assumption) M2 ?N9 ?a9 ?b9
  case N9 => (simp only [ML]; refine cb_drop (by assumption) ?_; kcj_all)
  case a9 => (simp only [ML, AllNe]; (repeat' apply And.intro) <;> first | trivial | k_ne)
  case b9 => (simp only [ML, AllNe]; (repeat' apply And.intro) <;> first | trivial | k_ne)
end
example : True := by
  k_with "eval Name" => (k_here; k_dflt (refine nameX_L (by k_asm) (by with_reducible assumption) ?_))
  k_with "execs cons Assign cons" => (k_here; (with_reducible show wpAny _ _ (execs (Stmt.Assign [Expr.Tuple _ _ _] _ _ :: _) _) _ _ _); k_dflt (refine' deed_turn rfl rfl ?ZS ?ZB ?ZF ?ZX ?ZT ?ZC1 ?ZC2 ?ZN ?ZhI ?ZlI ?Zll ?Ze1 ?Ze2 ?Zhv ?Zx0 ?Zx1 ?Zdp ?Zun ?ZE ?_; (case ZB => k_asm); (case ZF => k_asm); (case ZX => k_asm); (case ZT => k_asm); (case ZC1 => kn_code); (case ZC2 => kn_code); (case ZN => k_asm); (case ZS => first | with_reducible assumption | exact St.made (by with_reducible assumption)); (case ZhI => k_ne); (case ZlI => first | with_reducible assumption | (simp only [AllNe]; (repeat' apply And.intro) <;> first | trivial | k_ne)); (case Zll => first | with_reducible assumption | (simp only [AllNe]; (repeat' apply And.intro) <;> first | trivial | k_ne)); (case Ze1 => first | assumption | rfl); (case Ze2 => first | assumption | rfl); (case Zhv => first | exact Nat.le_of_ble_eq_true rfl | (simp; done)); (case Zx0 => omega); (case Zx1 => omega); (case Zdp => ktr_room); (case Zun => ktr_units); (case ZE => first | passes_own | with_unfolding_all passes_own)); k_dflt (intro m5 h5 h9 tk5 c1' c2' oc1' oc2' t5 u5 F5 g1 g2 T5 M5 N5 lI5 ll5; (simp only [ML, List.nil_append, List.cons_append] at N5); (try k_sweep)))
  trivial
section
variable {prog : Program} {w : World} {mg mb : Str → Option Value} {mean : ExcName → Option Value} {loose : List Str}
  {dp un : Nat} {gd : Option (List Code)} {cn : Str} {cs : Scope} {L a : Addr} {ccd : Value} {cl : List (Str × Addr)} {outer : List Env} {A₀ : Around} {base h₀ : Heap} {m : Str → Option Value} {s : Shared} {Q E : Value → Shared → Prop}
abbrev Pdeed (x : Int) (vs : List Value) : Prop := ∃ t u v, vs = [.int (x % 3) t, .int (x / 3 % 3) u, .int (x / 9 % 3) v]
set_option maxRecDepth 100000 in
set_option maxHeartbeats 8000000 in
theorem c_deed {x : Int} {tx : Tok} {t37 t30 oc1 oc2 : Obj} {c1 c2 : Nat} (S : St t37 t30 c1 c2 oc1 oc2)
    (B : Below A₀ base outer h₀) (F : Fr h₀ L s.heap m) (X : (hd.heap_39 w.params).In h₀) (T : Top topProg loose mean mg mb h₀) (hk : cs.kind = .function)
    (C1 : CodeHd base 41 37) (C2 : CodeHd base 34 30) (hdp : dp + 24 < recursionLimit) (hun : un + 240 < cLine) (hx0 : 0 ≤ x) (hx : x ≤ 26) (N : News h₀ L s.heap (TL t37 t30 c1 c2 oc1 oc2)) :
    CallT prog w (ktrTop dp un gd cn cs L a ccd cl outer) h₀ L m s t37 t30 c1 c2 oc1 oc2 (Pdeed x) (call (.ref 88) [.int x tx]) := by
  intro Q E hret
  simp only [TL] at N
  refine wpAny_call ?_
  k_dflt (walk_at "enterN")
  intro g L' h₁ FG F' N' B' X' T' kp
  have fu := fresh_up kp F' N'
  (try dsimp only); (try k_fold)
  k_steps
  obtain ⟨h99, TT⟩ : ∃ h99, To h99 t37 t30 c1 c2 oc1 oc2 c1' c2' oc1' oc2' := ⟨_, To.trans (To.trans (by assumption) (by assumption)) (by assumption)⟩
  refine' hret _ _ _ _ _ _ _ _ (by k_asm) ?N4 ?K4 ?R4 ?l4 M5 ?T4 ?P4
  case N4 => (simp only [ML]; refine cb_drop (by assumption) ?_; kcj_all)
  case K4 => exact Kept.of kp (by assumption)
  case R4 => exact fresh_of kp (by assumption) (List.Mem.head _) (TT.notin S (lt_at (37, _) (by assumption) (by k_mem)) (lt_at (30, _) (by assumption) (by k_mem)) (lt_at (c1', _) (by assumption) (by k_mem)) (lt_at (c2', _) (by assumption) (by k_mem)))
  case l4 => exact lt_at (c2', _) (by assumption) (by k_mem)
  case T4 => exact TT.fin S M5 kp (by assumption) (by k_mem) (by k_mem)
  case P4 => exact ⟨_, _, _, by rw [show x / 9 = x / 3 / 3 by omega]⟩
theorem deedE {x : Int} {tx : Tok} (B : Below A₀ base outer h₀) (F : Fr h₀ L s.heap m) (X : (hd.heap_39 w.params).In h₀) (T : Top topProg loose mean mg mb h₀) (hk : cs.kind = .function)
    (C1 : CodeHd base 41 37) (C2 : CodeHd base 34 30) (hdp : dp + 24 < recursionLimit) (hun : un + 240 < cLine) (hx0 : 0 ≤ x) (hx : x ≤ 26) (N : News h₀ L s.heap EL) :
    CallE prog w (ktrTop dp un gd cn cs L a ccd cl outer) h₀ L m s (Pdeed x) (call (.ref 88) [.int x tx]) :=
  CallT.toE (fun _ _ _ _ _ _ S N => c_deed S B F X T hk C1 C2 hdp hun hx0 hx N) N
theorem deedM {x : Int} {tx : Tok} {c1 c2 : Nat} {oc1 oc2 : Obj} (M : MF c1 c2 oc1 oc2) (B : Below A₀ base outer h₀) (F : Fr h₀ L s.heap m) (X : (hd.heap_39 w.params).In h₀) (T : Top topProg loose mean mg mb h₀) (hk : cs.kind = .function)
    (C1 : CodeHd base 41 37) (C2 : CodeHd base 34 30) (hdp : dp + 24 < recursionLimit) (hun : un + 240 < cLine) (hx0 : 0 ≤ x) (hx : x ≤ 26) (N : News h₀ L s.heap (ML c1 c2 oc1 oc2)) :
    CallM prog w (ktrTop dp un gd cn cs L a ccd cl outer) h₀ L m s c1 c2 oc1 oc2 (Pdeed x) (call (.ref 88) [.int x tx]) :=
  CallT.toM M (fun _ _ _ _ _ _ S N => c_deed S B F X T hk C1 C2 hdp hun hx0 hx N) N
end
end Mine
end
example : True := by
  w_top off
  trivial
section
namespace Mine
example : True := by
  k_with_none
  k_with "enterN" => (refine' code_defN ?Zk1 ?Zk2 ?Zk3 ?Zk4 ?Zk5 ?ZkA ?ZkF ?ZkK ?Zk6 ?Zk7 ?Zk8 ?Zk9 ?ZkB ?_ ?Zc2 ?Zc3 ?Zc4 ?Zc5; (case ZkA => exact rfl); (case ZkF => exact rfl); (case ZkK => assumption); (case Zk1 => k_asm); (case Zk2 => k_asm); (case Zk3 => k_asm); (case Zk4 => k_asm); (case Zk5 => k_asm); (case Zk6 => k_is); (case Zk7 => k_is); (case Zk8 => ktr_room); (case Zk9 => first | exact BindsTo.of_eq rfl | (refine' binds_KW ?Zz1 ?Zz2 ?Zz3 ?Zz4 ?Zz5 ?Zz6 ?Zz7 ?Zz8 ?Zz9 ?Zza; (case Zz1 => k_in); (case Zz2 => exact rfl); (case Zz3 => k_is); (case Zz4 => exact rfl); (case Zz5 => exact rfl); (case Zz6 => exact rfl); (case Zz7 => exact rfl); (case Zz8 => exact rfl); (case Zz9 => exact rfl); (case Zza => exact rfl))); (case Zc5 => decide); (case ZkB => exact locs rfl); (case Zc2 => exact rfl); (case Zc3 => exact rfl); (case Zc4 => exact rfl); k_whole)
  k_with "call ref" => (k_here; (with_reducible show wpAny _ _ (call (Value.ref 74) _) _ _ _); k_dflt (refine hold_of ?_))
  trivial
section
variable {prog : Program} {w : World} {mg mb : Str → Option Value} {mean : ExcName → Option Value} {loose : List Str}
  {dp un : Nat} {gd : Option (List Code)} {cn : Str} {cs : Scope} {L a : Addr} {ccd : Value} {cl : List (Str × Addr)} {outer : List Env} {A₀ : Around} {base h₀ : Heap} {m : Str → Option Value} {s : Shared} {Q E : Value → Shared → Prop}
set_option maxRecDepth 100000 in
set_option maxHeartbeats 8000000 in
theorem c_insort {rest : List (Addr × Obj)} {o : Nat} {vs : List Value} {ns : List Int} {nn : Nat} {x : Int} {tx : Tok}
    (B : Below A₀ base outer h₀) (F : Fr h₀ L s.heap m) (X : (hd.heap_39 w.params).In h₀) (T : Top topProg loose mean mg mb h₀) (hk : cs.kind = .function) (Na : News h₀ L s.heap ((o, W.listOf vs.toArray nn) :: rest))
    (hr : AllNe o rest) (hi : IntsAre vs ns) (hlen : ns.length ≤ 1000) (hS : Srt ns)
    (hdp : dp + 30 < recursionLimit) (hun : un + 300 < cLine)
    (hret : ∀ vs' ns' nn' h' tk', Fr h₀ L h' m → News h₀ L h' ((o, W.listOf vs'.toArray nn') :: rest) → IntsAre vs' ns' → Srt ns' → ns'.Perm (x :: ns) → Q .none { s with heap := h', toks := tk' }) :
    wpAny (model prog w) (ktrTop dp un gd cn cs L a ccd cl outer) (call (.ref 65) [.ref o, .int x tx]) Q E s := by
  have N : News h₀ L s.heap [(o, W.listOf vs.toArray nn)] := fun q hq => by rw [List.mem_singleton.mp hq]; exact Na _ (List.mem_cons_self ..)
  have hfin : ∀ h' o', News h₀ L h' [(o, o')] → Kept [o] s.heap h' → News h₀ L h' ((o, o') :: rest) := fun h' o' N' K' p hp => by
    rcases List.mem_cons.mp hp with rfl | hp
    · exact N' _ (List.mem_cons_self ..)
    · exact kept_news K' (fun q hq => Na q (List.mem_cons_of_mem _ hq)) (fun q hq => by rw [List.mem_singleton]; exact hr.off q hq) p hp
  clear Na
  refine wpAny_call ?_
  k_dflt (walk_at "enterN")
  intro g L' h₁ FG F' N' B' X' T' kp
  (try dsimp only); (try k_fold)
  k_steps
  refine of_hold ?_
  k_dflt (refine' c_bis4 ?wB ?wF ?wX ?wT ?wk ?wN ?wm hi hlen hS ?wd ?wu ?_)
  case wB => k_asm
  case wF => k_asm
  case wX => k_asm
  case wT => k_asm
  case wk => first | exact rfl | assumption
  case wN => k_asm
  case wm => k_mem
  case wd => ktr_room
  case wu => ktr_units
  intro p tp h5 tk5 F5 N5 p0 p1 bi
  (try k_sweep)
  k_steps
  k_dflt (refine' kl_insert (l := kl_ins vs p (.int x tx)) ?vF ?vN ?vf ?ve ?vU ?vz ?_)
  case vF => k_asm
  case vN => k_asm
  case vf => exact fits_small p0 (by omega)
  case ve => rfl
  case vU => k_upd
  case vz => (show vs.length ≤ sizeLine; have := hi.length; rw [sizeLine_eq]; omega)
  intro h6 F6 N6
  (try k_sweep)
  k_steps
  refine' hret (kl_ins vs p (.int x tx)) (insAt ns p.toNat x) _ _ _ (by k_asm) ?hN ?hI (insAt_srt hS bi p0 p1) (insAt_perm _ _ _)
  case hN => exact hfin _ _ (by refine cb_drop (by assumption) ?_; kcj_all) (Kept.of kp (by assumption))
  case hI => rw [ins_eq p0 hi p1]; exact ints_ins _ hi
end
end Mine
end
section
set_option maxRecDepth 100000
namespace Mine
theorem off1_mem {D : Addr} : ∀ {l : List (Addr × Obj)}, LCg.Off1 D l → ∀ p ∈ l, p.1 ≠ D
  | [], _, _, h => nomatch h
  | _ :: _, x, p, h => by
    rcases List.mem_cons.mp h with rfl | h
    · exact x.1
    · exact off1_mem x.2 p h
theorem off_I {I C D : Addr} {l : List (Addr × Obj)} (h : LCg.Off3 I C D l) : ∀ p ∈ l, p.1 ≠ I := fun p hp => (h.mem p hp).1
theorem off_C {I C D : Addr} {l : List (Addr × Obj)} (h : LCg.Off3 I C D l) : ∀ p ∈ l, p.1 ≠ C := fun p hp => (h.mem p hp).2.1
theorem off_D {I C D : Addr} {l : List (Addr × Obj)} (h : LCg.Off3 I C D l) : ∀ p ∈ l, p.1 ≠ D := fun p hp => (h.mem p hp).2.2
theorem memI {α : Type} {a : α} {l : List α} (h : a ∈ l) : List.Mem a l := h
theorem lt_ne {d : Addr} {l : List (Addr × Obj)} (h : ∀ p ∈ l, p.1 < d) : ∀ p ∈ l, p.1 ≠ d := fun p hp => Nat.ne_of_lt (h p hp)
section
variable {h₀ : Heap} {L I C D t : Addr} {m : Str → Option Value} {s₁ : Shared} {oI oC oD ot : Obj} {S : List (Addr × Obj) → Prop} {rest : Value → List (Addr × Obj) → Prop} {y : Value} {h' : Heap} {tk : Nat} {q : Addr × Obj} {news : List (Addr × Obj)}
theorem CompEnd_keep (F : Fr h₀ L h' m) (N : News h₀ L h' ((t, ot) :: (I, oI) :: (C, oC) :: (D, oD) :: news)) (off : LCg.Off3 I C D news) (hI : t ≠ I) (hC : t ≠ C) (hD : t ≠ D) (hS : S ((t, ot) :: news)) (r : rest (.ref t) ((t, ot) :: news)) :
    LCg.CompEnd h₀ L m s₁ I oI C oC D oD S rest (.ref t) { s₁ with heap := h', toks := tk } :=
  LCg.CompEnd.intro F N ((t, ot) :: news) (fun p hp => by
    rcases List.mem_cons.mp hp with rfl | hp
    · exact .tail _ (.head _)
    rcases List.mem_cons.mp hp with rfl | hp
    · exact .tail _ (.tail _ (.head _))
    rcases List.mem_cons.mp hp with rfl | hp
    · exact .tail _ (.tail _ (.tail _ (.head _)))
    rcases List.mem_cons.mp hp with rfl | hp
    · exact .head _
    · exact .tail _ (.tail _ (.tail _ (.tail _ hp)))) ⟨⟨hI, hC, hD⟩, off⟩ hS r
theorem CompEnd_same (F : Fr h₀ L h' m) (N : News h₀ L h' ((I, oI) :: (C, oC) :: (D, oD) :: news)) (off : LCg.Off3 I C D news) (hS : S news) (r : rest y news) :
    LCg.CompEnd h₀ L m s₁ I oI C oC D oD S rest y { s₁ with heap := h', toks := tk } := LCg.CompEnd.intro F N news (fun _ hp => hp) off hS r
theorem CompEnd_drop (F : Fr h₀ L h' m) (N : News h₀ L h' (q :: (I, oI) :: (C, oC) :: (D, oD) :: news)) (off : LCg.Off3 I C D news) (hS : S news) (r : rest y news) :
    LCg.CompEnd h₀ L m s₁ I oI C oC D oD S rest y { s₁ with heap := h', toks := tk } := LCg.CompEnd.intro F N news (fun _ hp => .tail _ hp) off hS r
end
end Mine
end
example : True := by
  w_top off
  trivial
section
namespace Mine
example : True := by
  k_with_none
  k_with "k_lt" => skip
  k_with "k_ne" => (refine neN ?_; (try dsimp only); first | with_reducible assumption | exact Ne.symm (by with_reducible assumption) | exact Nat.ne_of_lt (by with_reducible assumption) | exact Nat.ne_of_gt (by with_reducible assumption) | exact AllNe.off (by with_reducible assumption) (_, _) (by k_mem) | exact Ne.symm (AllNe.off (by with_reducible assumption) (_, _) (by k_mem)) | exact lt_ne (by with_reducible assumption) (_, _) (by k_mem) | exact Ne.symm (lt_ne (by with_reducible assumption) (_, _) (by k_mem)) | exact off_I (by with_reducible assumption) (_, _) (by k_mem) | exact Ne.symm (off_I (by with_reducible assumption) (_, _) (by k_mem)) | exact off_C (by with_reducible assumption) (_, _) (by k_mem) | exact Ne.symm (off_C (by with_reducible assumption) (_, _) (by k_mem)) | exact off_D (by with_reducible assumption) (_, _) (by k_mem) | exact Ne.symm (off_D (by with_reducible assumption) (_, _) (by k_mem)) | exact off1_mem (by with_reducible assumption) (_, _) (by k_mem) | exact Ne.symm (off1_mem (by with_reducible assumption) (_, _) (by k_mem)) | (walk_say "NE OMEGA"; omega))
  k_with "k_all" => first | exact lt_ne (by with_reducible assumption) | exact AllNe.off (by with_reducible assumption) | exact off_I (by with_reducible assumption) | exact off_C (by with_reducible assumption) | exact off_D (by with_reducible assumption) | exact off1_mem (by with_reducible assumption) | exact List.forall_mem_nil _ | (refine' List.forall_mem_cons.mpr ⟨?Za, ?Zb⟩; (case Za => k_ne); (case Zb => k_all)) | (intro p9 hp9; exact lt_ne (by with_reducible assumption) p9 (by k_mem)) | (intro p9 hp9; exact AllNe.off (by with_reducible assumption) p9 (by k_mem)) | (intro p9 hp9; exact off1_mem (by with_reducible assumption) p9 (by k_mem)) | fail "k_all"
  k_with "CompRest" => (with_unfolding_all first | (refine LCg.CompRest.succ ?_; intro v' I' oI' C' oC' D' m' h' tk' E' hv' hC' hx' F' N' off' ne'; (first | lcg_open hv' | (obtain ⟨t9', hv9'⟩ := hv'; subst hv9'))) | refine LCg.CompRest.zero ?_)
  k_with "FinE" => ((unfold LCg.FinE); intro D' h' tk' F' N' o1'; (try simp only [List.nil_append, List.cons_append] at N'); (try dsimp only); (repeat (rename LCg.Off3 _ _ _ _ => zz; clear zz)))
  k_with "FinA" => ((unfold LCg.FinA); intro D' h' tk' F' N' o1'; (try simp only [List.nil_append, List.cons_append] at N'); (try dsimp only); (repeat (rename LCg.Off3 _ _ _ _ => zz; clear zz)))
  k_with "CompEnd" => k_dflt (first | (refine' CompEnd_keep ?ZF ?ZN ?Zoff ?ZhI ?ZhC ?ZhD ?Zsrc ?_; (case ZF => k_asm); (case ZN => with_reducible assumption); (case Zoff => with_reducible assumption); (case ZhI => k_ne); (case ZhC => k_ne); (case ZhD => k_ne); (case Zsrc => lcg_src)) | (refine' CompEnd_same ?ZF ?ZN ?Zoff ?Zsrc ?_; (case ZF => k_asm); (case ZN => with_reducible assumption); (case Zoff => with_reducible assumption); (case Zsrc => lcg_src)) | (refine' CompEnd_drop ?ZF ?ZN ?Zoff ?Zsrc ?_; (case ZF => k_asm); (case ZN => with_reducible assumption); (case Zoff => with_reducible assumption); (case Zsrc => lcg_src)))
  k_with "enterCN" => (refine' code_defCN ?Zk1 ?Zk2 ?Zk3 ?Zk4 ?Zk5 ?ZkA ?ZkF ?ZkK ?Zk6 ?Zk7 ?Zk8 ?Zk9 ?ZkB ?ZkD ?_ ?Zc2 ?Zc3 ?Zc4; (case ZkA => exact rfl); (case ZkF => exact rfl); (case ZkK => assumption); (case Zk1 => k_asm); (case Zk2 => k_asm); (case Zk3 => k_asm); (case Zk4 => k_asm); (case Zk5 => k_asm); (case Zk6 => k_is); (case Zk7 => k_is); (case Zk8 => ktr_room); (case Zk9 => exact BindsTo.of_eq rfl); (case ZkB => exact rfl); (case ZkD => decide +kernel); (case Zc2 => exact rfl); (case Zc3 => exact rfl); (case Zc4 => exact rfl); k_whole)
  k_with "eval ListComp" => (k_here; k_dflt (refine lc_tup (F₀ := by k_asm) (by with_unfolding_all rfl) (by decide) (by rfl) (by decide) (by rfl) ?_))
  k_with "SrcT" => (k_here; k_dflt (refine SrcT.ledger (by rfl) (by k_asm) (by k_asm) (by k_mem) (by first | size_fits | exact Nat.le_of_ble_eq_true rfl) ?_; intro g'; lcg_lit))
  trivial
def sel (a b0 b1 b2 : Int) : Int := [b0, b1, b2].getD a.toNat 0
theorem sub2 {h₀ h : Heap} {L : Addr} {all : List (Addr × Obj)} {p q : Addr × Obj} (N : News h₀ L h all) (h1 : p ∈ all) (h2 : q ∈ all) : News h₀ L h [p, q] := fun x hx => by
  rcases List.mem_cons.mp hx with rfl | hx
  · exact N _ h1
  · rw [List.mem_singleton.mp hx]; exact N _ h2
section
variable {prog : Program} {w : World} {mg mb : Str → Option Value} {mean : ExcName → Option Value} {loose : List Str}
  {dp un : Nat} {gd : Option (List Code)} {cn : Str} {cs : Scope} {L a : Addr} {ccd : Value} {cl : List (Str × Addr)} {outer : List Env} {A₀ : Around} {base h₀ : Heap} {m : Str → Option Value} {s : Shared} {Q E : Value → Shared → Prop}

set_option maxRecDepth 100000 in
set_option maxHeartbeats 8000000 in
theorem c_then {all : List (Addr × Obj)} {one other : Nat} {a0 a1 a2 b0 b1 b2 : Int} {ta0 ta1 ta2 tb0 tb1 tb2 : Tok}
    (B : Below A₀ base outer h₀) (F : Fr h₀ L s.heap m) (X : (hd.heap_39 w.params).In h₀) (T : Top topProg loose mean mg mb h₀) (hk : cs.kind = .function) (Na : News h₀ L s.heap all)
    (hm1 : (one, tupO [.int a0 ta0, .int a1 ta1, .int a2 ta2]) ∈ all) (hm2 : (other, tupO [.int b0 tb0, .int b1 tb1, .int b2 tb2]) ∈ all)
    (hdp : dp + 24 < recursionLimit) (hun : un + 240 < cLine) (ha0 : 0 ≤ a0 ∧ a0 ≤ 2) (ha1 : 0 ≤ a1 ∧ a1 ≤ 2) (ha2 : 0 ≤ a2 ∧ a2 ≤ 2)
    (hret : ∀ (r : Nat) t0 t1 t2 h' tk', Fr h₀ L h' m → News h₀ L h' ((r, tupO [.int (sel a0 b0 b1 b2) t0, .int (sel a1 b0 b1 b2) t1, .int (sel a2 b0 b1 b2) t2]) :: all) → AllNe r all → Q (.ref r) { s with heap := h', toks := tk' }) :
    wpAny (model prog w) (ktrTop dp un gd cn cs L a ccd cl outer) (call (.ref 93) [.ref one, .ref other]) Q E s := by
  have N := sub2 Na hm1 hm2
  have hs : ∀ q ∈ [(one, tupO [.int a0 ta0, .int a1 ta1, .int a2 ta2]), (other, tupO [.int b0 tb0, .int b1 tb1, .int b2 tb2])], s.heap.get? q.1 = some q.2 := fun q hq => (N q hq).1
  have ho : ∀ p ∈ all, s.heap.get? p.1 = some p.2 := fun p hp => (Na p hp).1
  have hfin : ∀ (r : Nat) o h', Fr h₀ L h' m → News h₀ L h' [(r, o), (one, tupO [.int a0 ta0, .int a1 ta1, .int a2 ta2]), (other, tupO [.int b0 tb0, .int b1 tb1, .int b2 tb2])] → Kept [one, other] s.heap h' → s.heap.get? r = none → News h₀ L h' ((r, o) :: all) ∧ AllNe r all := by
    intro r o h' F' N' K' hr
    refine ⟨fun p hp => ?_, allNe_of Na hr⟩
    rcases List.mem_cons.mp hp with rfl | hp
    · exact N' _ (List.mem_cons_self ..)
    · exact news_lift Na (fun q hq => N' q (List.mem_cons_of_mem _ hq)) K' hs p hp
  clear Na ho hs hm1 hm2
  refine wpAny_call ?_
  k_dflt (walk_at "enterCN")
  intro g L' h₁ tk cells FG F' N' Y' B' X' T' l1 kp
  (try k_lt l1)
  k_cells Y'
  (try simp only [List.cons_append, List.nil_append] at N')
  (try dsimp only); (try k_lift B'); (try k_fold)
  k_steps
  have fin := hfin _ _ _ (by k_asm) (by refine cb_drop (by assumption) ?_; kcj_all) (Kept.of kp (by assumption)) (fresh_of kp (by assumption) (List.Mem.head _) (nm2 (by k_ne) (by k_ne)))
  exact hret _ _ _ _ _ _ (by k_asm) fin.1 fin.2
end
end Mine
end
section
namespace Mine
abbrev D3 := Int × Int × Int
def num (d : D3) : Int := d.1 + 3 * d.2.1 + 9 * d.2.2
def thn (o e : D3) : D3 := (sel o.1 e.1 e.2.1 e.2.2, sel o.2.1 e.1 e.2.1 e.2.2, sel o.2.2 e.1 e.2.1 e.2.2)
def In3 (d : D3) : Prop := (0 ≤ d.1 ∧ d.1 ≤ 2) ∧ (0 ≤ d.2.1 ∧ d.2.1 ≤ 2) ∧ (0 ≤ d.2.2 ∧ d.2.2 ≤ 2)
theorem sel_in {a x y z : Int} (ha : 0 ≤ a ∧ a ≤ 2) (hx : 0 ≤ x ∧ x ≤ 2) (hy : 0 ≤ y ∧ y ≤ 2) (hz : 0 ≤ z ∧ z ≤ 2) : 0 ≤ sel a x y z ∧ sel a x y z ≤ 2 := by
  rcases (by omega : a = 0 ∨ a = 1 ∨ a = 2) with rfl | rfl | rfl
  · exact hx
  · exact hy
  · exact hz
theorem thn_in {o e : D3} (ho : In3 o) (he : In3 e) : In3 (thn o e) :=
  ⟨sel_in ho.1 he.1 he.2.1 he.2.2, sel_in ho.2.1 he.1 he.2.1 he.2.2, sel_in ho.2.2 he.1 he.2.1 he.2.2⟩
theorem num_inj {d e : D3} (hd : In3 d) (he : In3 e) (h : num d = num e) : d = e := by
  obtain ⟨a, b, c⟩ := d
  obtain ⟨x, y, z⟩ := e
  simp only [In3, num] at hd he h
  have h1 : a = x := by omega
  have h2 : b = y := by omega
  have h3 : c = z := by omega
  rw [h1, h2, h3]
theorem num_in {d : D3} (hd : In3 d) : 0 ≤ num d ∧ num d ≤ 26 := by
  simp only [In3, num] at *; omega
/-- a nodup sorted list of numbers 0..26 is short -/
theorem srt_ge {ns : List Int} (S : Srt ns) (hn : ns.Nodup) (h0 : ∀ x ∈ ns, 0 ≤ x) : ∀ i : Nat, i < ns.length → (i : Int) ≤ ns.getD i 0
  | 0, hi => by
    have : ns.getD 0 0 ∈ ns := by rw [List.getD_eq_getElem?_getD, List.getElem?_eq_getElem hi]; exact List.getElem_mem hi
    exact h0 _ this
  | i + 1, hi => by
    have ih := srt_ge S hn h0 i (by omega)
    have h1 := S i (i + 1) (by omega) hi
    have h2 : ns.getD i 0 ≠ ns.getD (i + 1) 0 := by
      rw [List.getD_eq_getElem?_getD, List.getD_eq_getElem?_getD, List.getElem?_eq_getElem hi, List.getElem?_eq_getElem (show i < ns.length by omega)]
      intro e
      have e' : ns[i] = ns[i + 1] := e
      exact (List.pairwise_iff_getElem.mp hn) i (i + 1) (by omega) hi (by omega) e'
    omega
theorem srt_short {ns : List Int} (S : Srt ns) (hn : ns.Nodup) (h0 : ∀ x ∈ ns, 0 ≤ x ∧ x ≤ 26) : ns.length ≤ 27 := by
  rcases Nat.lt_or_ge 27 ns.length with h | h
  · have h1 := srt_ge S hn (fun x hx => (h0 x hx).1) 27 h
    have h2 : ns.getD 27 0 ∈ ns := by rw [List.getD_eq_getElem?_getD, List.getElem?_eq_getElem h]; exact List.getElem_mem h
    have h3 := (h0 _ h2).2
    omega
  · exact h
end Mine
end
section
namespace Mine
theorem sel_sel {a y0 y1 y2 e0 e1 e2 : Int} (ha : 0 ≤ a ∧ a ≤ 2) : sel (sel a y0 y1 y2) e0 e1 e2 = sel a (sel y0 e0 e1 e2) (sel y1 e0 e1 e2) (sel y2 e0 e1 e2) := by
  rcases (by omega : a = 0 ∨ a = 1 ∨ a = 2) with rfl | rfl | rfl <;> rfl
theorem thn_assoc {x y e : D3} (hx : In3 x) : thn x (thn y e) = thn (thn x y) e := by
  simp only [thn, sel_sel hx.1, sel_sel hx.2.1, sel_sel hx.2.2]
/-- what the two deeds generate -/
inductive Gen (d0 d1 : D3) : D3 → Prop
  | zero : Gen d0 d1 d0
  | one : Gen d0 d1 d1
  | mul0 {x : D3} : Gen d0 d1 x → Gen d0 d1 (thn x d0)
  | mul1 {x : D3} : Gen d0 d1 x → Gen d0 d1 (thn x d1)
/-- the deeds of a list of refs -/
def WtAt (news : List (Addr × Obj)) : List Value → List D3 → Prop
  | [], [] => True
  | v :: vs, d :: ds => (∃ (p : Addr) (t0 t1 t2 : Tok), v = .ref p ∧ (p, tupO [.int d.1 t0, .int d.2.1 t1, .int d.2.2 t2]) ∈ news) ∧ WtAt news vs ds
  | _, _ => False
theorem WtAt.mono {l l' : List (Addr × Obj)} (h : ∀ p ∈ l, p ∈ l') : ∀ {vs : List Value} {ds : List D3}, WtAt l vs ds → WtAt l' vs ds
  | [], [], _ => trivial
  | _ :: _, _ :: _, ⟨⟨p, t0, t1, t2, e, hm⟩, r⟩ => ⟨⟨p, t0, t1, t2, e, h _ hm⟩, WtAt.mono h r⟩
  | [], _ :: _, x => x.elim
  | _ :: _, [], x => x.elim
theorem WtAt.snoc {l : List (Addr × Obj)} {p : Addr} {d : D3} {t0 t1 t2 : Tok} (hm : (p, tupO [.int d.1 t0, .int d.2.1 t1, .int d.2.2 t2]) ∈ l) : ∀ {vs : List Value} {ds : List D3}, WtAt l vs ds → WtAt l (vs ++ [.ref p]) (ds ++ [d])
  | [], [], _ => ⟨⟨p, t0, t1, t2, rfl, hm⟩, trivial⟩
  | _ :: _, _ :: _, ⟨a, r⟩ => ⟨a, WtAt.snoc hm r⟩
  | [], _ :: _, x => x.elim
  | _ :: _, [], x => x.elim
theorem WtAt.length {l : List (Addr × Obj)} : ∀ {vs : List Value} {ds : List D3}, WtAt l vs ds → vs.length = ds.length
  | [], [], _ => rfl
  | _ :: _, _ :: _, ⟨_, r⟩ => by simp [WtAt.length r]
  | [], _ :: _, x => x.elim
  | _ :: _, [], x => x.elim
theorem WtAt.get {l : List (Addr × Obj)} : ∀ {vs : List Value} {ds : List D3} {i : Nat} {v : Value}, WtAt l vs ds → vs[i]? = some v → ∃ d, ds[i]? = some d ∧ ∃ (p : Addr) (t0 t1 t2 : Tok), v = .ref p ∧ (p, tupO [.int d.1 t0, .int d.2.1 t1, .int d.2.2 t2]) ∈ l
  | _ :: _, d :: _, 0, _, ⟨a, _⟩, h => ⟨d, rfl, by simp only [List.getElem?_cons_zero, Option.some.injEq] at h; subst h; exact a⟩
  | _ :: _, _ :: _, i + 1, _, ⟨_, r⟩, h => by
    obtain ⟨d, e, z⟩ := WtAt.get (i := i) r (by simpa using h)
    exact ⟨d, by simpa using e, z⟩
  | [], [], _, _, _, h => by simp at h
  | [], _ :: _, _, _, x, _ => x.elim
  | _ :: _, [], _, _, x, _ => x.elim
/-- where the search for the closure stands: order `ns`, waiting `ds`, the first `i` of them done, of the next the first `k` -/
structure PI (d0 d1 : D3) (i k : Nat) (ds : List D3) (ns : List Int) : Prop where
  perm : ns.Perm (ds.map num)
  srt : Srt ns
  in3 : ∀ d ∈ ds, In3 d
  nodup : ds.Nodup
  gen : ∀ d ∈ ds, Gen d0 d1 d
  m0 : d0 ∈ ds
  m1 : d1 ∈ ds
  clo : ∀ (j : Nat) d, j < i → ds[j]? = some d → thn d d0 ∈ ds ∧ thn d d1 ∈ ds
  now : ∀ d, ds[i]? = some d → (0 < k → thn d d0 ∈ ds) ∧ (1 < k → thn d d1 ∈ ds)
theorem PI.mem {d0 d1 : D3} {i k : Nat} {ds : List D3} {ns : List Int} (h : PI d0 d1 i k ds ns) {d : D3} (hd : In3 d) : num d ∈ ns ↔ d ∈ ds := by
  rw [h.perm.mem_iff, List.mem_map]
  constructor
  · rintro ⟨e, he, hn⟩
    rw [← num_inj (h.in3 e he) hd hn]; exact he
  · intro hm; exact ⟨d, hm, rfl⟩
theorem map_nodup {ds : List D3} (hi : ∀ d ∈ ds, In3 d) (hn : ds.Nodup) : (ds.map num).Nodup := by
  induction ds with
  | nil => exact List.nodup_nil
  | cons d r ih =>
    rw [List.nodup_cons] at hn
    rw [List.map_cons, List.nodup_cons]
    refine ⟨fun hm => ?_, ih (fun e he => hi e (List.mem_cons_of_mem _ he)) hn.2⟩
    obtain ⟨e, he, q⟩ := List.mem_map.mp hm
    have := num_inj (hi e (List.mem_cons_of_mem _ he)) (hi d (List.mem_cons_self ..)) q
    exact hn.1 (this ▸ he)
theorem PI.nums {d0 d1 : D3} {i k : Nat} {ds : List D3} {ns : List Int} (h : PI d0 d1 i k ds ns) : ∀ x ∈ ns, 0 ≤ x ∧ x ≤ 26 := by
  intro x hx
  obtain ⟨d, hd, rfl⟩ := List.mem_map.mp (h.perm.mem_iff.mp hx)
  exact num_in (h.in3 d hd)
theorem PI.short {d0 d1 : D3} {i k : Nat} {ds : List D3} {ns : List Int} (h : PI d0 d1 i k ds ns) : ns.length ≤ 27 :=
  srt_short h.srt (h.perm.nodup_iff.mpr (map_nodup h.in3 h.nodup)) h.nums
theorem PI.len {d0 d1 : D3} {i k : Nat} {ds : List D3} {ns : List Int} (h : PI d0 d1 i k ds ns) : ds.length = ns.length := by
  rw [h.perm.length_eq, List.length_map]
/-- nothing new -/
theorem PI.old {d0 d1 e : D3} {i k : Nat} {ds : List D3} {ns : List Int} (h : PI d0 d1 i k ds ns) {d : D3} (hd : ds[i]? = some d) (he : (k = 0 ∧ e = d0) ∨ (k = 1 ∧ e = d1)) (hm : thn d e ∈ ds) : PI d0 d1 i (k + 1) ds ns :=
  ⟨h.perm, h.srt, h.in3, h.nodup, h.gen, h.m0, h.m1, h.clo, fun d' hd' => by
    rw [hd] at hd'
    cases hd'
    obtain ⟨a, b⟩ := h.now d hd
    rcases he with ⟨rfl, rfl⟩ | ⟨rfl, rfl⟩
    · exact ⟨fun _ => hm, fun q => by omega⟩
    · exact ⟨fun _ => a (by omega), fun _ => hm⟩⟩
/-- a new deed -/
theorem PI.new {d0 d1 e : D3} {i k : Nat} {ds : List D3} {ns ns' : List Int} (h : PI d0 d1 i k ds ns) {d : D3} (hd : ds[i]? = some d) (he : (k = 0 ∧ e = d0) ∨ (k = 1 ∧ e = d1)) (hm : thn d e ∉ ds) (he3 : In3 e) (hs : Srt ns') (hp : ns'.Perm (num (thn d e) :: ns)) :
    PI d0 d1 i (k + 1) (ds ++ [thn d e]) ns' := by
  have hdm : d ∈ ds := List.mem_of_getElem? hd
  have hil : i < ds.length := (List.getElem?_eq_some_iff.mp hd).1
  have lift : ∀ x, x ∈ ds → x ∈ ds ++ [thn d e] := fun x hx => List.mem_append_left _ hx
  refine ⟨?_, hs, ?_, ?_, ?_, lift _ h.m0, lift _ h.m1, ?_, ?_⟩
  · rw [List.map_append, List.map_singleton]
    exact hp.trans ((List.Perm.cons _ h.perm).trans (List.perm_append_comm (l₁ := [num (thn d e)])))
  · intro x hx
    rcases List.mem_append.mp hx with hx | hx
    · exact h.in3 x hx
    · rw [List.mem_singleton.mp hx]; exact thn_in (h.in3 d hdm) he3
  · rw [List.nodup_append]
    exact ⟨h.nodup, by simp, fun x hx y hy e => hm (by rw [← List.mem_singleton.mp hy, ← e]; exact hx)⟩
  · intro x hx
    rcases List.mem_append.mp hx with hx | hx
    · exact h.gen x hx
    · rw [List.mem_singleton.mp hx]
      rcases he with ⟨_, rfl⟩ | ⟨_, rfl⟩
      · exact .mul0 (h.gen d hdm)
      · exact .mul1 (h.gen d hdm)
  · intro j x hj hx
    rw [List.getElem?_append_left (by omega)] at hx
    exact ⟨lift _ (h.clo j x hj hx).1, lift _ (h.clo j x hj hx).2⟩
  · intro x hx
    rw [List.getElem?_append_left hil, hd] at hx
    cases hx
    obtain ⟨a, b⟩ := h.now d hd
    have hself : thn d e ∈ ds ++ [thn d e] := List.mem_append_right _ (List.mem_singleton.mpr rfl)
    rcases he with ⟨rfl, rfl⟩ | ⟨rfl, rfl⟩
    · exact ⟨fun _ => hself, fun q => by omega⟩
    · exact ⟨fun _ => lift _ (a (by omega)), fun _ => hself⟩
/-- both done: the next of the waiting -/
theorem PI.next {d0 d1 : D3} {i : Nat} {ds : List D3} {ns : List Int} (h : PI d0 d1 i 2 ds ns) : PI d0 d1 (i + 1) 0 ds ns :=
  { h with
    clo := fun j d hj hd => by
      rcases Nat.lt_or_ge j i with q | q
      · exact h.clo j d q hd
      · have e : j = i := by omega
        subst e
        exact ⟨(h.now d hd).1 (by omega), (h.now d hd).2 (by omega)⟩
    now := fun d _ => ⟨fun q => by omega, fun q => by omega⟩ }
/-- all done: closed -/
theorem PI.closed {d0 d1 : D3} {i k : Nat} {ds : List D3} {ns : List Int} (h : PI d0 d1 i k ds ns) (hi : ds.length ≤ i) : ∀ x y, x ∈ ds → y ∈ ds → thn x y ∈ ds := by
  have step : ∀ x, x ∈ ds → thn x d0 ∈ ds ∧ thn x d1 ∈ ds := fun x hx => by
    obtain ⟨j, hj, rfl⟩ := List.getElem_of_mem hx
    exact h.clo j _ (by omega) (by simp [hj])
  intro x y hx hy
  have g := h.gen y hy
  clear hy
  induction g with
  | zero => exact (step x hx).1
  | one => exact (step x hx).2
  | mul0 _ ih => rw [thn_assoc (h.in3 x hx)]; exact (step _ ih).1
  | mul1 _ ih => rw [thn_assoc (h.in3 x hx)]; exact (step _ ih).2
end Mine
end
section
set_option maxRecDepth 100000
namespace Mine
section
variable {prog : Program} {w : World} {A : Around} {E : Value → Shared → Prop} {s : Shared} {env : Env} {h₀ : Heap} {x : Str} {body : List Stmt} {Q : Flow → Shared → Prop}
def GEnd (h₀ : Heap) (L : Addr) (l I : Addr) (oI : Obj) (J : List Value → (Str → Option Value) → List (Addr × Obj) → Prop) (s₁ s₂ : Shared) : Prop :=
  ∃ h' tk m' news' vs' nn', s₂ = { s₁ with heap := h', toks := tk } ∧ Fr h₀ L h' m' ∧ News h₀ L h' ((I, oI) :: news') ∧ AllNe I news' ∧ (l, listOf vs'.toArray nn') ∈ news' ∧ J vs' m' news'
def GPost (h₀ : Heap) (L : Addr) (l I : Addr) (oI : Obj) (J : List Value → (Str → Option Value) → List (Addr × Obj) → Prop) (s₁ : Shared) (Q : Flow → Shared → Prop) (f : Flow) (s₂ : Shared) : Prop :=
  match f with
  | .ret v => Q (.ret v) s₂
  | .brk => Q .next s₂
  | .next => GEnd h₀ L l I oI J s₁ s₂
  | .cont => GEnd h₀ L l I oI J s₁ s₂
def GrowAt (prog : Program) (w : World) (A : Around) (h₀ : Heap) (env : Env) (x : Str) (body : List Stmt) (Q : Flow → Shared → Prop) (E : Value → Shared → Prop) (xv : Value) (s₁ : Shared) : Prop :=
  ∃ (l : Addr) (nn cap : Nat) (vs : List Value) (m : Str → Option Value) (news : List (Addr × Obj)) (J : Nat → List Value → (Str → Option Value) → List (Addr × Obj) → Prop),
    xv = .ref l ∧ A.handled = none ∧ Fr h₀ env.locals s₁.heap m ∧ News h₀ env.locals s₁.heap news ∧ (l, listOf vs.toArray nn) ∈ news ∧ J 0 vs m news ∧ (∀ i vs m news, J i vs m news → vs.length ≤ cap) ∧
    (∀ i vs nn v m news (I : Addr) oI h tk, vs[i]? = some v → (l, listOf vs.toArray nn) ∈ news → J i vs m news → AllNe I news → oI.cls = .type "list_iterator" → Fr h₀ env.locals h (fun y => if y = x then some v else m y) → News h₀ env.locals h ((I, oI) :: news) →
      wpAny (model prog w) A (execs body env) (GPost h₀ env.locals l I oI (J (i + 1)) { s₁ with heap := h, toks := tk } Q) E { s₁ with heap := h, toks := tk }) ∧
    (∀ i vs m news h tk, vs.length ≤ i → J i vs m news → Fr h₀ env.locals h m → News h₀ env.locals h news → Q .next { s₁ with heap := h, toks := tk })
theorem for_grow {px pos : Pos} {iter : Expr} (hx : env.kindOf x = some .local) (hp : (env.scope.kind == .class || (env.scope.kind == .module && env.locals != env.globals)) = false) (hE : PassesOwn (model prog w) A env E)
    (h : wpAny (model prog w) A (eval iter env) (GrowAt prog w A h₀ env x body Q E) E s) (hs : ∀ x, foldedSetIterable iter env x = pure x := by intro _; rfl) :
    wpAny (model prog w) A (exec (.For (.Name x px) iter body [] pos) env) Q E s := by
  refine wpAny_For (wpAny_mono h (fun xv s₁ h₁ => ?_) fun _ _ e => e) hs
  obtain ⟨l, nn, cap, vs, m, news, J, rfl, hh, F, N, hm, hj, hcap, turn, done⟩ := h₁
  refine wpAny_pyIter_list (items := vs.toArray) ⟨_, (N _ hm).1, rfl, nn, rfl⟩ ?_
  have hI0 : h₀.get? s₁.heap.objs.size = none := next_is_new F
  have hIL : env.locals ≠ s₁.heap.objs.size := Nat.ne_of_lt F.ns.lt
  refine codeAny_forLoop (R := fun r s' => match r with | .ok f => Q f s' | .error e => cameBackBy (model prog w) A env E e s')
    (fun k s' => ∃ h' tk i vs nn m news oI, s' = { s₁ with heap := h', toks := tk } ∧ k = cap + 1 - i ∧ Fr h₀ env.locals h' m ∧ News h₀ env.locals h' ((s₁.heap.objs.size, oI) :: news) ∧ AllNe s₁.heap.objs.size news ∧ (l, listOf vs.toArray nn) ∈ news ∧ J i vs m news ∧
      oI.cls = .type "list_iterator" ∧ oI.data = .fields #[.ref l, .int i 0]) ?_ (cap + 1)
    ⟨_, s₁.toks, 0, vs, nn, m, news, { cls := .type "list_iterator", data := .fields #[.ref l, .int 0 0] }, rfl, rfl, F.push _, ?_, allNe_of N (Heap.get?_none_of_le (Nat.le_refl _)), hm, hj, rfl, rfl⟩
  · rintro k s' ⟨h', tk, i, vs, nn, m, news, oI, rfl, rfl, F, N, ha, hm, hj, hc, hd⟩
    have hN : News h₀ env.locals h' news := fun p hp => N p (List.mem_cons_of_mem _ hp)
    have hit : h'.IsListIter s₁.heap.objs.size l i := ⟨oI, (N _ (List.mem_cons_self ..)).1, hc, hd⟩
    have hl : h'.IsList l vs.toArray := ⟨_, (hN _ hm).1, rfl, nn, rfl⟩
    by_cases hlt : i < vs.length
    · refine wpAny_pyNext_list_item hit hl (x := vs[i]) (by simp [hlt]) fun h₂ hit₂ hs₂ => ?_
      have F₂ : Fr h₀ env.locals h₂ m := F.change hs₂ (Ne.symm hIL) hI0
      refine wpAny_assign_Name (wpAny_storeName_local hx F₂.ns (fun h₃ hn₃ hs₃ => ?_) hp)
      have F₃ := F₂.set hn₃ hs₃
      obtain ⟨oI', hoI', hc', hd'⟩ := hit₂
      have N₃ : News h₀ env.locals h₃ ((s₁.heap.objs.size, oI') :: news) := fun p hp => by
        rcases List.mem_cons.mp hp with rfl | hp
        · exact ⟨hs₃.extBut _ _ (Ne.symm hIL) hoI', Ne.symm hIL, hI0⟩
        · exact ⟨hs₃.extBut _ _ (hN p hp).2.1 (hs₂.extBut _ _ (ha.off p hp) (hN p hp).1), (hN p hp).2⟩
      refine wpAny_mono (turn i vs nn vs[i] m news _ oI' h₃ _ (by simp [hlt]) hm hj ha hc' F₃ N₃) (fun f s₃ h₃ => ?_) hE
      have nxt : ∀ hq tq, GEnd h₀ env.locals l s₁.heap.objs.size oI' (J (i + 1)) { s₁ with heap := hq, toks := tq } s₃ → ∃ k, k < cap + 1 - i ∧ ∃ h' tk i vs nn m news oI, s₃ = { s₁ with heap := h', toks := tk } ∧ k = cap + 1 - i ∧ Fr h₀ env.locals h' m ∧ News h₀ env.locals h' ((s₁.heap.objs.size, oI) :: news) ∧ AllNe s₁.heap.objs.size news ∧ (l, listOf vs.toArray nn) ∈ news ∧ J i vs m news ∧ oI.cls = .type "list_iterator" ∧ oI.data = .fields #[.ref l, .int i 0] := by
        rintro hq tq ⟨h', tk', m', news', vs', nn', rfl, F', N', ha', hm', hj'⟩
        have hle := hcap _ _ _ _ hj
        exact ⟨cap + 1 - (i + 1), by omega, h', tk', i + 1, vs', nn', m', news', oI', rfl, rfl, F', N', ha', hm', hj', hc', hd'⟩
      cases f with
      | ret v => exact h₃
      | brk => exact h₃
      | next => exact nxt _ _ h₃
      | cont => exact nxt _ _ h₃
    · refine wpAny_pyNext_list_end hh hit hl (by simp; omega) fun h₂ hs₂ => wpAny_execs_nil ?_
      refine done i vs m news h₂ tk (by omega) hj ⟨F.ns.at' fun o e => hs₂ _ _ hIL e, fun b o e => hs₂ b o (fun q => by rw [q, hI0] at e; cases e) (F.keep b o e), F.above⟩ fun p hp => ⟨hs₂ _ _ (ha.off p hp) (hN p hp).1, (hN p hp).2⟩
  · intro p hp
    rcases List.mem_cons.mp hp with rfl | hp
    · exact ⟨Heap.get?_push_size _ rfl, Ne.symm hIL, hI0⟩
    · exact ⟨Heap.get?_push_of_some _ (N p hp).1, (N p hp).2⟩
end
end Mine
end
example : True := by
  w_top off
  trivial
section
namespace Mine


example : True := by
  k_with_none
  trivial
section
variable {prog : Program} {w : World} {mg mb : Str → Option Value} {mean : ExcName → Option Value} {loose : List Str}
  {dp un : Nat} {gd : Option (List Code)} {cn : Str} {cs : Scope} {L a : Addr} {ccd : Value} {cl : List (Str × Addr)} {outer : List Env} {A₀ : Around} {base h₀ : Heap} {m : Str → Option Value} {news : List (Addr × Obj)} {s : Shared} {Q E : Value → Shared → Prop}

set_option maxRecDepth 100000 in
set_option maxHeartbeats 4000000 in
theorem c_number {d : Addr} {x y z : Int} {tx ty tz : Tok}
    (B : Below A₀ base outer h₀) (F : Fr h₀ L s.heap m) (X : (hd.heap_39 w.params).In h₀) (N : News h₀ L s.heap news) (T : Top topProg loose mean mg mb h₀) (hk : cs.kind = .function)
    (hdp : dp + 1 < recursionLimit) (hun : un + 8 < cLine)
    (hm : (d, tupO [.int x tx, .int y ty, .int z tz]) ∈ news) (hx0 : 0 ≤ x) (hx : x ≤ 2) (hy0 : 0 ≤ y) (hy : y ≤ 2) (hz0 : 0 ≤ z) (hz : z ≤ 2)
    (hret : ∀ t h' tk', Fr h₀ L h' m → News h₀ L h' news → Q (.int (x + 3 * y + 9 * z) t) { s with heap := h', toks := tk' }) :
    wpAny (model prog w) (ktrTop dp un gd cn cs L a ccd cl outer) (call (.ref 81) [.ref d]) Q E s := by
  refine wpAny_call ?_
  k_dflt ktr_enter
  k_steps
  exact hret _ _ _ (by k_asm) (by k_asm)
end
end Mine
end
section
set_option maxRecDepth 100000
namespace Mine
/-- pair tuples of a ledger, int keys -/
def PairsIn (news : List (Addr × Obj)) : List Value → List (Int × Value) → Prop
  | [], [] => True
  | v :: vs, kv :: kws => (∃ (p : Addr) (t : Tok) (nn : Nat), v = .ref p ∧ (p, ({ cls := .type "tuple", data := .seq #[.int kv.1 t, kv.2] nn } : Obj)) ∈ news) ∧ PairsIn news vs kws
  | _, _ => False
theorem PairsIn.length {news : List (Addr × Obj)} : ∀ {vs : List Value} {kws : List (Int × Value)}, PairsIn news vs kws → kws.length = vs.length
  | [], [], _ => rfl
  | _ :: _, _ :: _, h => by simp [PairsIn.length h.2]
  | [], _ :: _, h => h.elim
  | _ :: _, [], h => h.elim
section
variable {prog : Program} {w : World} {A : Around} {E : Value → Shared → Prop} {s : Shared} {h₀ : Heap} {L : Addr} {m : Str → Option Value} {news : List (Addr × Obj)}
theorem PairsIn.at (N : News h₀ L s.heap news) : ∀ {vs : List Value} {kws : List (Int × Value)}, PairsIn news vs kws → ∀ (j : Nat) x kv, vs[j]? = some x → kws[j]? = some kv → PairAt (intKind prog w) s.heap x kv
  | v :: vs, k :: kws, ⟨⟨p, t, nn, e, hm⟩, _⟩, 0, x, kv, hx, hk => by
    simp only [List.getElem?_cons_zero, Option.some.injEq] at hx hk
    subst hx hk
    exact ⟨p, _, e, ⟨_, (N _ hm).1, rfl, nn, rfl⟩, intKind_is prog w _ _⟩
  | v :: vs, k :: kws, ⟨_, h⟩, j + 1, x, kv, hx, hk => PairsIn.at N h j x kv (by simpa using hx) (by simpa using hk)
  | [], [], _, _, _, _, hx, _ => by simp at hx
  | [], _ :: _, h, _, _, _, _, _ => h.elim
  | _ :: _, [], h, _, _, _, _, _ => h.elim
theorem dict_pairs_N {l : Addr} {vs : List Value} {nn : Nat} {kws : List (Int × Value)} {Q : Value → Shared → Prop} (F : Fr h₀ L s.heap m) (N : News h₀ L s.heap news) (hbig : h₀.NoLimit) (hh : A.handled = none)
    (hl : (l, ({ cls := .type "list", data := .seq vs.toArray nn } : Obj)) ∈ news) (hp : PairsIn news vs kws) (hsz : vs.length ≤ 1000)
    (h : ∀ d h' tk o, Fr h₀ L h' m → News h₀ L h' ((d, o) :: news) → (∀ p ∈ news, p.1 < d) → (d == sysModules) = false → o.IsDictOf (intKind prog w) (dictFold kws) → Q (.ref d) { s with heap := h', toks := tk }) :
    wpAny (model prog w) A (call (.type "dict") [.ref l]) Q E s := by
  refine call_dict_pairs (knd := intKind prog w) (kws := kws) hh (N _ hl).1 (by simpa using hp.length) (by simpa using hsz) (fun j x kv hx hk => hp.at N j x kv (by simpa using hx) hk) fun h' tk hk hd => ?_
  obtain ⟨o', ho', hd'⟩ := Heap.dictOf_iff.mp hd
  have hL : L < s.heap.objs.size := F.ns.lt
  refine h _ h' tk o' (F.keeps hk) (fun p hp => ?_) (fun p hp => Heap.lt_size (N p hp).1) (F.notModules (modules_low hbig)) hd'
  rcases List.mem_cons.mp hp with rfl | hp
  · exact ⟨ho', Nat.ne_of_gt hL, next_is_new F⟩
  · exact ⟨hk _ _ (N p hp).1, (N p hp).2⟩
end
def keyStep (ks : List Int) (k : Int) : List Int := if k ∈ ks then ks else ks ++ [k]
def distinct (ks : List Int) : Nat := (ks.foldl keyStep []).length
theorem stored_keys (kvs : List (Int × Value)) (k : Int) (v : Value) : (stored kvs k v).map (·.1) = keyStep (kvs.map (·.1)) k := by
  unfold stored keyStep
  have e : (kvs.any fun kv => decide (kv.1 = k)) = decide (k ∈ kvs.map (·.1)) := by
    rw [Bool.eq_iff_iff]; simp [List.any_eq_true, List.mem_map]
  rw [e]
  by_cases h : k ∈ kvs.map (·.1)
  · rw [if_pos (by simpa using h), if_pos h, List.map_map]
    refine List.map_congr_left fun kv _ => ?_
    simp only [Function.comp]; split <;> simp_all
  · rw [if_neg (by simpa using h), if_neg h, List.map_append]; rfl
theorem fold_keys (kws : List (Int × Value)) : ∀ acc : List (Int × Value), ((kws.foldl (fun a kv => stored a kv.1 kv.2) acc).map (·.1)) = (kws.map (·.1)).foldl keyStep (acc.map (·.1)) := by
  induction kws with
  | nil => intro _; rfl
  | cons kv r ih => intro acc; simp only [List.foldl_cons, List.map_cons]; rw [ih, stored_keys]
theorem dictFold_length (kws : List (Int × Value)) : (dictFold kws).length = distinct (kws.map (·.1)) := by
  have h := fold_keys kws []
  rw [← List.length_map (f := fun kv : Int × Value => kv.1), dictFold, h]; rfl
theorem keyStep_length (ks : List Int) (k : Int) : (keyStep ks k).length ≤ ks.length + 1 := by
  unfold keyStep; split <;> simp
theorem distinct_le (ks : List Int) : distinct ks ≤ ks.length := by
  have h : ∀ (l acc : List Int), (l.foldl keyStep acc).length ≤ acc.length + l.length := by
    intro l
    induction l with
    | nil => intro acc; simp
    | cons k r ih => intro acc; have := ih (keyStep acc k); have := keyStep_length acc k; simp only [List.foldl_cons, List.length_cons]; omega
  simpa [distinct] using h ks []
section
variable {prog : Program} {w : World} {A : Around} {E : Value → Shared → Prop} {s : Shared} {h₀ : Heap} {L : Addr} {m : Str → Option Value} {news : List (Addr × Obj)}
theorem len_dict_N {d : Addr} {o : Obj} {kws : List (Int × Value)} {Q : Value → Shared → Prop} (N : News h₀ L s.heap news) (hm : (d, o) ∈ news) (hd : (d == sysModules) = false) (ho : o.IsDictOf (intKind prog w) (dictFold kws)) (hz : kws.length ≤ 1000)
    (h : ∀ t tk, Q (.int (distinct (kws.map (·.1)) : Nat) t) { s with toks := tk }) : wpAny (model prog w) A (call (.builtin "len") [.ref d]) Q E s := by
  have hle : (dictFold kws).length ≤ 1000 := by rw [dictFold_length]; exact Nat.le_trans (distinct_le _) (by simpa using hz)
  refine call_len_dict (knd := intKind prog w) hd (Heap.dictOf_iff.mpr ⟨o, (N _ hm).1, ho⟩) (by omega) ?_
  rw [dictFold_length]
  exact h _ _
end
end Mine
end
example : True := by
  w_top off
  trivial
section
namespace Mine
example : True := by
  k_with_none
  k_with "k_lt" => skip
  k_with "k_ne" => (refine neN ?_; (try dsimp only); first | with_reducible assumption | exact Ne.symm (by with_reducible assumption) | exact Nat.ne_of_lt (by with_reducible assumption) | exact Nat.ne_of_gt (by with_reducible assumption) | exact AllNe.off (by with_reducible assumption) (_, _) (by k_mem) | exact Ne.symm (AllNe.off (by with_reducible assumption) (_, _) (by k_mem)) | exact lt_ne (by with_reducible assumption) (_, _) (by k_mem) | exact Ne.symm (lt_ne (by with_reducible assumption) (_, _) (by k_mem)) | exact off_I (by with_reducible assumption) (_, _) (by k_mem) | exact Ne.symm (off_I (by with_reducible assumption) (_, _) (by k_mem)) | exact off_C (by with_reducible assumption) (_, _) (by k_mem) | exact Ne.symm (off_C (by with_reducible assumption) (_, _) (by k_mem)) | exact off_D (by with_reducible assumption) (_, _) (by k_mem) | exact Ne.symm (off_D (by with_reducible assumption) (_, _) (by k_mem)) | exact off1_mem (by with_reducible assumption) (_, _) (by k_mem) | exact Ne.symm (off1_mem (by with_reducible assumption) (_, _) (by k_mem)) | (walk_say "NE OMEGA"; omega))
  k_with "k_all" => first | exact lt_ne (by with_reducible assumption) | exact AllNe.off (by with_reducible assumption) | exact off_I (by with_reducible assumption) | exact off_C (by with_reducible assumption) | exact off_D (by with_reducible assumption) | exact off1_mem (by with_reducible assumption) | exact List.forall_mem_nil _ | (refine' List.forall_mem_cons.mpr ⟨?Za, ?Zb⟩; (case Za => k_ne); (case Zb => k_all)) | (intro p9 hp9; exact lt_ne (by with_reducible assumption) p9 (by k_mem)) | (intro p9 hp9; exact AllNe.off (by with_reducible assumption) p9 (by k_mem)) | (intro p9 hp9; exact off1_mem (by with_reducible assumption) p9 (by k_mem)) | fail "k_all"
  k_with "CompRest" => (with_unfolding_all first | (refine LCg.CompRest.succ ?_; intro v' I' oI' C' oC' D' m' h' tk' E' hv' hC' hx' F' N' off' ne'; (first | lcg_open hv' | (obtain ⟨t9', hv9'⟩ := hv'; subst hv9'))) | refine LCg.CompRest.zero ?_)
  k_with "FinE" => ((unfold LCg.FinE); intro D' h' tk' F' N' o1'; (try simp only [List.nil_append, List.cons_append] at N'); (try dsimp only); (repeat (rename LCg.Off3 _ _ _ _ => zz; clear zz)))
  k_with "FinA" => ((unfold LCg.FinA); intro D' h' tk' F' N' o1'; (try simp only [List.nil_append, List.cons_append] at N'); (try dsimp only); (repeat (rename LCg.Off3 _ _ _ _ => zz; clear zz)))
  k_with "CompEnd" => k_dflt (first | (refine' CompEnd_keep ?ZF ?ZN ?Zoff ?ZhI ?ZhC ?ZhD ?Zsrc ?_; (case ZF => k_asm); (case ZN => with_reducible assumption); (case Zoff => with_reducible assumption); (case ZhI => k_ne); (case ZhC => k_ne); (case ZhD => k_ne); (case Zsrc => lcg_src)) | (refine' CompEnd_same ?ZF ?ZN ?Zoff ?Zsrc ?_; (case ZF => k_asm); (case ZN => with_reducible assumption); (case Zoff => with_reducible assumption); (case Zsrc => lcg_src)) | (refine' CompEnd_drop ?ZF ?ZN ?Zoff ?Zsrc ?_; (case ZF => k_asm); (case ZN => with_reducible assumption); (case Zoff => with_reducible assumption); (case Zsrc => lcg_src)))
  k_with "enterN" => (refine' code_defN ?Zk1 ?Zk2 ?Zk3 ?Zk4 ?Zk5 ?ZkA ?ZkF ?ZkK ?Zk6 ?Zk7 ?Zk8 ?Zk9 ?ZkB ?_ ?Zc2 ?Zc3 ?Zc4 ?Zc5; (case ZkA => exact rfl); (case ZkF => exact rfl); (case ZkK => assumption); (case Zk1 => k_asm); (case Zk2 => k_asm); (case Zk3 => k_asm); (case Zk4 => k_asm); (case Zk5 => k_asm); (case Zk6 => k_is); (case Zk7 => k_is); (case Zk8 => ktr_room); (case Zk9 => exact BindsTo.of_eq rfl); (case Zc5 => decide); (case ZkB => exact locs rfl); (case Zc2 => exact rfl); (case Zc3 => exact rfl); (case Zc4 => exact rfl); k_whole)
  k_with "eval ListComp" => (k_here; k_dflt (refine lc_tup (F₀ := by k_asm) (by with_unfolding_all rfl) (by decide) (by rfl) (by decide) (by rfl) ?_))
  k_with "SrcT" => (k_here; k_dflt (refine SrcT.ledger (by rfl) (by k_asm) (by k_asm) (by k_mem) (by first | size_fits | exact Nat.le_of_ble_eq_true rfl) ?_; intro g'; lcg_lit))
  trivial

example : True := by
  k_with "call type:dict" => (k_here; (with_reducible show wpAny _ _ (call (Value.type "dict") [Value.ref _]) _ _ _); k_dflt ((first | (refine dict_pairs_N (kws := [(_, _)]) (by k_asm) (by k_asm) (Top.nolimit (by k_asm)) (by rfl) (by k_mem) (by exact ⟨⟨_, _, _, rfl, by k_mem⟩, True.intro⟩) (by exact Nat.le_of_ble_eq_true rfl) ?_) | (refine dict_pairs_N (kws := [(_, _), (_, _)]) (by k_asm) (by k_asm) (Top.nolimit (by k_asm)) (by rfl) (by k_mem) (by exact ⟨⟨_, _, _, rfl, by k_mem⟩, ⟨_, _, _, rfl, by k_mem⟩, True.intro⟩) (by exact Nat.le_of_ble_eq_true rfl) ?_) | (refine dict_pairs_N (kws := [(_, _), (_, _), (_, _)]) (by k_asm) (by k_asm) (Top.nolimit (by k_asm)) (by rfl) (by k_mem) (by exact ⟨⟨_, _, _, rfl, by k_mem⟩, ⟨_, _, _, rfl, by k_mem⟩, ⟨_, _, _, rfl, by k_mem⟩, True.intro⟩) (by exact Nat.le_of_ble_eq_true rfl) ?_)); intro d' h' tk' o' F' N' l1 lo' hd'; (try k_lt l1)))
  k_with "call builtin:len" => (k_here; (with_reducible show wpAny _ _ (call (Value.builtin "len") [Value.ref _]) _ _ _); k_dflt (refine len_dict_N (by k_asm) (by k_mem) (by assumption) (by assumption) (by exact Nat.le_of_ble_eq_true rfl) ?_; intro t' tk'))
  trivial
section
variable {prog : Program} {w : World} {mg mb : Str → Option Value} {mean : ExcName → Option Value} {loose : List Str}
  {dp un : Nat} {gd : Option (List Code)} {cn : Str} {cs : Scope} {L a : Addr} {ccd : Value} {cl : List (Str × Addr)} {outer : List Env} {A₀ : Around} {base h₀ : Heap} {m : Str → Option Value} {s : Shared} {Q E : Value → Shared → Prop}

def rch (a b c : Int) : Int := (distinct [a, b, c] : Nat)
set_option maxRecDepth 100000 in
set_option maxHeartbeats 8000000 in
theorem c_reach {all : List (Addr × Obj)} {one : Nat} {a0 a1 a2 : Int} {ta0 ta1 ta2 : Tok}
    (B : Below A₀ base outer h₀) (F : Fr h₀ L s.heap m) (X : (hd.heap_39 w.params).In h₀) (T : Top topProg loose mean mg mb h₀) (hk : cs.kind = .function) (Na : News h₀ L s.heap all)
    (hm1 : (one, tupO [.int a0 ta0, .int a1 ta1, .int a2 ta2]) ∈ all)
    (hdp : dp + 24 < recursionLimit) (hun : un + 240 < cLine)
    (hret : ∀ t h' tk', Fr h₀ L h' m → News h₀ L h' all → Q (.int (rch a0 a1 a2) t) { s with heap := h', toks := tk' }) :
    wpAny (model prog w) (ktrTop dp un gd cn cs L a ccd cl outer) (call (.ref 105) [.ref one]) Q E s := by
  have N : News h₀ L s.heap [(one, tupO [.int a0 ta0, .int a1 ta1, .int a2 ta2])] := fun q hq => by rw [List.mem_singleton.mp hq]; exact Na _ hm1
  have hs : ∀ q ∈ [(one, tupO [.int a0 ta0, .int a1 ta1, .int a2 ta2])], s.heap.get? q.1 = some q.2 := fun q hq => (N q hq).1
  have hfin : ∀ h', News h₀ L h' [(one, tupO [.int a0 ta0, .int a1 ta1, .int a2 ta2])] → Kept [one] s.heap h' → News h₀ L h' all := fun h' N' K' => news_lift Na N' K' hs
  clear Na hs hm1
  refine wpAny_call ?_
  k_dflt (walk_at "enterN")
  intro g L' h₁ FG F' N' B' X' T' kp
  (try dsimp only); (try k_fold)
  k_steps
  exact hret _ _ _ (by k_asm) (hfin _ (by refine cb_drop (by assumption) ?_; kcj_all) (Kept.of kp (by assumption)))
end
end Mine
end
section
set_option maxRecDepth 100000
namespace Mine
theorem srt_nil : Srt [] := fun i j _ h => by simp at h
section
variable {prog : Program} {w : World} {mg mb : Str → Option Value} {mean : ExcName → Option Value} {loose : List Str}
  {dp un : Nat} {gd : Option (List Code)} {cn : Str} {cs : Scope} {L a : Addr} {ccd : Value} {cl : List (Str × Addr)} {outer : List Env} {A₀ : Around} {base h₀ : Heap} {m : Str → Option Value} {s : Shared} {Q E : Value → Shared → Prop}
theorem mem_of_erase {l : List (Addr × Obj)} : ∀ {p : Nat} {q : Addr × Obj}, l[p]? = some q → ∀ x ∈ q :: l.eraseIdx p, x ∈ l := fun {p q} hp x hx => by
  rcases List.mem_cons.mp hx with rfl | hx
  · exact List.mem_of_getElem? hp
  · exact List.mem_of_mem_eraseIdx hx
theorem c_insortAt (p : Nat) {all : List (Addr × Obj)} {o : Nat} {vs : List Value} {ns : List Int} {nn : Nat} {x : Int} {tx : Tok}
    (B : Below A₀ base outer h₀) (F : Fr h₀ L s.heap m) (X : (hd.heap_39 w.params).In h₀) (T : Top topProg loose mean mg mb h₀) (hk : cs.kind = .function) (Na : News h₀ L s.heap all) (hp : all[p]? = some (o, W.listOf vs.toArray nn))
    (hr : AllNe o (all.eraseIdx p)) (hi : IntsAre vs ns) (hlen : ns.length ≤ 1000) (hS : Srt ns)
    (hdp : dp + 30 < recursionLimit) (hun : un + 300 < cLine)
    (hret : ∀ vs' ns' nn' h' tk', Fr h₀ L h' m → News h₀ L h' ((o, W.listOf vs'.toArray nn') :: all.eraseIdx p) → IntsAre vs' ns' → Srt ns' → ns'.Perm (x :: ns) → Q .none { s with heap := h', toks := tk' }) :
    wpAny (model prog w) (ktrTop dp un gd cn cs L a ccd cl outer) (call (.ref 65) [.ref o, .int x tx]) Q E s :=
  c_insort B F X T hk (fun q hq => Na q (mem_of_erase hp q hq)) hr hi hlen hS hdp hun hret
end
open Classical in
theorem notin_t {prog : Program} {w : World} {A : Around} {E : Value → Shared → Prop} {s : Shared} {h₀ : Heap} {L a : Addr} {news : List (Addr × Obj)} {oa : Obj} {its : Array Value} {ka : Nat} {ds : List Dat} {x : Value} {d : Dat} {Q : Value → Shared → Prop}
    (N : News h₀ L s.heap news) (ma : (a, oa) ∈ news) (ca : oa.cls = .type "list") (da : oa.data = .seq its ka) (Da : DatAll news its.toList ds) (Dx : DatIn news x d) (ha : ∀ d ∈ ds, kqdOk 8 d = true) (hd : kqdOk 8 d = true) (hu : A.units + 64 < cLine)
    (hn : d ∉ ds) (h : Q (.bool true) s) : wpAny (model prog w) A (compareOp .NotIn x (.ref a)) Q E s :=
  kqd_notIn N ma ca (by rw [da]) Da (fun _ h => h) Dx (fun _ h => h) ha hd hu (by rw [decide_eq_false hn]; exact h)
open Classical in
theorem notin_f {prog : Program} {w : World} {A : Around} {E : Value → Shared → Prop} {s : Shared} {h₀ : Heap} {L a : Addr} {news : List (Addr × Obj)} {oa : Obj} {its : Array Value} {ka : Nat} {ds : List Dat} {x : Value} {d : Dat} {Q : Value → Shared → Prop}
    (N : News h₀ L s.heap news) (ma : (a, oa) ∈ news) (ca : oa.cls = .type "list") (da : oa.data = .seq its ka) (Da : DatAll news its.toList ds) (Dx : DatIn news x d) (ha : ∀ d ∈ ds, kqdOk 8 d = true) (hd : kqdOk 8 d = true) (hu : A.units + 64 < cLine)
    (hn : d ∈ ds) (h : Q (.bool false) s) : wpAny (model prog w) A (compareOp .NotIn x (.ref a)) Q E s :=
  kqd_notIn N ma ca (by rw [da]) Da (fun _ h => h) Dx (fun _ h => h) ha hd hu (by rw [decide_eq_true hn]; exact h)
end Mine
end
section
set_option maxRecDepth 100000
namespace Mine
theorem bis_not {ns : List Int} {x p : Int} (S : Srt ns) (b : BInv ns x p p) (p0 : 0 ≤ p) (h : p < ns.length → ns.getD p.toNat 0 ≠ x) : x ∉ ns := by
  intro hm
  obtain ⟨i, hi, e⟩ := List.getElem_of_mem hm
  have ge : ns.getD i 0 = x := by rw [List.getD_eq_getElem?_getD, List.getElem?_eq_getElem hi]; exact e
  rcases Int.lt_or_le (i : Int) p with q | q
  · have := b.1 i q hi
    omega
  · have h1 := b.2 p.toNat (by omega) (by omega)
    have h2 := S p.toNat i (by omega) hi
    exact h (by omega) (by omega)
theorem bis_mem {ns : List Int} {x p : Int} (p0 : 0 ≤ p) (h : p < ns.length) (e : ns.getD p.toNat 0 = x) : x ∈ ns := by
  have hl : p.toNat < ns.length := by omega
  rw [List.getD_eq_getElem?_getD, List.getElem?_eq_getElem hl] at e
  exact e ▸ List.getElem_mem hl
/-- before the search: unlike deeds -/
theorem PI.start2 {d0 d1 : D3} {ns : List Int} (h0 : In3 d0) (h1 : In3 d1) (hne : d1 ≠ d0) (hs : Srt ns) (hp : ns.Perm [num d1, num d0]) : PI d0 d1 0 0 [d0, d1] ns where
  perm := hp.trans (List.Perm.swap _ _ _)
  srt := hs
  in3 := fun d hd => by
    rcases List.mem_cons.mp hd with rfl | hd
    · exact h0
    · rw [List.mem_singleton.mp hd]; exact h1
  nodup := by simp [Ne.symm hne]
  gen := fun d hd => by
    rcases List.mem_cons.mp hd with rfl | hd
    · exact .zero
    · rw [List.mem_singleton.mp hd]; exact .one
  m0 := by simp
  m1 := by simp
  clo := fun j d hj => by omega
  now := fun d _ => ⟨fun q => by omega, fun q => by omega⟩
theorem PI.start1 {d0 : D3} {ns : List Int} (h0 : In3 d0) (hs : Srt ns) (hp : ns.Perm [num d0]) : PI d0 d0 0 0 [d0] ns where
  perm := hp
  srt := hs
  in3 := fun d hd => by rw [List.mem_singleton.mp hd]; exact h0
  nodup := by simp
  gen := fun d hd => by rw [List.mem_singleton.mp hd]; exact .zero
  m0 := by simp
  m1 := by simp
  clo := fun j d hj => by omega
  now := fun d _ => ⟨fun q => by omega, fun q => by omega⟩
section
variable {h₀ : Heap} {L : Addr}
/-- the ledger of _law_made between two turns -/
def JLed (ord wait dl d0 d1 k : Nat) (o0 o1 : Obj) (vw : List Value) (vo : List Value) (no nw : Nat) (tail : List (Addr × Obj)) : List (Addr × Obj) :=
  (ord, W.listOf vo.toArray no) :: (wait, W.listOf vw.toArray nw) :: (dl, W.listOf #[.ref d0, .ref d1] k) :: (d0, o0) :: (d1, o1) :: tail
abbrev tup3 (d : D3) (t0 t1 t2 : Tok) : Obj := tupO [.int d.1 t0, .int d.2.1 t1, .int d.2.2 t2]
def JOut (A B : D3) (ord wait dl d0 d1 k : Nat) (o0 o1 : Obj) (i : Nat) (vw : List Value) (m : Str → Option Value) (news : List (Addr × Obj)) : Prop :=
  ∃ vo ns no nw ds tail, news = JLed ord wait dl d0 d1 k o0 o1 vw vo no nw tail ∧ IntsAre vo ns ∧ WtAt ((d0, o0) :: (d1, o1) :: tail) vw ds ∧ PI A B i 0 ds ns ∧ m (Str.ofString "order") = some (.ref ord) ∧ m (Str.ofString "waiting") = some (.ref wait) ∧ m (Str.ofString "deeds") = some (.ref dl)
def JIn (A B : D3) (ord wait dl d0 d1 k : Nat) (o0 o1 : Obj) (I : Nat) (oI : Obj) (i : Nat) (d : D3) (p : Nat) (t0 t1 t2 : Tok) (j : Nat) (vd : List Value) (m : Str → Option Value) (news : List (Addr × Obj)) : Prop :=
  vd = [.ref d0, .ref d1] ∧ ∃ vw vo ns no nw ds tail, news = (I, oI) :: JLed ord wait dl d0 d1 k o0 o1 vw vo no nw tail ∧ AllNe I (JLed ord wait dl d0 d1 k o0 o1 vw vo no nw tail) ∧ IntsAre vo ns ∧ WtAt ((d0, o0) :: (d1, o1) :: tail) vw ds ∧ PI A B i j ds ns ∧ ds[i]? = some d ∧ (p, tup3 d t0 t1 t2) ∈ (d0, o0) :: (d1, o1) :: tail ∧
    m (Str.ofString "order") = some (.ref ord) ∧ m (Str.ofString "waiting") = some (.ref wait) ∧ m (Str.ofString "deeds") = some (.ref dl) ∧ m (Str.ofString "one") = some (.ref p)
end
end Mine
end
section
set_option maxRecDepth 100000
namespace Mine
section
variable {prog : Program} {w : World} {A : Around} {E : Value → Shared → Prop} {s₁ : Shared} {env : Env} {h₀ : Heap} {body : List Stmt} {Q : Flow → Shared → Prop}
theorem PI.wlen {X Y : D3} {i k : Nat} {ds : List D3} {ns : List Int} (h : PI X Y i k ds ns) {l : List (Addr × Obj)} {vw : List Value} (hw : WtAt l vw ds) : vw.length ≤ 27 := by
  rw [hw.length, h.len]; exact h.short
/-- the outer loop of _law_made -/
theorem made_outer {X Y : D3} {ord wait dl d0 d1 k nw no : Nat} {o0 o1 : Obj} {vo : List Value} {its : Array Value} {ns : List Int} {ds : List D3} {all : List (Addr × Obj)} {m : Str → Option Value}
    (hh : A.handled = none) (F : Fr h₀ env.locals s₁.heap m) (N : News h₀ env.locals s₁.heap all) (e1 : m (Str.ofString "order") = some (.ref ord)) (e2 : m (Str.ofString "waiting") = some (.ref wait)) (e3 : m (Str.ofString "deeds") = some (.ref dl))
    (hO : (ord, W.listOf vo.toArray no) ∈ all) (hW : (wait, W.listOf its nw) ∈ all) (hD : (dl, W.listOf #[.ref d0, .ref d1] k) ∈ all) (h0 : (d0, o0) ∈ all) (h1 : (d1, o1) ∈ all) (hi : IntsAre vo ns) (hw : WtAt [(d0, o0), (d1, o1)] its.toList ds) (hP : PI X Y 0 0 ds ns)
    (turn : ∀ (i : Nat) (d : D3) (p : Nat) (t0 t1 t2 : Tok) (m : Str → Option Value) (I : Nat) (oI : Obj) (h : Heap) (tk : Nat) (vw vo : List Value) (ns : List Int) (no nw : Nat) (ds : List D3) (tail : List (Addr × Obj)), oI.cls = .type "list_iterator" → AllNe I (JLed ord wait dl d0 d1 k o0 o1 vw vo no nw tail) → IntsAre vo ns → WtAt ((d0, o0) :: (d1, o1) :: tail) vw ds → PI X Y i 0 ds ns → ds[i]? = some d → (p, tup3 d t0 t1 t2) ∈ (d0, o0) :: (d1, o1) :: tail →
      Fr h₀ env.locals h (fun y => if y = Str.ofString "one" then some (.ref p) else if y = Str.ofString "order" then some (.ref ord) else if y = Str.ofString "waiting" then some (.ref wait) else if y = Str.ofString "deeds" then some (.ref dl) else m y) →
      News h₀ env.locals h ((I, oI) :: JLed ord wait dl d0 d1 k o0 o1 vw vo no nw tail) →
      wpAny (model prog w) A (execs body env) (GPost h₀ env.locals wait I oI (JOut X Y ord wait dl d0 d1 k o0 o1 (i + 1)) { s₁ with heap := h, toks := tk } Q) E { s₁ with heap := h, toks := tk })
    (done : ∀ (m : Str → Option Value) (h : Heap) (tk : Nat) (vw vo : List Value) (ns : List Int) (no nw : Nat) (ds : List D3) (tail : List (Addr × Obj)), IntsAre vo ns → Srt ns → (∀ x ∈ ns, 0 ≤ x ∧ x ≤ 26) → ns.Nodup → ns.Perm (ds.map num) → (∀ d ∈ ds, In3 d) → X ∈ ds → Y ∈ ds → (∀ x y, x ∈ ds → y ∈ ds → thn x y ∈ ds) →
      Fr h₀ env.locals h (fun y => if y = Str.ofString "order" then some (.ref ord) else if y = Str.ofString "waiting" then some (.ref wait) else if y = Str.ofString "deeds" then some (.ref dl) else m y) → News h₀ env.locals h (JLed ord wait dl d0 d1 k o0 o1 vw vo no nw tail) → Q .next { s₁ with heap := h, toks := tk }) :
    GrowAt prog w A h₀ env (Str.ofString "one") body Q E (.ref wait) s₁ := by
  refine ⟨wait, nw, 27, its.toList, m, JLed ord wait dl d0 d1 k o0 o1 its.toList vo no nw [], JOut X Y ord wait dl d0 d1 k o0 o1, rfl, hh, F, ?_, ?_, ?_, ?_, ?_, ?_⟩
  · intro q hq
    simp only [JLed, List.mem_cons, List.not_mem_nil, or_false] at hq
    rcases hq with rfl | rfl | rfl | rfl | rfl
    · exact N _ hO
    · have := N _ hW; simpa using this
    · exact N _ hD
    · exact N _ h0
    · exact N _ h1
  · exact List.mem_cons_of_mem _ (List.mem_cons_self ..)
  · exact ⟨vo, ns, no, nw, ds, [], rfl, hi, hw, hP, e1, e2, e3⟩
  · rintro i vs m news ⟨vo, ns, no, nw, ds, tail, _, _, hw, hP, _⟩
    exact hP.wlen hw
  · rintro i vs nn v m news I oI h tk hv hm ⟨vo, ns, no, nw, ds, tail, rfl, hi, hw, hP, e1, e2, e3⟩ ha hc F N
    obtain ⟨d, hd, p, t0, t1, t2, rfl, hp⟩ := hw.get hv
    refine turn i d p t0 t1 t2 m I oI h tk vs vo ns no nw ds tail hc ha hi hw hP hd hp ?_ N
    have q : (fun y => if y = Str.ofString "one" then some (Value.ref p) else if y = Str.ofString "order" then some (.ref ord) else if y = Str.ofString "waiting" then some (.ref wait) else if y = Str.ofString "deeds" then some (.ref dl) else m y) = (fun y => if y = Str.ofString "one" then some (Value.ref p) else m y) := by
      funext y
      by_cases q1 : y = Str.ofString "one"
      · rw [if_pos q1, if_pos q1]
      rw [if_neg q1, if_neg q1]
      by_cases q2 : y = Str.ofString "order"
      · rw [if_pos q2, q2]; exact e1.symm
      rw [if_neg q2]
      by_cases q3 : y = Str.ofString "waiting"
      · rw [if_pos q3, q3]; exact e2.symm
      rw [if_neg q3]
      by_cases q4 : y = Str.ofString "deeds"
      · rw [if_pos q4, q4]; exact e3.symm
      rw [if_neg q4]
    rw [q]; exact F
  · rintro i vs m news h tk hl ⟨vo, ns, no, nw, ds, tail, rfl, hi, hw, hP, e1, e2, e3⟩ F N
    refine done m h tk vs vo ns no nw ds tail hi hP.srt hP.nums (hP.perm.nodup_iff.mpr (map_nodup hP.in3 hP.nodup)) hP.perm hP.in3 hP.m0 hP.m1 (hP.closed (by rw [← hw.length]; exact hl)) ?_ N
    have q : (fun y => if y = Str.ofString "order" then some (Value.ref ord) else if y = Str.ofString "waiting" then some (.ref wait) else if y = Str.ofString "deeds" then some (.ref dl) else m y) = m := by
      funext y
      by_cases q2 : y = Str.ofString "order"
      · rw [if_pos q2, q2]; exact e1.symm
      rw [if_neg q2]
      by_cases q3 : y = Str.ofString "waiting"
      · rw [if_pos q3, q3]; exact e2.symm
      rw [if_neg q3]
      by_cases q4 : y = Str.ofString "deeds"
      · rw [if_pos q4, q4]; exact e3.symm
      rw [if_neg q4]
    rw [q]; exact F
end
end Mine
end
section
set_option maxRecDepth 100000
namespace Mine
theorem PI.nextOf {d0 d1 : D3} {i k : Nat} {ds : List D3} {ns : List Int} (h : PI d0 d1 i k ds ns) (hk : 2 ≤ k) : PI d0 d1 (i + 1) 0 ds ns :=
  PI.next ⟨h.perm, h.srt, h.in3, h.nodup, h.gen, h.m0, h.m1, h.clo, fun d hd => ⟨fun _ => (h.now d hd).1 (by omega), fun _ => (h.now d hd).2 (by omega)⟩⟩
theorem allNe_off {d : Nat} : ∀ {l : List (Addr × Obj)}, (∀ p ∈ l, p.1 ≠ d) → AllNe d l
  | [], _ => trivial
  | _ :: _, h => ⟨h _ (List.mem_cons_self ..), allNe_off fun q hq => h q (List.mem_cons_of_mem _ hq)⟩
theorem AllNe.sub {d : Nat} {l l' : List (Addr × Obj)} (h : AllNe d l) (hs : ∀ p ∈ l', p ∈ l) : AllNe d l' := allNe_off fun p hp => h.off p (hs p hp)
theorem WtAt.filt {l l' : List (Addr × Obj)} (h : ∀ (p : Nat) (d : D3) (t0 t1 t2 : Tok), (p, tup3 d t0 t1 t2) ∈ l → (p, tup3 d t0 t1 t2) ∈ l') : ∀ {vs : List Value} {ds : List D3}, WtAt l vs ds → WtAt l' vs ds
  | [], [], _ => trivial
  | _ :: _, d :: _, ⟨⟨p, t0, t1, t2, e, hm⟩, r⟩ => ⟨⟨p, t0, t1, t2, e, h p d t0 t1 t2 hm⟩, WtAt.filt h r⟩
  | [], _ :: _, x => x.elim
  | _ :: _, [], x => x.elim
open Classical in
/-- of the opaque part only the tuples: none of them stands where a list stands -/
theorem tail_tup {h₀ h : Heap} {L : Addr} {a b : Addr × Obj} {pre tail : List (Addr × Obj)} (N : News h₀ L h (pre ++ a :: b :: tail)) :
    ∃ tail' : List (Addr × Obj), (∀ p ∈ tail', p ∈ tail) ∧ (∀ (p : Nat) (d : D3) (t0 t1 t2 : Tok), (p, tup3 d t0 t1 t2) ∈ a :: b :: tail → (p, tup3 d t0 t1 t2) ∈ a :: b :: tail') ∧ (∀ q o, (q, o) ∈ pre → o.cls = .type "list" → ∀ p ∈ tail', p.1 ≠ q) := by
  refine ⟨tail.filter fun p => decide (p.2.cls = .type "tuple"), fun p hp => (List.mem_filter.mp hp).1, fun p d t0 t1 t2 hp => ?_, fun q o hq hc p hp e => ?_⟩
  · rcases List.mem_cons.mp hp with e | hp
    · exact e ▸ List.mem_cons_self ..
    rcases List.mem_cons.mp hp with e | hp
    · exact e ▸ List.mem_cons_of_mem _ (List.mem_cons_self ..)
    · exact List.mem_cons_of_mem _ (List.mem_cons_of_mem _ (List.mem_filter.mpr ⟨hp, decide_eq_true rfl⟩))
  · obtain ⟨hp1, hp2⟩ := List.mem_filter.mp hp
    have h1 := (N p (List.mem_append_right _ (List.mem_cons_of_mem _ (List.mem_cons_of_mem _ hp1)))).1
    have h2 := (N _ (List.mem_append_left _ hq)).1
    rw [e] at h1
    rw [h1] at h2
    have h3 := Option.some.inj h2
    have h4 := of_decide_eq_true hp2
    rw [h3, hc] at h4
    exact absurd h4 (by intro q; injection q with q; exact absurd q (by decide))
section
variable {prog : Program} {w : World} {A : Around} {E : Value → Shared → Prop} {s₁ : Shared} {env : Env} {h₀ : Heap} {body : List Stmt} {Q : Flow → Shared → Prop}
theorem made_inner {X Y : D3} {ord wait dl d0 d1 k nw no I i p : Nat} {oI : Obj} {d : D3} {t0 t1 t2 u0 u1 u2 v0 v1 v2 : Tok} {vo vw : List Value} {ns : List Int} {ds : List D3} {tail : List (Addr × Obj)} {m : Str → Option Value}
    (hh : A.handled = none) (F : Fr h₀ env.locals s₁.heap m) (N : News h₀ env.locals s₁.heap ((I, oI) :: JLed ord wait dl d0 d1 k (tup3 X u0 u1 u2) (tup3 Y v0 v1 v2) vw vo no nw tail)) (e1 : m (Str.ofString "order") = some (.ref ord)) (e2 : m (Str.ofString "waiting") = some (.ref wait)) (e3 : m (Str.ofString "deeds") = some (.ref dl)) (e4 : m (Str.ofString "one") = some (.ref p))
    (ha : AllNe I (JLed ord wait dl d0 d1 k (tup3 X u0 u1 u2) (tup3 Y v0 v1 v2) vw vo no nw tail)) (hi : IntsAre vo ns) (hw : WtAt ((d0, tup3 X u0 u1 u2) :: (d1, tup3 Y v0 v1 v2) :: tail) vw ds) (hP : PI X Y i 0 ds ns) (hd : ds[i]? = some d) (hp : (p, tup3 d t0 t1 t2) ∈ (d0, tup3 X u0 u1 u2) :: (d1, tup3 Y v0 v1 v2) :: tail)
    (turn : ∀ (j : Nat) (e : D3) (q : Nat) (w0 w1 w2 : Tok) (m : Str → Option Value) (I2 : Nat) (oI2 : Obj) (h : Heap) (tk : Nat) (vw vo : List Value) (ns : List Int) (no nw : Nat) (ds : List D3) (tail : List (Addr × Obj)), ((j = 0 ∧ e = X) ∨ (j = 1 ∧ e = Y)) → oI2.cls = .type "list_iterator" → AllNe I2 ((I, oI) :: JLed ord wait dl d0 d1 k (tup3 X u0 u1 u2) (tup3 Y v0 v1 v2) vw vo no nw tail) →
      AllNe I (JLed ord wait dl d0 d1 k (tup3 X u0 u1 u2) (tup3 Y v0 v1 v2) vw vo no nw tail) → IntsAre vo ns → WtAt ((d0, tup3 X u0 u1 u2) :: (d1, tup3 Y v0 v1 v2) :: tail) vw ds → PI X Y i j ds ns → ds[i]? = some d → (p, tup3 d t0 t1 t2) ∈ (d0, tup3 X u0 u1 u2) :: (d1, tup3 Y v0 v1 v2) :: tail → (q, tup3 e w0 w1 w2) ∈ (d0, tup3 X u0 u1 u2) :: (d1, tup3 Y v0 v1 v2) :: tail → (∀ p ∈ tail, p.1 ≠ ord) → (∀ p ∈ tail, p.1 ≠ wait) →
      Fr h₀ env.locals h (fun y => if y = Str.ofString "deed" then some (.ref q) else if y = Str.ofString "order" then some (.ref ord) else if y = Str.ofString "waiting" then some (.ref wait) else if y = Str.ofString "deeds" then some (.ref dl) else if y = Str.ofString "one" then some (.ref p) else m y) →
      News h₀ env.locals h ((I2, oI2) :: (I, oI) :: JLed ord wait dl d0 d1 k (tup3 X u0 u1 u2) (tup3 Y v0 v1 v2) vw vo no nw tail) →
      wpAny (model prog w) A (execs body env) (GPost h₀ env.locals dl I2 oI2 (JIn X Y ord wait dl d0 d1 k (tup3 X u0 u1 u2) (tup3 Y v0 v1 v2) I oI i d p t0 t1 t2 (j + 1)) { s₁ with heap := h, toks := tk } Q) E { s₁ with heap := h, toks := tk })
    (done : ∀ (m : Str → Option Value) (h : Heap) (tk : Nat) (vw vo : List Value) (ns : List Int) (no nw : Nat) (ds : List D3) (tail : List (Addr × Obj)), m (Str.ofString "order") = some (.ref ord) → m (Str.ofString "waiting") = some (.ref wait) → m (Str.ofString "deeds") = some (.ref dl) →
      AllNe I (JLed ord wait dl d0 d1 k (tup3 X u0 u1 u2) (tup3 Y v0 v1 v2) vw vo no nw tail) → IntsAre vo ns → WtAt ((d0, tup3 X u0 u1 u2) :: (d1, tup3 Y v0 v1 v2) :: tail) vw ds → PI X Y (i + 1) 0 ds ns → Fr h₀ env.locals h m → News h₀ env.locals h ((I, oI) :: JLed ord wait dl d0 d1 k (tup3 X u0 u1 u2) (tup3 Y v0 v1 v2) vw vo no nw tail) → Q .next { s₁ with heap := h, toks := tk }) :
    GrowAt prog w A h₀ env (Str.ofString "deed") body Q E (.ref dl) s₁ := by
  refine ⟨dl, k, 2, [.ref d0, .ref d1], m, _, JIn X Y ord wait dl d0 d1 k (tup3 X u0 u1 u2) (tup3 Y v0 v1 v2) I oI i d p t0 t1 t2, rfl, hh, F, N, ?_, ?_, ?_, ?_, ?_⟩
  · exact List.mem_cons_of_mem _ (List.mem_cons_of_mem _ (List.mem_cons_of_mem _ (List.mem_cons_self ..)))
  · exact ⟨rfl, vw, vo, ns, no, nw, ds, tail, rfl, ha, hi, hw, hP, hd, hp, e1, e2, e3, e4⟩
  · rintro j vs m news ⟨rfl, _⟩
    exact Nat.le_refl 2
  · rintro j vs nn v m news I2 oI2 h tk hv hm ⟨rfl, vw, vo, ns, no, nw, ds, tail, rfl, ha, hi, hw, hP, hd, hp, e1, e2, e3, e4⟩ ha2 hc F N
    obtain ⟨e, q, w0, w1, w2, he, rfl, hq⟩ : ∃ (e : D3) (q : Nat) (w0 w1 w2 : Tok), ((j = 0 ∧ e = X) ∨ (j = 1 ∧ e = Y)) ∧ v = .ref q ∧ (q, tup3 e w0 w1 w2) ∈ (d0, tup3 X u0 u1 u2) :: (d1, tup3 Y v0 v1 v2) :: tail := by
      match j, hv with
      | 0, hv => simp at hv; exact ⟨X, d0, u0, u1, u2, .inl ⟨rfl, rfl⟩, hv.symm, List.mem_cons_self ..⟩
      | 1, hv => simp at hv; exact ⟨Y, d1, v0, v1, v2, .inr ⟨rfl, rfl⟩, hv.symm, List.mem_cons_of_mem _ (List.mem_cons_self ..)⟩
      | j + 2, hv => simp at hv
    obtain ⟨tail', hs', hf', hn'⟩ := tail_tup (pre := [(I2, oI2), (I, oI), (ord, W.listOf vo.toArray no), (wait, W.listOf vw.toArray nw), (dl, W.listOf #[.ref d0, .ref d1] k)]) N
    have hsub : ∀ (pre : List (Addr × Obj)) a b, ∀ x ∈ pre ++ a :: b :: tail', x ∈ pre ++ a :: b :: tail := fun pre a b x hx => by
      rcases List.mem_append.mp hx with hx | hx
      · exact List.mem_append_left _ hx
      refine List.mem_append_right _ ?_
      rcases List.mem_cons.mp hx with rfl | hx
      · exact List.mem_cons_self ..
      rcases List.mem_cons.mp hx with rfl | hx
      · exact List.mem_cons_of_mem _ (List.mem_cons_self ..)
      · exact List.mem_cons_of_mem _ (List.mem_cons_of_mem _ (hs' x hx))
    refine turn j e q w0 w1 w2 m I2 oI2 h tk vw vo ns no nw ds tail' he hc (ha2.sub (hsub [(I, oI), (ord, W.listOf vo.toArray no), (wait, W.listOf vw.toArray nw), (dl, W.listOf #[.ref d0, .ref d1] k)] _ _)) (ha.sub (hsub [(ord, W.listOf vo.toArray no), (wait, W.listOf vw.toArray nw), (dl, W.listOf #[.ref d0, .ref d1] k)] _ _)) hi (hw.filt hf') hP hd (hf' _ _ _ _ _ hp) (hf' _ _ _ _ _ hq) (hn' ord _ (.tail _ (.tail _ (.head _))) rfl) (hn' wait _ (.tail _ (.tail _ (.tail _ (.head _)))) rfl) ?_ (fun x hx => N x (hsub [(I2, oI2), (I, oI), (ord, W.listOf vo.toArray no), (wait, W.listOf vw.toArray nw), (dl, W.listOf #[.ref d0, .ref d1] k)] _ _ x hx))
    have z : (fun y => if y = Str.ofString "deed" then some (Value.ref q) else if y = Str.ofString "order" then some (.ref ord) else if y = Str.ofString "waiting" then some (.ref wait) else if y = Str.ofString "deeds" then some (.ref dl) else if y = Str.ofString "one" then some (.ref p) else m y) = (fun y => if y = Str.ofString "deed" then some (Value.ref q) else m y) := by
      funext y
      by_cases q1 : y = Str.ofString "deed"
      · rw [if_pos q1, if_pos q1]
      rw [if_neg q1, if_neg q1]
      by_cases q2 : y = Str.ofString "order"
      · rw [if_pos q2, q2]; exact e1.symm
      rw [if_neg q2]
      by_cases q3 : y = Str.ofString "waiting"
      · rw [if_pos q3, q3]; exact e2.symm
      rw [if_neg q3]
      by_cases q4 : y = Str.ofString "deeds"
      · rw [if_pos q4, q4]; exact e3.symm
      rw [if_neg q4]
      by_cases q5 : y = Str.ofString "one"
      · rw [if_pos q5, q5]; exact e4.symm
      rw [if_neg q5]
    rw [z]; exact F
  · rintro j vs m news h tk hl ⟨rfl, vw, vo, ns, no, nw, ds, tail, rfl, ha, hi, hw, hP, hd, hp, e1, e2, e3, e4⟩ F N
    exact done m h tk vw vo ns no nw ds tail e1 e2 e3 ha hi hw (hP.nextOf hl) F N
end
end Mine
end
section
set_option maxRecDepth 100000
namespace Mine
theorem nm3 {a b c r : Nat} (h1 : r ≠ a) (h2 : r ≠ b) (h3 : r ≠ c) : r ∉ [a, b, c] := by simp [h1, h2, h3]
theorem news_out {h₀ g h h' : Heap} {L L' : Addr} {m : Str → Option Value} {sub led : List (Addr × Obj)} {r : Addr} {o : Obj} (F : Fr h₀ L h m) (N : News h₀ L h sub) (N8 : News g L' h' led) (hs : ∀ x ∈ sub, x ∈ led) (hm : (r, o) ∈ led) (hn : h.get? r = none) : News h₀ L h' ((r, o) :: sub) :=
  news_add F hn (N8 _ hm).1 fun x hx => ⟨(N8 _ (hs x hx)).1, (N x hx).2⟩
section
variable {g h' : Heap} {L : Addr} {s₁ : Shared} {tk' : Nat} {Q : Flow → Shared → Prop} {X Y d e : D3} {ord wait dl d0 d1 k no nw no' nw' I I2 i j p r : Nat} {oI oI2 : Obj} {t0 t1 t2 u0 u1 u2 v0 v1 v2 z0 z1 z2 : Tok} {vo vw vo' : List Value} {ns ns' : List Int} {ds : List D3} {all tail : List (Addr × Obj)} {m' : Str → Option Value}
theorem mem_j {o0 o1 : Obj} (h2 : (I, oI) ∈ all) (h3 : (ord, W.listOf vo.toArray no) ∈ all) (h4 : (wait, W.listOf vw.toArray nw) ∈ all) (h5 : (dl, W.listOf #[.ref d0, .ref d1] k) ∈ all) (h6 : (d0, o0) ∈ all) (h7 : (d1, o1) ∈ all) (ht : ∀ x ∈ tail, x ∈ all) :
    ∀ x ∈ (I, oI) :: JLed ord wait dl d0 d1 k o0 o1 vw vo no nw tail, x ∈ all := by
  intro x hx
  simp only [JLed, List.mem_cons] at hx
  rcases hx with rfl | rfl | rfl | rfl | rfl | rfl | hx
  · exact h2
  · exact h3
  · exact h4
  · exact h5
  · exact h6
  · exact h7
  · exact ht x hx
theorem allNe_j {a : Nat} {o0 o1 : Obj} (h : AllNe a (JLed ord wait dl d0 d1 k o0 o1 vw vo no nw tail)) {vw' vo' : List Value} : AllNe a (JLed ord wait dl d0 d1 k o0 o1 vw' vo' no' nw' tail) := h
theorem allNe_jr {a : Nat} {o0 o1 o : Obj} (h : AllNe a (JLed ord wait dl d0 d1 k o0 o1 vw vo no nw tail)) (hr : r ≠ a) {vw' vo' : List Value} : AllNe a (JLed ord wait dl d0 d1 k o0 o1 vw' vo' no' nw' ((r, o) :: tail)) :=
  ⟨h.1, h.2.1, h.2.2.1, h.2.2.2.1, h.2.2.2.2.1, hr, h.2.2.2.2.2⟩
theorem fin_old (F : Fr g L h' m') (N : News g L h' all) (h1 : (I2, oI2) ∈ all) (h2 : (I, oI) ∈ all) (h3 : (ord, W.listOf vo.toArray no) ∈ all) (h4 : (wait, W.listOf vw.toArray nw) ∈ all) (h5 : (dl, W.listOf #[.ref d0, .ref d1] k) ∈ all) (h6 : (d0, tup3 X u0 u1 u2) ∈ all) (h7 : (d1, tup3 Y v0 v1 v2) ∈ all) (ht : ∀ x ∈ tail, x ∈ all)
    (ha2 : AllNe I2 ((I, oI) :: JLed ord wait dl d0 d1 k (tup3 X u0 u1 u2) (tup3 Y v0 v1 v2) vw vo no nw tail)) (ha : AllNe I (JLed ord wait dl d0 d1 k (tup3 X u0 u1 u2) (tup3 Y v0 v1 v2) vw vo no nw tail))
    (hi : IntsAre vo ns) (hw : WtAt ((d0, tup3 X u0 u1 u2) :: (d1, tup3 Y v0 v1 v2) :: tail) vw ds) (hP : PI X Y i j ds ns) (hd : ds[i]? = some d) (hp : (p, tup3 d t0 t1 t2) ∈ (d0, tup3 X u0 u1 u2) :: (d1, tup3 Y v0 v1 v2) :: tail)
    (he : (j = 0 ∧ e = X) ∨ (j = 1 ∧ e = Y)) (he3 : In3 e) (hm : num (thn d e) ∈ ns)
    (e1 : m' (Str.ofString "order") = some (.ref ord)) (e2 : m' (Str.ofString "waiting") = some (.ref wait)) (e3 : m' (Str.ofString "deeds") = some (.ref dl)) (e4 : m' (Str.ofString "one") = some (.ref p)) :
    GPost g L dl I2 oI2 (JIn X Y ord wait dl d0 d1 k (tup3 X u0 u1 u2) (tup3 Y v0 v1 v2) I oI i d p t0 t1 t2 (j + 1)) s₁ Q .next { s₁ with heap := h', toks := tk' } := by
  have hd3 := hP.in3 d (List.mem_of_getElem? hd)
  refine ⟨h', tk', m', _, [Value.ref d0, Value.ref d1], k, rfl, F, fun x hx => N x ?_, ha2, ?_, rfl, vw, vo, ns, no, nw, ds, tail, rfl, ha, hi, hw, hP.old hd he ((hP.mem (thn_in hd3 he3)).mp hm), hd, hp, e1, e2, e3, e4⟩
  · rcases List.mem_cons.mp hx with rfl | hx
    · exact h1
    · exact mem_j h2 h3 h4 h5 h6 h7 ht x hx
  · exact .tail _ (.tail _ (.tail _ (.head _)))
theorem fin_new (F : Fr g L h' m') (N : News g L h' all) (h1 : (I2, oI2) ∈ all) (h2 : (I, oI) ∈ all) (h3 : (ord, W.listOf vo'.toArray no') ∈ all) (h4 : (wait, W.listOf (vw.toArray.push (.ref r)) nw') ∈ all) (h5 : (dl, W.listOf #[.ref d0, .ref d1] k) ∈ all) (h6 : (d0, tup3 X u0 u1 u2) ∈ all) (h7 : (d1, tup3 Y v0 v1 v2) ∈ all) (h8 : (r, tup3 (thn d e) z0 z1 z2) ∈ all) (ht : ∀ x ∈ tail, x ∈ all)
    (hr2 : r ≠ I2) (hr1 : r ≠ I)
    (ha2 : AllNe I2 ((I, oI) :: JLed ord wait dl d0 d1 k (tup3 X u0 u1 u2) (tup3 Y v0 v1 v2) vw vo no nw tail)) (ha : AllNe I (JLed ord wait dl d0 d1 k (tup3 X u0 u1 u2) (tup3 Y v0 v1 v2) vw vo no nw tail))
    (hi : IntsAre vo' ns') (hw : WtAt ((d0, tup3 X u0 u1 u2) :: (d1, tup3 Y v0 v1 v2) :: tail) vw ds) (hP : PI X Y i j ds ns) (hd : ds[i]? = some d) (hp : (p, tup3 d t0 t1 t2) ∈ (d0, tup3 X u0 u1 u2) :: (d1, tup3 Y v0 v1 v2) :: tail)
    (he : (j = 0 ∧ e = X) ∨ (j = 1 ∧ e = Y)) (he3 : In3 e) (hm : num (thn d e) ∉ ns) (hS : Srt ns') (hpm : ns'.Perm (num (thn d e) :: ns))
    (e1 : m' (Str.ofString "order") = some (.ref ord)) (e2 : m' (Str.ofString "waiting") = some (.ref wait)) (e3 : m' (Str.ofString "deeds") = some (.ref dl)) (e4 : m' (Str.ofString "one") = some (.ref p)) :
    GPost g L dl I2 oI2 (JIn X Y ord wait dl d0 d1 k (tup3 X u0 u1 u2) (tup3 Y v0 v1 v2) I oI i d p t0 t1 t2 (j + 1)) s₁ Q .next { s₁ with heap := h', toks := tk' } := by
  have hd3 := hP.in3 d (List.mem_of_getElem? hd)
  have hdl : ds[i]? = some d := hd
  have hl : i < ds.length := (List.getElem?_eq_some_iff.mp hd).1
  have h4' : (wait, W.listOf (vw ++ [Value.ref r]).toArray nw') ∈ all := by rw [← List.push_toArray]; exact h4
  have sub : ∀ x ∈ (d0, tup3 X u0 u1 u2) :: (d1, tup3 Y v0 v1 v2) :: tail, x ∈ (d0, tup3 X u0 u1 u2) :: (d1, tup3 Y v0 v1 v2) :: (r, tup3 (thn d e) z0 z1 z2) :: tail := fun x hx => by
    rcases List.mem_cons.mp hx with rfl | hx
    · exact .head _
    rcases List.mem_cons.mp hx with rfl | hx
    · exact .tail _ (.head _)
    · exact .tail _ (.tail _ (.tail _ hx))
  refine ⟨h', tk', m', (I, oI) :: JLed ord wait dl d0 d1 k (tup3 X u0 u1 u2) (tup3 Y v0 v1 v2) (vw ++ [Value.ref r]) vo' no' nw' ((r, tup3 (thn d e) z0 z1 z2) :: tail), [Value.ref d0, Value.ref d1], k, rfl, F, fun x hx => N x ?_, ⟨ha2.1, allNe_jr ha2.2 hr2⟩, ?_, rfl, vw ++ [Value.ref r], vo', ns', no', nw', ds ++ [thn d e], (r, tup3 (thn d e) z0 z1 z2) :: tail, rfl, allNe_jr ha hr1, hi, ?_, hP.new hd he (fun q => hm ((hP.mem (thn_in hd3 he3)).mpr q)) he3 hS hpm, ?_, sub _ hp, e1, e2, e3, e4⟩
  · rcases List.mem_cons.mp hx with rfl | hx
    · exact h1
    · refine mem_j h2 h3 h4' h5 h6 h7 (fun x hx => ?_) x hx
      rcases List.mem_cons.mp hx with rfl | hx
      · exact h8
      · exact ht x hx
  · exact .tail _ (.tail _ (.tail _ (.head _)))
  · exact (hw.mono sub).snoc (.tail _ (.tail _ (.head _)))
  · rw [List.getElem?_append_left hl]; exact hd
end
end Mine
end
example : True := by
  w_top off
  trivial
section
namespace Mine
example : True := by
  k_with_none
  k_with "enterN" => (refine' code_defN ?Zk1 ?Zk2 ?Zk3 ?Zk4 ?Zk5 ?ZkA ?ZkF ?ZkK ?Zk6 ?Zk7 ?Zk8 ?Zk9 ?ZkB ?_ ?Zc2 ?Zc3 ?Zc4 ?Zc5; (case ZkA => exact rfl); (case ZkF => exact rfl); (case ZkK => assumption); (case Zk1 => k_asm); (case Zk2 => k_asm); (case Zk3 => k_asm); (case Zk4 => k_asm); (case Zk5 => k_asm); (case Zk6 => k_is); (case Zk7 => k_is); (case Zk8 => ktr_room); (case Zk9 => exact BindsTo.of_eq rfl); (case Zc5 => decide); (case ZkB => exact locs rfl); (case Zc2 => exact rfl); (case Zc3 => exact rfl); (case Zc4 => exact rfl); k_whole)
  k_with "call ref" => (k_here; (with_reducible show wpAny _ _ (call (Value.ref 65) _) _ _ _); k_dflt (refine hold_of ?_))
  k_with "call ref" => (k_here; (with_reducible show wpAny _ _ (call (Value.ref 74) _) _ _ _); k_dflt (refine hold_of ?_))
  k_with "call ref" => (k_here; (with_reducible show wpAny _ _ (call (Value.ref 93) _) _ _ _); k_dflt (refine hold_of ?_))
  k_with "call ref" => (k_here; (with_reducible show wpAny _ _ (call (Value.ref 65) _) _ _ _); k_dflt (first | (refine' c_insortAt 0 ?ZB ?ZF ?ZX ?ZT ?Zhk ?ZN ?Zhp ?Zhr ?Zhi ?Zhlen ?ZhS ?Zhdp ?Zhun ?_; (case ZN => k_asm); (case Zhp => exact rfl); (case ZB => k_asm); (case ZF => k_asm); (case ZX => k_asm); (case ZT => k_asm); (case Zhk => first | exact rfl | assumption); (case Zhr => (simp only [List.eraseIdx, AllNe]; (repeat' apply And.intro) <;> first | trivial | k_ne)); (case Zhi => first | exact IntsAre.nil | assumption); (case Zhlen => first | exact Nat.le_of_ble_eq_true rfl | omega | (have := (by assumption : List.Perm _ _).length_eq; simp at this; omega)); (case ZhS => first | exact srt_nil | assumption); (case Zhdp => ktr_room); (case Zhun => ktr_units)) | (refine' c_insortAt 1 ?ZB ?ZF ?ZX ?ZT ?Zhk ?ZN ?Zhp ?Zhr ?Zhi ?Zhlen ?ZhS ?Zhdp ?Zhun ?_; (case ZN => k_asm); (case Zhp => exact rfl); (case ZB => k_asm); (case ZF => k_asm); (case ZX => k_asm); (case ZT => k_asm); (case Zhk => first | exact rfl | assumption); (case Zhr => (simp only [List.eraseIdx, AllNe]; (repeat' apply And.intro) <;> first | trivial | k_ne)); (case Zhi => first | exact IntsAre.nil | assumption); (case Zhlen => first | exact Nat.le_of_ble_eq_true rfl | omega | (have := (by assumption : List.Perm _ _).length_eq; simp at this; omega)); (case ZhS => first | exact srt_nil | assumption); (case Zhdp => ktr_room); (case Zhun => ktr_units)) | (refine' c_insortAt 2 ?ZB ?ZF ?ZX ?ZT ?Zhk ?ZN ?Zhp ?Zhr ?Zhi ?Zhlen ?ZhS ?Zhdp ?Zhun ?_; (case ZN => k_asm); (case Zhp => exact rfl); (case ZB => k_asm); (case ZF => k_asm); (case ZX => k_asm); (case ZT => k_asm); (case Zhk => first | exact rfl | assumption); (case Zhr => (simp only [List.eraseIdx, AllNe]; (repeat' apply And.intro) <;> first | trivial | k_ne)); (case Zhi => first | exact IntsAre.nil | assumption); (case Zhlen => first | exact Nat.le_of_ble_eq_true rfl | omega | (have := (by assumption : List.Perm _ _).length_eq; simp at this; omega)); (case ZhS => first | exact srt_nil | assumption); (case Zhdp => ktr_room); (case Zhun => ktr_units)) | (refine' c_insortAt 3 ?ZB ?ZF ?ZX ?ZT ?Zhk ?ZN ?Zhp ?Zhr ?Zhi ?Zhlen ?ZhS ?Zhdp ?Zhun ?_; (case ZN => k_asm); (case Zhp => exact rfl); (case ZB => k_asm); (case ZF => k_asm); (case ZX => k_asm); (case ZT => k_asm); (case Zhk => first | exact rfl | assumption); (case Zhr => (simp only [List.eraseIdx, AllNe]; (repeat' apply And.intro) <;> first | trivial | k_ne)); (case Zhi => first | exact IntsAre.nil | assumption); (case Zhlen => first | exact Nat.le_of_ble_eq_true rfl | omega | (have := (by assumption : List.Perm _ _).length_eq; simp at this; omega)); (case ZhS => first | exact srt_nil | assumption); (case Zhdp => ktr_room); (case Zhun => ktr_units)) | (refine' c_insortAt 4 ?ZB ?ZF ?ZX ?ZT ?Zhk ?ZN ?Zhp ?Zhr ?Zhi ?Zhlen ?ZhS ?Zhdp ?Zhun ?_; (case ZN => k_asm); (case Zhp => exact rfl); (case ZB => k_asm); (case ZF => k_asm); (case ZX => k_asm); (case ZT => k_asm); (case Zhk => first | exact rfl | assumption); (case Zhr => (simp only [List.eraseIdx, AllNe]; (repeat' apply And.intro) <;> first | trivial | k_ne)); (case Zhi => first | exact IntsAre.nil | assumption); (case Zhlen => first | exact Nat.le_of_ble_eq_true rfl | omega | (have := (by assumption : List.Perm _ _).length_eq; simp at this; omega)); (case ZhS => first | exact srt_nil | assumption); (case Zhdp => ktr_room); (case Zhun => ktr_units)) | (refine' c_insortAt 5 ?ZB ?ZF ?ZX ?ZT ?Zhk ?ZN ?Zhp ?Zhr ?Zhi ?Zhlen ?ZhS ?Zhdp ?Zhun ?_; (case ZN => k_asm); (case Zhp => exact rfl); (case ZB => k_asm); (case ZF => k_asm); (case ZX => k_asm); (case ZT => k_asm); (case Zhk => first | exact rfl | assumption); (case Zhr => (simp only [List.eraseIdx, AllNe]; (repeat' apply And.intro) <;> first | trivial | k_ne)); (case Zhi => first | exact IntsAre.nil | assumption); (case Zhlen => first | exact Nat.le_of_ble_eq_true rfl | omega | (have := (by assumption : List.Perm _ _).length_eq; simp at this; omega)); (case ZhS => first | exact srt_nil | assumption); (case Zhdp => ktr_room); (case Zhun => ktr_units))); k_dflt (intro vs' ns' nn' h3 tk3 F3 N3 hi3 hS3 hp3; (simp only [List.eraseIdx] at N3); (try k_sweep)))
  k_with "call ref" => (k_here; (with_reducible show wpAny _ _ (call (Value.ref 81) _) _ _ _); k_dflt (refine' c_number ?ZB ?ZF ?ZX ?ZN ?ZT ?Zhk ?Zhdp ?Zhun ?Zhm ?Zg1 ?Zg2 ?Zg3 ?Zg4 ?Zg5 ?Zg6 ?_; (case ZB => k_asm); (case ZF => k_asm); (case ZX => k_asm); (case ZN => k_asm); (case ZT => k_asm); (case Zhk => first | exact rfl | assumption); (case Zhdp => ktr_room); (case Zhun => ktr_units); (case Zhm => k_mem); (case Zg1 => omega); (case Zg2 => omega); (case Zg3 => omega); (case Zg4 => omega); (case Zg5 => omega); (case Zg6 => omega)); k_dflt (intro t3 h3 tk3 F3 N3; (try k_sweep)))
  k_with "compareOp NotIn ref ref" => (k_here; (with_reducible show wpAny _ _ (compareOp CmpOp.NotIn _ (Value.ref _)) _ _ _); k_dflt (first | (refine' notin_t ?ZN ?Za ?Zb ?Zc ?Zd ?Zx ?Zl ?Zm ?Zn ?Zhn ?_; (case ZN => k_asm); (case Za => k_mem); (case Zb => rfl); (case Zc => rfl); (case Zd => kqd_all); (case Zx => kqd_in); (case Zl => first | kqd_ok | (intro d hd; rw [List.mem_singleton.mp hd]; rfl)); (case Zm => first | rfl | kernel_rfl!); (case Zn => ke_room); (case Zhn => first | exact List.not_mem_nil | assumption)) | (refine' notin_f ?ZN ?Za ?Zb ?Zc ?Zd ?Zx ?Zl ?Zm ?Zn ?Zhn ?_; (case ZN => k_asm); (case Za => k_mem); (case Zb => rfl); (case Zc => rfl); (case Zd => kqd_all); (case Zx => kqd_in); (case Zl => first | kqd_ok | (intro d hd; rw [List.mem_singleton.mp hd]; rfl)); (case Zm => first | rfl | kernel_rfl!); (case Zn => ke_room); (case Zhn => first | exact List.not_mem_nil | assumption))))
  trivial
def LMark : Prop := True
example : True := by
  k_with "exec For Name Name cons nil" => (k_here; (with_reducible show wpAny _ _ (exec (Stmt.For (Expr.Name _ _) (Expr.Name (Str.ofString "waiting") _) _ _ _) _) _ _ _); k_dflt (refine hold_of ?_))
  trivial
def InMark : Prop := True
example : True := by
  k_with "exec For Name Name cons nil" => (k_here; (with_reducible show wpAny _ _ (exec (Stmt.For (Expr.Name _ _) (Expr.Name (Str.ofString "deeds") _) _ _ _) _) _ _ _); k_dflt (have _ : InMark := by assumption); k_dflt (refine hold_of ?_))
  k_with "call builtin:list.append" => (k_here; (with_reducible show wpAny _ _ (call (Value.builtin _) [Value.ref _, _]) _ _ _); k_dflt (refine' append_K ?Zk1 ?Zk2 ?Zk3 ?_ ?Zz; (case Zk1 => k_asm); (case Zk2 => k_asm); (case Zk3 => k_upd); (case Zz => first | size_fits | (rw [sizeLine_eq]; (try simp only [List.size_toArray]); omega)); k_whole); intro h' F' N'; (try k_sweep))
  k_with "call ref" => (k_here; (with_reducible show wpAny _ _ (call (Value.ref 93) _) _ _ _); k_dflt (refine' c_then ?ZB ?ZF ?ZX ?ZT ?Zhk ?ZN ?Zm1 ?Zm2 ?Zhdp ?Zhun ?Zg1 ?Zg2 ?Zg3 ?_; (case ZB => k_asm); (case ZF => k_asm); (case ZX => k_asm); (case ZT => k_asm); (case Zhk => first | exact rfl | assumption); (case ZN => k_asm); (case Zm1 => k_mem); (case Zm2 => k_mem); (case Zhdp => ktr_room); (case Zhun => ktr_units); (case Zg1 => assumption); (case Zg2 => assumption); (case Zg3 => assumption)); k_dflt (intro r3 t30 t31 t32 h3 tk3 F3 N3 o3; (try k_sweep)))
  k_with "call ref" => (k_here; (with_reducible show wpAny _ _ (call (Value.ref 74) _) _ _ _); k_dflt (refine' c_bis ?ZB ?ZF ?ZX ?ZT ?Zhk ?ZN ?Zm1 ?Zhi ?Zhl ?ZhS ?Zhdp ?Zhun ?_; (case ZB => k_asm); (case ZF => k_asm); (case ZX => k_asm); (case ZT => k_asm); (case Zhk => first | exact rfl | assumption); (case ZN => k_asm); (case Zm1 => k_mem); (case Zhi => assumption); (case Zhl => omega); (case ZhS => assumption); (case Zhdp => ktr_room); (case Zhun => ktr_units)); k_dflt (intro p3 t3 h3 tk3 F3 N3 q30 q31 bi3; (try k_sweep)))
  k_with "k_mem" => assumption
  k_with "k_lt" => skip
  k_with "k_ne" => (refine neN ?_; (try dsimp only); first | with_reducible assumption | exact Ne.symm (by with_reducible assumption) | exact Nat.ne_of_lt (by with_reducible assumption) | exact Nat.ne_of_gt (by with_reducible assumption) | exact AllNe.off (by with_reducible assumption) (_, _) (by k_mem) | exact Ne.symm (AllNe.off (by with_reducible assumption) (_, _) (by k_mem)) | exact lt_nB (by with_reducible assumption) (_, _) (by k_mem) | exact Ne.symm (lt_nB (by with_reducible assumption) (_, _) (by k_mem)) | (walk_say "NE OMEGA"; omega))
  k_with "k_all" => assumption
  k_with "execs cons" => (k_here; (with_reducible show wpAny _ _ (execs (Stmt.For (Expr.Name _ _) (Expr.Name (Str.ofString "waiting") _) _ _ _ :: _) _) _ _ _); (fail_if_success (have _ : LMark := by assumption)); k_dflt (refine hold_of ?_))
  trivial
theorem mem3 {a b c : Addr × Obj} {tl : List (Addr × Obj)} : ∀ x ∈ [a, b, c], x ∈ a :: b :: c :: tl := fun x hx => by
  rcases List.mem_cons.mp hx with rfl | hx
  · exact .head _
  rcases List.mem_cons.mp hx with rfl | hx
  · exact .tail _ (.head _)
  · rw [List.mem_singleton.mp hx]; exact .tail _ (.tail _ (.head _))
theorem bis_memB {ns : List Int} {x p : Int} (_ : BInv ns x p p) (p0 : 0 ≤ p) (h : p < ns.length) (e : ns.getD p.toNat 0 = x) : x ∈ ns := bis_mem p0 h e
/-- what _law_made hands back -/
structure Made (X Y : D3) (ns : List Int) (ds : List D3) : Prop where
  srt : Srt ns
  nums : ∀ x ∈ ns, 0 ≤ x ∧ x ≤ 26
  nodup : ns.Nodup
  perm : ns.Perm (ds.map num)
  in3 : ∀ d ∈ ds, In3 d
  m0 : X ∈ ds
  m1 : Y ∈ ds
  clo : ∀ x y, x ∈ ds → y ∈ ds → thn x y ∈ ds
section
variable {prog : Program} {w : World} {mg mb : Str → Option Value} {mean : ExcName → Option Value} {loose : List Str}
  {dp un : Nat} {gd : Option (List Code)} {cn : Str} {cs : Scope} {L a : Addr} {ccd : Value} {cl : List (Str × Addr)} {outer : List Env} {A₀ : Around} {base h₀ : Heap} {m : Str → Option Value} {s : Shared} {Q E : Value → Shared → Prop}
theorem fin3 {h₀ : Heap} {L : Addr} {h : Heap} {l : List (Addr × Obj)} (N : News h₀ L h l) : News h₀ L h l := N
set_option maxRecDepth 100000 in
set_option maxHeartbeats 8000000 in
theorem c_mloop {body : List Stmt} {sc : Scope} {all : List (Addr × Obj)} {ord wait dl d0 d1 k nw no fa L dp un : Nat} {a0 a1 a2 b0 b1 b2 : Int} {ta0 ta1 ta2 tb0 tb1 tb2 : Tok} {its : Array Value} {vo : List Value} {ns : List Int} {ds : List D3} {gd : Option (List Code)} {ccd : Value} {outer : List Env} {Q : Flow → Shared → Prop} {E : Value → Shared → Prop}
    (hb : body = (fnB ((hd.heap_39 w.params).lookup 100)).drop 2) (hsc : sc = fnS ((hd.heap_39 w.params).lookup 100))
    (B : Below A₀ base outer h₀) (F : Fr h₀ L s.heap m) (X : (hd.heap_39 w.params).In h₀) (T : Top topProg loose mean mg mb h₀) (N : News h₀ L s.heap all)
    (e1 : m (Str.ofString "order") = some (.ref ord)) (e2 : m (Str.ofString "waiting") = some (.ref wait)) (e3 : m (Str.ofString "deeds") = some (.ref dl))
    (hO : (ord, W.listOf vo.toArray no) ∈ all) (hW : (wait, W.listOf its nw) ∈ all) (hD : (dl, W.listOf #[.ref d0, .ref d1] k) ∈ all) (h0 : (d0, tup3 (a0, a1, a2) ta0 ta1 ta2) ∈ all) (h1 : (d1, tup3 (b0, b1, b2) tb0 tb1 tb2) ∈ all)
    (hi : IntsAre vo ns) (hw : WtAt [(d0, tup3 (a0, a1, a2) ta0 ta1 ta2), (d1, tup3 (b0, b1, b2) tb0 tb1 tb2)] its.toList ds) (hP : PI (a0, a1, a2) (b0, b1, b2) 0 0 ds ns)
    (ha3 : In3 (a0, a1, a2)) (hb3 : In3 (b0, b1, b2))
    (l1 : dl < ord ∧ d0 < ord ∧ d1 < ord) (l2 : ord < wait ∧ dl < wait ∧ d0 < wait ∧ d1 < wait)
    (hdp : dp + 38 < recursionLimit) (hun : un + 380 < cLine)
    (hE : PassesOwn (model prog w) (ktrTop dp un gd (Str.ofString "_law_made") sc L fa ccd [] outer) (envX (Str.ofString "_law_made") sc L fa ccd []) E)
    (hret : ∀ (m8 : Str → Option Value) (h8 : Heap) (tk8 : Nat) (vw8 vo8 : List Value) (ns8 : List Int) (no8 nw8 : Nat) (ds8 : List D3) (tail8 : List (Addr × Obj)), IntsAre vo8 ns8 → Made (a0, a1, a2) (b0, b1, b2) ns8 ds8 → Fr h₀ L h8 m8 → News h₀ L h8 (JLed ord wait dl d0 d1 k (tup3 (a0, a1, a2) ta0 ta1 ta2) (tup3 (b0, b1, b2) tb0 tb1 tb2) vw8 vo8 no8 nw8 tail8) → Q (.ret (.ref ord)) { s with heap := h8, toks := tk8 }) :
    wpAny (model prog w) (ktrTop dp un gd (Str.ofString "_law_made") sc L fa ccd [] outer) (execs body (envX (Str.ofString "_law_made") sc L fa ccd [])) Q E s := by
  conv at hb => rhs; whnf
  conv at hsc => rhs; whnf
  subst hb hsc
  have hk : (ScopeKind.function = ScopeKind.function) := rfl
  have F5 := fr_at4 F e1 e2 e3 e3
  clear F
  have lmk : LMark := trivial
  have la1 := l1.1
  have la2 := l1.2.1
  have la3 := l1.2.2
  have lb1 := l2.1
  have lb2 := l2.2.1
  have lb3 := l2.2.2.1
  have lb4 := l2.2.2.2
  k_steps
  refine of_hold ?_
  refine' for_grow ?wx ?wp ?wE ?w0
  case wx => exact rfl
  case wp => exact rfl
  case wE => exact hE
  case w0 =>
    (try dsimp only); (try k_fold)
    k_steps
    refine' made_outer (X := (a0, a1, a2)) (Y := (b0, b1, b2)) ?oh ?oF ?oN ?o1 ?o2 ?o3 hO hW hD h0 h1 hi hw hP ?oturn ?odone
    case oh => rfl
    case oF => exact F5
    case oN => exact N
    case o1 => rfl
    case o2 => rfl
    case o3 => rfl
    case odone =>
      clear F5 N
      intro m8 h8 tk8 vw8 vo8 ns8 no8 nw8 ds8 tail8 i1 i2 i3 i4 i5 i6 i7 i8 i9 F8 N8
      (try dsimp only)
      k_steps
      exact hret _ _ _ _ _ _ _ _ _ _ i1 ⟨i2, i3, i4, i5, i6, i7, i8, i9⟩ F8 N8
    case oturn =>
      clear F5 N hO hW hD h0 h1 hi hw hP e1 e2 e3
      rintro i ⟨x0, x1, x2⟩ p t0 t1 t2 m7 I oI h7 tk7 vw vo ns no nw ds tail hc ha hi hw hP hd hp F7 N7
      have imk : InMark := trivial
      (try dsimp only)
      k_steps
      refine of_hold ?_
      refine' for_grow ?wx ?wp ?wE ?w0
      case wx => exact rfl
      case wp => exact rfl
      case wE => first | passes_own | with_unfolding_all passes_own
      case w0 =>
        (try dsimp only)
        k_steps
        refine' made_inner (X := (a0, a1, a2)) (Y := (b0, b1, b2)) ?oh F7 N7 ?o1 ?o2 ?o3 ?o4 ha hi hw hP hd hp ?it ?id
        case oh => rfl
        case o1 => rfl
        case o2 => rfl
        case o3 => rfl
        case o4 => rfl
        case id =>
          clear F7 N7
          intro m8 h8 tk8 vw8 vo8 ns8 no8 nw8 ds8 tail8 e1 e2 e3 ha8 hi8 hw8 hP8 F8 N8
          (try dsimp only)
          k_steps
          exact ⟨h8, _, m8, _, vw8, nw8, rfl, F8, N8, ha8, .tail _ (.head _), vo8, ns8, no8, nw8, ds8, tail8, rfl, hi8, hw8, hP8, e1, e2, e3⟩
        case it =>
          clear F7 N7 hc ha hi hw hP hd hp vw vo ns no nw ds tail
          rintro j ⟨y0, y1, y2⟩ q w0 w1 w2 m7 I2 oI2 h7 tk7 vw vo ns no nw ds tail he hc ha2 ha hi hw hP hd hp hq hno hnw F7 N7
          obtain ⟨hx0, hx1, hx2⟩ : In3 (x0, x1, x2) := hP.in3 _ (List.mem_of_getElem? hd)
          have hy3 : In3 (y0, y1, y2) := by rcases he with ⟨_, e⟩ | ⟨_, e⟩ <;> injection e with e1 e2 <;> injection e2 with e2 e3 <;> subst e1 e2 e3 <;> first | exact ha3 | exact hb3
          obtain ⟨hy0, hy1, hy2⟩ := hy3
          have hsh := hP.short
          have hsS := hP.srt
          have hwl := hP.wlen hw
          have hno' := allNe_off hno
          have hnw' := allNe_off hnw
          have ha2' := ha2
          have ha' := ha
          simp only [JLed, AllNe] at ha2' ha'
          (try dsimp only at hx0 hx1 hx2 hy0 hy1 hy2)
          have hs0 := sel_in hx0 hy0 hy1 hy2
          have hs1 := sel_in hx1 hy0 hy1 hy2
          have hs2 := sel_in hx2 hy0 hy1 hy2
          simp only [JLed, tup3] at N7
          have hp' := hp
          simp only [tup3] at hp' hq
          replace F7 : Fr h₀ L h7 _ := F7
          replace N7 : News h₀ L h7 _ := N7
          (try dsimp only)
          k_steps
          all_goals rename BInv _ _ _ _ => bq
          all_goals first
            | (refine' fin_old (e := (y0, y1, y2)) ?f1 ?f2 ?f3 ?f4 ?f5 ?f6 ?f7 ?f8 ?f9 ?fa ha2 ha hi hw hP hd hp he ⟨hy0, hy1, hy2⟩ ?fb ?fc ?fd ?fe ?ff
               case f1 => k_asm
               case f2 => k_asm
               case f3 => k_mem
               case f4 => k_mem
               case f5 => k_mem
               case f6 => k_mem
               case f7 => k_mem
               case f8 => k_mem
               case f9 => k_mem
               case fa => (intro x hx; k_mem)
               case fb => exact bis_memB bq (by assumption) (by omega) (by assumption)
               case fc => exact rfl
               case fd => exact rfl
               case fe => exact rfl
               case ff => exact rfl)
            | (refine' fin_new (e := (y0, y1, y2)) ?f1 ?f2 ?f3 ?f4 ?f5 ?f6 ?f7 ?f8 ?f9 ?fg ?fa ?fh ?fi ha2 ha ?fj hw hP hd hp he ⟨hy0, hy1, hy2⟩ ?fb ?fk ?fl ?fc ?fd ?fe ?ff
               case f1 => k_asm
               case f2 => k_asm
               case f3 => k_mem
               case f4 => k_mem
               case f5 => k_mem
               case f6 => k_mem
               case f7 => k_mem
               case f8 => k_mem
               case f9 => k_mem
               case fg => k_mem
               case fa => (intro x hx; k_mem)
               case fh => k_ne
               case fi => k_ne
               case fj => assumption
               case fb => first | exact bis_not hsS bq (by assumption) (fun h => absurd h (by omega)) | exact bis_not hsS bq (by assumption) (fun _ => by assumption)
               case fk => assumption
               case fl => assumption
               case fc => exact rfl
               case fd => exact rfl
               case fe => exact rfl
               case ff => exact rfl)
set_option maxRecDepth 100000 in
set_option maxHeartbeats 8000000 in
theorem c_madeN {all : List (Addr × Obj)} {dl d0 d1 k : Nat} {a0 a1 a2 b0 b1 b2 : Int} {ta0 ta1 ta2 tb0 tb1 tb2 : Tok}
    (B : Below A₀ base outer h₀) (F : Fr h₀ L s.heap m) (X : (hd.heap_39 w.params).In h₀) (T : Top topProg loose mean mg mb h₀) (hk : cs.kind = .function)
    (Na : News h₀ L s.heap all) (hm1 : (dl, W.listOf #[.ref d0, .ref d1] k) ∈ all) (hm2 : (d0, tupO [.int a0 ta0, .int a1 ta1, .int a2 ta2]) ∈ all) (hm3 : (d1, tupO [.int b0 tb0, .int b1 tb1, .int b2 tb2]) ∈ all)
    (ha0 : 0 ≤ a0 ∧ a0 ≤ 2) (ha1 : 0 ≤ a1 ∧ a1 ≤ 2) (ha2 : 0 ≤ a2 ∧ a2 ≤ 2) (hb0 : 0 ≤ b0 ∧ b0 ≤ 2) (hb1 : 0 ≤ b1 ∧ b1 ≤ 2) (hb2 : 0 ≤ b2 ∧ b2 ≤ 2)
    (hne : Dat.tuple [Dat.int b0, Dat.int b1, Dat.int b2] ∉ [Dat.tuple [Dat.int a0, Dat.int a1, Dat.int a2]])
    (hdp : dp + 40 < recursionLimit) (hun : un + 400 < cLine)
    (hret : ∀ (o : Nat) vs ns nn ds h' tk', Fr h₀ L h' m → News h₀ L h' ((o, W.listOf vs.toArray nn) :: all) → AllNe o all → IntsAre vs ns → Made (a0, a1, a2) (b0, b1, b2) ns ds → Q (.ref o) { s with heap := h', toks := tk' }) :
    wpAny (model prog w) (ktrTop dp un gd cn cs L a ccd cl outer) (call (.ref 100) [.ref dl]) Q E s := by
  have N : News h₀ L s.heap [(dl, W.listOf #[.ref d0, .ref d1] k), (d0, tupO [.int a0 ta0, .int a1 ta1, .int a2 ta2]), (d1, tupO [.int b0 tb0, .int b1 tb1, .int b2 tb2])] := fun x hx => by
    rcases List.mem_cons.mp hx with rfl | hx
    · exact Na _ hm1
    rcases List.mem_cons.mp hx with rfl | hx
    · exact Na _ hm2
    · rw [List.mem_singleton.mp hx]; exact Na _ hm3
  have hs : ∀ q ∈ [(dl, W.listOf #[.ref d0, .ref d1] k), (d0, tupO [.int a0 ta0, .int a1 ta1, .int a2 ta2]), (d1, tupO [.int b0 tb0, .int b1 tb1, .int b2 tb2])], s.heap.get? q.1 = some q.2 := fun q hq => (N q hq).1
  have hfin : ∀ (r : Nat) o h', Fr h₀ L h' m → News h₀ L h' ((r, o) :: [(dl, W.listOf #[.ref d0, .ref d1] k), (d0, tupO [.int a0 ta0, .int a1 ta1, .int a2 ta2]), (d1, tupO [.int b0 tb0, .int b1 tb1, .int b2 tb2])]) → Kept [dl, d0, d1] s.heap h' → s.heap.get? r = none → News h₀ L h' ((r, o) :: all) ∧ AllNe r all := by
    intro r o h' F' N' K' hr
    refine ⟨fun p hp => ?_, allNe_of Na hr⟩
    rcases List.mem_cons.mp hp with rfl | hp
    · exact N' _ (List.mem_cons_self ..)
    · exact news_lift Na (fun q hq => N' q (List.mem_cons_of_mem _ hq)) K' hs p hp
  clear Na hs hm1 hm2 hm3
  refine wpAny_call ?_
  k_dflt (walk_at "enterN")
  intro g L' h₁ FG F' N' B' X' T' kp
  (try dsimp only); (try k_fold)
  k_steps
  refine of_hold ?_
  rename Fr _ _ _ _ => F5
  rename News _ _ _ _ => N5
  refine' c_mloop (a0 := a0) (a1 := a1) (a2 := a2) (hb := ?y1) (hsc := ?y2) (B := ?yB) (F := F5) (X := ?yX) (T := ?yT) (N := N5) (e1 := ?o1) (e2 := ?o2) (e3 := ?o3) (hO := ?o4) (hW := ?o5) (hD := ?o6) (h0 := ?o7) (h1 := ?o8) (hi := ?o9) (hw := ?oa) (hP := ?ob) (ha3 := ⟨ha0, ha1, ha2⟩) (hb3 := ⟨hb0, hb1, hb2⟩) (l1 := ?l1) (l2 := ?l2) (hdp := ?yd) (hun := ?yu) (hE := ?yE) (hret := ?yr)
  case y1 => rfl
  case y2 => rfl
  case yB => k_asm
  case yX => k_asm
  case yT => k_asm
  case o1 => rfl
  case o2 => rfl
  case o3 => rfl
  case o4 => k_mem
  case o5 => k_mem
  case o6 => k_mem
  case o7 => k_mem
  case o8 => k_mem
  case o9 => assumption
  case oa => (show WtAt _ [.ref d0, .ref d1] [(a0, a1, a2), (b0, b1, b2)]); exact ⟨⟨d0, ta0, ta1, ta2, rfl, .head _⟩, ⟨d1, tb0, tb1, tb2, rfl, .tail _ (.head _)⟩, trivial⟩
  case ob => exact PI.start2 ⟨ha0, ha1, ha2⟩ ⟨hb0, hb1, hb2⟩ (fun e => hne (by rw [List.mem_singleton]; injection e with e1 e2; injection e2 with e2 e3; rw [e1, e2, e3])) (by assumption) (List.Perm.trans (by assumption) (List.Perm.cons _ (by assumption)))
  case l1 => exact ⟨lt_at (dl, _) (by assumption) (by k_mem), lt_at (d0, _) (by assumption) (by k_mem), lt_at (d1, _) (by assumption) (by k_mem)⟩
  case l2 => exact ⟨lt_at (_, _) (by assumption) (by k_mem), lt_at (dl, _) (by assumption) (by k_mem), lt_at (d0, _) (by assumption) (by k_mem), lt_at (d1, _) (by assumption) (by k_mem)⟩
  case yd => ktr_room
  case yu => ktr_units
  case yE => first | passes_own | with_unfolding_all passes_own
  case yr =>
    clear F5 N5
    intro m8 h8 tk8 vw8 vo8 ns8 no8 nw8 ds8 tail8 i1 i2 F8 N8
    (try dsimp only)
    k_steps
    simp only [JLed] at N8
    have hn := fresh_of kp N8 (.head _) (nm3 (by k_ne) (by k_ne) (by k_ne))
    have fin := hfin _ _ _ (by k_asm) (news_out F N N8 (fun x hx => .tail _ (.tail _ (mem3 x hx))) (.head _) hn) (Kept.of kp F8) hn
    exact hret _ _ _ _ _ _ _ (by k_asm) fin.1 fin.2 i1 i2
set_option maxRecDepth 100000 in
set_option maxHeartbeats 8000000 in
theorem c_madeE {all : List (Addr × Obj)} {dl d0 d1 k : Nat} {a0 a1 a2 : Int} {ta0 ta1 ta2 tb0 tb1 tb2 : Tok}
    (B : Below A₀ base outer h₀) (F : Fr h₀ L s.heap m) (X : (hd.heap_39 w.params).In h₀) (T : Top topProg loose mean mg mb h₀) (hk : cs.kind = .function)
    (Na : News h₀ L s.heap all) (hm1 : (dl, W.listOf #[.ref d0, .ref d1] k) ∈ all) (hm2 : (d0, tupO [.int a0 ta0, .int a1 ta1, .int a2 ta2]) ∈ all) (hm3 : (d1, tupO [.int a0 tb0, .int a1 tb1, .int a2 tb2]) ∈ all)
    (ha0 : 0 ≤ a0 ∧ a0 ≤ 2) (ha1 : 0 ≤ a1 ∧ a1 ≤ 2) (ha2 : 0 ≤ a2 ∧ a2 ≤ 2) 
    
    (hdp : dp + 40 < recursionLimit) (hun : un + 400 < cLine)
    (hret : ∀ (o : Nat) vs ns nn ds h' tk', Fr h₀ L h' m → News h₀ L h' ((o, W.listOf vs.toArray nn) :: all) → AllNe o all → IntsAre vs ns → Made (a0, a1, a2) (a0, a1, a2) ns ds → Q (.ref o) { s with heap := h', toks := tk' }) :
    wpAny (model prog w) (ktrTop dp un gd cn cs L a ccd cl outer) (call (.ref 100) [.ref dl]) Q E s := by
  have N : News h₀ L s.heap [(dl, W.listOf #[.ref d0, .ref d1] k), (d0, tupO [.int a0 ta0, .int a1 ta1, .int a2 ta2]), (d1, tupO [.int a0 tb0, .int a1 tb1, .int a2 tb2])] := fun x hx => by
    rcases List.mem_cons.mp hx with rfl | hx
    · exact Na _ hm1
    rcases List.mem_cons.mp hx with rfl | hx
    · exact Na _ hm2
    · rw [List.mem_singleton.mp hx]; exact Na _ hm3
  have hs : ∀ q ∈ [(dl, W.listOf #[.ref d0, .ref d1] k), (d0, tupO [.int a0 ta0, .int a1 ta1, .int a2 ta2]), (d1, tupO [.int a0 tb0, .int a1 tb1, .int a2 tb2])], s.heap.get? q.1 = some q.2 := fun q hq => (N q hq).1
  have hfin : ∀ (r : Nat) o h', Fr h₀ L h' m → News h₀ L h' ((r, o) :: [(dl, W.listOf #[.ref d0, .ref d1] k), (d0, tupO [.int a0 ta0, .int a1 ta1, .int a2 ta2]), (d1, tupO [.int a0 tb0, .int a1 tb1, .int a2 tb2])]) → Kept [dl, d0, d1] s.heap h' → s.heap.get? r = none → News h₀ L h' ((r, o) :: all) ∧ AllNe r all := by
    intro r o h' F' N' K' hr
    refine ⟨fun p hp => ?_, allNe_of Na hr⟩
    rcases List.mem_cons.mp hp with rfl | hp
    · exact N' _ (List.mem_cons_self ..)
    · exact news_lift Na (fun q hq => N' q (List.mem_cons_of_mem _ hq)) K' hs p hp
  clear Na hs hm1 hm2 hm3
  have hne : Dat.tuple [Dat.int a0, Dat.int a1, Dat.int a2] ∈ [Dat.tuple [Dat.int a0, Dat.int a1, Dat.int a2]] := List.mem_singleton.mpr rfl
  refine wpAny_call ?_
  k_dflt (walk_at "enterN")
  intro g L' h₁ FG F' N' B' X' T' kp
  (try dsimp only); (try k_fold)
  k_steps
  refine of_hold ?_
  rename Fr _ _ _ _ => F5
  rename News _ _ _ _ => N5
  refine' c_mloop (a0 := a0) (a1 := a1) (a2 := a2) (hb := ?y1) (hsc := ?y2) (B := ?yB) (F := F5) (X := ?yX) (T := ?yT) (N := N5) (e1 := ?o1) (e2 := ?o2) (e3 := ?o3) (hO := ?o4) (hW := ?o5) (hD := ?o6) (h0 := ?o7) (h1 := ?o8) (hi := ?o9) (hw := ?oa) (hP := ?ob) (ha3 := ⟨ha0, ha1, ha2⟩) (hb3 := ⟨ha0, ha1, ha2⟩) (l1 := ?l1) (l2 := ?l2) (hdp := ?yd) (hun := ?yu) (hE := ?yE) (hret := ?yr)
  case y1 => rfl
  case y2 => rfl
  case yB => k_asm
  case yX => k_asm
  case yT => k_asm
  case o1 => rfl
  case o2 => rfl
  case o3 => rfl
  case o4 => k_mem
  case o5 => k_mem
  case o6 => k_mem
  case o7 => k_mem
  case o8 => k_mem
  case o9 => assumption
  case oa => (show WtAt _ [.ref d0] [(a0, a1, a2)]); exact ⟨⟨d0, ta0, ta1, ta2, rfl, .head _⟩, trivial⟩
  case ob => exact PI.start1 ⟨ha0, ha1, ha2⟩ (by assumption) (by assumption)
  case l1 => exact ⟨lt_at (dl, _) (by assumption) (by k_mem), lt_at (d0, _) (by assumption) (by k_mem), lt_at (d1, _) (by assumption) (by k_mem)⟩
  case l2 => exact ⟨lt_at (_, _) (by assumption) (by k_mem), lt_at (dl, _) (by assumption) (by k_mem), lt_at (d0, _) (by assumption) (by k_mem), lt_at (d1, _) (by assumption) (by k_mem)⟩
  case yd => ktr_room
  case yu => ktr_units
  case yE => first | passes_own | with_unfolding_all passes_own
  case yr =>
    clear F5 N5
    intro m8 h8 tk8 vw8 vo8 ns8 no8 nw8 ds8 tail8 i1 i2 F8 N8
    (try dsimp only)
    k_steps
    simp only [JLed] at N8
    have hn := fresh_of kp N8 (.head _) (nm3 (by k_ne) (by k_ne) (by k_ne))
    have fin := hfin _ _ _ (by k_asm) (news_out F N N8 (fun x hx => .tail _ (.tail _ (mem3 x hx))) (.head _) hn) (Kept.of kp F8) hn
    exact hret _ _ _ _ _ _ _ (by k_asm) fin.1 fin.2 i1 i2
end
end Mine
end
section
namespace Mine
section
variable {prog : Program} {w : World} {mg mb : Str → Option Value} {mean : ExcName → Option Value} {loose : List Str}
  {dp un : Nat} {gd : Option (List Code)} {cn : Str} {cs : Scope} {L a : Addr} {ccd : Value} {cl : List (Str × Addr)} {outer : List Env} {A₀ : Around} {base h₀ : Heap} {m : Str → Option Value} {s : Shared} {Q E : Value → Shared → Prop}
theorem c_made {all : List (Addr × Obj)} {dl d0 d1 k : Nat} {a0 a1 a2 b0 b1 b2 : Int} {ta0 ta1 ta2 tb0 tb1 tb2 : Tok}
    (B : Below A₀ base outer h₀) (F : Fr h₀ L s.heap m) (X : (hd.heap_39 w.params).In h₀) (T : Top topProg loose mean mg mb h₀) (hk : cs.kind = .function)
    (Na : News h₀ L s.heap all) (hm1 : (dl, W.listOf #[.ref d0, .ref d1] k) ∈ all) (hm2 : (d0, tupO [.int a0 ta0, .int a1 ta1, .int a2 ta2]) ∈ all) (hm3 : (d1, tupO [.int b0 tb0, .int b1 tb1, .int b2 tb2]) ∈ all)
    (ha0 : 0 ≤ a0 ∧ a0 ≤ 2) (ha1 : 0 ≤ a1 ∧ a1 ≤ 2) (ha2 : 0 ≤ a2 ∧ a2 ≤ 2) (hb0 : 0 ≤ b0 ∧ b0 ≤ 2) (hb1 : 0 ≤ b1 ∧ b1 ≤ 2) (hb2 : 0 ≤ b2 ∧ b2 ≤ 2)
    (hdp : dp + 40 < recursionLimit) (hun : un + 400 < cLine)
    (hret : ∀ (o : Nat) vs ns nn ds h' tk', Fr h₀ L h' m → News h₀ L h' ((o, W.listOf vs.toArray nn) :: all) → AllNe o all → IntsAre vs ns → Made (a0, a1, a2) (b0, b1, b2) ns ds → Q (.ref o) { s with heap := h', toks := tk' }) :
    wpAny (model prog w) (ktrTop dp un gd cn cs L a ccd cl outer) (call (.ref 100) [.ref dl]) Q E s := by
  by_cases h : b0 = a0 ∧ b1 = a1 ∧ b2 = a2
  · obtain ⟨rfl, rfl, rfl⟩ := h
    exact c_madeE B F X T hk Na hm1 hm2 hm3 ha0 ha1 ha2 hdp hun hret
  · refine c_madeN B F X T hk Na hm1 hm2 hm3 ha0 ha1 ha2 hb0 hb1 hb2 (fun q => h ?_) hdp hun hret
    have q := List.mem_singleton.mp q
    injection q with q
    injection q with q1 q
    injection q1 with q1
    injection q with q2 q
    injection q2 with q2
    injection q with q3 q
    injection q3 with q3
    exact ⟨q1, q2, q3⟩
end
end Mine
end
section
set_option maxRecDepth 100000
namespace Mine
theorem any012 {x : Int} (h : 0 ≤ x ∧ x ≤ 2) : ([0, 1, 2].any fun y => y == x) = true := by
  rcases (by omega : x = 0 ∨ x = 1 ∨ x = 2) with rfl | rfl | rfl <;> rfl
theorem ite_any {x : Int} {P Q : Prop} (h : 0 ≤ x ∧ x ≤ 2) (hq : Q) : if (![0, 1, 2].any fun y => y == x) = true then P else Q := by
  rw [any012 h]; exact hq
theorem okL {ds : List Dat} (h : (ds.all (kqdOk 8)) = true) : ∀ d ∈ ds, kqdOk 8 d = true := List.all_eq_true.mp h
theorem sel_is {a b0 b1 b2 r : Int} (h : sel a b0 b1 b2 = r) : [b0, b1, b2].getD a.toNat 0 = r := h
theorem news_sub3 {h₀ h : Heap} {L : Addr} {a b c : Addr × Obj} {tail all : List (Addr × Obj)} (h1 : a ∈ all) (h2 : b ∈ all) (h3 : c ∈ all) (ht : ∀ x ∈ tail, x ∈ all) (N : News h₀ L h all) : News h₀ L h (a :: b :: c :: tail) := fun x hx => by
  rcases List.mem_cons.mp hx with rfl | hx
  · exact N _ h1
  rcases List.mem_cons.mp hx with rfl | hx
  · exact N _ h2
  rcases List.mem_cons.mp hx with rfl | hx
  · exact N _ h3
  · exact N _ (ht x hx)
theorem kqdPs_map : ∀ ds : List Dat, kqdPs ds = ds.map kqdP
  | [] => rfl
  | d :: r => by rw [kqdPs, kqdPs_map r]; rfl
section
variable {prog : Program} {w : World} {A : Around} {E : Value → Shared → Prop} {s : Shared} {h₀ : Heap} {L a b : Addr} {news : List (Addr × Obj)} {Q : Value → Shared → Prop}
/-- a list's index of a datum -/
theorem kqd_index {its : Array Value} {ka : Nat} {ds : List Dat} {x : Value} {d : Dat} (N : News h₀ L s.heap news) (ma : (a, W.listOf its ka) ∈ news) (Da : DatAll news its.toList ds) (Dx : DatIn news x d) (ha : ∀ d ∈ ds, kqdOk 8 d = true) (hd : kqdOk 8 d = true) (hu : A.units + 64 < cLine)
    (j : Nat) (hj : ds[j]? = some d) (hno : ∀ i, i < j → ds[i]? ≠ some d) (hz : j ≤ 1000) (h : ∀ t tk, Q (.int (j : Int) t) { s with toks := tk }) : wpAny (model prog w) A (call (.builtin "list.index") [.ref a, x]) Q E s := by
  obtain ⟨as, ra⟩ := kqd_all N 8 Da ha
  obtain ⟨bs, rx⟩ := kqd_in N 8 Dx hd
  have l := kqd_layL ha
  have ld := kqd_lay 8 d hd
  have l2 := ld.2
  have em := PySem.SeqAt.readsAll_map _ _ _ l.1 ra
  rw [kqdPs_map] at em
  have hlen : its.toList.length = ds.length := by have := congrArg List.length em; simpa using this
  have hjl : j < ds.length := (List.getElem?_eq_some_iff.mp hj).1
  have hjs : j < its.size := by rw [← Array.length_toList]; omega
  have eat : ∀ (i : Nat) (hi : i < its.size), PySem.SeqAt.readOf s.heap its[i] = kqdP (ds[i]'(by rw [← hlen, Array.length_toList]; exact hi)) := fun i hi => by
    have q := congrArg (fun z => z[i]?) em
    simp only [List.getElem?_map] at q
    rw [List.getElem?_eq_getElem (by rw [Array.length_toList]; exact hi), List.getElem?_eq_getElem (by rw [← hlen, Array.length_toList]; exact hi)] at q
    simpa using q
  refine call_meets PySem.F.slot_list_index ⟨_, (N _ ma).1, rfl⟩ PySem.F.entry_list_index (PySem.F.args_list_index_2 _ _)
    (PySem.SeqAt.list_indexAt a its ka none #[] x (fun y => PyData.eqv (PySem.SeqAt.readOf s.heap y) (kqdP d)) j hjs (by omega) ?_ ?_) ⟨(N _ ma).1, PySem.SeqAt.items_eqAt ra rx l.1 ld.1 ?_, h _ _⟩
  · rw [eat j hjs]
    refine (kqd_eqv 8 _ d 8 (ha _ (List.getElem_mem _)) hd).mpr ?_
    rw [List.getElem?_eq_getElem hjl] at hj
    exact Option.some.inj hj
  · intro i hi hij
    rw [eat i hi]
    refine Bool.eq_false_iff.mpr fun q => ?_
    have := (kqd_eqv 8 _ d 8 (ha _ (List.getElem_mem _)) hd).mp q
    exact hno i hij (by rw [List.getElem?_eq_getElem (by omega), this])
  · have := Nat.min_le_right (PyData.depthAll (kqdPs ds)) (kqdP d).depth
    omega
theorem datAll_ints {vs : List Value} {ns : List Int} (h : IntsAre vs ns) : DatAll news vs (ns.map Dat.int) := by
  induction h with
  | nil => exact .nil
  | cons k t _ ih => exact .cons (.int k t) ih
open Classical in
theorem notin_ints {vs : List Value} {ns : List Int} {nn : Nat} {x : Int} {t : Tok} (N : News h₀ L s.heap news) (ma : (a, W.listOf vs.toArray nn) ∈ news) (hi : IntsAre vs ns) (hu : A.units + 64 < cLine) (hx : x ∈ ns) (h : Q (.bool false) s) : wpAny (model prog w) A (compareOp .NotIn (.int x t) (.ref a)) Q E s :=
  kqd_notIn N ma rfl rfl (datAll_ints hi) (fun _ h => h) (.int x t) (fun _ h => h) (fun d hd => by obtain ⟨x, _, hx⟩ := List.mem_map.mp hd; subst hx; rfl) rfl hu (by rw [decide_eq_true (List.mem_map_of_mem hx)]; exact h)
theorem no0 {l : List Dat} {d : Dat} : ∀ i, i < 0 → l[i]? ≠ some d := fun i hi => absurd hi (Nat.not_lt_zero _)
theorem no1 {l : List Dat} {a d : Dat} (h : a ≠ d) : ∀ i, i < 1 → (a :: l)[i]? ≠ some d := fun i hi => by
  obtain rfl : i = 0 := by omega
  simpa using h
theorem no2 {l : List Dat} {a b d : Dat} (h : a ≠ d) (h2 : b ≠ d) : ∀ i, i < 2 → (a :: b :: l)[i]? ≠ some d := fun i hi => by
  rcases (by omega : i = 0 ∨ i = 1) with rfl | rfl
  · simpa using h
  · simpa using h2
theorem eq_intF {x y : Int} {t u : Tok} (hq : x ≠ y) (h : Q (.bool false) s) : wpAny (model prog w) A (compareOp .Eq (.int x t) (.int y u)) Q E s :=
  PySem.P.eq_int (by rw [beq_eq_false_iff_ne.mpr hq]; exact h)
theorem ne_intF {x y : Int} {t u : Tok} (hq : x = y) (h : Q (.bool false) s) : wpAny (model prog w) A (compareOp .NotEq (.int x t) (.int y u)) Q E s :=
  PySem.P.ne_int (by rw [bne_eq_false_iff_eq.mpr hq]; exact h)
theorem gt_intF {x y : Int} {t u : Tok} (hq : x ≤ y) (h : Q (.bool false) s) : wpAny (model prog w) A (compareOp .Gt (.int x t) (.int y u)) Q E s :=
  PySem.P.gt_int (by rw [decide_eq_false (by omega)]; exact h)
theorem ints_ok {ns : List Int} : ∀ d ∈ ns.map Dat.int, kqdOk 8 d = true := fun d hd => by obtain ⟨x, _, hx⟩ := List.mem_map.mp hd; subst hx; rfl
open Classical in
theorem ne_listF {oa ob : Obj} {xs ys : List Value} {ka kb : Nat} {ds es : List Dat} (N : News h₀ L s.heap news) (ma : (a, oa) ∈ news) (ca : oa.cls = .type "list") (da : oa.data = .seq xs.toArray ka) (Da : DatAll news xs ds)
    (mb : (b, ob) ∈ news) (cb : ob.cls = .type "list") (db : ob.data = .seq ys.toArray kb) (Db : DatAll news ys es) (ha : ∀ d ∈ ds, kqdOk 8 d = true) (hb : ∀ d ∈ es, kqdOk 8 d = true) (hu : A.units + 64 < cLine) (hq : ds = es) (h : Q (.bool false) s) : wpAny (model prog w) A (compareOp .NotEq (.ref a) (.ref b)) Q E s :=
  kqd_ne N ma ca da Da (fun _ h => h) mb cb db Db (fun _ h => h) ha hb hu (by rw [decide_eq_true hq]; exact h)
theorem dist_1 (r : Int) : distinct [r] = 1 := rfl
theorem dist_2 (r : Int) : distinct [r, r] = 1 := by simp [distinct, keyStep]
theorem dist_3 (r : Int) : distinct [r, r, r] = 1 := by simp [distinct, keyStep]
theorem sorted_rev {l c₀ : Nat} {m : Str → Option Value} {vs : List Value} {ns : List Int} (F : Fr h₀ L s.heap m) (N : News h₀ L s.heap news) (hm : (l, W.listOf vs.toArray c₀) ∈ news) (hi : IntsAre vs ns) (h64 : ns.length < 64) (hs : ns.Pairwise (fun a b => b ≤ a))
    (h : ∀ D vs' c h', Fr h₀ L h' m → News h₀ L h' ((D, W.listOf vs'.toArray c) :: news) → (∀ q ∈ news, q.1 < D) → IntsAre vs' ns.reverse → Q (.ref D) { s with heap := h' }) :
    wpAny (model prog w) A (call (.builtin "sorted") [.ref l]) Q E s := by
  refine kso_sorted F N ⟨_, (N _ hm).1, rfl, c₀, rfl⟩ hi h64 fun D vs' ns' c h' F' N' hl hi' _ hp ho _ => ?_
  have e : ns' = ns.reverse := by
    refine List.Perm.eq_of_pairwise (le := fun a b => a ≤ b) (fun a b _ _ h1 h2 => Int.le_antisymm h1 h2) ho (List.pairwise_reverse.mpr hs) (hp.trans (List.reverse_perm ns).symm)
  subst e
  exact h D vs' c h' F' N' hl hi'
theorem kqd_shaped {d : Dat} (h : kqdOk 8 d = true) : SeqAt.shaped (kqdP d) = true := by
  have l := kqd_lay 8 d h
  unfold SeqAt.shaped; rw [l.1, Bool.true_and]; exact decide_eq_true (Nat.le_trans l.2 (by decide))
theorem dat_eqT {u v : Value} {d e : Dat} (N : News h₀ L s.heap news) (Da : DatIn news u d) (Db : DatIn news v e) (hd : kqdOk 8 d = true) (he : kqdOk 8 e = true) (hu : A.units + 64 < cLine) (hq : d = e) (h : Q (.bool true) s) : wpAny (model prog w) A (compareOp .Eq u v) Q E s := by
  obtain ⟨as, ra⟩ := kqd_in N 8 Da hd
  obtain ⟨bs, rb⟩ := kqd_in N 8 Db he
  exact eq_dataH ra rb (kqd_shaped hd) (kqd_shaped he) hu (by rw [(kqd_eqv 8 d e 8 hd he).mpr hq]; exact h)
theorem dat_eqF {u v : Value} {d e : Dat} (N : News h₀ L s.heap news) (Da : DatIn news u d) (Db : DatIn news v e) (hd : kqdOk 8 d = true) (he : kqdOk 8 e = true) (hu : A.units + 64 < cLine) (hq : d ≠ e) (h : Q (.bool false) s) : wpAny (model prog w) A (compareOp .Eq u v) Q E s := by
  obtain ⟨as, ra⟩ := kqd_in N 8 Da hd
  obtain ⟨bs, rb⟩ := kqd_in N 8 Db he
  exact eq_dataH ra rb (kqd_shaped hd) (kqd_shaped he) hu (by rw [Bool.eq_false_iff.mpr fun q => hq ((kqd_eqv 8 d e 8 hd he).mp q)]; exact h)
theorem dat_neF {u v : Value} {d e : Dat} (N : News h₀ L s.heap news) (Da : DatIn news u d) (Db : DatIn news v e) (hd : kqdOk 8 d = true) (he : kqdOk 8 e = true) (hu : A.units + 64 < cLine) (hq : d = e) (h : Q (.bool false) s) : wpAny (model prog w) A (compareOp .NotEq u v) Q E s := by
  obtain ⟨as, ra⟩ := kqd_in N 8 Da hd
  obtain ⟨bs, rb⟩ := kqd_in N 8 Db he
  exact ne_dataH ra rb (kqd_shaped hd) (kqd_shaped he) hu (by rw [(kqd_eqv 8 d e 8 hd he).mpr hq]; exact h)
end
section
variable {prog : Program} {w : World} {A : Around} {E : Value → Shared → Prop} {s : Shared} {h₀ : Heap} {L : Addr} {m : Str → Option Value} {env : Env}
def SrcTT (prog : Program) (w : World) (A : Around) (h₀ : Heap) (L : Addr) (m : Str → Option Value) (env : Env) (ct elt : Expr) (x : Str) (scope : Scope) (cl : List (Str × Addr)) (Fin : Shared → List Value → List (Addr × Obj) → Prop) (xv : Value) (s₁ : Shared) : Prop :=
  ∃ ax its news, xv = .ref ax ∧ A.handled = none ∧ Fr h₀ L s₁.heap m ∧ News h₀ L s₁.heap news ∧ TupAt h₀ ax its news ∧ its.size ≤ sizeLine ∧
    ∀ s₂ : Shared, (∃ h, s₂ = { s₁ with heap := h }) → LCt.CompRestT prog w A h₀ L m env ct elt x scope cl s₂ (TupAt h₀ ax its) (fun i v => its[i]? = some v) (Fin s₂) its.size 0 [] news
theorem SrcTT.ledger {ct elt : Expr} {x : Str} {scope : Scope} {cl : List (Str × Addr)} {Fin : Shared → List Value → List (Addr × Obj) → Prop} {ax : Addr} {its : Array Value} {k : Nat} {news : List (Addr × Obj)} {s₁ : Shared}
    (hh : A.handled = none) (F : Fr h₀ L s₁.heap m) (N : News h₀ L s₁.heap news) (hm : (ax, ({ cls := .type "tuple", data := .seq its k } : Obj)) ∈ news) (hsz : its.size ≤ sizeLine)
    (h : ∀ g, LCt.CompRestT prog w A h₀ L m env ct elt x scope cl { s₁ with heap := g } (TupAt h₀ ax its) (fun i v => its[i]? = some v) (Fin { s₁ with heap := g }) its.size 0 [] news) :
    SrcTT prog w A h₀ L m env ct elt x scope cl Fin (.ref ax) s₁ := ⟨ax, its, news, rfl, hh, F, N, .inr ⟨_, hm, rfl, _, rfl⟩, hsz, fun _ ⟨g, e⟩ => e ▸ h g⟩
/-- a comprehension with one test over a tuple of the ledger -/
theorem lc_tupT {ct elt iter : Expr} {x : Str} {px : Pos} {scope : Scope} {cl : List (Str × Addr)} {pos : Pos} {Q : Value → Shared → Prop} (F₀ : Fr h₀ L s.heap m)
    (hclos : closureFor scope env = pure cl) (hcell : ∀ y ∈ scope.names, y.2 ≠ .cell) (hkind : scope.kind = .function)
    (hnames : ∀ y ∈ scope.names, y.2 = .local → scope.names.lookup y.1 = some .local) (hx : scope.names.lookup x = some .local)
    (h : wpAny (model prog w) A (eval iter env) (SrcTT prog w A h₀ L m env ct elt x scope cl (fun s₂ => LCg.FinE h₀ L m s₂ Q)) E s)
    (hs : ∀ x, foldedSetIterable iter env x = pure x := by intro _; rfl) :
    wpAny (model prog w) A (eval (.ListComp elt [⟨.Name x px, iter, [ct], 0⟩] scope pos) env) Q E s := by
  rw [eval_ListComp]
  refine wpAny_comprehension_free (use := none) rfl hs hclos hkind hnames (wpAny_mono h (fun xv s₁ h₁ => ?_) fun _ _ e => e)
  obtain ⟨ax, its, news, rfl, hh, F, N, S, hsz, R⟩ := h₁
  have hl := S.tup F.keep N
  have hlt : ax < s₁.heap.objs.size := by obtain ⟨_, e, _⟩ := hl; exact Heap.lt_size e
  refine wpAny_pyIter_tuple hl ?_
  have up : ∀ b o, s₁.heap.get? b = some o → (s₁.heap.push { cls := .type "tuple_iterator", data := .fields #[.ref ax, .int 0 0] }).get? b = some o := fun b o e => Heap.get?_push_of_some _ e
  refine LCt.block_T (Walks.tuple hh s₁.heap.objs.size ax (Nat.ne_of_lt hlt) its) hsz (fun i h st => by obtain ⟨o, e, _⟩ := st.1; exact ⟨o, e⟩) tup_st hcell hkind hx ⟨⟨_, Heap.get?_push_size _ rfl, rfl, rfl⟩, hl.at fun o e => up _ _ e⟩ (fun b hb => ?_)
    (F.keeps up) (N.grown up) (Nat.ne_of_lt F.ns.lt) (next_is_new F) (fun p hp => Nat.ne_of_lt (Heap.lt_size (N p hp).1)) S (R _ ⟨_, rfl⟩) ?_
  · show b < (s₁.heap.push _).objs.size
    rw [Heap.size_push]
    rcases List.mem_cons.mp hb with rfl | hb
    · exact Nat.lt_succ_self _
    · rw [List.mem_singleton.mp hb]; exact Nat.lt_succ_of_lt hlt
  · intro D C h tk m' ys news' F' N' o1 hn hC₀ hD₀ hCL hDL hCD offC fin
    refine ⟨m', hn, fun h'' hs'' => fin D h'' tk (F'.change hs'' hCL hC₀) (fun p hp => ?_) o1⟩
    refine ⟨hs''.extBut _ _ ?_ (N' p hp).1, (N' p hp).2⟩
    rcases List.mem_cons.mp hp with rfl | hp
    · exact Ne.symm hCD
    · exact offC p hp
end
section
variable {prog : Program} {w : World} {mg mb : Str → Option Value} {mean : ExcName → Option Value} {loose : List Str}
  {dp un : Nat} {gd : Option (List Code)} {cn : Str} {cs : Scope} {L a : Addr} {ccd : Value} {cl : List (Str × Addr)} {outer : List Env} {A₀ : Around} {base h₀ : Heap} {m : Str → Option Value} {s : Shared} {Q E : Value → Shared → Prop}
/-- bisect_left of what is in the list -/
theorem c_bisIn {all : List (Addr × Obj)} {o : Nat} {vs : List Value} {ns : List Int} {nn : Nat} {x : Int} {tx : Tok}
    (B : Below A₀ base outer h₀) (F : Fr h₀ L s.heap m) (X : (hd.heap_39 w.params).In h₀) (T : Top topProg loose mean mg mb h₀) (hk : cs.kind = .function) (Na : News h₀ L s.heap all)
    (hm : (o, W.listOf vs.toArray nn) ∈ all) (hi : IntsAre vs ns) (hlen : ns.length ≤ 1000) (hS : Srt ns) (hx : x ∈ ns)
    (hdp : dp + 24 < recursionLimit) (hun : un + 240 < cLine)
    (hret : ∀ (p : Int) t h' tk', Fr h₀ L h' m → News h₀ L h' all → 0 ≤ p → p < ns.length → ns.getD p.toNat 0 = x → Q (.int p t) { s with heap := h', toks := tk' }) :
    wpAny (model prog w) (ktrTop dp un gd cn cs L a ccd cl outer) (call (.ref 74) [.ref o, .int x tx]) Q E s := by
  refine c_bis B F X T hk Na hm hi hlen hS hdp hun fun p t h' tk' F' N' p0 p1 bi => ?_
  by_cases q : p < ns.length ∧ ns.getD p.toNat 0 = x
  · exact hret p t h' tk' F' N' p0 q.1 q.2
  · exact absurd hx (bis_not hS bi p0 fun h e => q ⟨h, e⟩)
theorem c_reachR {all : List (Addr × Obj)} {one : Nat} {a0 a1 a2 r : Int} {ta0 ta1 ta2 : Tok}
    (B : Below A₀ base outer h₀) (F : Fr h₀ L s.heap m) (X : (hd.heap_39 w.params).In h₀) (T : Top topProg loose mean mg mb h₀) (hk : cs.kind = .function) (Na : News h₀ L s.heap all)
    (hm1 : (one, tupO [.int a0 ta0, .int a1 ta1, .int a2 ta2]) ∈ all) (hdp : dp + 24 < recursionLimit) (hun : un + 240 < cLine) (er : rch a0 a1 a2 = r)
    (hret : ∀ t h' tk', Fr h₀ L h' m → News h₀ L h' all → Q (.int r t) { s with heap := h', toks := tk' }) :
    wpAny (model prog w) (ktrTop dp un gd cn cs L a ccd cl outer) (call (.ref 105) [.ref one]) Q E s := by
  subst er
  exact c_reach B F X T hk Na hm1 hdp hun hret
/-- _law_then, its three places named -/
theorem c_thenR {all : List (Addr × Obj)} {one other : Nat} {a0 a1 a2 b0 b1 b2 r0 r1 r2 : Int} {ta0 ta1 ta2 tb0 tb1 tb2 : Tok}
    (B : Below A₀ base outer h₀) (F : Fr h₀ L s.heap m) (X : (hd.heap_39 w.params).In h₀) (T : Top topProg loose mean mg mb h₀) (hk : cs.kind = .function) (Na : News h₀ L s.heap all)
    (hm1 : (one, tupO [.int a0 ta0, .int a1 ta1, .int a2 ta2]) ∈ all) (hm2 : (other, tupO [.int b0 tb0, .int b1 tb1, .int b2 tb2]) ∈ all)
    (hdp : dp + 24 < recursionLimit) (hun : un + 240 < cLine) (ha0 : 0 ≤ a0 ∧ a0 ≤ 2) (ha1 : 0 ≤ a1 ∧ a1 ≤ 2) (ha2 : 0 ≤ a2 ∧ a2 ≤ 2)
    (e0 : sel a0 b0 b1 b2 = r0) (e1 : sel a1 b0 b1 b2 = r1) (e2 : sel a2 b0 b1 b2 = r2)
    (hret : ∀ (r : Nat) t0 t1 t2 h' tk', Fr h₀ L h' m → News h₀ L h' ((r, tupO [.int r0 t0, .int r1 t1, .int r2 t2]) :: all) → AllNe r all → Q (.ref r) { s with heap := h', toks := tk' }) :
    wpAny (model prog w) (ktrTop dp un gd cn cs L a ccd cl outer) (call (.ref 93) [.ref one, .ref other]) Q E s := by
  subst e0 e1 e2
  exact c_then B F X T hk Na hm1 hm2 hdp hun ha0 ha1 ha2 hret
end
end Mine
end
example : True := by
  w_top off
  trivial
section
namespace Mine
example : True := by
  k_with_none
  k_with "exec For Name Name cons nil" => (k_here; (with_reducible show wpAny _ _ (exec (Stmt.For (Expr.Name _ _) (Expr.Name (Str.ofString "deeds") _) _ _ _) _) _ _ _); k_dflt (refine hold_of ?_))
  k_with "k_mem" => assumption
  k_with "call ref" => (k_here; (with_reducible show wpAny _ _ (call (Value.ref 81) _) _ _ _); k_dflt (refine' c_number ?ZB ?ZF ?ZX ?ZN ?ZT ?Zhk ?Zhdp ?Zhun ?Zhm ?Zg1 ?Zg2 ?Zg3 ?Zg4 ?Zg5 ?Zg6 ?_; (case ZB => k_asm); (case ZF => k_asm); (case ZX => k_asm); (case ZT => k_asm); (case Zhk => first | exact rfl | assumption); (case ZN => k_asm); (case Zhdp => ktr_room); (case Zhun => ktr_units); (case Zhm => k_mem); (case Zg1 => omega); (case Zg2 => omega); (case Zg3 => omega); (case Zg4 => omega); (case Zg5 => omega); (case Zg6 => omega)); k_dflt (intro t3 h3 tk3 F3 N3; (try k_sweep)))
  k_with "call ref" => (k_here; (with_reducible show wpAny _ _ (call (Value.ref 93) _) _ _ _); k_dflt (refine' c_then ?ZB ?ZF ?ZX ?ZT ?Zhk ?ZN ?Zm1 ?Zm2 ?Zhdp ?Zhun ?Zg1 ?Zg2 ?Zg3 ?_; (case ZB => k_asm); (case ZF => k_asm); (case ZX => k_asm); (case ZT => k_asm); (case Zhk => first | exact rfl | assumption); (case ZN => k_asm); (case Zhdp => ktr_room); (case Zhun => ktr_units); (case Zm1 => k_mem); (case Zm2 => k_mem); (case Zg1 => assumption); (case Zg2 => assumption); (case Zg3 => assumption)); k_dflt (intro r3 t30 t31 t32 h3 tk3 F3 N3 o3; (try k_sweep)))
  k_with "call ref" => (k_here; (with_reducible show wpAny _ _ (call (Value.ref 105) _) _ _ _); k_dflt (refine' c_reach ?ZB ?ZF ?ZX ?ZT ?Zhk ?ZN ?Zm1 ?Zhdp ?Zhun ?_; (case ZB => k_asm); (case ZF => k_asm); (case ZX => k_asm); (case ZT => k_asm); (case Zhk => first | exact rfl | assumption); (case ZN => k_asm); (case Zhdp => ktr_room); (case Zhun => ktr_units); (case Zm1 => k_mem)); k_dflt (intro t3 h3 tk3 F3 N3; (try k_sweep)))
  k_with "compareOp NotIn int ref" => (k_here; k_dflt (refine' notin_ints ?ZN ?Za ?Zi ?Zn ?Zx ?_; (case ZN => k_asm); (case Za => k_mem); (case Zi => assumption); (case Zn => ke_room); (case Zx => assumption)))
  k_with "compareOp Gt int int" => (k_here; k_dflt (refine' gt_intF ?Zq ?_; (case Zq => (split <;> assumption))))
  trivial
section
variable {prog : Program} {w : World} {mg mb : Str → Option Value} {mean : ExcName → Option Value} {loose : List Str}
  {dp un : Nat} {gd : Option (List Code)} {cn : Str} {cs : Scope} {L a : Addr} {ccd : Value} {cl : List (Str × Addr)} {outer : List Env} {A₀ : Around} {base h₀ : Heap} {m : Str → Option Value} {s : Shared} {Q E : Value → Shared → Prop}

theorem news_ground {h₀ h : Heap} {L : Addr} {l l' : List (Addr × Obj)} (hs : ∀ x ∈ l, x ∈ l') (N : News h₀ L h l') : News h₀ L h l := fun x hx => N x (hs x hx)
theorem GrowAt.fixed {prog : Program} {w : World} {A : Around} {h₀ : Heap} {env : Env} {x : Str} {body : List Stmt} {Q : Flow → Shared → Prop} {E : Value → Shared → Prop} {s₁ : Shared} {l nn : Nat} {vs : List Value} {m : Str → Option Value} {all : List (Addr × Obj)} (P : (Str → Option Value) → Prop)
    (hh : A.handled = none) (F : Fr h₀ env.locals s₁.heap m) (N : News h₀ env.locals s₁.heap all) (hm : (l, W.listOf vs.toArray nn) ∈ all) (hP : P m)
    (turn : ∀ v m (I : Nat) oI h tk, v ∈ vs → P m → AllNe I all → Fr h₀ env.locals h (fun y => if y = x then some v else m y) → News h₀ env.locals h ((I, oI) :: all) →
      wpAny (model prog w) A (execs body env) (GPost h₀ env.locals l I oI (fun vs' m' news' => vs' = vs ∧ P m' ∧ news' = all) { s₁ with heap := h, toks := tk } Q) E { s₁ with heap := h, toks := tk })
    (done : ∀ m h tk, P m → Fr h₀ env.locals h m → News h₀ env.locals h all → Q .next { s₁ with heap := h, toks := tk }) :
    GrowAt prog w A h₀ env x body Q E (.ref l) s₁ := by
  refine ⟨l, nn, vs.length, vs, m, all, fun _ vs' m' news' => vs' = vs ∧ P m' ∧ news' = all, rfl, hh, F, N, hm, ⟨rfl, hP, rfl⟩, ?_, ?_, ?_⟩
  · rintro i vs' m news ⟨rfl, _⟩
    exact Nat.le_refl _
  · rintro i vs' nn' v m news I oI h tk hv hm' ⟨rfl, hP, rfl⟩ ha hc F N
    exact turn v m I oI h tk (List.mem_of_getElem? hv) hP ha F N
  · rintro i vs' m news h tk hl ⟨rfl, hP, rfl⟩ F N
    exact done m h tk hP F N
set_option maxRecDepth 100000 in
set_option maxHeartbeats 20000000 in
theorem c_other {body : List Stmt} {sc : Scope} {all : List (Addr × Obj)} {o dl d0 d1 k cs0 nn f L fa un dp : Nat} {vs : List Value} {ns : List Int} {gd : Option (List Code)} {ccd : Value} {outer : List Env} {Q : Flow → Shared → Prop} {E : Value → Shared → Prop}
    {x0 x1 x2 a0 a1 a2 b0 b1 b2 : Int} {tx0 tx1 tx2 ta0 ta1 ta2 tb0 tb1 tb2 : Tok}
    (hb : body = (forB (fnB ((hd.heap_39 w.params).lookup 110)) 4).drop 12) (hsc : sc = fnS ((hd.heap_39 w.params).lookup 110))
    (B : Below A₀ base outer h₀) (F : Fr h₀ L s.heap m) (X : (hd.heap_39 w.params).In h₀) (T : Top topProg loose mean mg mb h₀) (N : News h₀ L s.heap all)
    (e1 : m (Str.ofString "deed") = some (.ref f)) (e2 : m (Str.ofString "order") = some (.ref o)) (e3 : m (Str.ofString "deeds") = some (.ref dl))
    (m1 : (o, W.listOf vs.toArray nn) ∈ all) (m2 : (dl, W.listOf #[.ref d0, .ref d1] k) ∈ all) (m3 : (d0, tupO [.int a0 ta0, .int a1 ta1, .int a2 ta2]) ∈ all) (m4 : (d1, tupO [.int b0 tb0, .int b1 tb1, .int b2 tb2]) ∈ all) (m5 : (f, tupO [.int x0 tx0, .int x1 tx1, .int x2 tx2]) ∈ all)
    (hi : IntsAre vs ns) (hx : In3 (x0, x1, x2)) (ha : In3 (a0, a1, a2)) (hbb : In3 (b0, b1, b2))
    (hc : ∀ y, y = (a0, a1, a2) ∨ y = (b0, b1, b2) → num (thn (x0, x1, x2) y) ∈ ns)
    (hrc : ∀ y : D3, In3 y → rch (thn (x0, x1, x2) y).1 (thn (x0, x1, x2) y).2.1 (thn (x0, x1, x2) y).2.2 ≤ rch x0 x1 x2 ∧ rch (thn (x0, x1, x2) y).1 (thn (x0, x1, x2) y).2.1 (thn (x0, x1, x2) y).2.2 ≤ rch y.1 y.2.1 y.2.2)
    (hdp : dp + 44 < recursionLimit) (hun : un + 500 < cLine)
    (hE : PassesOwn (model prog w) (ktrTop dp un gd (Str.ofString "law") sc L fa ccd [(Str.ofString "still", cs0)] outer) (envX (Str.ofString "law") sc L fa ccd [(Str.ofString "still", cs0)]) E)
    (hret : ∀ h' tk' m', Fr h₀ L h' m' → m' (Str.ofString "order") = some (.ref o) → m' (Str.ofString "deeds") = some (.ref dl) → News h₀ L h' all → Q .next { s with heap := h', toks := tk' }) :
    wpAny (model prog w) (ktrTop dp un gd (Str.ofString "law") sc L fa ccd [(Str.ofString "still", cs0)] outer) (execs body (envX (Str.ofString "law") sc L fa ccd [(Str.ofString "still", cs0)])) Q E s := by
  conv at hb => rhs; whnf
  conv at hsc => rhs; whnf
  subst hb hsc
  have F1 := fr_at4 F e1 e2 e3 e3
  clear F
  have hk : (ScopeKind.function = ScopeKind.function) := rfl
  k_steps
  refine of_hold ?_
  refine' for_grow ?wx ?wp ?wE ?w0
  case wx => exact rfl
  case wp => exact rfl
  case wE => exact hE
  case w0 =>
    (try dsimp only); (try k_fold)
    k_steps
    refine' GrowAt.fixed (fun m' => m' (Str.ofString "deed") = some (.ref f) ∧ m' (Str.ofString "order") = some (.ref o) ∧ m' (Str.ofString "deeds") = some (.ref dl)) ?oh ?oF ?oN (vs := [.ref d0, .ref d1]) m2 ?oP ?ot ?od
    case oF => exact F1
    case oN => exact N
    case oh => rfl
    case oP => exact ⟨rfl, rfl, rfl⟩
    case od =>
      clear F1
      rintro m8 h8 tk8 ⟨e1, e2, e3⟩ F8 N8
      (try dsimp only)
      k_steps
      exact hret _ _ _ F8 e2 e3 N8
    case ot =>
      clear F1
      rintro v m8 I oI h8 tk8 hv ⟨e1, e2, e3⟩ haI F8 N8
      obtain ⟨q, y0, y1, y2, t0, t1, t2, rfl, m6, hy, hnum⟩ : ∃ (q : Nat) (y0 y1 y2 : Int) (t0 t1 t2 : Tok), v = .ref q ∧ (q, tupO [.int y0 t0, .int y1 t1, .int y2 t2]) ∈ all ∧ In3 (y0, y1, y2) ∧ num (thn (x0, x1, x2) (y0, y1, y2)) ∈ ns := by
        rcases List.mem_cons.mp hv with rfl | hv
        · exact ⟨_, _, _, _, _, _, _, rfl, m3, ha, hc _ (.inl rfl)⟩
        · rw [List.mem_singleton.mp hv]; exact ⟨_, _, _, _, _, _, _, rfl, m4, hbb, hc _ (.inr rfl)⟩
      have g1 : (fun y => if y = Str.ofString "other" then some (Value.ref q) else m8 y) (Str.ofString "deed") = some (.ref f) := e1
      have g2 : (fun y => if y = Str.ofString "other" then some (Value.ref q) else m8 y) (Str.ofString "order") = some (.ref o) := e2
      have g3 : (fun y => if y = Str.ofString "other" then some (Value.ref q) else m8 y) (Str.ofString "deeds") = some (.ref dl) := e3
      have g4 : (fun y => if y = Str.ofString "other" then some (Value.ref q) else m8 y) (Str.ofString "other") = some (.ref q) := rfl
      have F9 := fr_at4 F8 g1 g2 g3 g4
      clear g1 g2 g3 g4
      replace F9 : Fr h₀ L h8 _ := F9
      replace N8 : News h₀ L h8 _ := N8
      clear F8
      obtain ⟨hr1, hr2⟩ := hrc _ hy
      obtain ⟨hx0, hx1, hx2⟩ := hx
      obtain ⟨hy0, hy1, hy2⟩ := hy
      (try dsimp only at hx0 hx1 hx2 hy0 hy1 hy2)
      have hs0 := sel_in hx0 hy0 hy1 hy2
      have hs1 := sel_in hx1 hy0 hy1 hy2
      have hs2 := sel_in hx2 hy0 hy1 hy2
      simp only [thn, num] at hr1 hr2 hnum
      clear hrc hc hv
      (try dsimp only)
      k_steps
      refine ⟨_, _, _, all, [.ref d0, .ref d1], k, rfl, (by k_asm), (by refine news_ground ?_ (by assumption); intro x hx; k_mem), haI, m2, rfl, ⟨rfl, rfl, rfl⟩, rfl⟩
end
end Mine
end
section
set_option maxRecDepth 100000
namespace Mine
theorem item_zero {prog : Program} {w : World} {A : Around} {E : Value → Shared → Prop} {s : Shared} {h₀ : Heap} {L : Addr} {news : List (Addr × Obj)} {value slice : PySem.Expr} {l c : Nat} {r : Value} {u : Tok} {Q : Value → Shared → Prop}
    (N : News h₀ L s.heap news) (hm : (l, W.listOf #[r] c) ∈ news) (h : Q r s) (hs : subscripted slice false (.ref l) (.int 0 u) = operate [.ref l, .int 0 u] (getItem (.ref l) (.int 0 u)) := by with_unfolding_all rfl) :
    wpAny (model prog w) A (subscriptTail value slice (.ref l) (.int 0 u)) Q E s :=
  have hl : s.heap.IsList l [r].toArray := ⟨_, (N _ hm).1, rfl, c, rfl⟩
  tail_any hl.typeIs slot_list_getitem.lookup (wpAny_getItem_list hl (by decide) (by decide) (by simp) h) hs
theorem len_ints {prog : Program} {w : World} {A : Around} {E : Value → Shared → Prop} {s : Shared} {h₀ : Heap} {L : Addr} {news : List (Addr × Obj)} {l c : Nat} {vs : List Value} {ns : List Int} {Q : Value → Shared → Prop}
    (N : News h₀ L s.heap news) (hm : (l, W.listOf vs.toArray c) ∈ news) (hi : IntsAre vs ns) (hz : ns.length ≤ 1000) (h : ∀ t tk, Q (.int (ns.length : Nat) t) { s with toks := tk }) : wpAny (model prog w) A (call (.builtin "len") [.ref l]) Q E s := by
  have e := hi.length
  refine call_len_list (items := vs.toArray) ⟨_, (N _ hm).1, rfl, c, rfl⟩ (by rw [List.size_toArray, e]; omega) ?_
  rw [List.size_toArray, e]
  exact h _ _
theorem item_ints {prog : Program} {w : World} {A : Around} {E : Value → Shared → Prop} {s : Shared} {h₀ : Heap} {L : Addr} {news : List (Addr × Obj)} {value slice : PySem.Expr} {l c : Nat} {vs : List Value} {ns : List Int} {p : Int} {u : Tok} {Q : Value → Shared → Prop}
    (N : News h₀ L s.heap news) (hm : (l, W.listOf vs.toArray c) ∈ news) (hi : IntsAre vs ns) (h0 : 0 ≤ p) (hp : p < ns.length) (hz : ns.length ≤ 1000) (h : ∀ t, Q (.int (ns.getD p.toNat 0) t) s)
    (hs : subscripted slice false (.ref l) (.int p u) = operate [.ref l, .int p u] (getItem (.ref l) (.int p u)) := by with_unfolding_all rfl) :
    wpAny (model prog w) A (subscriptTail value slice (.ref l) (.int p u)) Q E s := by
  have hl : s.heap.IsList l vs.toArray := ⟨_, (N _ hm).1, rfl, c, rfl⟩
  have e := hi.length
  have hlt : p.toNat < ns.length := by omega
  obtain ⟨t, ht⟩ : ∃ t, vs[p.toNat]? = some (.int (ns.getD p.toNat 0) t) := by
    clear hm hl hp h0 hz h hs N
    revert hlt
    generalize p.toNat = j
    intro hlt
    clear e
    induction hi generalizing j with
    | nil => simp at hlt
    | cons n t _ ih =>
      cases j with
      | zero => exact ⟨t, rfl⟩
      | succ j =>
        obtain ⟨t', e'⟩ := ih j (by simpa using hlt)
        exact ⟨t', by simpa using e'⟩
  exact tail_any hl.typeIs slot_list_getitem.lookup (wpAny_getItem_list hl h0 (by omega) (by simpa using ht) (h t)) hs
end Mine
end
example : True := by
  w_top off
  trivial
section
namespace Mine
example : True := by
  k_with_none
  k_with "k_mem" => first | with_reducible assumption | with_reducible exact memI (by with_reducible assumption) | fail "no member"
  k_with "k_lt" => skip
  k_with "k_ne" => (refine neN ?_; (try dsimp only); first | exact AllNe.off (by with_reducible assumption) (_, _) (by k_mem) | exact Ne.symm (AllNe.off (by with_reducible assumption) (_, _) (by k_mem)) | exact lt_ne (by with_reducible assumption) (_, _) (by k_mem) | exact Ne.symm (lt_ne (by with_reducible assumption) (_, _) (by k_mem)) | exact off_I (by with_reducible assumption) (_, _) (by k_mem) | exact Ne.symm (off_I (by with_reducible assumption) (_, _) (by k_mem)) | exact off_C (by with_reducible assumption) (_, _) (by k_mem) | exact Ne.symm (off_C (by with_reducible assumption) (_, _) (by k_mem)) | exact off_D (by with_reducible assumption) (_, _) (by k_mem) | exact Ne.symm (off_D (by with_reducible assumption) (_, _) (by k_mem)) | exact off1_mem (by with_reducible assumption) (_, _) (by k_mem) | exact Ne.symm (off1_mem (by with_reducible assumption) (_, _) (by k_mem)) | omega)
  k_with "k_all" => first | exact lt_ne (by with_reducible assumption) | exact AllNe.off (by with_reducible assumption) | exact off_I (by with_reducible assumption) | exact off_C (by with_reducible assumption) | exact off_D (by with_reducible assumption) | exact off1_mem (by with_reducible assumption) | exact List.forall_mem_nil _ | (refine' List.forall_mem_cons.mpr ⟨?Za, ?Zb⟩; (case Za => k_ne); (case Zb => k_all)) | (intro p9 hp9; exact lt_ne (by with_reducible assumption) p9 (by k_mem)) | (intro p9 hp9; exact AllNe.off (by with_reducible assumption) p9 (by k_mem)) | (intro p9 hp9; exact off1_mem (by with_reducible assumption) p9 (by k_mem)) | fail "k_all"
  k_with "CompRestT" => (with_unfolding_all first | (refine LCt.CompRestT.succ ?_; intro v' I' oI' C' oC' D' m' h' tk' E' hv' hC' hx' F' N' off' ne'; (first | lcg_open hv' | (obtain ⟨t9', hv9'⟩ := hv'; subst hv9'))) | refine LCt.CompRestT.zero ?_)
  k_with "CompRest" => (with_unfolding_all first | (refine LCg.CompRest.succ ?_; intro v' I' oI' C' oC' D' m' h' tk' E' hv' hC' hx' F' N' off' ne'; (first | lcg_open hv' | (obtain ⟨t9', hv9'⟩ := hv'; subst hv9'))) | refine LCg.CompRest.zero ?_)
  k_with "FinE" => ((unfold LCg.FinE); intro D' h' tk' F' N' o1'; (try simp only [List.nil_append, List.cons_append] at N'); (try dsimp only); (repeat (rename LCg.Off3 _ _ _ _ => zz; clear zz)))
  k_with "FinA" => ((unfold LCg.FinA); intro D' h' tk' F' N' o1'; (try simp only [List.nil_append, List.cons_append] at N'); (try dsimp only); (repeat (rename LCg.Off3 _ _ _ _ => zz; clear zz)))
  k_with "CompEnd" => k_dflt (first | (refine' CompEnd_keep ?ZF ?ZN ?Zoff ?ZhI ?ZhC ?ZhD ?Zsrc ?_; (case ZF => k_asm); (case ZN => with_reducible assumption); (case Zoff => with_reducible assumption); (case ZhI => k_ne); (case ZhC => k_ne); (case ZhD => k_ne); (case Zsrc => lcg_src)) | (refine' CompEnd_same ?ZF ?ZN ?Zoff ?Zsrc ?_; (case ZF => k_asm); (case ZN => with_reducible assumption); (case Zoff => with_reducible assumption); (case Zsrc => lcg_src)) | (refine' CompEnd_drop ?ZF ?ZN ?Zoff ?Zsrc ?_; (case ZF => k_asm); (case ZN => with_reducible assumption); (case Zoff => with_reducible assumption); (case Zsrc => lcg_src)))
  k_with "exec While BoolOp" => (k_here; k_dflt (refine whl_start 100 ?_))
  k_with "WhlRest" => (k_dflt (refine' whl_turn ?ZhE ?_; (case ZhE => assumption)); (try k_sweep))
  k_with "compareOp Eq int int" => (k_here; (with_reducible show wpAny _ _ (compareOp CmpOp.Eq (Value.int _ _) (Value.int (Nat.cast (List.length _)) _)) _ _ _); k_dflt (refine' eq_intF ?Zq ?_; (case Zq => omega)))
  k_with "compareOp NotEq int int" => (k_here; (with_reducible show wpAny _ _ (compareOp CmpOp.NotEq (Value.int _ _) (Value.int _ _)) _ _ _); k_dflt (refine' ne_intF ?Zq ?_; (case Zq => first | with_reducible assumption | exact sel_is (by with_reducible assumption) | exact congrArg Nat.cast (dist_1 _) | exact congrArg Nat.cast (dist_2 _) | exact congrArg Nat.cast (dist_3 _) | exact rfl)))
  k_with "compareOp NotEq ref ref" => (k_here; (with_reducible show wpAny _ _ (compareOp CmpOp.NotEq (Value.ref _) (Value.ref _)) _ _ _); k_dflt (first | (refine' ne_listF ?ZN ?Za ?Zb ?Zc ?Zd ?Ze ?Zf ?Zg ?Zi ?Zj ?Zk ?Zu ?Zq ?_; (case ZN => k_asm); (case Za => k_mem); (case Zb => rfl); (case Zc => rfl); (case Ze => k_mem); (case Zf => rfl); (case Zg => rfl); (case Zd => kqd_all); (case Zi => exact datAll_ints (by with_reducible assumption)); (case Zj => exact okL rfl); (case Zk => exact ints_ok); (case Zu => ke_room); (case Zq => rfl)) | (refine' ne_listF ?ZN ?Za ?Zb ?Zc ?Zd ?Ze ?Zf ?Zg ?Zi ?Zj ?Zk ?Zu ?Zq ?_; (case ZN => k_asm); (case Za => k_mem); (case Zb => rfl); (case Zc => rfl); (case Ze => k_mem); (case Zf => rfl); (case Zg => rfl); (case Zd => kqd_all); (case Zi => kqd_all); (case Zj => exact okL rfl); (case Zk => exact okL rfl); (case Zu => ke_room); (case Zq => rfl))))
  k_with "call builtin:sorted" => (k_here; (with_reducible show wpAny _ _ (call (Value.builtin _) [Value.ref _]) _ _ _); k_dflt (refine' sorted_rev ?ZF ?ZN ?Zm ?Zi ?Zl ?Zp ?_; (case ZF => k_asm); (case ZN => k_asm); (case Zm => k_mem); (case Zi => (repeat (first | exact IntsAre.nil | apply IntsAre.cons))); (case Zl => exact Nat.le_of_ble_eq_true rfl); (case Zp => simp)); k_dflt (intro D' v' c' h' F' N' l1 i'; (try k_sweep)))
  k_with "execs cons" => (k_here; (with_reducible show wpAny _ _ (execs (Stmt.For (Expr.Name _ _) (Expr.Name (Str.ofString "deeds") _) _ _ _ :: _) _) _ _ _); k_dflt (refine hold_of ?_))
  k_with "exec Assign cons ListComp" => (k_here; k_dflt (refine wpAny_Assign_Name ?_))
  k_with "eval ListComp" => (k_here; (with_reducible show wpAny _ _ (eval (Expr.ListComp _ [⟨_, Expr.Subscript (Expr.Name (Str.ofString "still") _) _ _, _, _⟩] _ _) _) _ _ _); k_dflt (refine lc_tupT (F₀ := by k_asm) (by with_unfolding_all rfl) (by decide) (by rfl) (by decide) (by rfl) ?_))
  k_with "SrcTT" => (k_here; k_dflt (refine SrcTT.ledger (by rfl) (by k_asm) (by k_asm) (by k_mem) (by first | size_fits | exact Nat.le_of_ble_eq_true rfl) ?_; intro g'; lct_lit))
  k_with "call ref" => (k_here; (with_reducible show wpAny _ _ (call (Value.ref 81) _) _ _ _); k_dflt (refine' c_number ?ZB ?ZF ?ZX ?ZN ?ZT ?Zhk ?Zhdp ?Zhun ?Zhm ?Zg1 ?Zg2 ?Zg3 ?Zg4 ?Zg5 ?Zg6 ?_; (case ZB => k_asm); (case ZF => k_asm); (case ZX => k_asm); (case ZT => k_asm); (case Zhk => first | exact rfl | assumption); (case ZN => k_asm); (case Zhdp => ktr_room); (case Zhun => ktr_units); (case Zhm => k_mem); (case Zg1 => exact And.left (by with_reducible assumption)); (case Zg2 => exact And.right (by with_reducible assumption)); (case Zg3 => exact And.left (by with_reducible assumption)); (case Zg4 => exact And.right (by with_reducible assumption)); (case Zg5 => exact And.left (by with_reducible assumption)); (case Zg6 => exact And.right (by with_reducible assumption))); k_dflt (intro t3 h3 tk3 F3 N3; (try k_sweep)))
  k_with "call ref" => (k_here; (with_reducible show wpAny _ _ (call (Value.ref 93) _) _ _ _); k_dflt (refine' c_thenR ?ZB ?ZF ?ZX ?ZT ?Zhk ?ZN ?Zm1 ?Zm2 ?Zhdp ?Zhun ?Zg1 ?Zg2 ?Zg3 ?Ze0 ?Ze1 ?Ze2 ?_; (case ZB => k_asm); (case ZF => k_asm); (case ZX => k_asm); (case ZT => k_asm); (case Zhk => first | exact rfl | assumption); (case ZN => k_asm); (case Zhdp => ktr_room); (case Zhun => ktr_units); (case Zm1 => k_mem); (case Zm2 => k_mem); (case Zg1 => assumption); (case Zg2 => assumption); (case Zg3 => assumption); (case Ze0 => assumption); (case Ze1 => assumption); (case Ze2 => assumption)); k_dflt (intro r3 t30 t31 t32 h3 tk3 F3 N3 o3; (try k_sweep)))
  k_with "call ref" => (k_here; (with_reducible show wpAny _ _ (call (Value.ref 74) _) _ _ _); k_dflt (refine' c_bisIn ?ZB ?ZF ?ZX ?ZT ?Zhk ?ZN ?Zm1 ?Zhi ?Zhl ?ZhS ?Zhx ?Zhdp ?Zhun ?_; (case ZB => k_asm); (case ZF => k_asm); (case ZX => k_asm); (case ZT => k_asm); (case Zhk => first | exact rfl | assumption); (case ZN => k_asm); (case Zhdp => ktr_room); (case Zhun => ktr_units); (case Zm1 => k_mem); (case Zhi => assumption); (case Zhl => omega); (case ZhS => assumption); (case Zhx => assumption)); k_dflt (intro p3 t3 h3 tk3 F3 N3 q30 q31 q32; (try k_sweep)))
  k_with "call ref" => (k_here; (with_reducible show wpAny _ _ (call (Value.ref 105) _) _ _ _); k_dflt (refine' c_reachR ?ZB ?ZF ?ZX ?ZT ?Zhk ?ZN ?Zm1 ?Zhdp ?Zhun ?Zer ?_; (case ZB => k_asm); (case ZF => k_asm); (case ZX => k_asm); (case ZT => k_asm); (case Zhk => first | exact rfl | assumption); (case ZN => k_asm); (case Zhdp => ktr_room); (case Zhun => ktr_units); (case Zm1 => k_mem); (case Zer => assumption)); k_dflt (intro t3 h3 tk3 F3 N3; (try k_sweep)))
  k_with "compareOp NotIn ref ref" => (k_here; (with_reducible show wpAny _ _ (compareOp CmpOp.NotIn _ (Value.ref _)) _ _ _); k_dflt (first | (refine' notin_t ?ZN ?Za ?Zb ?Zc ?Zd ?Zx ?Zl ?Zm ?Zn ?Zhn ?_; (case ZN => k_asm); (case Za => k_mem); (case Zb => rfl); (case Zc => rfl); (case Zd => kqd_all); (case Zx => kqd_in); (case Zl => exact okL rfl); (case Zm => first | rfl | kernel_rfl!); (case Zn => ke_room); (case Zhn => first | exact List.not_mem_nil | assumption)) | (refine' notin_f ?ZN ?Za ?Zb ?Zc ?Zd ?Zx ?Zl ?Zm ?Zn ?Zhn ?_; (case ZN => k_asm); (case Za => k_mem); (case Zb => rfl); (case Zc => rfl); (case Zd => kqd_all); (case Zx => kqd_in); (case Zl => exact okL rfl); (case Zm => first | rfl | kernel_rfl!); (case Zn => ke_room); (case Zhn => first | exact List.not_mem_nil | assumption))))
  k_with "compareOp Eq ref ref" => (k_here; (with_reducible show wpAny _ _ (compareOp CmpOp.Eq (Value.ref _) (Value.ref _)) _ _ _); k_dflt (first | (refine' dat_eqT ?ZN ?Za ?Zb ?Zc ?Zd ?Zu ?Zq ?_; (case ZN => k_asm); (case Za => kqd_in); (case Zb => kqd_in); (case Zc => first | rfl | kernel_rfl!); (case Zd => first | rfl | kernel_rfl!); (case Zu => ke_room); (case Zq => first | rfl | assumption)) | (refine' dat_eqF ?ZN ?Za ?Zb ?Zc ?Zd ?Zu ?Zq ?_; (case ZN => k_asm); (case Za => kqd_in); (case Zb => kqd_in); (case Zc => first | rfl | kernel_rfl!); (case Zd => first | rfl | kernel_rfl!); (case Zu => ke_room); (case Zq => first | rfl | assumption))))
  k_with "call builtin:list.index" => (k_here; (with_reducible show wpAny _ _ (call (Value.builtin _) [Value.ref _, Value.ref _]) _ _ _); k_dflt (first | (refine' kqd_index ?ZN ?Za ?Zd ?Zx ?Zl ?Zm ?Zu 0 ?Zhj ?Zhn ?Zhz ?_; (case ZN => k_asm); (case Za => k_mem); (case Zd => kqd_all); (case Zx => kqd_in); (case Zl => exact okL rfl); (case Zm => first | rfl | kernel_rfl!); (case Zu => ke_room); (case Zhj => rfl); (case Zhn => first | exact no0 | exact no1 (by assumption) | exact no2 (by assumption) (by assumption)); (case Zhz => exact Nat.le_of_ble_eq_true rfl)) | (refine' kqd_index ?ZN ?Za ?Zd ?Zx ?Zl ?Zm ?Zu 1 ?Zhj ?Zhn ?Zhz ?_; (case ZN => k_asm); (case Za => k_mem); (case Zd => kqd_all); (case Zx => kqd_in); (case Zl => exact okL rfl); (case Zm => first | rfl | kernel_rfl!); (case Zu => ke_room); (case Zhj => rfl); (case Zhn => first | exact no0 | exact no1 (by assumption) | exact no2 (by assumption) (by assumption)); (case Zhz => exact Nat.le_of_ble_eq_true rfl)) | (refine' kqd_index ?ZN ?Za ?Zd ?Zx ?Zl ?Zm ?Zu 2 ?Zhj ?Zhn ?Zhz ?_; (case ZN => k_asm); (case Za => k_mem); (case Zd => kqd_all); (case Zx => kqd_in); (case Zl => exact okL rfl); (case Zm => first | rfl | kernel_rfl!); (case Zu => ke_room); (case Zhj => rfl); (case Zhn => first | exact no0 | exact no1 (by assumption) | exact no2 (by assumption) (by assumption)); (case Zhz => exact Nat.le_of_ble_eq_true rfl))); k_dflt (intro t3 tk3; (try dsimp only)))
  k_with "call type:dict" => (k_here; (with_reducible show wpAny _ _ (call (Value.type "dict") [Value.ref _]) _ _ _); k_dflt ((first | (refine dict_pairs_N (kws := [(_, _)]) (by k_asm) (by k_asm) (Top.nolimit (by k_asm)) (by rfl) (by k_mem) (by exact ⟨⟨_, _, _, rfl, by k_mem⟩, True.intro⟩) (by exact Nat.le_of_ble_eq_true rfl) ?_) | (refine dict_pairs_N (kws := [(_, _), (_, _)]) (by k_asm) (by k_asm) (Top.nolimit (by k_asm)) (by rfl) (by k_mem) (by exact ⟨⟨_, _, _, rfl, by k_mem⟩, ⟨_, _, _, rfl, by k_mem⟩, True.intro⟩) (by exact Nat.le_of_ble_eq_true rfl) ?_) | (refine dict_pairs_N (kws := [(_, _), (_, _), (_, _)]) (by k_asm) (by k_asm) (Top.nolimit (by k_asm)) (by rfl) (by k_mem) (by exact ⟨⟨_, _, _, rfl, by k_mem⟩, ⟨_, _, _, rfl, by k_mem⟩, ⟨_, _, _, rfl, by k_mem⟩, True.intro⟩) (by exact Nat.le_of_ble_eq_true rfl) ?_)); intro d' h' tk' o' F' N' l1 lo' hd'; (try k_lt l1)))
  k_with "call builtin:len" => (k_here; (with_reducible show wpAny _ _ (call (Value.builtin "len") [Value.ref _]) _ _ _); k_dflt (refine len_dict_N (by k_asm) (by k_mem) (by assumption) (by assumption) (by exact Nat.le_of_ble_eq_true rfl) ?_; intro t' tk'))
  k_with "subscriptTail" => (k_here; (with_reducible show wpAny _ _ (subscriptTail _ _ (Value.ref _) (Value.int 0 _)) _ _ _); k_dflt (refine' item_zero ?ZN ?Zm ?_ ?Zz; (case ZN => k_asm); (case Zm => k_mem); (case Zz => with_unfolding_all rfl)))
  k_with "subscriptTail Name Constant ref int" => (k_here; (with_reducible show wpAny _ _ (subscriptTail _ _ (Value.ref _) (Value.int 0 _)) _ _ _); k_dflt (refine' item_zero ?ZN ?Zm ?_ ?Zz; (case ZN => k_asm); (case Zm => k_mem); (case Zz => with_unfolding_all rfl)))
  trivial
section
variable {prog : Program} {w : World} {mg mb : Str → Option Value} {mean : ExcName → Option Value} {loose : List Str}
  {dp un : Nat} {gd : Option (List Code)} {cn : Str} {cs : Scope} {L a : Addr} {ccd : Value} {cl : List (Str × Addr)} {outer : List Env} {A₀ : Around} {base h₀ : Heap} {m : Str → Option Value} {s : Shared} {Q E : Value → Shared → Prop}
set_option maxRecDepth 100000 in
set_option maxHeartbeats 20000000 in
theorem c_a1 {full body : List Stmt} {sc : Scope} {cs0 L fa un dp : Nat} {gd : Option (List Code)} {ccd : Value} {outer : List Env} {Q : Flow → Shared → Prop} {E : Value → Shared → Prop} {x0 x1 x2 : Int} {tx0 tx1 tx2 : Tok} {tail : List (Addr × Obj)} {o dl f : Nat} {oc : Obj} {cv0 : Option Value}
    (hf : full = forB (fnB ((hd.heap_39 w.params).lookup 110)) 4) (hb : body = (full.drop 2).take 6) (hsc : sc = fnS ((hd.heap_39 w.params).lookup 110))
    (B : Below A₀ base outer h₀) (F : Fr h₀ L s.heap m) (X : (hd.heap_39 w.params).In h₀) (T : Top topProg loose mean mg mb h₀) (N : News h₀ L s.heap ((cs0, oc) :: tail)) (n1 : AllNe cs0 tail) (hcv : oc.data = .cell cv0)
    (e1 : m (Str.ofString "order") = some (.ref o)) (e2 : m (Str.ofString "deeds") = some (.ref dl)) (e3 : m (Str.ofString "deed") = some (.ref f)) (mf : (f, tupO [.int x0 tx0, .int x1 tx1, .int x2 tx2]) ∈ tail)
    (hx0 : 0 ≤ x0 ∧ x0 ≤ 2) (hx1 : 0 ≤ x1 ∧ x1 ≤ 2) (hx2 : 0 ≤ x2 ∧ x2 ≤ 2)
    (Txx0 : sel x0 x0 x1 x2 = x0) (Txx1 : sel x1 x0 x1 x2 = x1) (Txx2 : sel x2 x0 x1 x2 = x2)
     (hiy : Dat.tuple [Dat.int x0, Dat.int x1, Dat.int x2] ∈ [Dat.tuple [Dat.int x0, Dat.int x1, Dat.int x2]]) 
    (hdp : dp + 44 < recursionLimit) (hun : un + 500 < cLine) (hE : PassesOwn (model prog w) (ktrTop dp un gd (Str.ofString "law") sc L fa ccd [(Str.ofString "still", cs0)] outer) (envX (Str.ofString "law") sc L fa ccd [(Str.ofString "still", cs0)]) E)
    (hret : ∀ (h' : Heap) (tk' : Nat) (m' : Str → Option Value) (oc' : Obj) (sl pw kk : Nat) (tb : Tok) , Fr h₀ L h' m' → m' (Str.ofString "order") = some (.ref o) → m' (Str.ofString "deeds") = some (.ref dl) → m' (Str.ofString "deed") = some (.ref f) → m' (Str.ofString "powers") = some (.ref pw) → m' (Str.ofString "begin") = some (.int 0 tb) → oc'.data = .cell (some (.ref sl)) → News h₀ L h' ((sl, LCg.lst [.ref f]) :: (pw, W.listOf #[.ref f] kk) :: (cs0, oc') :: tail) → Q .next { s with heap := h', toks := tk' }) :
    wpAny (model prog w) (ktrTop dp un gd (Str.ofString "law") sc L fa ccd [(Str.ofString "still", cs0)] outer) (execs body (envX (Str.ofString "law") sc L fa ccd [(Str.ofString "still", cs0)])) Q E s := by
  conv at hf => rhs; whnf
  conv at hsc => rhs; whnf
  subst hf hsc
  simp only [List.drop_succ_cons, List.drop_zero, List.take_succ_cons, List.take_zero] at hb
  subst hb
  have hk : (ScopeKind.function = ScopeKind.function) := rfl
  have F1 := fr_at4 F e1 e2 e3 e3
  clear F
  k_steps
  refine' hret _ _ _ _ _ _ _ _  ?zF ?q0 ?q1 ?q2 ?q3 ?q4 ?zc ?zN
  case zF => k_asm
  case q0 => rfl
  case q1 => rfl
  case q2 => rfl
  case q3 => rfl
  case q4 => rfl
  case zc => assumption
  case zN =>
    rename News _ _ _ _ => N9
    refine news_ground ?_ N9
    refine' List.forall_mem_cons.mpr ⟨?w1, List.forall_mem_cons.mpr ⟨?w2, List.forall_mem_cons.mpr ⟨?w8, ?w9⟩⟩⟩
    case w1 => k_mem
    case w2 => k_mem
    case w8 => k_mem
    case w9 => (intro x hx; k_mem)
end
end Mine
end
example : True := by
  w_top off
  trivial
section
namespace Mine
example : True := by
  k_with_none
  k_with "k_mem" => first | with_reducible assumption | with_reducible exact memI (by with_reducible assumption) | fail "no member"
  k_with "k_lt" => skip
  k_with "k_ne" => (refine neN ?_; (try dsimp only); first | exact AllNe.off (by with_reducible assumption) (_, _) (by k_mem) | exact Ne.symm (AllNe.off (by with_reducible assumption) (_, _) (by k_mem)) | exact lt_ne (by with_reducible assumption) (_, _) (by k_mem) | exact Ne.symm (lt_ne (by with_reducible assumption) (_, _) (by k_mem)) | exact off_I (by with_reducible assumption) (_, _) (by k_mem) | exact Ne.symm (off_I (by with_reducible assumption) (_, _) (by k_mem)) | exact off_C (by with_reducible assumption) (_, _) (by k_mem) | exact Ne.symm (off_C (by with_reducible assumption) (_, _) (by k_mem)) | exact off_D (by with_reducible assumption) (_, _) (by k_mem) | exact Ne.symm (off_D (by with_reducible assumption) (_, _) (by k_mem)) | exact off1_mem (by with_reducible assumption) (_, _) (by k_mem) | exact Ne.symm (off1_mem (by with_reducible assumption) (_, _) (by k_mem)) | omega)
  k_with "k_all" => first | exact lt_ne (by with_reducible assumption) | exact AllNe.off (by with_reducible assumption) | exact off_I (by with_reducible assumption) | exact off_C (by with_reducible assumption) | exact off_D (by with_reducible assumption) | exact off1_mem (by with_reducible assumption) | exact List.forall_mem_nil _ | (refine' List.forall_mem_cons.mpr ⟨?Za, ?Zb⟩; (case Za => k_ne); (case Zb => k_all)) | (intro p9 hp9; exact lt_ne (by with_reducible assumption) p9 (by k_mem)) | (intro p9 hp9; exact AllNe.off (by with_reducible assumption) p9 (by k_mem)) | (intro p9 hp9; exact off1_mem (by with_reducible assumption) p9 (by k_mem)) | fail "k_all"
  k_with "CompRestT" => (with_unfolding_all first | (refine LCt.CompRestT.succ ?_; intro v' I' oI' C' oC' D' m' h' tk' E' hv' hC' hx' F' N' off' ne'; (first | lcg_open hv' | (obtain ⟨t9', hv9'⟩ := hv'; subst hv9'))) | refine LCt.CompRestT.zero ?_)
  k_with "CompRest" => (with_unfolding_all first | (refine LCg.CompRest.succ ?_; intro v' I' oI' C' oC' D' m' h' tk' E' hv' hC' hx' F' N' off' ne'; (first | lcg_open hv' | (obtain ⟨t9', hv9'⟩ := hv'; subst hv9'))) | refine LCg.CompRest.zero ?_)
  k_with "FinE" => ((unfold LCg.FinE); intro D' h' tk' F' N' o1'; (try simp only [List.nil_append, List.cons_append] at N'); (try dsimp only); (repeat (rename LCg.Off3 _ _ _ _ => zz; clear zz)))
  k_with "FinA" => ((unfold LCg.FinA); intro D' h' tk' F' N' o1'; (try simp only [List.nil_append, List.cons_append] at N'); (try dsimp only); (repeat (rename LCg.Off3 _ _ _ _ => zz; clear zz)))
  k_with "CompEnd" => k_dflt (first | (refine' CompEnd_keep ?ZF ?ZN ?Zoff ?ZhI ?ZhC ?ZhD ?Zsrc ?_; (case ZF => k_asm); (case ZN => with_reducible assumption); (case Zoff => with_reducible assumption); (case ZhI => k_ne); (case ZhC => k_ne); (case ZhD => k_ne); (case Zsrc => lcg_src)) | (refine' CompEnd_same ?ZF ?ZN ?Zoff ?Zsrc ?_; (case ZF => k_asm); (case ZN => with_reducible assumption); (case Zoff => with_reducible assumption); (case Zsrc => lcg_src)) | (refine' CompEnd_drop ?ZF ?ZN ?Zoff ?Zsrc ?_; (case ZF => k_asm); (case ZN => with_reducible assumption); (case Zoff => with_reducible assumption); (case Zsrc => lcg_src)))
  k_with "exec While BoolOp" => (k_here; k_dflt (refine whl_start 100 ?_))
  k_with "WhlRest" => (k_dflt (refine' whl_turn ?ZhE ?_; (case ZhE => assumption)); (try k_sweep))
  k_with "compareOp Eq int int" => (k_here; (with_reducible show wpAny _ _ (compareOp CmpOp.Eq (Value.int _ _) (Value.int (Nat.cast (List.length _)) _)) _ _ _); k_dflt (refine' eq_intF ?Zq ?_; (case Zq => omega)))
  k_with "compareOp NotEq int int" => (k_here; (with_reducible show wpAny _ _ (compareOp CmpOp.NotEq (Value.int _ _) (Value.int _ _)) _ _ _); k_dflt (refine' ne_intF ?Zq ?_; (case Zq => first | with_reducible assumption | exact sel_is (by with_reducible assumption) | exact congrArg Nat.cast (dist_1 _) | exact congrArg Nat.cast (dist_2 _) | exact congrArg Nat.cast (dist_3 _) | exact rfl)))
  k_with "compareOp NotEq ref ref" => (k_here; (with_reducible show wpAny _ _ (compareOp CmpOp.NotEq (Value.ref _) (Value.ref _)) _ _ _); k_dflt (first | (refine' ne_listF ?ZN ?Za ?Zb ?Zc ?Zd ?Ze ?Zf ?Zg ?Zi ?Zj ?Zk ?Zu ?Zq ?_; (case ZN => k_asm); (case Za => k_mem); (case Zb => rfl); (case Zc => rfl); (case Ze => k_mem); (case Zf => rfl); (case Zg => rfl); (case Zd => kqd_all); (case Zi => exact datAll_ints (by with_reducible assumption)); (case Zj => exact okL rfl); (case Zk => exact ints_ok); (case Zu => ke_room); (case Zq => rfl)) | (refine' ne_listF ?ZN ?Za ?Zb ?Zc ?Zd ?Ze ?Zf ?Zg ?Zi ?Zj ?Zk ?Zu ?Zq ?_; (case ZN => k_asm); (case Za => k_mem); (case Zb => rfl); (case Zc => rfl); (case Ze => k_mem); (case Zf => rfl); (case Zg => rfl); (case Zd => kqd_all); (case Zi => kqd_all); (case Zj => exact okL rfl); (case Zk => exact okL rfl); (case Zu => ke_room); (case Zq => rfl))))
  k_with "call builtin:sorted" => (k_here; (with_reducible show wpAny _ _ (call (Value.builtin _) [Value.ref _]) _ _ _); k_dflt (refine' sorted_rev ?ZF ?ZN ?Zm ?Zi ?Zl ?Zp ?_; (case ZF => k_asm); (case ZN => k_asm); (case Zm => k_mem); (case Zi => (repeat (first | exact IntsAre.nil | apply IntsAre.cons))); (case Zl => exact Nat.le_of_ble_eq_true rfl); (case Zp => simp)); k_dflt (intro D' v' c' h' F' N' l1 i'; (try k_sweep)))
  k_with "execs cons" => (k_here; (with_reducible show wpAny _ _ (execs (Stmt.For (Expr.Name _ _) (Expr.Name (Str.ofString "deeds") _) _ _ _ :: _) _) _ _ _); k_dflt (refine hold_of ?_))
  k_with "exec Assign cons ListComp" => (k_here; k_dflt (refine wpAny_Assign_Name ?_))
  k_with "eval ListComp" => (k_here; (with_reducible show wpAny _ _ (eval (Expr.ListComp _ [⟨_, Expr.Subscript (Expr.Name (Str.ofString "still") _) _ _, _, _⟩] _ _) _) _ _ _); k_dflt (refine lc_tupT (F₀ := by k_asm) (by with_unfolding_all rfl) (by decide) (by rfl) (by decide) (by rfl) ?_))
  k_with "SrcTT" => (k_here; k_dflt (refine SrcTT.ledger (by rfl) (by k_asm) (by k_asm) (by k_mem) (by first | size_fits | exact Nat.le_of_ble_eq_true rfl) ?_; intro g'; lct_lit))
  k_with "call ref" => (k_here; (with_reducible show wpAny _ _ (call (Value.ref 81) _) _ _ _); k_dflt (refine' c_number ?ZB ?ZF ?ZX ?ZN ?ZT ?Zhk ?Zhdp ?Zhun ?Zhm ?Zg1 ?Zg2 ?Zg3 ?Zg4 ?Zg5 ?Zg6 ?_; (case ZB => k_asm); (case ZF => k_asm); (case ZX => k_asm); (case ZT => k_asm); (case Zhk => first | exact rfl | assumption); (case ZN => k_asm); (case Zhdp => ktr_room); (case Zhun => ktr_units); (case Zhm => k_mem); (case Zg1 => exact And.left (by with_reducible assumption)); (case Zg2 => exact And.right (by with_reducible assumption)); (case Zg3 => exact And.left (by with_reducible assumption)); (case Zg4 => exact And.right (by with_reducible assumption)); (case Zg5 => exact And.left (by with_reducible assumption)); (case Zg6 => exact And.right (by with_reducible assumption))); k_dflt (intro t3 h3 tk3 F3 N3; (try k_sweep)))
  k_with "call ref" => (k_here; (with_reducible show wpAny _ _ (call (Value.ref 93) _) _ _ _); k_dflt (refine' c_thenR ?ZB ?ZF ?ZX ?ZT ?Zhk ?ZN ?Zm1 ?Zm2 ?Zhdp ?Zhun ?Zg1 ?Zg2 ?Zg3 ?Ze0 ?Ze1 ?Ze2 ?_; (case ZB => k_asm); (case ZF => k_asm); (case ZX => k_asm); (case ZT => k_asm); (case Zhk => first | exact rfl | assumption); (case ZN => k_asm); (case Zhdp => ktr_room); (case Zhun => ktr_units); (case Zm1 => k_mem); (case Zm2 => k_mem); (case Zg1 => assumption); (case Zg2 => assumption); (case Zg3 => assumption); (case Ze0 => assumption); (case Ze1 => assumption); (case Ze2 => assumption)); k_dflt (intro r3 t30 t31 t32 h3 tk3 F3 N3 o3; (try k_sweep)))
  k_with "call ref" => (k_here; (with_reducible show wpAny _ _ (call (Value.ref 74) _) _ _ _); k_dflt (refine' c_bisIn ?ZB ?ZF ?ZX ?ZT ?Zhk ?ZN ?Zm1 ?Zhi ?Zhl ?ZhS ?Zhx ?Zhdp ?Zhun ?_; (case ZB => k_asm); (case ZF => k_asm); (case ZX => k_asm); (case ZT => k_asm); (case Zhk => first | exact rfl | assumption); (case ZN => k_asm); (case Zhdp => ktr_room); (case Zhun => ktr_units); (case Zm1 => k_mem); (case Zhi => assumption); (case Zhl => omega); (case ZhS => assumption); (case Zhx => assumption)); k_dflt (intro p3 t3 h3 tk3 F3 N3 q30 q31 q32; (try k_sweep)))
  k_with "call ref" => (k_here; (with_reducible show wpAny _ _ (call (Value.ref 105) _) _ _ _); k_dflt (refine' c_reachR ?ZB ?ZF ?ZX ?ZT ?Zhk ?ZN ?Zm1 ?Zhdp ?Zhun ?Zer ?_; (case ZB => k_asm); (case ZF => k_asm); (case ZX => k_asm); (case ZT => k_asm); (case Zhk => first | exact rfl | assumption); (case ZN => k_asm); (case Zhdp => ktr_room); (case Zhun => ktr_units); (case Zm1 => k_mem); (case Zer => assumption)); k_dflt (intro t3 h3 tk3 F3 N3; (try k_sweep)))
  k_with "compareOp NotIn ref ref" => (k_here; (with_reducible show wpAny _ _ (compareOp CmpOp.NotIn _ (Value.ref _)) _ _ _); k_dflt (first | (refine' notin_t ?ZN ?Za ?Zb ?Zc ?Zd ?Zx ?Zl ?Zm ?Zn ?Zhn ?_; (case ZN => k_asm); (case Za => k_mem); (case Zb => rfl); (case Zc => rfl); (case Zd => kqd_all); (case Zx => kqd_in); (case Zl => exact okL rfl); (case Zm => first | rfl | kernel_rfl!); (case Zn => ke_room); (case Zhn => first | exact List.not_mem_nil | assumption)) | (refine' notin_f ?ZN ?Za ?Zb ?Zc ?Zd ?Zx ?Zl ?Zm ?Zn ?Zhn ?_; (case ZN => k_asm); (case Za => k_mem); (case Zb => rfl); (case Zc => rfl); (case Zd => kqd_all); (case Zx => kqd_in); (case Zl => exact okL rfl); (case Zm => first | rfl | kernel_rfl!); (case Zn => ke_room); (case Zhn => first | exact List.not_mem_nil | assumption))))
  k_with "compareOp Eq ref ref" => (k_here; (with_reducible show wpAny _ _ (compareOp CmpOp.Eq (Value.ref _) (Value.ref _)) _ _ _); k_dflt (first | (refine' dat_eqT ?ZN ?Za ?Zb ?Zc ?Zd ?Zu ?Zq ?_; (case ZN => k_asm); (case Za => kqd_in); (case Zb => kqd_in); (case Zc => first | rfl | kernel_rfl!); (case Zd => first | rfl | kernel_rfl!); (case Zu => ke_room); (case Zq => first | rfl | assumption)) | (refine' dat_eqF ?ZN ?Za ?Zb ?Zc ?Zd ?Zu ?Zq ?_; (case ZN => k_asm); (case Za => kqd_in); (case Zb => kqd_in); (case Zc => first | rfl | kernel_rfl!); (case Zd => first | rfl | kernel_rfl!); (case Zu => ke_room); (case Zq => first | rfl | assumption))))
  k_with "call builtin:list.index" => (k_here; (with_reducible show wpAny _ _ (call (Value.builtin _) [Value.ref _, Value.ref _]) _ _ _); k_dflt (first | (refine' kqd_index ?ZN ?Za ?Zd ?Zx ?Zl ?Zm ?Zu 0 ?Zhj ?Zhn ?Zhz ?_; (case ZN => k_asm); (case Za => k_mem); (case Zd => kqd_all); (case Zx => kqd_in); (case Zl => exact okL rfl); (case Zm => first | rfl | kernel_rfl!); (case Zu => ke_room); (case Zhj => rfl); (case Zhn => first | exact no0 | exact no1 (by assumption) | exact no2 (by assumption) (by assumption)); (case Zhz => exact Nat.le_of_ble_eq_true rfl)) | (refine' kqd_index ?ZN ?Za ?Zd ?Zx ?Zl ?Zm ?Zu 1 ?Zhj ?Zhn ?Zhz ?_; (case ZN => k_asm); (case Za => k_mem); (case Zd => kqd_all); (case Zx => kqd_in); (case Zl => exact okL rfl); (case Zm => first | rfl | kernel_rfl!); (case Zu => ke_room); (case Zhj => rfl); (case Zhn => first | exact no0 | exact no1 (by assumption) | exact no2 (by assumption) (by assumption)); (case Zhz => exact Nat.le_of_ble_eq_true rfl)) | (refine' kqd_index ?ZN ?Za ?Zd ?Zx ?Zl ?Zm ?Zu 2 ?Zhj ?Zhn ?Zhz ?_; (case ZN => k_asm); (case Za => k_mem); (case Zd => kqd_all); (case Zx => kqd_in); (case Zl => exact okL rfl); (case Zm => first | rfl | kernel_rfl!); (case Zu => ke_room); (case Zhj => rfl); (case Zhn => first | exact no0 | exact no1 (by assumption) | exact no2 (by assumption) (by assumption)); (case Zhz => exact Nat.le_of_ble_eq_true rfl))); k_dflt (intro t3 tk3; (try dsimp only)))
  k_with "call type:dict" => (k_here; (with_reducible show wpAny _ _ (call (Value.type "dict") [Value.ref _]) _ _ _); k_dflt ((first | (refine dict_pairs_N (kws := [(_, _)]) (by k_asm) (by k_asm) (Top.nolimit (by k_asm)) (by rfl) (by k_mem) (by exact ⟨⟨_, _, _, rfl, by k_mem⟩, True.intro⟩) (by exact Nat.le_of_ble_eq_true rfl) ?_) | (refine dict_pairs_N (kws := [(_, _), (_, _)]) (by k_asm) (by k_asm) (Top.nolimit (by k_asm)) (by rfl) (by k_mem) (by exact ⟨⟨_, _, _, rfl, by k_mem⟩, ⟨_, _, _, rfl, by k_mem⟩, True.intro⟩) (by exact Nat.le_of_ble_eq_true rfl) ?_) | (refine dict_pairs_N (kws := [(_, _), (_, _), (_, _)]) (by k_asm) (by k_asm) (Top.nolimit (by k_asm)) (by rfl) (by k_mem) (by exact ⟨⟨_, _, _, rfl, by k_mem⟩, ⟨_, _, _, rfl, by k_mem⟩, ⟨_, _, _, rfl, by k_mem⟩, True.intro⟩) (by exact Nat.le_of_ble_eq_true rfl) ?_)); intro d' h' tk' o' F' N' l1 lo' hd'; (try k_lt l1)))
  k_with "call builtin:len" => (k_here; (with_reducible show wpAny _ _ (call (Value.builtin "len") [Value.ref _]) _ _ _); k_dflt (refine len_dict_N (by k_asm) (by k_mem) (by assumption) (by assumption) (by exact Nat.le_of_ble_eq_true rfl) ?_; intro t' tk'))
  k_with "subscriptTail" => (k_here; (with_reducible show wpAny _ _ (subscriptTail _ _ (Value.ref _) (Value.int 0 _)) _ _ _); k_dflt (refine' item_zero ?ZN ?Zm ?_ ?Zz; (case ZN => k_asm); (case Zm => k_mem); (case Zz => with_unfolding_all rfl)))
  k_with "subscriptTail Name Constant ref int" => (k_here; (with_reducible show wpAny _ _ (subscriptTail _ _ (Value.ref _) (Value.int 0 _)) _ _ _); k_dflt (refine' item_zero ?ZN ?Zm ?_ ?Zz; (case ZN => k_asm); (case Zm => k_mem); (case Zz => with_unfolding_all rfl)))
  trivial
section
variable {prog : Program} {w : World} {mg mb : Str → Option Value} {mean : ExcName → Option Value} {loose : List Str}
  {dp un : Nat} {gd : Option (List Code)} {cn : Str} {cs : Scope} {L a : Addr} {ccd : Value} {cl : List (Str × Addr)} {outer : List Env} {A₀ : Around} {base h₀ : Heap} {m : Str → Option Value} {s : Shared} {Q E : Value → Shared → Prop}
set_option maxRecDepth 100000 in
set_option maxHeartbeats 20000000 in
theorem c_a2 {full body : List Stmt} {sc : Scope} {cs0 L fa un dp : Nat} {gd : Option (List Code)} {ccd : Value} {outer : List Env} {Q : Flow → Shared → Prop} {E : Value → Shared → Prop} {x0 x1 x2 u0 u1 u2 : Int} {tx0 tx1 tx2 : Tok} {tail : List (Addr × Obj)} {o dl f : Nat} {oc : Obj} {cv0 : Option Value}
    (hf : full = forB (fnB ((hd.heap_39 w.params).lookup 110)) 4) (hb : body = (full.drop 2).take 6) (hsc : sc = fnS ((hd.heap_39 w.params).lookup 110))
    (B : Below A₀ base outer h₀) (F : Fr h₀ L s.heap m) (X : (hd.heap_39 w.params).In h₀) (T : Top topProg loose mean mg mb h₀) (N : News h₀ L s.heap ((cs0, oc) :: tail)) (n1 : AllNe cs0 tail) (hcv : oc.data = .cell cv0)
    (e1 : m (Str.ofString "order") = some (.ref o)) (e2 : m (Str.ofString "deeds") = some (.ref dl)) (e3 : m (Str.ofString "deed") = some (.ref f)) (mf : (f, tupO [.int x0 tx0, .int x1 tx1, .int x2 tx2]) ∈ tail)
    (hx0 : 0 ≤ x0 ∧ x0 ≤ 2) (hx1 : 0 ≤ x1 ∧ x1 ≤ 2) (hx2 : 0 ≤ x2 ∧ x2 ≤ 2) (hu0 : 0 ≤ u0 ∧ u0 ≤ 2) (hu1 : 0 ≤ u1 ∧ u1 ≤ 2) (hu2 : 0 ≤ u2 ∧ u2 ≤ 2)
    (Txx0 : sel x0 x0 x1 x2 = u0) (Txx1 : sel x1 x0 x1 x2 = u1) (Txx2 : sel x2 x0 x1 x2 = u2)
    (Tux0 : sel u0 x0 x1 x2 = x0) (Tux1 : sel u1 x0 x1 x2 = x1) (Tux2 : sel u2 x0 x1 x2 = x2)
    (Tuu0 : sel u0 u0 u1 u2 = u0) (Tuu1 : sel u1 u0 u1 u2 = u1) (Tuu2 : sel u2 u0 u1 u2 = u2)
    (hin0 : Dat.tuple [Dat.int u0, Dat.int u1, Dat.int u2] ∉ [Dat.tuple [Dat.int x0, Dat.int x1, Dat.int x2]]) (hiy : Dat.tuple [Dat.int x0, Dat.int x1, Dat.int x2] ∈ [Dat.tuple [Dat.int x0, Dat.int x1, Dat.int x2], Dat.tuple [Dat.int u0, Dat.int u1, Dat.int u2]]) (hne0 : Dat.tuple [Dat.int u0, Dat.int u1, Dat.int u2] ≠ Dat.tuple [Dat.int x0, Dat.int x1, Dat.int x2]) (hne1 : Dat.tuple [Dat.int x0, Dat.int x1, Dat.int x2] ≠ Dat.tuple [Dat.int u0, Dat.int u1, Dat.int u2])
    (hdp : dp + 44 < recursionLimit) (hun : un + 500 < cLine) (hE : PassesOwn (model prog w) (ktrTop dp un gd (Str.ofString "law") sc L fa ccd [(Str.ofString "still", cs0)] outer) (envX (Str.ofString "law") sc L fa ccd [(Str.ofString "still", cs0)]) E)
    (hret : ∀ (h' : Heap) (tk' : Nat) (m' : Str → Option Value) (oc' : Obj) (sl pw kk : Nat) (tb : Tok) (ru : Nat) (tu0 tu1 tu2 : Tok) , Fr h₀ L h' m' → m' (Str.ofString "order") = some (.ref o) → m' (Str.ofString "deeds") = some (.ref dl) → m' (Str.ofString "deed") = some (.ref f) → m' (Str.ofString "powers") = some (.ref pw) → m' (Str.ofString "begin") = some (.int 0 tb) → oc'.data = .cell (some (.ref sl)) → News h₀ L h' ((sl, LCg.lst [.ref ru]) :: (pw, W.listOf #[.ref f, .ref ru] kk) :: (ru, tupO [.int u0 tu0, .int u1 tu1, .int u2 tu2]) :: (cs0, oc') :: tail) → Q .next { s with heap := h', toks := tk' }) :
    wpAny (model prog w) (ktrTop dp un gd (Str.ofString "law") sc L fa ccd [(Str.ofString "still", cs0)] outer) (execs body (envX (Str.ofString "law") sc L fa ccd [(Str.ofString "still", cs0)])) Q E s := by
  conv at hf => rhs; whnf
  conv at hsc => rhs; whnf
  subst hf hsc
  simp only [List.drop_succ_cons, List.drop_zero, List.take_succ_cons, List.take_zero] at hb
  subst hb
  have hk : (ScopeKind.function = ScopeKind.function) := rfl
  have F1 := fr_at4 F e1 e2 e3 e3
  clear F
  k_steps
  refine' hret _ _ _ _ _ _ _ _ _ _ _ _ ?zF ?q0 ?q1 ?q2 ?q3 ?q4 ?zc ?zN
  case zF => k_asm
  case q0 => rfl
  case q1 => rfl
  case q2 => rfl
  case q3 => rfl
  case q4 => rfl
  case zc => assumption
  case zN =>
    rename News _ _ _ _ => N9
    refine news_ground ?_ N9
    refine' List.forall_mem_cons.mpr ⟨?w1, List.forall_mem_cons.mpr ⟨?w2, List.forall_mem_cons.mpr ⟨?w3, List.forall_mem_cons.mpr ⟨?w8, ?w9⟩⟩⟩⟩
    case w1 => k_mem
    case w2 => k_mem
    case w3 => k_mem
    case w8 => k_mem
    case w9 => (intro x hx; k_mem)
end
end Mine
end
example : True := by
  w_top off
  trivial
section
namespace Mine
example : True := by
  k_with_none
  k_with "k_mem" => first | with_reducible assumption | with_reducible exact memI (by with_reducible assumption) | fail "no member"
  k_with "k_lt" => skip
  k_with "k_ne" => (refine neN ?_; (try dsimp only); first | exact AllNe.off (by with_reducible assumption) (_, _) (by k_mem) | exact Ne.symm (AllNe.off (by with_reducible assumption) (_, _) (by k_mem)) | exact lt_ne (by with_reducible assumption) (_, _) (by k_mem) | exact Ne.symm (lt_ne (by with_reducible assumption) (_, _) (by k_mem)) | exact off_I (by with_reducible assumption) (_, _) (by k_mem) | exact Ne.symm (off_I (by with_reducible assumption) (_, _) (by k_mem)) | exact off_C (by with_reducible assumption) (_, _) (by k_mem) | exact Ne.symm (off_C (by with_reducible assumption) (_, _) (by k_mem)) | exact off_D (by with_reducible assumption) (_, _) (by k_mem) | exact Ne.symm (off_D (by with_reducible assumption) (_, _) (by k_mem)) | exact off1_mem (by with_reducible assumption) (_, _) (by k_mem) | exact Ne.symm (off1_mem (by with_reducible assumption) (_, _) (by k_mem)) | omega)
  k_with "k_all" => first | exact lt_ne (by with_reducible assumption) | exact AllNe.off (by with_reducible assumption) | exact off_I (by with_reducible assumption) | exact off_C (by with_reducible assumption) | exact off_D (by with_reducible assumption) | exact off1_mem (by with_reducible assumption) | exact List.forall_mem_nil _ | (refine' List.forall_mem_cons.mpr ⟨?Za, ?Zb⟩; (case Za => k_ne); (case Zb => k_all)) | (intro p9 hp9; exact lt_ne (by with_reducible assumption) p9 (by k_mem)) | (intro p9 hp9; exact AllNe.off (by with_reducible assumption) p9 (by k_mem)) | (intro p9 hp9; exact off1_mem (by with_reducible assumption) p9 (by k_mem)) | fail "k_all"
  k_with "CompRestT" => (with_unfolding_all first | (refine LCt.CompRestT.succ ?_; intro v' I' oI' C' oC' D' m' h' tk' E' hv' hC' hx' F' N' off' ne'; (first | lcg_open hv' | (obtain ⟨t9', hv9'⟩ := hv'; subst hv9'))) | refine LCt.CompRestT.zero ?_)
  k_with "CompRest" => (with_unfolding_all first | (refine LCg.CompRest.succ ?_; intro v' I' oI' C' oC' D' m' h' tk' E' hv' hC' hx' F' N' off' ne'; (first | lcg_open hv' | (obtain ⟨t9', hv9'⟩ := hv'; subst hv9'))) | refine LCg.CompRest.zero ?_)
  k_with "FinE" => ((unfold LCg.FinE); intro D' h' tk' F' N' o1'; (try simp only [List.nil_append, List.cons_append] at N'); (try dsimp only); (repeat (rename LCg.Off3 _ _ _ _ => zz; clear zz)))
  k_with "FinA" => ((unfold LCg.FinA); intro D' h' tk' F' N' o1'; (try simp only [List.nil_append, List.cons_append] at N'); (try dsimp only); (repeat (rename LCg.Off3 _ _ _ _ => zz; clear zz)))
  k_with "CompEnd" => k_dflt (first | (refine' CompEnd_keep ?ZF ?ZN ?Zoff ?ZhI ?ZhC ?ZhD ?Zsrc ?_; (case ZF => k_asm); (case ZN => with_reducible assumption); (case Zoff => with_reducible assumption); (case ZhI => k_ne); (case ZhC => k_ne); (case ZhD => k_ne); (case Zsrc => lcg_src)) | (refine' CompEnd_same ?ZF ?ZN ?Zoff ?Zsrc ?_; (case ZF => k_asm); (case ZN => with_reducible assumption); (case Zoff => with_reducible assumption); (case Zsrc => lcg_src)) | (refine' CompEnd_drop ?ZF ?ZN ?Zoff ?Zsrc ?_; (case ZF => k_asm); (case ZN => with_reducible assumption); (case Zoff => with_reducible assumption); (case Zsrc => lcg_src)))
  k_with "exec While BoolOp" => (k_here; k_dflt (refine whl_start 100 ?_))
  k_with "WhlRest" => (k_dflt (refine' whl_turn ?ZhE ?_; (case ZhE => assumption)); (try k_sweep))
  k_with "compareOp Eq int int" => (k_here; (with_reducible show wpAny _ _ (compareOp CmpOp.Eq (Value.int _ _) (Value.int (Nat.cast (List.length _)) _)) _ _ _); k_dflt (refine' eq_intF ?Zq ?_; (case Zq => omega)))
  k_with "compareOp NotEq int int" => (k_here; (with_reducible show wpAny _ _ (compareOp CmpOp.NotEq (Value.int _ _) (Value.int _ _)) _ _ _); k_dflt (refine' ne_intF ?Zq ?_; (case Zq => first | with_reducible assumption | exact sel_is (by with_reducible assumption) | exact congrArg Nat.cast (dist_1 _) | exact congrArg Nat.cast (dist_2 _) | exact congrArg Nat.cast (dist_3 _) | exact rfl)))
  k_with "compareOp NotEq ref ref" => (k_here; (with_reducible show wpAny _ _ (compareOp CmpOp.NotEq (Value.ref _) (Value.ref _)) _ _ _); k_dflt (first | (refine' ne_listF ?ZN ?Za ?Zb ?Zc ?Zd ?Ze ?Zf ?Zg ?Zi ?Zj ?Zk ?Zu ?Zq ?_; (case ZN => k_asm); (case Za => k_mem); (case Zb => rfl); (case Zc => rfl); (case Ze => k_mem); (case Zf => rfl); (case Zg => rfl); (case Zd => kqd_all); (case Zi => exact datAll_ints (by with_reducible assumption)); (case Zj => exact okL rfl); (case Zk => exact ints_ok); (case Zu => ke_room); (case Zq => rfl)) | (refine' ne_listF ?ZN ?Za ?Zb ?Zc ?Zd ?Ze ?Zf ?Zg ?Zi ?Zj ?Zk ?Zu ?Zq ?_; (case ZN => k_asm); (case Za => k_mem); (case Zb => rfl); (case Zc => rfl); (case Ze => k_mem); (case Zf => rfl); (case Zg => rfl); (case Zd => kqd_all); (case Zi => kqd_all); (case Zj => exact okL rfl); (case Zk => exact okL rfl); (case Zu => ke_room); (case Zq => rfl))))
  k_with "call builtin:sorted" => (k_here; (with_reducible show wpAny _ _ (call (Value.builtin _) [Value.ref _]) _ _ _); k_dflt (refine' sorted_rev ?ZF ?ZN ?Zm ?Zi ?Zl ?Zp ?_; (case ZF => k_asm); (case ZN => k_asm); (case Zm => k_mem); (case Zi => (repeat (first | exact IntsAre.nil | apply IntsAre.cons))); (case Zl => exact Nat.le_of_ble_eq_true rfl); (case Zp => simp)); k_dflt (intro D' v' c' h' F' N' l1 i'; (try k_sweep)))
  k_with "execs cons" => (k_here; (with_reducible show wpAny _ _ (execs (Stmt.For (Expr.Name _ _) (Expr.Name (Str.ofString "deeds") _) _ _ _ :: _) _) _ _ _); k_dflt (refine hold_of ?_))
  k_with "exec Assign cons ListComp" => (k_here; k_dflt (refine wpAny_Assign_Name ?_))
  k_with "eval ListComp" => (k_here; (with_reducible show wpAny _ _ (eval (Expr.ListComp _ [⟨_, Expr.Subscript (Expr.Name (Str.ofString "still") _) _ _, _, _⟩] _ _) _) _ _ _); k_dflt (refine lc_tupT (F₀ := by k_asm) (by with_unfolding_all rfl) (by decide) (by rfl) (by decide) (by rfl) ?_))
  k_with "SrcTT" => (k_here; k_dflt (refine SrcTT.ledger (by rfl) (by k_asm) (by k_asm) (by k_mem) (by first | size_fits | exact Nat.le_of_ble_eq_true rfl) ?_; intro g'; lct_lit))
  k_with "call ref" => (k_here; (with_reducible show wpAny _ _ (call (Value.ref 81) _) _ _ _); k_dflt (refine' c_number ?ZB ?ZF ?ZX ?ZN ?ZT ?Zhk ?Zhdp ?Zhun ?Zhm ?Zg1 ?Zg2 ?Zg3 ?Zg4 ?Zg5 ?Zg6 ?_; (case ZB => k_asm); (case ZF => k_asm); (case ZX => k_asm); (case ZT => k_asm); (case Zhk => first | exact rfl | assumption); (case ZN => k_asm); (case Zhdp => ktr_room); (case Zhun => ktr_units); (case Zhm => k_mem); (case Zg1 => exact And.left (by with_reducible assumption)); (case Zg2 => exact And.right (by with_reducible assumption)); (case Zg3 => exact And.left (by with_reducible assumption)); (case Zg4 => exact And.right (by with_reducible assumption)); (case Zg5 => exact And.left (by with_reducible assumption)); (case Zg6 => exact And.right (by with_reducible assumption))); k_dflt (intro t3 h3 tk3 F3 N3; (try k_sweep)))
  k_with "call ref" => (k_here; (with_reducible show wpAny _ _ (call (Value.ref 93) _) _ _ _); k_dflt (refine' c_thenR ?ZB ?ZF ?ZX ?ZT ?Zhk ?ZN ?Zm1 ?Zm2 ?Zhdp ?Zhun ?Zg1 ?Zg2 ?Zg3 ?Ze0 ?Ze1 ?Ze2 ?_; (case ZB => k_asm); (case ZF => k_asm); (case ZX => k_asm); (case ZT => k_asm); (case Zhk => first | exact rfl | assumption); (case ZN => k_asm); (case Zhdp => ktr_room); (case Zhun => ktr_units); (case Zm1 => k_mem); (case Zm2 => k_mem); (case Zg1 => assumption); (case Zg2 => assumption); (case Zg3 => assumption); (case Ze0 => assumption); (case Ze1 => assumption); (case Ze2 => assumption)); k_dflt (intro r3 t30 t31 t32 h3 tk3 F3 N3 o3; (try k_sweep)))
  k_with "call ref" => (k_here; (with_reducible show wpAny _ _ (call (Value.ref 74) _) _ _ _); k_dflt (refine' c_bisIn ?ZB ?ZF ?ZX ?ZT ?Zhk ?ZN ?Zm1 ?Zhi ?Zhl ?ZhS ?Zhx ?Zhdp ?Zhun ?_; (case ZB => k_asm); (case ZF => k_asm); (case ZX => k_asm); (case ZT => k_asm); (case Zhk => first | exact rfl | assumption); (case ZN => k_asm); (case Zhdp => ktr_room); (case Zhun => ktr_units); (case Zm1 => k_mem); (case Zhi => assumption); (case Zhl => omega); (case ZhS => assumption); (case Zhx => assumption)); k_dflt (intro p3 t3 h3 tk3 F3 N3 q30 q31 q32; (try k_sweep)))
  k_with "call ref" => (k_here; (with_reducible show wpAny _ _ (call (Value.ref 105) _) _ _ _); k_dflt (refine' c_reachR ?ZB ?ZF ?ZX ?ZT ?Zhk ?ZN ?Zm1 ?Zhdp ?Zhun ?Zer ?_; (case ZB => k_asm); (case ZF => k_asm); (case ZX => k_asm); (case ZT => k_asm); (case Zhk => first | exact rfl | assumption); (case ZN => k_asm); (case Zhdp => ktr_room); (case Zhun => ktr_units); (case Zm1 => k_mem); (case Zer => assumption)); k_dflt (intro t3 h3 tk3 F3 N3; (try k_sweep)))
  k_with "compareOp NotIn ref ref" => (k_here; (with_reducible show wpAny _ _ (compareOp CmpOp.NotIn _ (Value.ref _)) _ _ _); k_dflt (first | (refine' notin_t ?ZN ?Za ?Zb ?Zc ?Zd ?Zx ?Zl ?Zm ?Zn ?Zhn ?_; (case ZN => k_asm); (case Za => k_mem); (case Zb => rfl); (case Zc => rfl); (case Zd => kqd_all); (case Zx => kqd_in); (case Zl => exact okL rfl); (case Zm => first | rfl | kernel_rfl!); (case Zn => ke_room); (case Zhn => first | exact List.not_mem_nil | assumption)) | (refine' notin_f ?ZN ?Za ?Zb ?Zc ?Zd ?Zx ?Zl ?Zm ?Zn ?Zhn ?_; (case ZN => k_asm); (case Za => k_mem); (case Zb => rfl); (case Zc => rfl); (case Zd => kqd_all); (case Zx => kqd_in); (case Zl => exact okL rfl); (case Zm => first | rfl | kernel_rfl!); (case Zn => ke_room); (case Zhn => first | exact List.not_mem_nil | assumption))))
  k_with "compareOp Eq ref ref" => (k_here; (with_reducible show wpAny _ _ (compareOp CmpOp.Eq (Value.ref _) (Value.ref _)) _ _ _); k_dflt (first | (refine' dat_eqT ?ZN ?Za ?Zb ?Zc ?Zd ?Zu ?Zq ?_; (case ZN => k_asm); (case Za => kqd_in); (case Zb => kqd_in); (case Zc => first | rfl | kernel_rfl!); (case Zd => first | rfl | kernel_rfl!); (case Zu => ke_room); (case Zq => first | rfl | assumption)) | (refine' dat_eqF ?ZN ?Za ?Zb ?Zc ?Zd ?Zu ?Zq ?_; (case ZN => k_asm); (case Za => kqd_in); (case Zb => kqd_in); (case Zc => first | rfl | kernel_rfl!); (case Zd => first | rfl | kernel_rfl!); (case Zu => ke_room); (case Zq => first | rfl | assumption))))
  k_with "call builtin:list.index" => (k_here; (with_reducible show wpAny _ _ (call (Value.builtin _) [Value.ref _, Value.ref _]) _ _ _); k_dflt (first | (refine' kqd_index ?ZN ?Za ?Zd ?Zx ?Zl ?Zm ?Zu 0 ?Zhj ?Zhn ?Zhz ?_; (case ZN => k_asm); (case Za => k_mem); (case Zd => kqd_all); (case Zx => kqd_in); (case Zl => exact okL rfl); (case Zm => first | rfl | kernel_rfl!); (case Zu => ke_room); (case Zhj => rfl); (case Zhn => first | exact no0 | exact no1 (by assumption) | exact no2 (by assumption) (by assumption)); (case Zhz => exact Nat.le_of_ble_eq_true rfl)) | (refine' kqd_index ?ZN ?Za ?Zd ?Zx ?Zl ?Zm ?Zu 1 ?Zhj ?Zhn ?Zhz ?_; (case ZN => k_asm); (case Za => k_mem); (case Zd => kqd_all); (case Zx => kqd_in); (case Zl => exact okL rfl); (case Zm => first | rfl | kernel_rfl!); (case Zu => ke_room); (case Zhj => rfl); (case Zhn => first | exact no0 | exact no1 (by assumption) | exact no2 (by assumption) (by assumption)); (case Zhz => exact Nat.le_of_ble_eq_true rfl)) | (refine' kqd_index ?ZN ?Za ?Zd ?Zx ?Zl ?Zm ?Zu 2 ?Zhj ?Zhn ?Zhz ?_; (case ZN => k_asm); (case Za => k_mem); (case Zd => kqd_all); (case Zx => kqd_in); (case Zl => exact okL rfl); (case Zm => first | rfl | kernel_rfl!); (case Zu => ke_room); (case Zhj => rfl); (case Zhn => first | exact no0 | exact no1 (by assumption) | exact no2 (by assumption) (by assumption)); (case Zhz => exact Nat.le_of_ble_eq_true rfl))); k_dflt (intro t3 tk3; (try dsimp only)))
  k_with "call type:dict" => (k_here; (with_reducible show wpAny _ _ (call (Value.type "dict") [Value.ref _]) _ _ _); k_dflt ((first | (refine dict_pairs_N (kws := [(_, _)]) (by k_asm) (by k_asm) (Top.nolimit (by k_asm)) (by rfl) (by k_mem) (by exact ⟨⟨_, _, _, rfl, by k_mem⟩, True.intro⟩) (by exact Nat.le_of_ble_eq_true rfl) ?_) | (refine dict_pairs_N (kws := [(_, _), (_, _)]) (by k_asm) (by k_asm) (Top.nolimit (by k_asm)) (by rfl) (by k_mem) (by exact ⟨⟨_, _, _, rfl, by k_mem⟩, ⟨_, _, _, rfl, by k_mem⟩, True.intro⟩) (by exact Nat.le_of_ble_eq_true rfl) ?_) | (refine dict_pairs_N (kws := [(_, _), (_, _), (_, _)]) (by k_asm) (by k_asm) (Top.nolimit (by k_asm)) (by rfl) (by k_mem) (by exact ⟨⟨_, _, _, rfl, by k_mem⟩, ⟨_, _, _, rfl, by k_mem⟩, ⟨_, _, _, rfl, by k_mem⟩, True.intro⟩) (by exact Nat.le_of_ble_eq_true rfl) ?_)); intro d' h' tk' o' F' N' l1 lo' hd'; (try k_lt l1)))
  k_with "call builtin:len" => (k_here; (with_reducible show wpAny _ _ (call (Value.builtin "len") [Value.ref _]) _ _ _); k_dflt (refine len_dict_N (by k_asm) (by k_mem) (by assumption) (by assumption) (by exact Nat.le_of_ble_eq_true rfl) ?_; intro t' tk'))
  k_with "subscriptTail" => (k_here; (with_reducible show wpAny _ _ (subscriptTail _ _ (Value.ref _) (Value.int 0 _)) _ _ _); k_dflt (refine' item_zero ?ZN ?Zm ?_ ?Zz; (case ZN => k_asm); (case Zm => k_mem); (case Zz => with_unfolding_all rfl)))
  k_with "subscriptTail Name Constant ref int" => (k_here; (with_reducible show wpAny _ _ (subscriptTail _ _ (Value.ref _) (Value.int 0 _)) _ _ _); k_dflt (refine' item_zero ?ZN ?Zm ?_ ?Zz; (case ZN => k_asm); (case Zm => k_mem); (case Zz => with_unfolding_all rfl)))
  trivial
section
variable {prog : Program} {w : World} {mg mb : Str → Option Value} {mean : ExcName → Option Value} {loose : List Str}
  {dp un : Nat} {gd : Option (List Code)} {cn : Str} {cs : Scope} {L a : Addr} {ccd : Value} {cl : List (Str × Addr)} {outer : List Env} {A₀ : Around} {base h₀ : Heap} {m : Str → Option Value} {s : Shared} {Q E : Value → Shared → Prop}
set_option maxRecDepth 100000 in
set_option maxHeartbeats 20000000 in
theorem c_a3 {full body : List Stmt} {sc : Scope} {cs0 L fa un dp : Nat} {gd : Option (List Code)} {ccd : Value} {outer : List Env} {Q : Flow → Shared → Prop} {E : Value → Shared → Prop} {x0 x1 x2 u0 u1 u2 v0 v1 v2 : Int} {tx0 tx1 tx2 : Tok} {tail : List (Addr × Obj)} {o dl f : Nat} {oc : Obj} {cv0 : Option Value}
    (hf : full = forB (fnB ((hd.heap_39 w.params).lookup 110)) 4) (hb : body = (full.drop 2).take 6) (hsc : sc = fnS ((hd.heap_39 w.params).lookup 110))
    (B : Below A₀ base outer h₀) (F : Fr h₀ L s.heap m) (X : (hd.heap_39 w.params).In h₀) (T : Top topProg loose mean mg mb h₀) (N : News h₀ L s.heap ((cs0, oc) :: tail)) (n1 : AllNe cs0 tail) (hcv : oc.data = .cell cv0)
    (e1 : m (Str.ofString "order") = some (.ref o)) (e2 : m (Str.ofString "deeds") = some (.ref dl)) (e3 : m (Str.ofString "deed") = some (.ref f)) (mf : (f, tupO [.int x0 tx0, .int x1 tx1, .int x2 tx2]) ∈ tail)
    (hx0 : 0 ≤ x0 ∧ x0 ≤ 2) (hx1 : 0 ≤ x1 ∧ x1 ≤ 2) (hx2 : 0 ≤ x2 ∧ x2 ≤ 2) (hu0 : 0 ≤ u0 ∧ u0 ≤ 2) (hu1 : 0 ≤ u1 ∧ u1 ≤ 2) (hu2 : 0 ≤ u2 ∧ u2 ≤ 2) (hv0 : 0 ≤ v0 ∧ v0 ≤ 2) (hv1 : 0 ≤ v1 ∧ v1 ≤ 2) (hv2 : 0 ≤ v2 ∧ v2 ≤ 2)
    (Txx0 : sel x0 x0 x1 x2 = u0) (Txx1 : sel x1 x0 x1 x2 = u1) (Txx2 : sel x2 x0 x1 x2 = u2)
    (Tux0 : sel u0 x0 x1 x2 = v0) (Tux1 : sel u1 x0 x1 x2 = v1) (Tux2 : sel u2 x0 x1 x2 = v2)
    (Tvx0 : sel v0 x0 x1 x2 = x0) (Tvx1 : sel v1 x0 x1 x2 = x1) (Tvx2 : sel v2 x0 x1 x2 = x2)
    (Tuu0 : sel u0 u0 u1 u2 = x0) (Tuu1 : sel u1 u0 u1 u2 = x1) (Tuu2 : sel u2 u0 u1 u2 = x2)
    (Tvv0 : sel v0 v0 v1 v2 = v0) (Tvv1 : sel v1 v0 v1 v2 = v1) (Tvv2 : sel v2 v0 v1 v2 = v2)
    (hin0 : Dat.tuple [Dat.int u0, Dat.int u1, Dat.int u2] ∉ [Dat.tuple [Dat.int x0, Dat.int x1, Dat.int x2]]) (hin1 : Dat.tuple [Dat.int v0, Dat.int v1, Dat.int v2] ∉ [Dat.tuple [Dat.int x0, Dat.int x1, Dat.int x2], Dat.tuple [Dat.int u0, Dat.int u1, Dat.int u2]]) (hiy : Dat.tuple [Dat.int x0, Dat.int x1, Dat.int x2] ∈ [Dat.tuple [Dat.int x0, Dat.int x1, Dat.int x2], Dat.tuple [Dat.int u0, Dat.int u1, Dat.int u2], Dat.tuple [Dat.int v0, Dat.int v1, Dat.int v2]]) (hne0 : Dat.tuple [Dat.int u0, Dat.int u1, Dat.int u2] ≠ Dat.tuple [Dat.int x0, Dat.int x1, Dat.int x2]) (hne1 : Dat.tuple [Dat.int x0, Dat.int x1, Dat.int x2] ≠ Dat.tuple [Dat.int u0, Dat.int u1, Dat.int u2]) (hne2 : Dat.tuple [Dat.int x0, Dat.int x1, Dat.int x2] ≠ Dat.tuple [Dat.int v0, Dat.int v1, Dat.int v2]) (hne3 : Dat.tuple [Dat.int u0, Dat.int u1, Dat.int u2] ≠ Dat.tuple [Dat.int v0, Dat.int v1, Dat.int v2])
    (hdp : dp + 44 < recursionLimit) (hun : un + 500 < cLine) (hE : PassesOwn (model prog w) (ktrTop dp un gd (Str.ofString "law") sc L fa ccd [(Str.ofString "still", cs0)] outer) (envX (Str.ofString "law") sc L fa ccd [(Str.ofString "still", cs0)]) E)
    (hret : ∀ (h' : Heap) (tk' : Nat) (m' : Str → Option Value) (oc' : Obj) (sl pw kk : Nat) (tb : Tok) (ru : Nat) (tu0 tu1 tu2 : Tok) (rv : Nat) (tv0 tv1 tv2 : Tok) , Fr h₀ L h' m' → m' (Str.ofString "order") = some (.ref o) → m' (Str.ofString "deeds") = some (.ref dl) → m' (Str.ofString "deed") = some (.ref f) → m' (Str.ofString "powers") = some (.ref pw) → m' (Str.ofString "begin") = some (.int 0 tb) → oc'.data = .cell (some (.ref sl)) → News h₀ L h' ((sl, LCg.lst [.ref rv]) :: (pw, W.listOf #[.ref f, .ref ru, .ref rv] kk) :: (ru, tupO [.int u0 tu0, .int u1 tu1, .int u2 tu2]) :: (rv, tupO [.int v0 tv0, .int v1 tv1, .int v2 tv2]) :: (cs0, oc') :: tail) → Q .next { s with heap := h', toks := tk' }) :
    wpAny (model prog w) (ktrTop dp un gd (Str.ofString "law") sc L fa ccd [(Str.ofString "still", cs0)] outer) (execs body (envX (Str.ofString "law") sc L fa ccd [(Str.ofString "still", cs0)])) Q E s := by
  conv at hf => rhs; whnf
  conv at hsc => rhs; whnf
  subst hf hsc
  simp only [List.drop_succ_cons, List.drop_zero, List.take_succ_cons, List.take_zero] at hb
  subst hb
  have hk : (ScopeKind.function = ScopeKind.function) := rfl
  have F1 := fr_at4 F e1 e2 e3 e3
  clear F
  k_steps
  refine' hret _ _ _ _ _ _ _ _ _ _ _ _ _ _ _ _ ?zF ?q0 ?q1 ?q2 ?q3 ?q4 ?zc ?zN
  case zF => k_asm
  case q0 => rfl
  case q1 => rfl
  case q2 => rfl
  case q3 => rfl
  case q4 => rfl
  case zc => assumption
  case zN =>
    rename News _ _ _ _ => N9
    refine news_ground ?_ N9
    refine' List.forall_mem_cons.mpr ⟨?w1, List.forall_mem_cons.mpr ⟨?w2, List.forall_mem_cons.mpr ⟨?w3, List.forall_mem_cons.mpr ⟨?w4, List.forall_mem_cons.mpr ⟨?w8, ?w9⟩⟩⟩⟩⟩
    case w1 => k_mem
    case w2 => k_mem
    case w3 => k_mem
    case w4 => k_mem
    case w8 => k_mem
    case w9 => (intro x hx; k_mem)
end
end Mine
end
example : True := by
  w_top off
  trivial
section
namespace Mine
example : True := by
  k_with_none
  k_with "k_mem" => first | with_reducible assumption | with_reducible exact memI (by with_reducible assumption) | fail "no member"
  k_with "k_lt" => skip
  k_with "k_ne" => (refine neN ?_; (try dsimp only); first | exact AllNe.off (by with_reducible assumption) (_, _) (by k_mem) | exact Ne.symm (AllNe.off (by with_reducible assumption) (_, _) (by k_mem)) | exact lt_ne (by with_reducible assumption) (_, _) (by k_mem) | exact Ne.symm (lt_ne (by with_reducible assumption) (_, _) (by k_mem)) | exact off_I (by with_reducible assumption) (_, _) (by k_mem) | exact Ne.symm (off_I (by with_reducible assumption) (_, _) (by k_mem)) | exact off_C (by with_reducible assumption) (_, _) (by k_mem) | exact Ne.symm (off_C (by with_reducible assumption) (_, _) (by k_mem)) | exact off_D (by with_reducible assumption) (_, _) (by k_mem) | exact Ne.symm (off_D (by with_reducible assumption) (_, _) (by k_mem)) | exact off1_mem (by with_reducible assumption) (_, _) (by k_mem) | exact Ne.symm (off1_mem (by with_reducible assumption) (_, _) (by k_mem)) | omega)
  k_with "k_all" => first | exact lt_ne (by with_reducible assumption) | exact AllNe.off (by with_reducible assumption) | exact off_I (by with_reducible assumption) | exact off_C (by with_reducible assumption) | exact off_D (by with_reducible assumption) | exact off1_mem (by with_reducible assumption) | exact List.forall_mem_nil _ | (refine' List.forall_mem_cons.mpr ⟨?Za, ?Zb⟩; (case Za => k_ne); (case Zb => k_all)) | (intro p9 hp9; exact lt_ne (by with_reducible assumption) p9 (by k_mem)) | (intro p9 hp9; exact AllNe.off (by with_reducible assumption) p9 (by k_mem)) | (intro p9 hp9; exact off1_mem (by with_reducible assumption) p9 (by k_mem)) | fail "k_all"
  k_with "CompRestT" => (with_unfolding_all first | (refine LCt.CompRestT.succ ?_; intro v' I' oI' C' oC' D' m' h' tk' E' hv' hC' hx' F' N' off' ne'; (first | lcg_open hv' | (obtain ⟨t9', hv9'⟩ := hv'; subst hv9'))) | refine LCt.CompRestT.zero ?_)
  k_with "CompRest" => (with_unfolding_all first | (refine LCg.CompRest.succ ?_; intro v' I' oI' C' oC' D' m' h' tk' E' hv' hC' hx' F' N' off' ne'; (first | lcg_open hv' | (obtain ⟨t9', hv9'⟩ := hv'; subst hv9'))) | refine LCg.CompRest.zero ?_)
  k_with "FinE" => ((unfold LCg.FinE); intro D' h' tk' F' N' o1'; (try simp only [List.nil_append, List.cons_append] at N'); (try dsimp only); (repeat (rename LCg.Off3 _ _ _ _ => zz; clear zz)))
  k_with "FinA" => ((unfold LCg.FinA); intro D' h' tk' F' N' o1'; (try simp only [List.nil_append, List.cons_append] at N'); (try dsimp only); (repeat (rename LCg.Off3 _ _ _ _ => zz; clear zz)))
  k_with "CompEnd" => k_dflt (first | (refine' CompEnd_keep ?ZF ?ZN ?Zoff ?ZhI ?ZhC ?ZhD ?Zsrc ?_; (case ZF => k_asm); (case ZN => with_reducible assumption); (case Zoff => with_reducible assumption); (case ZhI => k_ne); (case ZhC => k_ne); (case ZhD => k_ne); (case Zsrc => lcg_src)) | (refine' CompEnd_same ?ZF ?ZN ?Zoff ?Zsrc ?_; (case ZF => k_asm); (case ZN => with_reducible assumption); (case Zoff => with_reducible assumption); (case Zsrc => lcg_src)) | (refine' CompEnd_drop ?ZF ?ZN ?Zoff ?Zsrc ?_; (case ZF => k_asm); (case ZN => with_reducible assumption); (case Zoff => with_reducible assumption); (case Zsrc => lcg_src)))
  k_with "exec While BoolOp" => (k_here; k_dflt (refine whl_start 100 ?_))
  k_with "WhlRest" => (k_dflt (refine' whl_turn ?ZhE ?_; (case ZhE => assumption)); (try k_sweep))
  k_with "compareOp Eq int int" => (k_here; (with_reducible show wpAny _ _ (compareOp CmpOp.Eq (Value.int _ _) (Value.int (Nat.cast (List.length _)) _)) _ _ _); k_dflt (refine' eq_intF ?Zq ?_; (case Zq => omega)))
  k_with "compareOp NotEq int int" => (k_here; (with_reducible show wpAny _ _ (compareOp CmpOp.NotEq (Value.int _ _) (Value.int _ _)) _ _ _); k_dflt (refine' ne_intF ?Zq ?_; (case Zq => first | with_reducible assumption | exact sel_is (by with_reducible assumption) | exact congrArg Nat.cast (dist_1 _) | exact congrArg Nat.cast (dist_2 _) | exact congrArg Nat.cast (dist_3 _) | exact rfl)))
  k_with "compareOp NotEq ref ref" => (k_here; (with_reducible show wpAny _ _ (compareOp CmpOp.NotEq (Value.ref _) (Value.ref _)) _ _ _); k_dflt (first | (refine' ne_listF ?ZN ?Za ?Zb ?Zc ?Zd ?Ze ?Zf ?Zg ?Zi ?Zj ?Zk ?Zu ?Zq ?_; (case ZN => k_asm); (case Za => k_mem); (case Zb => rfl); (case Zc => rfl); (case Ze => k_mem); (case Zf => rfl); (case Zg => rfl); (case Zd => kqd_all); (case Zi => exact datAll_ints (by with_reducible assumption)); (case Zj => exact okL rfl); (case Zk => exact ints_ok); (case Zu => ke_room); (case Zq => rfl)) | (refine' ne_listF ?ZN ?Za ?Zb ?Zc ?Zd ?Ze ?Zf ?Zg ?Zi ?Zj ?Zk ?Zu ?Zq ?_; (case ZN => k_asm); (case Za => k_mem); (case Zb => rfl); (case Zc => rfl); (case Ze => k_mem); (case Zf => rfl); (case Zg => rfl); (case Zd => kqd_all); (case Zi => kqd_all); (case Zj => exact okL rfl); (case Zk => exact okL rfl); (case Zu => ke_room); (case Zq => rfl))))
  k_with "call builtin:sorted" => (k_here; (with_reducible show wpAny _ _ (call (Value.builtin _) [Value.ref _]) _ _ _); k_dflt (refine' sorted_rev ?ZF ?ZN ?Zm ?Zi ?Zl ?Zp ?_; (case ZF => k_asm); (case ZN => k_asm); (case Zm => k_mem); (case Zi => (repeat (first | exact IntsAre.nil | apply IntsAre.cons))); (case Zl => exact Nat.le_of_ble_eq_true rfl); (case Zp => simp)); k_dflt (intro D' v' c' h' F' N' l1 i'; (try k_sweep)))
  k_with "execs cons" => (k_here; (with_reducible show wpAny _ _ (execs (Stmt.For (Expr.Name _ _) (Expr.Name (Str.ofString "deeds") _) _ _ _ :: _) _) _ _ _); k_dflt (refine hold_of ?_))
  k_with "exec Assign cons ListComp" => (k_here; k_dflt (refine wpAny_Assign_Name ?_))
  k_with "eval ListComp" => (k_here; (with_reducible show wpAny _ _ (eval (Expr.ListComp _ [⟨_, Expr.Subscript (Expr.Name (Str.ofString "still") _) _ _, _, _⟩] _ _) _) _ _ _); k_dflt (refine lc_tupT (F₀ := by k_asm) (by with_unfolding_all rfl) (by decide) (by rfl) (by decide) (by rfl) ?_))
  k_with "SrcTT" => (k_here; k_dflt (refine SrcTT.ledger (by rfl) (by k_asm) (by k_asm) (by k_mem) (by first | size_fits | exact Nat.le_of_ble_eq_true rfl) ?_; intro g'; lct_lit))
  k_with "call ref" => (k_here; (with_reducible show wpAny _ _ (call (Value.ref 81) _) _ _ _); k_dflt (refine' c_number ?ZB ?ZF ?ZX ?ZN ?ZT ?Zhk ?Zhdp ?Zhun ?Zhm ?Zg1 ?Zg2 ?Zg3 ?Zg4 ?Zg5 ?Zg6 ?_; (case ZB => k_asm); (case ZF => k_asm); (case ZX => k_asm); (case ZT => k_asm); (case Zhk => first | exact rfl | assumption); (case ZN => k_asm); (case Zhdp => ktr_room); (case Zhun => ktr_units); (case Zhm => k_mem); (case Zg1 => exact And.left (by with_reducible assumption)); (case Zg2 => exact And.right (by with_reducible assumption)); (case Zg3 => exact And.left (by with_reducible assumption)); (case Zg4 => exact And.right (by with_reducible assumption)); (case Zg5 => exact And.left (by with_reducible assumption)); (case Zg6 => exact And.right (by with_reducible assumption))); k_dflt (intro t3 h3 tk3 F3 N3; (try k_sweep)))
  k_with "call ref" => (k_here; (with_reducible show wpAny _ _ (call (Value.ref 93) _) _ _ _); k_dflt (refine' c_thenR ?ZB ?ZF ?ZX ?ZT ?Zhk ?ZN ?Zm1 ?Zm2 ?Zhdp ?Zhun ?Zg1 ?Zg2 ?Zg3 ?Ze0 ?Ze1 ?Ze2 ?_; (case ZB => k_asm); (case ZF => k_asm); (case ZX => k_asm); (case ZT => k_asm); (case Zhk => first | exact rfl | assumption); (case ZN => k_asm); (case Zhdp => ktr_room); (case Zhun => ktr_units); (case Zm1 => k_mem); (case Zm2 => k_mem); (case Zg1 => assumption); (case Zg2 => assumption); (case Zg3 => assumption); (case Ze0 => assumption); (case Ze1 => assumption); (case Ze2 => assumption)); k_dflt (intro r3 t30 t31 t32 h3 tk3 F3 N3 o3; (try k_sweep)))
  k_with "call ref" => (k_here; (with_reducible show wpAny _ _ (call (Value.ref 74) _) _ _ _); k_dflt (refine' c_bisIn ?ZB ?ZF ?ZX ?ZT ?Zhk ?ZN ?Zm1 ?Zhi ?Zhl ?ZhS ?Zhx ?Zhdp ?Zhun ?_; (case ZB => k_asm); (case ZF => k_asm); (case ZX => k_asm); (case ZT => k_asm); (case Zhk => first | exact rfl | assumption); (case ZN => k_asm); (case Zhdp => ktr_room); (case Zhun => ktr_units); (case Zm1 => k_mem); (case Zhi => assumption); (case Zhl => omega); (case ZhS => assumption); (case Zhx => assumption)); k_dflt (intro p3 t3 h3 tk3 F3 N3 q30 q31 q32; (try k_sweep)))
  k_with "call ref" => (k_here; (with_reducible show wpAny _ _ (call (Value.ref 105) _) _ _ _); k_dflt (refine' c_reachR ?ZB ?ZF ?ZX ?ZT ?Zhk ?ZN ?Zm1 ?Zhdp ?Zhun ?Zer ?_; (case ZB => k_asm); (case ZF => k_asm); (case ZX => k_asm); (case ZT => k_asm); (case Zhk => first | exact rfl | assumption); (case ZN => k_asm); (case Zhdp => ktr_room); (case Zhun => ktr_units); (case Zm1 => k_mem); (case Zer => assumption)); k_dflt (intro t3 h3 tk3 F3 N3; (try k_sweep)))
  k_with "compareOp NotIn ref ref" => (k_here; (with_reducible show wpAny _ _ (compareOp CmpOp.NotIn _ (Value.ref _)) _ _ _); k_dflt (first | (refine' notin_t ?ZN ?Za ?Zb ?Zc ?Zd ?Zx ?Zl ?Zm ?Zn ?Zhn ?_; (case ZN => k_asm); (case Za => k_mem); (case Zb => rfl); (case Zc => rfl); (case Zd => kqd_all); (case Zx => kqd_in); (case Zl => exact okL rfl); (case Zm => first | rfl | kernel_rfl!); (case Zn => ke_room); (case Zhn => first | exact List.not_mem_nil | assumption)) | (refine' notin_f ?ZN ?Za ?Zb ?Zc ?Zd ?Zx ?Zl ?Zm ?Zn ?Zhn ?_; (case ZN => k_asm); (case Za => k_mem); (case Zb => rfl); (case Zc => rfl); (case Zd => kqd_all); (case Zx => kqd_in); (case Zl => exact okL rfl); (case Zm => first | rfl | kernel_rfl!); (case Zn => ke_room); (case Zhn => first | exact List.not_mem_nil | assumption))))
  k_with "compareOp Eq ref ref" => (k_here; (with_reducible show wpAny _ _ (compareOp CmpOp.Eq (Value.ref _) (Value.ref _)) _ _ _); k_dflt (first | (refine' dat_eqT ?ZN ?Za ?Zb ?Zc ?Zd ?Zu ?Zq ?_; (case ZN => k_asm); (case Za => kqd_in); (case Zb => kqd_in); (case Zc => first | rfl | kernel_rfl!); (case Zd => first | rfl | kernel_rfl!); (case Zu => ke_room); (case Zq => first | rfl | assumption)) | (refine' dat_eqF ?ZN ?Za ?Zb ?Zc ?Zd ?Zu ?Zq ?_; (case ZN => k_asm); (case Za => kqd_in); (case Zb => kqd_in); (case Zc => first | rfl | kernel_rfl!); (case Zd => first | rfl | kernel_rfl!); (case Zu => ke_room); (case Zq => first | rfl | assumption))))
  k_with "call builtin:list.index" => (k_here; (with_reducible show wpAny _ _ (call (Value.builtin _) [Value.ref _, Value.ref _]) _ _ _); k_dflt (first | (refine' kqd_index ?ZN ?Za ?Zd ?Zx ?Zl ?Zm ?Zu 0 ?Zhj ?Zhn ?Zhz ?_; (case ZN => k_asm); (case Za => k_mem); (case Zd => kqd_all); (case Zx => kqd_in); (case Zl => exact okL rfl); (case Zm => first | rfl | kernel_rfl!); (case Zu => ke_room); (case Zhj => rfl); (case Zhn => first | exact no0 | exact no1 (by assumption) | exact no2 (by assumption) (by assumption)); (case Zhz => exact Nat.le_of_ble_eq_true rfl)) | (refine' kqd_index ?ZN ?Za ?Zd ?Zx ?Zl ?Zm ?Zu 1 ?Zhj ?Zhn ?Zhz ?_; (case ZN => k_asm); (case Za => k_mem); (case Zd => kqd_all); (case Zx => kqd_in); (case Zl => exact okL rfl); (case Zm => first | rfl | kernel_rfl!); (case Zu => ke_room); (case Zhj => rfl); (case Zhn => first | exact no0 | exact no1 (by assumption) | exact no2 (by assumption) (by assumption)); (case Zhz => exact Nat.le_of_ble_eq_true rfl)) | (refine' kqd_index ?ZN ?Za ?Zd ?Zx ?Zl ?Zm ?Zu 2 ?Zhj ?Zhn ?Zhz ?_; (case ZN => k_asm); (case Za => k_mem); (case Zd => kqd_all); (case Zx => kqd_in); (case Zl => exact okL rfl); (case Zm => first | rfl | kernel_rfl!); (case Zu => ke_room); (case Zhj => rfl); (case Zhn => first | exact no0 | exact no1 (by assumption) | exact no2 (by assumption) (by assumption)); (case Zhz => exact Nat.le_of_ble_eq_true rfl))); k_dflt (intro t3 tk3; (try dsimp only)))
  k_with "call type:dict" => (k_here; (with_reducible show wpAny _ _ (call (Value.type "dict") [Value.ref _]) _ _ _); k_dflt ((first | (refine dict_pairs_N (kws := [(_, _)]) (by k_asm) (by k_asm) (Top.nolimit (by k_asm)) (by rfl) (by k_mem) (by exact ⟨⟨_, _, _, rfl, by k_mem⟩, True.intro⟩) (by exact Nat.le_of_ble_eq_true rfl) ?_) | (refine dict_pairs_N (kws := [(_, _), (_, _)]) (by k_asm) (by k_asm) (Top.nolimit (by k_asm)) (by rfl) (by k_mem) (by exact ⟨⟨_, _, _, rfl, by k_mem⟩, ⟨_, _, _, rfl, by k_mem⟩, True.intro⟩) (by exact Nat.le_of_ble_eq_true rfl) ?_) | (refine dict_pairs_N (kws := [(_, _), (_, _), (_, _)]) (by k_asm) (by k_asm) (Top.nolimit (by k_asm)) (by rfl) (by k_mem) (by exact ⟨⟨_, _, _, rfl, by k_mem⟩, ⟨_, _, _, rfl, by k_mem⟩, ⟨_, _, _, rfl, by k_mem⟩, True.intro⟩) (by exact Nat.le_of_ble_eq_true rfl) ?_)); intro d' h' tk' o' F' N' l1 lo' hd'; (try k_lt l1)))
  k_with "call builtin:len" => (k_here; (with_reducible show wpAny _ _ (call (Value.builtin "len") [Value.ref _]) _ _ _); k_dflt (refine len_dict_N (by k_asm) (by k_mem) (by assumption) (by assumption) (by exact Nat.le_of_ble_eq_true rfl) ?_; intro t' tk'))
  k_with "subscriptTail" => (k_here; (with_reducible show wpAny _ _ (subscriptTail _ _ (Value.ref _) (Value.int 0 _)) _ _ _); k_dflt (refine' item_zero ?ZN ?Zm ?_ ?Zz; (case ZN => k_asm); (case Zm => k_mem); (case Zz => with_unfolding_all rfl)))
  k_with "subscriptTail Name Constant ref int" => (k_here; (with_reducible show wpAny _ _ (subscriptTail _ _ (Value.ref _) (Value.int 0 _)) _ _ _); k_dflt (refine' item_zero ?ZN ?Zm ?_ ?Zz; (case ZN => k_asm); (case Zm => k_mem); (case Zz => with_unfolding_all rfl)))
  trivial
section
variable {prog : Program} {w : World} {mg mb : Str → Option Value} {mean : ExcName → Option Value} {loose : List Str}
  {dp un : Nat} {gd : Option (List Code)} {cn : Str} {cs : Scope} {L a : Addr} {ccd : Value} {cl : List (Str × Addr)} {outer : List Env} {A₀ : Around} {base h₀ : Heap} {m : Str → Option Value} {s : Shared} {Q E : Value → Shared → Prop}
set_option maxRecDepth 100000 in
set_option maxHeartbeats 20000000 in
theorem c_a4 {full body : List Stmt} {sc : Scope} {cs0 L fa un dp : Nat} {gd : Option (List Code)} {ccd : Value} {outer : List Env} {Q : Flow → Shared → Prop} {E : Value → Shared → Prop} {x0 x1 x2 u0 u1 u2 : Int} {tx0 tx1 tx2 : Tok} {tail : List (Addr × Obj)} {o dl f : Nat} {oc : Obj} {cv0 : Option Value}
    (hf : full = forB (fnB ((hd.heap_39 w.params).lookup 110)) 4) (hb : body = (full.drop 2).take 6) (hsc : sc = fnS ((hd.heap_39 w.params).lookup 110))
    (B : Below A₀ base outer h₀) (F : Fr h₀ L s.heap m) (X : (hd.heap_39 w.params).In h₀) (T : Top topProg loose mean mg mb h₀) (N : News h₀ L s.heap ((cs0, oc) :: tail)) (n1 : AllNe cs0 tail) (hcv : oc.data = .cell cv0)
    (e1 : m (Str.ofString "order") = some (.ref o)) (e2 : m (Str.ofString "deeds") = some (.ref dl)) (e3 : m (Str.ofString "deed") = some (.ref f)) (mf : (f, tupO [.int x0 tx0, .int x1 tx1, .int x2 tx2]) ∈ tail)
    (hx0 : 0 ≤ x0 ∧ x0 ≤ 2) (hx1 : 0 ≤ x1 ∧ x1 ≤ 2) (hx2 : 0 ≤ x2 ∧ x2 ≤ 2) (hu0 : 0 ≤ u0 ∧ u0 ≤ 2) (hu1 : 0 ≤ u1 ∧ u1 ≤ 2) (hu2 : 0 ≤ u2 ∧ u2 ≤ 2)
    (Txx0 : sel x0 x0 x1 x2 = u0) (Txx1 : sel x1 x0 x1 x2 = u1) (Txx2 : sel x2 x0 x1 x2 = u2)
    (Tux0 : sel u0 x0 x1 x2 = u0) (Tux1 : sel u1 x0 x1 x2 = u1) (Tux2 : sel u2 x0 x1 x2 = u2)
    (Tuu0 : sel u0 u0 u1 u2 = u0) (Tuu1 : sel u1 u0 u1 u2 = u1) (Tuu2 : sel u2 u0 u1 u2 = u2)
    (hin0 : Dat.tuple [Dat.int u0, Dat.int u1, Dat.int u2] ∉ [Dat.tuple [Dat.int x0, Dat.int x1, Dat.int x2]]) (hiy : Dat.tuple [Dat.int u0, Dat.int u1, Dat.int u2] ∈ [Dat.tuple [Dat.int x0, Dat.int x1, Dat.int x2], Dat.tuple [Dat.int u0, Dat.int u1, Dat.int u2]]) (hne0 : Dat.tuple [Dat.int u0, Dat.int u1, Dat.int u2] ≠ Dat.tuple [Dat.int x0, Dat.int x1, Dat.int x2]) (hne1 : Dat.tuple [Dat.int x0, Dat.int x1, Dat.int x2] ≠ Dat.tuple [Dat.int u0, Dat.int u1, Dat.int u2])
    (hdp : dp + 44 < recursionLimit) (hun : un + 500 < cLine) (hE : PassesOwn (model prog w) (ktrTop dp un gd (Str.ofString "law") sc L fa ccd [(Str.ofString "still", cs0)] outer) (envX (Str.ofString "law") sc L fa ccd [(Str.ofString "still", cs0)]) E)
    (hret : ∀ (h' : Heap) (tk' : Nat) (m' : Str → Option Value) (oc' : Obj) (sl pw kk : Nat) (tb : Tok) (ru : Nat) (tu0 tu1 tu2 : Tok) , Fr h₀ L h' m' → m' (Str.ofString "order") = some (.ref o) → m' (Str.ofString "deeds") = some (.ref dl) → m' (Str.ofString "deed") = some (.ref f) → m' (Str.ofString "powers") = some (.ref pw) → m' (Str.ofString "begin") = some (.int 1 tb) → oc'.data = .cell (some (.ref sl)) → News h₀ L h' ((sl, LCg.lst [.ref ru]) :: (pw, W.listOf #[.ref f, .ref ru] kk) :: (ru, tupO [.int u0 tu0, .int u1 tu1, .int u2 tu2]) :: (cs0, oc') :: tail) → Q .next { s with heap := h', toks := tk' }) :
    wpAny (model prog w) (ktrTop dp un gd (Str.ofString "law") sc L fa ccd [(Str.ofString "still", cs0)] outer) (execs body (envX (Str.ofString "law") sc L fa ccd [(Str.ofString "still", cs0)])) Q E s := by
  conv at hf => rhs; whnf
  conv at hsc => rhs; whnf
  subst hf hsc
  simp only [List.drop_succ_cons, List.drop_zero, List.take_succ_cons, List.take_zero] at hb
  subst hb
  have hk : (ScopeKind.function = ScopeKind.function) := rfl
  have F1 := fr_at4 F e1 e2 e3 e3
  clear F
  k_steps
  refine' hret _ _ _ _ _ _ _ _ _ _ _ _ ?zF ?q0 ?q1 ?q2 ?q3 ?q4 ?zc ?zN
  case zF => k_asm
  case q0 => rfl
  case q1 => rfl
  case q2 => rfl
  case q3 => rfl
  case q4 => rfl
  case zc => assumption
  case zN =>
    rename News _ _ _ _ => N9
    refine news_ground ?_ N9
    refine' List.forall_mem_cons.mpr ⟨?w1, List.forall_mem_cons.mpr ⟨?w2, List.forall_mem_cons.mpr ⟨?w3, List.forall_mem_cons.mpr ⟨?w8, ?w9⟩⟩⟩⟩
    case w1 => k_mem
    case w2 => k_mem
    case w3 => k_mem
    case w8 => k_mem
    case w9 => (intro x hx; k_mem)
end
end Mine
end
example : True := by
  w_top off
  trivial
section
namespace Mine
example : True := by
  k_with_none
  k_with "k_mem" => first | with_reducible assumption | with_reducible exact memI (by with_reducible assumption) | fail "no member"
  k_with "k_lt" => skip
  k_with "k_ne" => (refine neN ?_; (try dsimp only); first | exact AllNe.off (by with_reducible assumption) (_, _) (by k_mem) | exact Ne.symm (AllNe.off (by with_reducible assumption) (_, _) (by k_mem)) | exact lt_ne (by with_reducible assumption) (_, _) (by k_mem) | exact Ne.symm (lt_ne (by with_reducible assumption) (_, _) (by k_mem)) | exact off_I (by with_reducible assumption) (_, _) (by k_mem) | exact Ne.symm (off_I (by with_reducible assumption) (_, _) (by k_mem)) | exact off_C (by with_reducible assumption) (_, _) (by k_mem) | exact Ne.symm (off_C (by with_reducible assumption) (_, _) (by k_mem)) | exact off_D (by with_reducible assumption) (_, _) (by k_mem) | exact Ne.symm (off_D (by with_reducible assumption) (_, _) (by k_mem)) | exact off1_mem (by with_reducible assumption) (_, _) (by k_mem) | exact Ne.symm (off1_mem (by with_reducible assumption) (_, _) (by k_mem)) | omega)
  k_with "k_all" => first | exact lt_ne (by with_reducible assumption) | exact AllNe.off (by with_reducible assumption) | exact off_I (by with_reducible assumption) | exact off_C (by with_reducible assumption) | exact off_D (by with_reducible assumption) | exact off1_mem (by with_reducible assumption) | exact List.forall_mem_nil _ | (refine' List.forall_mem_cons.mpr ⟨?Za, ?Zb⟩; (case Za => k_ne); (case Zb => k_all)) | (intro p9 hp9; exact lt_ne (by with_reducible assumption) p9 (by k_mem)) | (intro p9 hp9; exact AllNe.off (by with_reducible assumption) p9 (by k_mem)) | (intro p9 hp9; exact off1_mem (by with_reducible assumption) p9 (by k_mem)) | fail "k_all"
  k_with "CompRestT" => (with_unfolding_all first | (refine LCt.CompRestT.succ ?_; intro v' I' oI' C' oC' D' m' h' tk' E' hv' hC' hx' F' N' off' ne'; (first | lcg_open hv' | (obtain ⟨t9', hv9'⟩ := hv'; subst hv9'))) | refine LCt.CompRestT.zero ?_)
  k_with "CompRest" => (with_unfolding_all first | (refine LCg.CompRest.succ ?_; intro v' I' oI' C' oC' D' m' h' tk' E' hv' hC' hx' F' N' off' ne'; (first | lcg_open hv' | (obtain ⟨t9', hv9'⟩ := hv'; subst hv9'))) | refine LCg.CompRest.zero ?_)
  k_with "FinE" => ((unfold LCg.FinE); intro D' h' tk' F' N' o1'; (try simp only [List.nil_append, List.cons_append] at N'); (try dsimp only); (repeat (rename LCg.Off3 _ _ _ _ => zz; clear zz)))
  k_with "FinA" => ((unfold LCg.FinA); intro D' h' tk' F' N' o1'; (try simp only [List.nil_append, List.cons_append] at N'); (try dsimp only); (repeat (rename LCg.Off3 _ _ _ _ => zz; clear zz)))
  k_with "CompEnd" => k_dflt (first | (refine' CompEnd_keep ?ZF ?ZN ?Zoff ?ZhI ?ZhC ?ZhD ?Zsrc ?_; (case ZF => k_asm); (case ZN => with_reducible assumption); (case Zoff => with_reducible assumption); (case ZhI => k_ne); (case ZhC => k_ne); (case ZhD => k_ne); (case Zsrc => lcg_src)) | (refine' CompEnd_same ?ZF ?ZN ?Zoff ?Zsrc ?_; (case ZF => k_asm); (case ZN => with_reducible assumption); (case Zoff => with_reducible assumption); (case Zsrc => lcg_src)) | (refine' CompEnd_drop ?ZF ?ZN ?Zoff ?Zsrc ?_; (case ZF => k_asm); (case ZN => with_reducible assumption); (case Zoff => with_reducible assumption); (case Zsrc => lcg_src)))
  k_with "exec While BoolOp" => (k_here; k_dflt (refine whl_start 100 ?_))
  k_with "WhlRest" => (k_dflt (refine' whl_turn ?ZhE ?_; (case ZhE => assumption)); (try k_sweep))
  k_with "compareOp Eq int int" => (k_here; (with_reducible show wpAny _ _ (compareOp CmpOp.Eq (Value.int _ _) (Value.int (Nat.cast (List.length _)) _)) _ _ _); k_dflt (refine' eq_intF ?Zq ?_; (case Zq => omega)))
  k_with "compareOp NotEq int int" => (k_here; (with_reducible show wpAny _ _ (compareOp CmpOp.NotEq (Value.int _ _) (Value.int _ _)) _ _ _); k_dflt (refine' ne_intF ?Zq ?_; (case Zq => first | with_reducible assumption | exact sel_is (by with_reducible assumption) | exact congrArg Nat.cast (dist_1 _) | exact congrArg Nat.cast (dist_2 _) | exact congrArg Nat.cast (dist_3 _) | exact rfl)))
  k_with "compareOp NotEq ref ref" => (k_here; (with_reducible show wpAny _ _ (compareOp CmpOp.NotEq (Value.ref _) (Value.ref _)) _ _ _); k_dflt (first | (refine' ne_listF ?ZN ?Za ?Zb ?Zc ?Zd ?Ze ?Zf ?Zg ?Zi ?Zj ?Zk ?Zu ?Zq ?_; (case ZN => k_asm); (case Za => k_mem); (case Zb => rfl); (case Zc => rfl); (case Ze => k_mem); (case Zf => rfl); (case Zg => rfl); (case Zd => kqd_all); (case Zi => exact datAll_ints (by with_reducible assumption)); (case Zj => exact okL rfl); (case Zk => exact ints_ok); (case Zu => ke_room); (case Zq => rfl)) | (refine' ne_listF ?ZN ?Za ?Zb ?Zc ?Zd ?Ze ?Zf ?Zg ?Zi ?Zj ?Zk ?Zu ?Zq ?_; (case ZN => k_asm); (case Za => k_mem); (case Zb => rfl); (case Zc => rfl); (case Ze => k_mem); (case Zf => rfl); (case Zg => rfl); (case Zd => kqd_all); (case Zi => kqd_all); (case Zj => exact okL rfl); (case Zk => exact okL rfl); (case Zu => ke_room); (case Zq => rfl))))
  k_with "call builtin:sorted" => (k_here; (with_reducible show wpAny _ _ (call (Value.builtin _) [Value.ref _]) _ _ _); k_dflt (refine' sorted_rev ?ZF ?ZN ?Zm ?Zi ?Zl ?Zp ?_; (case ZF => k_asm); (case ZN => k_asm); (case Zm => k_mem); (case Zi => (repeat (first | exact IntsAre.nil | apply IntsAre.cons))); (case Zl => exact Nat.le_of_ble_eq_true rfl); (case Zp => simp)); k_dflt (intro D' v' c' h' F' N' l1 i'; (try k_sweep)))
  k_with "execs cons" => (k_here; (with_reducible show wpAny _ _ (execs (Stmt.For (Expr.Name _ _) (Expr.Name (Str.ofString "deeds") _) _ _ _ :: _) _) _ _ _); k_dflt (refine hold_of ?_))
  k_with "eval ListComp" => (k_here; (with_reducible show wpAny _ _ (eval (Expr.ListComp _ [⟨_, Expr.Subscript (Expr.Name (Str.ofString "still") _) _ _, _, _⟩] _ _) _) _ _ _); k_dflt (refine lc_tupT (F₀ := by k_asm) (by with_unfolding_all rfl) (by decide) (by rfl) (by decide) (by rfl) ?_))
  k_with "SrcTT" => (k_here; k_dflt (refine SrcTT.ledger (by rfl) (by k_asm) (by k_asm) (by k_mem) (by first | size_fits | exact Nat.le_of_ble_eq_true rfl) ?_; intro g'; lct_lit))
  k_with "call ref" => (k_here; (with_reducible show wpAny _ _ (call (Value.ref 81) _) _ _ _); k_dflt (refine' c_number ?ZB ?ZF ?ZX ?ZN ?ZT ?Zhk ?Zhdp ?Zhun ?Zhm ?Zg1 ?Zg2 ?Zg3 ?Zg4 ?Zg5 ?Zg6 ?_; (case ZB => k_asm); (case ZF => k_asm); (case ZX => k_asm); (case ZT => k_asm); (case Zhk => first | exact rfl | assumption); (case ZN => k_asm); (case Zhdp => ktr_room); (case Zhun => ktr_units); (case Zhm => k_mem); (case Zg1 => exact And.left (by with_reducible assumption)); (case Zg2 => exact And.right (by with_reducible assumption)); (case Zg3 => exact And.left (by with_reducible assumption)); (case Zg4 => exact And.right (by with_reducible assumption)); (case Zg5 => exact And.left (by with_reducible assumption)); (case Zg6 => exact And.right (by with_reducible assumption))); k_dflt (intro t3 h3 tk3 F3 N3; (try k_sweep)))
  k_with "call ref" => (k_here; (with_reducible show wpAny _ _ (call (Value.ref 93) _) _ _ _); k_dflt (refine' c_thenR ?ZB ?ZF ?ZX ?ZT ?Zhk ?ZN ?Zm1 ?Zm2 ?Zhdp ?Zhun ?Zg1 ?Zg2 ?Zg3 ?Ze0 ?Ze1 ?Ze2 ?_; (case ZB => k_asm); (case ZF => k_asm); (case ZX => k_asm); (case ZT => k_asm); (case Zhk => first | exact rfl | assumption); (case ZN => k_asm); (case Zhdp => ktr_room); (case Zhun => ktr_units); (case Zm1 => k_mem); (case Zm2 => k_mem); (case Zg1 => assumption); (case Zg2 => assumption); (case Zg3 => assumption); (case Ze0 => assumption); (case Ze1 => assumption); (case Ze2 => assumption)); k_dflt (intro r3 t30 t31 t32 h3 tk3 F3 N3 o3; (try k_sweep)))
  k_with "call ref" => (k_here; (with_reducible show wpAny _ _ (call (Value.ref 74) _) _ _ _); k_dflt (refine' c_bisIn ?ZB ?ZF ?ZX ?ZT ?Zhk ?ZN ?Zm1 ?Zhi ?Zhl ?ZhS ?Zhx ?Zhdp ?Zhun ?_; (case ZB => k_asm); (case ZF => k_asm); (case ZX => k_asm); (case ZT => k_asm); (case Zhk => first | exact rfl | assumption); (case ZN => k_asm); (case Zhdp => ktr_room); (case Zhun => ktr_units); (case Zm1 => k_mem); (case Zhi => assumption); (case Zhl => omega); (case ZhS => assumption); (case Zhx => assumption)); k_dflt (intro p3 t3 h3 tk3 F3 N3 q30 q31 q32; (try k_sweep)))
  k_with "call ref" => (k_here; (with_reducible show wpAny _ _ (call (Value.ref 105) _) _ _ _); k_dflt (refine' c_reachR ?ZB ?ZF ?ZX ?ZT ?Zhk ?ZN ?Zm1 ?Zhdp ?Zhun ?Zer ?_; (case ZB => k_asm); (case ZF => k_asm); (case ZX => k_asm); (case ZT => k_asm); (case Zhk => first | exact rfl | assumption); (case ZN => k_asm); (case Zhdp => ktr_room); (case Zhun => ktr_units); (case Zm1 => k_mem); (case Zer => assumption)); k_dflt (intro t3 h3 tk3 F3 N3; (try k_sweep)))
  k_with "compareOp NotIn ref ref" => (k_here; (with_reducible show wpAny _ _ (compareOp CmpOp.NotIn _ (Value.ref _)) _ _ _); k_dflt (first | (refine' notin_t ?ZN ?Za ?Zb ?Zc ?Zd ?Zx ?Zl ?Zm ?Zn ?Zhn ?_; (case ZN => k_asm); (case Za => k_mem); (case Zb => rfl); (case Zc => rfl); (case Zd => kqd_all); (case Zx => kqd_in); (case Zl => exact okL rfl); (case Zm => first | rfl | kernel_rfl!); (case Zn => ke_room); (case Zhn => first | exact List.not_mem_nil | assumption)) | (refine' notin_f ?ZN ?Za ?Zb ?Zc ?Zd ?Zx ?Zl ?Zm ?Zn ?Zhn ?_; (case ZN => k_asm); (case Za => k_mem); (case Zb => rfl); (case Zc => rfl); (case Zd => kqd_all); (case Zx => kqd_in); (case Zl => exact okL rfl); (case Zm => first | rfl | kernel_rfl!); (case Zn => ke_room); (case Zhn => first | exact List.not_mem_nil | assumption))))
  k_with "compareOp Eq ref ref" => (k_here; (with_reducible show wpAny _ _ (compareOp CmpOp.Eq (Value.ref _) (Value.ref _)) _ _ _); k_dflt (first | (refine' dat_eqT ?ZN ?Za ?Zb ?Zc ?Zd ?Zu ?Zq ?_; (case ZN => k_asm); (case Za => kqd_in); (case Zb => kqd_in); (case Zc => first | rfl | kernel_rfl!); (case Zd => first | rfl | kernel_rfl!); (case Zu => ke_room); (case Zq => first | rfl | assumption)) | (refine' dat_eqF ?ZN ?Za ?Zb ?Zc ?Zd ?Zu ?Zq ?_; (case ZN => k_asm); (case Za => kqd_in); (case Zb => kqd_in); (case Zc => first | rfl | kernel_rfl!); (case Zd => first | rfl | kernel_rfl!); (case Zu => ke_room); (case Zq => first | rfl | assumption))))
  k_with "call builtin:list.index" => (k_here; (with_reducible show wpAny _ _ (call (Value.builtin _) [Value.ref _, Value.ref _]) _ _ _); k_dflt (first | (refine' kqd_index ?ZN ?Za ?Zd ?Zx ?Zl ?Zm ?Zu 0 ?Zhj ?Zhn ?Zhz ?_; (case ZN => k_asm); (case Za => k_mem); (case Zd => kqd_all); (case Zx => kqd_in); (case Zl => exact okL rfl); (case Zm => first | rfl | kernel_rfl!); (case Zu => ke_room); (case Zhj => rfl); (case Zhn => first | exact no0 | exact no1 (by assumption) | exact no2 (by assumption) (by assumption)); (case Zhz => exact Nat.le_of_ble_eq_true rfl)) | (refine' kqd_index ?ZN ?Za ?Zd ?Zx ?Zl ?Zm ?Zu 1 ?Zhj ?Zhn ?Zhz ?_; (case ZN => k_asm); (case Za => k_mem); (case Zd => kqd_all); (case Zx => kqd_in); (case Zl => exact okL rfl); (case Zm => first | rfl | kernel_rfl!); (case Zu => ke_room); (case Zhj => rfl); (case Zhn => first | exact no0 | exact no1 (by assumption) | exact no2 (by assumption) (by assumption)); (case Zhz => exact Nat.le_of_ble_eq_true rfl)) | (refine' kqd_index ?ZN ?Za ?Zd ?Zx ?Zl ?Zm ?Zu 2 ?Zhj ?Zhn ?Zhz ?_; (case ZN => k_asm); (case Za => k_mem); (case Zd => kqd_all); (case Zx => kqd_in); (case Zl => exact okL rfl); (case Zm => first | rfl | kernel_rfl!); (case Zu => ke_room); (case Zhj => rfl); (case Zhn => first | exact no0 | exact no1 (by assumption) | exact no2 (by assumption) (by assumption)); (case Zhz => exact Nat.le_of_ble_eq_true rfl))); k_dflt (intro t3 tk3; (try dsimp only)))
  k_with "call type:dict" => (k_here; (with_reducible show wpAny _ _ (call (Value.type "dict") [Value.ref _]) _ _ _); k_dflt ((first | (refine dict_pairs_N (kws := [(_, _)]) (by k_asm) (by k_asm) (Top.nolimit (by k_asm)) (by rfl) (by k_mem) (by exact ⟨⟨_, _, _, rfl, by k_mem⟩, True.intro⟩) (by exact Nat.le_of_ble_eq_true rfl) ?_) | (refine dict_pairs_N (kws := [(_, _), (_, _)]) (by k_asm) (by k_asm) (Top.nolimit (by k_asm)) (by rfl) (by k_mem) (by exact ⟨⟨_, _, _, rfl, by k_mem⟩, ⟨_, _, _, rfl, by k_mem⟩, True.intro⟩) (by exact Nat.le_of_ble_eq_true rfl) ?_) | (refine dict_pairs_N (kws := [(_, _), (_, _), (_, _)]) (by k_asm) (by k_asm) (Top.nolimit (by k_asm)) (by rfl) (by k_mem) (by exact ⟨⟨_, _, _, rfl, by k_mem⟩, ⟨_, _, _, rfl, by k_mem⟩, ⟨_, _, _, rfl, by k_mem⟩, True.intro⟩) (by exact Nat.le_of_ble_eq_true rfl) ?_)); intro d' h' tk' o' F' N' l1 lo' hd'; (try k_lt l1)))
  k_with "call builtin:len" => (k_here; (with_reducible show wpAny _ _ (call (Value.builtin "len") [Value.ref _]) _ _ _); k_dflt (refine len_dict_N (by k_asm) (by k_mem) (by assumption) (by assumption) (by exact Nat.le_of_ble_eq_true rfl) ?_; intro t' tk'))
  k_with "call builtin:len" => (k_here; (with_reducible show wpAny _ _ (call (Value.builtin "len") [Value.ref _]) _ _ _); k_dflt (refine' len_ints ?ZN ?Zm ?Zi ?Zz ?_; (case ZN => k_asm); (case Zm => k_mem); (case Zi => with_reducible assumption); (case Zz => omega)); k_dflt (intro t3 tk3))
  k_with "subscriptTail" => (k_here; (with_reducible show wpAny _ _ (subscriptTail _ _ (Value.ref _) (Value.int _ _)) _ _ _); k_dflt (refine' item_ints ?ZN ?Zm ?Zi ?Za ?Zb ?Zz ?_ ?Zy; (case ZN => k_asm); (case Zm => k_mem); (case Zi => with_reducible assumption); (case Za => with_reducible assumption); (case Zb => with_reducible assumption); (case Zz => omega); (case Zy => with_unfolding_all rfl)); k_dflt (intro t3))
  k_with "subscriptTail Name Constant ref int" => (k_here; (with_reducible show wpAny _ _ (subscriptTail _ _ (Value.ref _) (Value.int _ _)) _ _ _); k_dflt (refine' item_ints ?ZN ?Zm ?Zi ?Za ?Zb ?Zz ?_ ?Zy; (case ZN => k_asm); (case Zm => k_mem); (case Zi => with_reducible assumption); (case Za => with_reducible assumption); (case Zb => with_reducible assumption); (case Zz => omega); (case Zy => with_unfolding_all rfl)); k_dflt (intro t3))
  k_with "subscriptTail" => (k_here; (with_reducible show wpAny _ _ (subscriptTail _ _ (Value.ref _) (Value.int 0 _)) _ _ _); k_dflt (refine' item_zero ?ZN ?Zm ?_ ?Zz; (case ZN => k_asm); (case Zm => k_mem); (case Zz => with_unfolding_all rfl)))
  trivial
section
variable {prog : Program} {w : World} {mg mb : Str → Option Value} {mean : ExcName → Option Value} {loose : List Str}
  {dp un : Nat} {gd : Option (List Code)} {cn : Str} {cs : Scope} {L a : Addr} {ccd : Value} {cl : List (Str × Addr)} {outer : List Env} {A₀ : Around} {base h₀ : Heap} {m : Str → Option Value} {s : Shared} {Q E : Value → Shared → Prop}
set_option maxRecDepth 100000 in
set_option maxHeartbeats 20000000 in
theorem c_b {full body : List Stmt} {sc : Scope} {cs0 L fa un dp : Nat} {gd : Option (List Code)} {ccd : Value} {outer : List Env} {Q : Flow → Shared → Prop} {E : Value → Shared → Prop} {all : List (Addr × Obj)} {o dl f nn sl r : Nat} {oc : Obj} {vs : List Value} {ns : List Int} {v0 v1 v2 : Int} {tv0 tv1 tv2 tb : Tok} {pw : Nat} {bg : Int}
    (hf : full = forB (fnB ((hd.heap_39 w.params).lookup 110)) 4) (hb : body = (full.drop 8).take 2) (hsc : sc = fnS ((hd.heap_39 w.params).lookup 110))
    (B : Below A₀ base outer h₀) (F : Fr h₀ L s.heap m) (X : (hd.heap_39 w.params).In h₀) (T : Top topProg loose mean mg mb h₀) (N : News h₀ L s.heap all)
    (e1 : m (Str.ofString "order") = some (.ref o)) (e2 : m (Str.ofString "deeds") = some (.ref dl)) (e3 : m (Str.ofString "deed") = some (.ref f)) (e4 : m (Str.ofString "powers") = some (.ref pw)) (e5 : m (Str.ofString "begin") = some (.int bg tb))
    (m1 : (o, W.listOf vs.toArray nn) ∈ all) (m2 : (cs0, oc) ∈ all) (m3 : (sl, W.listOf #[.ref r] 1) ∈ all) (m4 : (r, tupO [.int v0 tv0, .int v1 tv1, .int v2 tv2]) ∈ all) (hcv : oc.data = .cell (some (.ref sl)))
    (hi : IntsAre vs ns) (hS : Srt ns) (hlen : ns.length ≤ 27) (hst : v0 + 3 * v1 + 9 * v2 ∈ ns)
    (hv0 : 0 ≤ v0 ∧ v0 ≤ 2) (hv1 : 0 ≤ v1 ∧ v1 ≤ 2) (hv2 : 0 ≤ v2 ∧ v2 ≤ 2) (Tvv0 : sel v0 v0 v1 v2 = v0) (Tvv1 : sel v1 v0 v1 v2 = v1) (Tvv2 : sel v2 v0 v1 v2 = v2)
    (hdp : dp + 44 < recursionLimit) (hun : un + 500 < cLine) (hE : PassesOwn (model prog w) (ktrTop dp un gd (Str.ofString "law") sc L fa ccd [(Str.ofString "still", cs0)] outer) (envX (Str.ofString "law") sc L fa ccd [(Str.ofString "still", cs0)]) E)
    (hret : ∀ h' tk' m', Fr h₀ L h' m' → m' (Str.ofString "order") = some (.ref o) → m' (Str.ofString "deeds") = some (.ref dl) → m' (Str.ofString "deed") = some (.ref f) → m' (Str.ofString "powers") = some (.ref pw) → m' (Str.ofString "begin") = some (.int bg tb) → News h₀ L h' all → Q .next { s with heap := h', toks := tk' }) :
    wpAny (model prog w) (ktrTop dp un gd (Str.ofString "law") sc L fa ccd [(Str.ofString "still", cs0)] outer) (execs body (envX (Str.ofString "law") sc L fa ccd [(Str.ofString "still", cs0)])) Q E s := by
  conv at hf => rhs; whnf
  conv at hsc => rhs; whnf
  subst hf hsc
  simp only [List.drop_succ_cons, List.drop_zero, List.take_succ_cons, List.take_zero] at hb
  subst hb
  have hk : (ScopeKind.function = ScopeKind.function) := rfl
  have F1 := fr_at (fr_at4 F e1 e2 e3 e4) (x := (Str.ofString "begin")) (v := .int bg tb) e5
  clear F
  k_steps
  refine' hret _ _ _ ?zF ?q0 ?q1 ?q2 ?q3 ?q4 ?zN
  case zF => k_asm
  case q0 => rfl
  case q1 => rfl
  case q2 => rfl
  case q3 => rfl
  case q4 => rfl
  case zN => (rename News _ _ _ _ => N9; exact news_ground (by intro x hx; k_mem) N9)
end
end Mine
end
example : True := by
  w_top off
  trivial
section
namespace Mine
example : True := by
  k_with_none
  k_with "k_mem" => first | with_reducible assumption | with_reducible exact memI (by with_reducible assumption) | fail "no member"
  k_with "k_lt" => skip
  k_with "k_ne" => (refine neN ?_; (try dsimp only); first | exact AllNe.off (by with_reducible assumption) (_, _) (by k_mem) | exact Ne.symm (AllNe.off (by with_reducible assumption) (_, _) (by k_mem)) | exact lt_ne (by with_reducible assumption) (_, _) (by k_mem) | exact Ne.symm (lt_ne (by with_reducible assumption) (_, _) (by k_mem)) | exact off_I (by with_reducible assumption) (_, _) (by k_mem) | exact Ne.symm (off_I (by with_reducible assumption) (_, _) (by k_mem)) | exact off_C (by with_reducible assumption) (_, _) (by k_mem) | exact Ne.symm (off_C (by with_reducible assumption) (_, _) (by k_mem)) | exact off_D (by with_reducible assumption) (_, _) (by k_mem) | exact Ne.symm (off_D (by with_reducible assumption) (_, _) (by k_mem)) | exact off1_mem (by with_reducible assumption) (_, _) (by k_mem) | exact Ne.symm (off1_mem (by with_reducible assumption) (_, _) (by k_mem)) | omega)
  k_with "k_all" => first | exact lt_ne (by with_reducible assumption) | exact AllNe.off (by with_reducible assumption) | exact off_I (by with_reducible assumption) | exact off_C (by with_reducible assumption) | exact off_D (by with_reducible assumption) | exact off1_mem (by with_reducible assumption) | exact List.forall_mem_nil _ | (refine' List.forall_mem_cons.mpr ⟨?Za, ?Zb⟩; (case Za => k_ne); (case Zb => k_all)) | (intro p9 hp9; exact lt_ne (by with_reducible assumption) p9 (by k_mem)) | (intro p9 hp9; exact AllNe.off (by with_reducible assumption) p9 (by k_mem)) | (intro p9 hp9; exact off1_mem (by with_reducible assumption) p9 (by k_mem)) | fail "k_all"
  k_with "CompRestT" => (with_unfolding_all first | (refine LCt.CompRestT.succ ?_; intro v' I' oI' C' oC' D' m' h' tk' E' hv' hC' hx' F' N' off' ne'; (first | lcg_open hv' | (obtain ⟨t9', hv9'⟩ := hv'; subst hv9'))) | refine LCt.CompRestT.zero ?_)
  k_with "CompRest" => (with_unfolding_all first | (refine LCg.CompRest.succ ?_; intro v' I' oI' C' oC' D' m' h' tk' E' hv' hC' hx' F' N' off' ne'; (first | lcg_open hv' | (obtain ⟨t9', hv9'⟩ := hv'; subst hv9'))) | refine LCg.CompRest.zero ?_)
  k_with "FinE" => ((unfold LCg.FinE); intro D' h' tk' F' N' o1'; (try simp only [List.nil_append, List.cons_append] at N'); (try dsimp only); (repeat (rename LCg.Off3 _ _ _ _ => zz; clear zz)))
  k_with "FinA" => ((unfold LCg.FinA); intro D' h' tk' F' N' o1'; (try simp only [List.nil_append, List.cons_append] at N'); (try dsimp only); (repeat (rename LCg.Off3 _ _ _ _ => zz; clear zz)))
  k_with "CompEnd" => k_dflt (first | (refine' CompEnd_keep ?ZF ?ZN ?Zoff ?ZhI ?ZhC ?ZhD ?Zsrc ?_; (case ZF => k_asm); (case ZN => with_reducible assumption); (case Zoff => with_reducible assumption); (case ZhI => k_ne); (case ZhC => k_ne); (case ZhD => k_ne); (case Zsrc => lcg_src)) | (refine' CompEnd_same ?ZF ?ZN ?Zoff ?Zsrc ?_; (case ZF => k_asm); (case ZN => with_reducible assumption); (case Zoff => with_reducible assumption); (case Zsrc => lcg_src)) | (refine' CompEnd_drop ?ZF ?ZN ?Zoff ?Zsrc ?_; (case ZF => k_asm); (case ZN => with_reducible assumption); (case Zoff => with_reducible assumption); (case Zsrc => lcg_src)))
  k_with "exec While BoolOp" => (k_here; k_dflt (refine whl_start 100 ?_))
  k_with "WhlRest" => (k_dflt (refine' whl_turn ?ZhE ?_; (case ZhE => assumption)); (try k_sweep))
  k_with "compareOp Eq int int" => (k_here; (with_reducible show wpAny _ _ (compareOp CmpOp.Eq (Value.int _ _) (Value.int (Nat.cast (List.length _)) _)) _ _ _); k_dflt (refine' eq_intF ?Zq ?_; (case Zq => omega)))
  k_with "compareOp NotEq int int" => (k_here; (with_reducible show wpAny _ _ (compareOp CmpOp.NotEq (Value.int _ _) (Value.int _ _)) _ _ _); k_dflt (refine' ne_intF ?Zq ?_; (case Zq => first | with_reducible assumption | exact sel_is (by with_reducible assumption) | exact congrArg Nat.cast (dist_1 _) | exact congrArg Nat.cast (dist_2 _) | exact congrArg Nat.cast (dist_3 _) | exact rfl)))
  k_with "compareOp NotEq ref ref" => (k_here; (with_reducible show wpAny _ _ (compareOp CmpOp.NotEq (Value.ref _) (Value.ref _)) _ _ _); k_dflt (first | (refine' ne_listF ?ZN ?Za ?Zb ?Zc ?Zd ?Ze ?Zf ?Zg ?Zi ?Zj ?Zk ?Zu ?Zq ?_; (case ZN => k_asm); (case Za => k_mem); (case Zb => rfl); (case Zc => rfl); (case Ze => k_mem); (case Zf => rfl); (case Zg => rfl); (case Zd => kqd_all); (case Zi => exact datAll_ints (by with_reducible assumption)); (case Zj => exact okL rfl); (case Zk => exact ints_ok); (case Zu => ke_room); (case Zq => rfl)) | (refine' ne_listF ?ZN ?Za ?Zb ?Zc ?Zd ?Ze ?Zf ?Zg ?Zi ?Zj ?Zk ?Zu ?Zq ?_; (case ZN => k_asm); (case Za => k_mem); (case Zb => rfl); (case Zc => rfl); (case Ze => k_mem); (case Zf => rfl); (case Zg => rfl); (case Zd => kqd_all); (case Zi => kqd_all); (case Zj => exact okL rfl); (case Zk => exact okL rfl); (case Zu => ke_room); (case Zq => rfl))))
  k_with "call builtin:sorted" => (k_here; (with_reducible show wpAny _ _ (call (Value.builtin _) [Value.ref _]) _ _ _); k_dflt (refine' sorted_rev ?ZF ?ZN ?Zm ?Zi ?Zl ?Zp ?_; (case ZF => k_asm); (case ZN => k_asm); (case Zm => k_mem); (case Zi => (repeat (first | exact IntsAre.nil | apply IntsAre.cons))); (case Zl => exact Nat.le_of_ble_eq_true rfl); (case Zp => simp)); k_dflt (intro D' v' c' h' F' N' l1 i'; (try k_sweep)))
  k_with "execs cons" => (k_here; (with_reducible show wpAny _ _ (execs (Stmt.For (Expr.Name _ _) (Expr.Name (Str.ofString "deeds") _) _ _ _ :: _) _) _ _ _); k_dflt (refine hold_of ?_))
  k_with "eval ListComp" => (k_here; (with_reducible show wpAny _ _ (eval (Expr.ListComp _ [⟨_, Expr.Subscript (Expr.Name (Str.ofString "still") _) _ _, _, _⟩] _ _) _) _ _ _); k_dflt (refine lc_tupT (F₀ := by k_asm) (by with_unfolding_all rfl) (by decide) (by rfl) (by decide) (by rfl) ?_))
  k_with "SrcTT" => (k_here; k_dflt (refine SrcTT.ledger (by rfl) (by k_asm) (by k_asm) (by k_mem) (by first | size_fits | exact Nat.le_of_ble_eq_true rfl) ?_; intro g'; lct_lit))
  k_with "call ref" => (k_here; (with_reducible show wpAny _ _ (call (Value.ref 81) _) _ _ _); k_dflt (refine' c_number ?ZB ?ZF ?ZX ?ZN ?ZT ?Zhk ?Zhdp ?Zhun ?Zhm ?Zg1 ?Zg2 ?Zg3 ?Zg4 ?Zg5 ?Zg6 ?_; (case ZB => k_asm); (case ZF => k_asm); (case ZX => k_asm); (case ZT => k_asm); (case Zhk => first | exact rfl | assumption); (case ZN => k_asm); (case Zhdp => ktr_room); (case Zhun => ktr_units); (case Zhm => k_mem); (case Zg1 => exact And.left (by with_reducible assumption)); (case Zg2 => exact And.right (by with_reducible assumption)); (case Zg3 => exact And.left (by with_reducible assumption)); (case Zg4 => exact And.right (by with_reducible assumption)); (case Zg5 => exact And.left (by with_reducible assumption)); (case Zg6 => exact And.right (by with_reducible assumption))); k_dflt (intro t3 h3 tk3 F3 N3; (try k_sweep)))
  k_with "call ref" => (k_here; (with_reducible show wpAny _ _ (call (Value.ref 93) _) _ _ _); k_dflt (refine' c_thenR ?ZB ?ZF ?ZX ?ZT ?Zhk ?ZN ?Zm1 ?Zm2 ?Zhdp ?Zhun ?Zg1 ?Zg2 ?Zg3 ?Ze0 ?Ze1 ?Ze2 ?_; (case ZB => k_asm); (case ZF => k_asm); (case ZX => k_asm); (case ZT => k_asm); (case Zhk => first | exact rfl | assumption); (case ZN => k_asm); (case Zhdp => ktr_room); (case Zhun => ktr_units); (case Zm1 => k_mem); (case Zm2 => k_mem); (case Zg1 => assumption); (case Zg2 => assumption); (case Zg3 => assumption); (case Ze0 => assumption); (case Ze1 => assumption); (case Ze2 => assumption)); k_dflt (intro r3 t30 t31 t32 h3 tk3 F3 N3 o3; (try k_sweep)))
  k_with "call ref" => (k_here; (with_reducible show wpAny _ _ (call (Value.ref 74) _) _ _ _); k_dflt (refine' c_bisIn ?ZB ?ZF ?ZX ?ZT ?Zhk ?ZN ?Zm1 ?Zhi ?Zhl ?ZhS ?Zhx ?Zhdp ?Zhun ?_; (case ZB => k_asm); (case ZF => k_asm); (case ZX => k_asm); (case ZT => k_asm); (case Zhk => first | exact rfl | assumption); (case ZN => k_asm); (case Zhdp => ktr_room); (case Zhun => ktr_units); (case Zm1 => k_mem); (case Zhi => assumption); (case Zhl => omega); (case ZhS => assumption); (case Zhx => assumption)); k_dflt (intro p3 t3 h3 tk3 F3 N3 q30 q31 q32; (try k_sweep)))
  k_with "call ref" => (k_here; (with_reducible show wpAny _ _ (call (Value.ref 105) _) _ _ _); k_dflt (refine' c_reachR ?ZB ?ZF ?ZX ?ZT ?Zhk ?ZN ?Zm1 ?Zhdp ?Zhun ?Zer ?_; (case ZB => k_asm); (case ZF => k_asm); (case ZX => k_asm); (case ZT => k_asm); (case Zhk => first | exact rfl | assumption); (case ZN => k_asm); (case Zhdp => ktr_room); (case Zhun => ktr_units); (case Zm1 => k_mem); (case Zer => assumption)); k_dflt (intro t3 h3 tk3 F3 N3; (try k_sweep)))
  k_with "compareOp NotIn ref ref" => (k_here; (with_reducible show wpAny _ _ (compareOp CmpOp.NotIn _ (Value.ref _)) _ _ _); k_dflt (first | (refine' notin_t ?ZN ?Za ?Zb ?Zc ?Zd ?Zx ?Zl ?Zm ?Zn ?Zhn ?_; (case ZN => k_asm); (case Za => k_mem); (case Zb => rfl); (case Zc => rfl); (case Zd => kqd_all); (case Zx => kqd_in); (case Zl => exact okL rfl); (case Zm => first | rfl | kernel_rfl!); (case Zn => ke_room); (case Zhn => first | exact List.not_mem_nil | assumption)) | (refine' notin_f ?ZN ?Za ?Zb ?Zc ?Zd ?Zx ?Zl ?Zm ?Zn ?Zhn ?_; (case ZN => k_asm); (case Za => k_mem); (case Zb => rfl); (case Zc => rfl); (case Zd => kqd_all); (case Zx => kqd_in); (case Zl => exact okL rfl); (case Zm => first | rfl | kernel_rfl!); (case Zn => ke_room); (case Zhn => first | exact List.not_mem_nil | assumption))))
  k_with "compareOp Eq ref ref" => (k_here; (with_reducible show wpAny _ _ (compareOp CmpOp.Eq (Value.ref _) (Value.ref _)) _ _ _); k_dflt (first | (refine' dat_eqT ?ZN ?Za ?Zb ?Zc ?Zd ?Zu ?Zq ?_; (case ZN => k_asm); (case Za => kqd_in); (case Zb => kqd_in); (case Zc => first | rfl | kernel_rfl!); (case Zd => first | rfl | kernel_rfl!); (case Zu => ke_room); (case Zq => first | rfl | assumption)) | (refine' dat_eqF ?ZN ?Za ?Zb ?Zc ?Zd ?Zu ?Zq ?_; (case ZN => k_asm); (case Za => kqd_in); (case Zb => kqd_in); (case Zc => first | rfl | kernel_rfl!); (case Zd => first | rfl | kernel_rfl!); (case Zu => ke_room); (case Zq => first | rfl | assumption))))
  k_with "call builtin:list.index" => (k_here; (with_reducible show wpAny _ _ (call (Value.builtin _) [Value.ref _, Value.ref _]) _ _ _); k_dflt (first | (refine' kqd_index ?ZN ?Za ?Zd ?Zx ?Zl ?Zm ?Zu 0 ?Zhj ?Zhn ?Zhz ?_; (case ZN => k_asm); (case Za => k_mem); (case Zd => kqd_all); (case Zx => kqd_in); (case Zl => exact okL rfl); (case Zm => first | rfl | kernel_rfl!); (case Zu => ke_room); (case Zhj => rfl); (case Zhn => first | exact no0 | exact no1 (by assumption) | exact no2 (by assumption) (by assumption)); (case Zhz => exact Nat.le_of_ble_eq_true rfl)) | (refine' kqd_index ?ZN ?Za ?Zd ?Zx ?Zl ?Zm ?Zu 1 ?Zhj ?Zhn ?Zhz ?_; (case ZN => k_asm); (case Za => k_mem); (case Zd => kqd_all); (case Zx => kqd_in); (case Zl => exact okL rfl); (case Zm => first | rfl | kernel_rfl!); (case Zu => ke_room); (case Zhj => rfl); (case Zhn => first | exact no0 | exact no1 (by assumption) | exact no2 (by assumption) (by assumption)); (case Zhz => exact Nat.le_of_ble_eq_true rfl)) | (refine' kqd_index ?ZN ?Za ?Zd ?Zx ?Zl ?Zm ?Zu 2 ?Zhj ?Zhn ?Zhz ?_; (case ZN => k_asm); (case Za => k_mem); (case Zd => kqd_all); (case Zx => kqd_in); (case Zl => exact okL rfl); (case Zm => first | rfl | kernel_rfl!); (case Zu => ke_room); (case Zhj => rfl); (case Zhn => first | exact no0 | exact no1 (by assumption) | exact no2 (by assumption) (by assumption)); (case Zhz => exact Nat.le_of_ble_eq_true rfl))); k_dflt (intro t3 tk3; (try dsimp only)))
  k_with "call type:dict" => (k_here; (with_reducible show wpAny _ _ (call (Value.type "dict") [Value.ref _]) _ _ _); k_dflt ((first | (refine dict_pairs_N (kws := [(_, _)]) (by k_asm) (by k_asm) (Top.nolimit (by k_asm)) (by rfl) (by k_mem) (by exact ⟨⟨_, _, _, rfl, by k_mem⟩, True.intro⟩) (by exact Nat.le_of_ble_eq_true rfl) ?_) | (refine dict_pairs_N (kws := [(_, _), (_, _)]) (by k_asm) (by k_asm) (Top.nolimit (by k_asm)) (by rfl) (by k_mem) (by exact ⟨⟨_, _, _, rfl, by k_mem⟩, ⟨_, _, _, rfl, by k_mem⟩, True.intro⟩) (by exact Nat.le_of_ble_eq_true rfl) ?_) | (refine dict_pairs_N (kws := [(_, _), (_, _), (_, _)]) (by k_asm) (by k_asm) (Top.nolimit (by k_asm)) (by rfl) (by k_mem) (by exact ⟨⟨_, _, _, rfl, by k_mem⟩, ⟨_, _, _, rfl, by k_mem⟩, ⟨_, _, _, rfl, by k_mem⟩, True.intro⟩) (by exact Nat.le_of_ble_eq_true rfl) ?_)); intro d' h' tk' o' F' N' l1 lo' hd'; (try k_lt l1)))
  k_with "call builtin:len" => (k_here; (with_reducible show wpAny _ _ (call (Value.builtin "len") [Value.ref _]) _ _ _); k_dflt (refine len_dict_N (by k_asm) (by k_mem) (by assumption) (by assumption) (by exact Nat.le_of_ble_eq_true rfl) ?_; intro t' tk'))
  trivial
section
variable {prog : Program} {w : World} {mg mb : Str → Option Value} {mean : ExcName → Option Value} {loose : List Str}
  {dp un : Nat} {gd : Option (List Code)} {cn : Str} {cs : Scope} {L a : Addr} {ccd : Value} {cl : List (Str × Addr)} {outer : List Env} {A₀ : Around} {base h₀ : Heap} {m : Str → Option Value} {s : Shared} {Q E : Value → Shared → Prop}
set_option maxRecDepth 100000 in
set_option maxHeartbeats 20000000 in
theorem c_c1 {full body : List Stmt} {sc : Scope} {cs0 L fa un dp : Nat} {gd : Option (List Code)} {ccd : Value} {outer : List Env} {Q : Flow → Shared → Prop} {E : Value → Shared → Prop} {x0 x1 x2 : Int} {tx0 tx1 tx2 tb : Tok} {all : List (Addr × Obj)} {o dl pw kk f : Nat} {r1 : Int}
    (hf : full = forB (fnB ((hd.heap_39 w.params).lookup 110)) 4) (hb : body = (full.drop 10).take 2) (hsc : sc = fnS ((hd.heap_39 w.params).lookup 110))
    (B : Below A₀ base outer h₀) (F : Fr h₀ L s.heap m) (X : (hd.heap_39 w.params).In h₀) (T : Top topProg loose mean mg mb h₀) (N : News h₀ L s.heap all)
    (e1 : m (Str.ofString "order") = some (.ref o)) (e2 : m (Str.ofString "deeds") = some (.ref dl)) (e3 : m (Str.ofString "deed") = some (.ref f)) (e4 : m (Str.ofString "powers") = some (.ref pw)) (e5 : m (Str.ofString "begin") = some (.int 0 tb))
    (mp : (pw, W.listOf #[.ref f] kk) ∈ all) (mx : (f, tupO [.int x0 tx0, .int x1 tx1, .int x2 tx2]) ∈ all)
    (hrx : rch x0 x1 x2 = r1) (hr1 : 1 ≤ r1 ∧ r1 ≤ 3)
    (hdp : dp + 44 < recursionLimit) (hun : un + 500 < cLine) (hE : PassesOwn (model prog w) (ktrTop dp un gd (Str.ofString "law") sc L fa ccd [(Str.ofString "still", cs0)] outer) (envX (Str.ofString "law") sc L fa ccd [(Str.ofString "still", cs0)]) E)
    (hret : ∀ h' tk' m', Fr h₀ L h' m' → m' (Str.ofString "order") = some (.ref o) → m' (Str.ofString "deeds") = some (.ref dl) → m' (Str.ofString "deed") = some (.ref f) → News h₀ L h' all → Q .next { s with heap := h', toks := tk' }) :
    wpAny (model prog w) (ktrTop dp un gd (Str.ofString "law") sc L fa ccd [(Str.ofString "still", cs0)] outer) (execs body (envX (Str.ofString "law") sc L fa ccd [(Str.ofString "still", cs0)])) Q E s := by
  conv at hf => rhs; whnf
  conv at hsc => rhs; whnf
  subst hf hsc
  simp only [List.drop_succ_cons, List.drop_zero, List.take_succ_cons, List.take_zero] at hb
  subst hb
  have hk : (ScopeKind.function = ScopeKind.function) := rfl
  have F1 := fr_at (fr_at4 F e1 e2 e3 e4) (x := (Str.ofString "begin")) (v := .int 0 tb) e5
  clear F
  k_steps
  refine' hret _ _ _ ?zF ?q0 ?q1 ?q2 ?zN
  case zF => k_asm
  case q0 => rfl
  case q1 => rfl
  case q2 => rfl
  case zN => (rename News _ _ _ _ => N9; exact news_ground (by intro x hx; k_mem) N9)
set_option maxRecDepth 100000 in
set_option maxHeartbeats 20000000 in
theorem c_c2 {full body : List Stmt} {sc : Scope} {cs0 L fa un dp : Nat} {gd : Option (List Code)} {ccd : Value} {outer : List Env} {Q : Flow → Shared → Prop} {E : Value → Shared → Prop} {x0 x1 x2 u0 u1 u2 : Int} {tx0 tx1 tx2 tu0 tu1 tu2 tb : Tok} {all : List (Addr × Obj)} {o dl pw kk f ru : Nat} {r1 : Int}
    (hf : full = forB (fnB ((hd.heap_39 w.params).lookup 110)) 4) (hb : body = (full.drop 10).take 2) (hsc : sc = fnS ((hd.heap_39 w.params).lookup 110))
    (B : Below A₀ base outer h₀) (F : Fr h₀ L s.heap m) (X : (hd.heap_39 w.params).In h₀) (T : Top topProg loose mean mg mb h₀) (N : News h₀ L s.heap all)
    (e1 : m (Str.ofString "order") = some (.ref o)) (e2 : m (Str.ofString "deeds") = some (.ref dl)) (e3 : m (Str.ofString "deed") = some (.ref f)) (e4 : m (Str.ofString "powers") = some (.ref pw)) (e5 : m (Str.ofString "begin") = some (.int 0 tb))
    (mp : (pw, W.listOf #[.ref f, .ref ru] kk) ∈ all) (mx : (f, tupO [.int x0 tx0, .int x1 tx1, .int x2 tx2]) ∈ all) (mu : (ru, tupO [.int u0 tu0, .int u1 tu1, .int u2 tu2]) ∈ all)
    (hrx : rch x0 x1 x2 = r1) (hru : rch u0 u1 u2 = r1) (hr1 : 1 ≤ r1 ∧ r1 ≤ 3)
    (hdp : dp + 44 < recursionLimit) (hun : un + 500 < cLine) (hE : PassesOwn (model prog w) (ktrTop dp un gd (Str.ofString "law") sc L fa ccd [(Str.ofString "still", cs0)] outer) (envX (Str.ofString "law") sc L fa ccd [(Str.ofString "still", cs0)]) E)
    (hret : ∀ h' tk' m', Fr h₀ L h' m' → m' (Str.ofString "order") = some (.ref o) → m' (Str.ofString "deeds") = some (.ref dl) → m' (Str.ofString "deed") = some (.ref f) → News h₀ L h' all → Q .next { s with heap := h', toks := tk' }) :
    wpAny (model prog w) (ktrTop dp un gd (Str.ofString "law") sc L fa ccd [(Str.ofString "still", cs0)] outer) (execs body (envX (Str.ofString "law") sc L fa ccd [(Str.ofString "still", cs0)])) Q E s := by
  conv at hf => rhs; whnf
  conv at hsc => rhs; whnf
  subst hf hsc
  simp only [List.drop_succ_cons, List.drop_zero, List.take_succ_cons, List.take_zero] at hb
  subst hb
  have hk : (ScopeKind.function = ScopeKind.function) := rfl
  have F1 := fr_at (fr_at4 F e1 e2 e3 e4) (x := (Str.ofString "begin")) (v := .int 0 tb) e5
  clear F
  k_steps
  refine' hret _ _ _ ?zF ?q0 ?q1 ?q2 ?zN
  case zF => k_asm
  case q0 => rfl
  case q1 => rfl
  case q2 => rfl
  case zN => (rename News _ _ _ _ => N9; exact news_ground (by intro x hx; k_mem) N9)
set_option maxRecDepth 100000 in
set_option maxHeartbeats 20000000 in
theorem c_c3 {full body : List Stmt} {sc : Scope} {cs0 L fa un dp : Nat} {gd : Option (List Code)} {ccd : Value} {outer : List Env} {Q : Flow → Shared → Prop} {E : Value → Shared → Prop} {x0 x1 x2 u0 u1 u2 v0 v1 v2 : Int} {tx0 tx1 tx2 tu0 tu1 tu2 tv0 tv1 tv2 tb : Tok} {all : List (Addr × Obj)} {o dl pw kk f ru rv : Nat}
    (hf : full = forB (fnB ((hd.heap_39 w.params).lookup 110)) 4) (hb : body = (full.drop 10).take 2) (hsc : sc = fnS ((hd.heap_39 w.params).lookup 110))
    (B : Below A₀ base outer h₀) (F : Fr h₀ L s.heap m) (X : (hd.heap_39 w.params).In h₀) (T : Top topProg loose mean mg mb h₀) (N : News h₀ L s.heap all)
    (e1 : m (Str.ofString "order") = some (.ref o)) (e2 : m (Str.ofString "deeds") = some (.ref dl)) (e3 : m (Str.ofString "deed") = some (.ref f)) (e4 : m (Str.ofString "powers") = some (.ref pw)) (e5 : m (Str.ofString "begin") = some (.int 0 tb))
    (mp : (pw, W.listOf #[.ref f, .ref ru, .ref rv] kk) ∈ all) (mx : (f, tupO [.int x0 tx0, .int x1 tx1, .int x2 tx2]) ∈ all) (mu : (ru, tupO [.int u0 tu0, .int u1 tu1, .int u2 tu2]) ∈ all) (mv : (rv, tupO [.int v0 tv0, .int v1 tv1, .int v2 tv2]) ∈ all)
    (hrx : rch x0 x1 x2 = 3) (hru : rch u0 u1 u2 = 3) (hrv : rch v0 v1 v2 = 3)
    (hdp : dp + 44 < recursionLimit) (hun : un + 500 < cLine) (hE : PassesOwn (model prog w) (ktrTop dp un gd (Str.ofString "law") sc L fa ccd [(Str.ofString "still", cs0)] outer) (envX (Str.ofString "law") sc L fa ccd [(Str.ofString "still", cs0)]) E)
    (hret : ∀ h' tk' m', Fr h₀ L h' m' → m' (Str.ofString "order") = some (.ref o) → m' (Str.ofString "deeds") = some (.ref dl) → m' (Str.ofString "deed") = some (.ref f) → News h₀ L h' all → Q .next { s with heap := h', toks := tk' }) :
    wpAny (model prog w) (ktrTop dp un gd (Str.ofString "law") sc L fa ccd [(Str.ofString "still", cs0)] outer) (execs body (envX (Str.ofString "law") sc L fa ccd [(Str.ofString "still", cs0)])) Q E s := by
  conv at hf => rhs; whnf
  conv at hsc => rhs; whnf
  subst hf hsc
  simp only [List.drop_succ_cons, List.drop_zero, List.take_succ_cons, List.take_zero] at hb
  subst hb
  have hk : (ScopeKind.function = ScopeKind.function) := rfl
  have F1 := fr_at (fr_at4 F e1 e2 e3 e4) (x := (Str.ofString "begin")) (v := .int 0 tb) e5
  clear F
  k_steps
  refine' hret _ _ _ ?zF ?q0 ?q1 ?q2 ?zN
  case zF => k_asm
  case q0 => rfl
  case q1 => rfl
  case q2 => rfl
  case zN => (rename News _ _ _ _ => N9; exact news_ground (by intro x hx; k_mem) N9)
set_option maxRecDepth 100000 in
set_option maxHeartbeats 20000000 in
theorem c_c4 {full body : List Stmt} {sc : Scope} {cs0 L fa un dp : Nat} {gd : Option (List Code)} {ccd : Value} {outer : List Env} {Q : Flow → Shared → Prop} {E : Value → Shared → Prop} {x0 x1 x2 u0 u1 u2 : Int} {tx0 tx1 tx2 tu0 tu1 tu2 tb : Tok} {all : List (Addr × Obj)} {o dl pw kk f ru : Nat}
    (hf : full = forB (fnB ((hd.heap_39 w.params).lookup 110)) 4) (hb : body = (full.drop 10).take 2) (hsc : sc = fnS ((hd.heap_39 w.params).lookup 110))
    (B : Below A₀ base outer h₀) (F : Fr h₀ L s.heap m) (X : (hd.heap_39 w.params).In h₀) (T : Top topProg loose mean mg mb h₀) (N : News h₀ L s.heap all)
    (e1 : m (Str.ofString "order") = some (.ref o)) (e2 : m (Str.ofString "deeds") = some (.ref dl)) (e3 : m (Str.ofString "deed") = some (.ref f)) (e4 : m (Str.ofString "powers") = some (.ref pw)) (e5 : m (Str.ofString "begin") = some (.int 1 tb))
    (mp : (pw, W.listOf #[.ref f, .ref ru] kk) ∈ all) (mx : (f, tupO [.int x0 tx0, .int x1 tx1, .int x2 tx2]) ∈ all) (mu : (ru, tupO [.int u0 tu0, .int u1 tu1, .int u2 tu2]) ∈ all)
    (hrx : rch x0 x1 x2 = 2) (hru : rch u0 u1 u2 = 1)
    (hdp : dp + 44 < recursionLimit) (hun : un + 500 < cLine) (hE : PassesOwn (model prog w) (ktrTop dp un gd (Str.ofString "law") sc L fa ccd [(Str.ofString "still", cs0)] outer) (envX (Str.ofString "law") sc L fa ccd [(Str.ofString "still", cs0)]) E)
    (hret : ∀ h' tk' m', Fr h₀ L h' m' → m' (Str.ofString "order") = some (.ref o) → m' (Str.ofString "deeds") = some (.ref dl) → m' (Str.ofString "deed") = some (.ref f) → News h₀ L h' all → Q .next { s with heap := h', toks := tk' }) :
    wpAny (model prog w) (ktrTop dp un gd (Str.ofString "law") sc L fa ccd [(Str.ofString "still", cs0)] outer) (execs body (envX (Str.ofString "law") sc L fa ccd [(Str.ofString "still", cs0)])) Q E s := by
  conv at hf => rhs; whnf
  conv at hsc => rhs; whnf
  subst hf hsc
  simp only [List.drop_succ_cons, List.drop_zero, List.take_succ_cons, List.take_zero] at hb
  subst hb
  have hk : (ScopeKind.function = ScopeKind.function) := rfl
  have F1 := fr_at (fr_at4 F e1 e2 e3 e4) (x := (Str.ofString "begin")) (v := .int 1 tb) e5
  clear F
  k_steps
  refine' hret _ _ _ ?zF ?q0 ?q1 ?q2 ?zN
  case zF => k_asm
  case q0 => rfl
  case q1 => rfl
  case q2 => rfl
  case zN => (rename News _ _ _ _ => N9; exact news_ground (by intro x hx; k_mem) N9)
end
end Mine
end
section
namespace Mine
theorem split3 (l : List Stmt) : l.drop 2 = (l.drop 2).take 6 ++ ((l.drop 8).take 2 ++ ((l.drop 10).take 2 ++ l.drop 12)) := by
  have h1 : (l.drop 10).take 2 ++ l.drop 12 = l.drop 10 := by
    have := List.take_append_drop 2 (l.drop 10)
    rwa [List.drop_drop] at this
  have h2 : (l.drop 8).take 2 ++ l.drop 10 = l.drop 8 := by
    have := List.take_append_drop 2 (l.drop 8)
    rwa [List.drop_drop] at this
  have h3 : (l.drop 2).take 6 ++ l.drop 8 = l.drop 2 := by
    have := List.take_append_drop 6 (l.drop 2)
    rwa [List.drop_drop] at this
  rw [h1, h2, h3]
theorem news_swapD {h₀ h : Heap} {L : Addr} {a b c : Addr × Obj} {tail : List (Addr × Obj)} (N : News h₀ L h (a :: b :: c :: tail)) : News h₀ L h (c :: a :: b :: tail) := fun x hx => by
  rcases List.mem_cons.mp hx with rfl | hx
  · exact N _ (.tail _ (.tail _ (.head _)))
  rcases List.mem_cons.mp hx with rfl | hx
  · exact N _ (.head _)
  rcases List.mem_cons.mp hx with rfl | hx
  · exact N _ (.tail _ (.head _))
  · exact N _ (.tail _ (.tail _ (.tail _ hx)))
section
variable {prog : Program} {w : World} {mg mb : Str → Option Value} {mean : ExcName → Option Value} {loose : List Str}
  {dp un : Nat} {gd : Option (List Code)} {cn : Str} {cs : Scope} {L a : Addr} {ccd : Value} {cl : List (Str × Addr)} {outer : List Env} {A₀ : Around} {base h₀ : Heap} {m : Str → Option Value} {s : Shared} {Q E : Value → Shared → Prop}
set_option maxRecDepth 100000 in
set_option maxHeartbeats 20000000 in
theorem c_kind1 {body : List Stmt} {sc : Scope} {tail : List (Addr × Obj)} {o dl d0 d1 k cs0 nn f L fa un dp : Nat} {oc : Obj} {cv0 : Option Value} {vs : List Value} {ns : List Int} {gd : Option (List Code)} {ccd : Value} {outer : List Env} {Q : Flow → Shared → Prop} {E : Value → Shared → Prop}
    {x0 x1 x2 a0 a1 a2 b0 b1 b2 : Int} {ta0 ta1 ta2 tb0 tb1 tb2 tx0 tx1 tx2 : Tok} {r1 : Int}
    (hx0 : 0 ≤ x0 ∧ x0 ≤ 2) (hx1 : 0 ≤ x1 ∧ x1 ≤ 2) (hx2 : 0 ≤ x2 ∧ x2 ≤ 2)
    (Txx0 : sel x0 x0 x1 x2 = x0) (Txx1 : sel x1 x0 x1 x2 = x1) (Txx2 : sel x2 x0 x1 x2 = x2)
    (hst : x0 + 3 * x1 + 9 * x2 ∈ ns)
     (hiy : Dat.tuple [Dat.int x0, Dat.int x1, Dat.int x2] ∈ [Dat.tuple [Dat.int x0, Dat.int x1, Dat.int x2]])
    
    (hrx : rch x0 x1 x2 = r1) (hr1 : 1 ≤ r1 ∧ r1 ≤ 3)
    (hb : body = (forB (fnB ((hd.heap_39 w.params).lookup 110)) 4).drop 2) (hsc : sc = fnS ((hd.heap_39 w.params).lookup 110))
    (B : Below A₀ base outer h₀)
    (F : Fr h₀ L s.heap (fun y => if y = Str.ofString "deed" then some (.ref f) else if y = Str.ofString "order" then some (.ref o) else if y = Str.ofString "deeds" then some (.ref dl) else m y))
    (X : (hd.heap_39 w.params).In h₀) (T : Top topProg loose mean mg mb h₀) (N : News h₀ L s.heap ((o, W.listOf vs.toArray nn) :: (f, tupO [.int x0 tx0, .int x1 tx1, .int x2 tx2]) :: (cs0, oc) :: tail))
    (m2 : (dl, W.listOf #[.ref d0, .ref d1] k) ∈ tail) (m3 : (d0, tupO [.int a0 ta0, .int a1 ta1, .int a2 ta2]) ∈ tail) (m4 : (d1, tupO [.int b0 tb0, .int b1 tb1, .int b2 tb2]) ∈ tail)
    (hcv : oc.data = .cell cv0) (n1 : AllNe cs0 ((o, W.listOf vs.toArray nn) :: (f, tupO [.int x0 tx0, .int x1 tx1, .int x2 tx2]) :: tail))
    (hi : IntsAre vs ns) (hS : Srt ns) (hlen : ns.length ≤ 27)
    (ha : In3 (a0, a1, a2)) (hbb : In3 (b0, b1, b2))
    (hc : ∀ y, y = (a0, a1, a2) ∨ y = (b0, b1, b2) → Mine.num (thn (x0, x1, x2) y) ∈ ns)
    (hrc : ∀ y : D3, In3 y → rch (thn (x0, x1, x2) y).1 (thn (x0, x1, x2) y).2.1 (thn (x0, x1, x2) y).2.2 ≤ rch x0 x1 x2 ∧ rch (thn (x0, x1, x2) y).1 (thn (x0, x1, x2) y).2.1 (thn (x0, x1, x2) y).2.2 ≤ rch y.1 y.2.1 y.2.2)
    (hdp : dp + 44 < recursionLimit) (hun : un + 500 < cLine)
    (hE : PassesOwn (model prog w) (ktrTop dp un gd (Str.ofString "law") sc L fa ccd [(Str.ofString "still", cs0)] outer) (envX (Str.ofString "law") sc L fa ccd [(Str.ofString "still", cs0)]) E)
    (hret : ∀ h' tk' m' oc' v', Fr h₀ L h' m' → m' (Str.ofString "order") = some (.ref o) → m' (Str.ofString "deeds") = some (.ref dl) → oc'.data = .cell (some v') → News h₀ L h' ((o, W.listOf vs.toArray nn) :: (f, tupO [.int x0 tx0, .int x1 tx1, .int x2 tx2]) :: (cs0, oc') :: tail) → Q .next { s with heap := h', toks := tk' }) :
    wpAny (model prog w) (ktrTop dp un gd (Str.ofString "law") sc L fa ccd [(Str.ofString "still", cs0)] outer) (execs body (envX (Str.ofString "law") sc L fa ccd [(Str.ofString "still", cs0)])) Q E s := by
  subst hb
  rw [split3]
  refine execs_split ?_
  refine c_a1 (hf := rfl) (hb := rfl) (hsc := hsc) (B := B) (F := F) (X := X) (T := T) (N := news_swapD N) (n1 := n1) (hcv := hcv) (e1 := rfl) (e2 := rfl) (e3 := rfl) (mf := .tail _ (.head _)) (hx0 := hx0) (hx1 := hx1) (hx2 := hx2) (Txx0 := Txx0) (Txx1 := Txx1) (Txx2 := Txx2)  (hiy := hiy)  (hdp := hdp) (hun := hun) (hE := hE) (hret := fun h1 tk1 m1 oc1 sl pw kk tb  F1 e1 e2 e3 e4 e5 hcv1 N1 => ?_)
  refine execs_split ?_
  refine c_b (hf := rfl) (hb := rfl) (hsc := hsc) (B := B) (F := F1) (X := X) (T := T) (N := N1) (e1 := e1) (e2 := e2) (e3 := e3) (e4 := e4) (e5 := e5) (m1 := (.tail _ (.tail _ (.tail _ (.head _))))) (m2 := (.tail _ (.tail _ (.head _)))) (m3 := (.head _)) (m4 := (.tail _ (.tail _ (.tail _ (.tail _ (.head _)))))) (hcv := hcv1) (hi := hi) (hS := hS) (hlen := hlen) (hst := hst) (hv0 := hx0) (hv1 := hx1) (hv2 := hx2) (Tvv0 := Txx0) (Tvv1 := Txx1) (Tvv2 := Txx2) (hdp := hdp) (hun := hun) (hE := hE) (hret := fun h2 tk2 m2' F2 a1 a2 a3 a4 a5 N2 => ?_)
  refine execs_split ?_
  refine c_c1 (hf := rfl) (hb := rfl) (hsc := hsc) (B := B) (F := F2) (X := X) (T := T) (N := N2) (e1 := a1) (e2 := a2) (e3 := a3) (e4 := a4) (e5 := a5) (mp := (.tail _ (.head _))) (mx := (.tail _ (.tail _ (.tail _ (.tail _ (.head _)))))) (hrx := hrx) (hr1 := hr1) (hdp := hdp) (hun := hun) (hE := hE) (hret := fun h3 tk3 m3' F3 b1 b2 b3 N3 => ?_)
  refine c_other (hb := rfl) (hsc := hsc) (B := B) (F := F3) (X := X) (T := T) (N := N3) (e1 := b3) (e2 := b1) (e3 := b2) (m1 := (.tail _ (.tail _ (.tail _ (.head _))))) (m2 := (.tail _ (.tail _ (.tail _ (.tail _ (.tail _ m2)))))) (m3 := (.tail _ (.tail _ (.tail _ (.tail _ (.tail _ m3)))))) (m4 := (.tail _ (.tail _ (.tail _ (.tail _ (.tail _ m4)))))) (m5 := (.tail _ (.tail _ (.tail _ (.tail _ (.head _)))))) (hi := hi) (hx := ⟨hx0, hx1, hx2⟩) (ha := ha) (hbb := hbb) (hc := hc) (hrc := hrc) (hdp := hdp) (hun := hun) (hE := hE) (hret := fun h4 tk4 m4' F4 c1 c2 N4 => ?_)
  exact hret h4 tk4 m4' oc1 _ F4 c1 c2 hcv1 (news_sub3 (.tail _ (.tail _ (.tail _ (.head _)))) (.tail _ (.tail _ (.tail _ (.tail _ (.head _))))) (.tail _ (.tail _ (.head _))) (fun x hx => (.tail _ (.tail _ (.tail _ (.tail _ (.tail _ hx)))))) N4)
set_option maxRecDepth 100000 in
set_option maxHeartbeats 20000000 in
theorem c_kind2 {body : List Stmt} {sc : Scope} {tail : List (Addr × Obj)} {o dl d0 d1 k cs0 nn f L fa un dp : Nat} {oc : Obj} {cv0 : Option Value} {vs : List Value} {ns : List Int} {gd : Option (List Code)} {ccd : Value} {outer : List Env} {Q : Flow → Shared → Prop} {E : Value → Shared → Prop}
    {x0 x1 x2 u0 u1 u2 a0 a1 a2 b0 b1 b2 : Int} {ta0 ta1 ta2 tb0 tb1 tb2 tx0 tx1 tx2 : Tok} {r1 : Int}
    (hx0 : 0 ≤ x0 ∧ x0 ≤ 2) (hx1 : 0 ≤ x1 ∧ x1 ≤ 2) (hx2 : 0 ≤ x2 ∧ x2 ≤ 2) (hu0 : 0 ≤ u0 ∧ u0 ≤ 2) (hu1 : 0 ≤ u1 ∧ u1 ≤ 2) (hu2 : 0 ≤ u2 ∧ u2 ≤ 2)
    (Txx0 : sel x0 x0 x1 x2 = u0) (Txx1 : sel x1 x0 x1 x2 = u1) (Txx2 : sel x2 x0 x1 x2 = u2)
    (Tux0 : sel u0 x0 x1 x2 = x0) (Tux1 : sel u1 x0 x1 x2 = x1) (Tux2 : sel u2 x0 x1 x2 = x2)
    (Tuu0 : sel u0 u0 u1 u2 = u0) (Tuu1 : sel u1 u0 u1 u2 = u1) (Tuu2 : sel u2 u0 u1 u2 = u2)
    (hst : u0 + 3 * u1 + 9 * u2 ∈ ns)
    (hin0 : Dat.tuple [Dat.int u0, Dat.int u1, Dat.int u2] ∉ [Dat.tuple [Dat.int x0, Dat.int x1, Dat.int x2]]) (hiy : Dat.tuple [Dat.int x0, Dat.int x1, Dat.int x2] ∈ [Dat.tuple [Dat.int x0, Dat.int x1, Dat.int x2], Dat.tuple [Dat.int u0, Dat.int u1, Dat.int u2]])
    (hne0 : Dat.tuple [Dat.int u0, Dat.int u1, Dat.int u2] ≠ Dat.tuple [Dat.int x0, Dat.int x1, Dat.int x2]) (hne1 : Dat.tuple [Dat.int x0, Dat.int x1, Dat.int x2] ≠ Dat.tuple [Dat.int u0, Dat.int u1, Dat.int u2])
    (hrx : rch x0 x1 x2 = r1) (hru : rch u0 u1 u2 = r1) (hr1 : 1 ≤ r1 ∧ r1 ≤ 3)
    (hb : body = (forB (fnB ((hd.heap_39 w.params).lookup 110)) 4).drop 2) (hsc : sc = fnS ((hd.heap_39 w.params).lookup 110))
    (B : Below A₀ base outer h₀)
    (F : Fr h₀ L s.heap (fun y => if y = Str.ofString "deed" then some (.ref f) else if y = Str.ofString "order" then some (.ref o) else if y = Str.ofString "deeds" then some (.ref dl) else m y))
    (X : (hd.heap_39 w.params).In h₀) (T : Top topProg loose mean mg mb h₀) (N : News h₀ L s.heap ((o, W.listOf vs.toArray nn) :: (f, tupO [.int x0 tx0, .int x1 tx1, .int x2 tx2]) :: (cs0, oc) :: tail))
    (m2 : (dl, W.listOf #[.ref d0, .ref d1] k) ∈ tail) (m3 : (d0, tupO [.int a0 ta0, .int a1 ta1, .int a2 ta2]) ∈ tail) (m4 : (d1, tupO [.int b0 tb0, .int b1 tb1, .int b2 tb2]) ∈ tail)
    (hcv : oc.data = .cell cv0) (n1 : AllNe cs0 ((o, W.listOf vs.toArray nn) :: (f, tupO [.int x0 tx0, .int x1 tx1, .int x2 tx2]) :: tail))
    (hi : IntsAre vs ns) (hS : Srt ns) (hlen : ns.length ≤ 27)
    (ha : In3 (a0, a1, a2)) (hbb : In3 (b0, b1, b2))
    (hc : ∀ y, y = (a0, a1, a2) ∨ y = (b0, b1, b2) → Mine.num (thn (x0, x1, x2) y) ∈ ns)
    (hrc : ∀ y : D3, In3 y → rch (thn (x0, x1, x2) y).1 (thn (x0, x1, x2) y).2.1 (thn (x0, x1, x2) y).2.2 ≤ rch x0 x1 x2 ∧ rch (thn (x0, x1, x2) y).1 (thn (x0, x1, x2) y).2.1 (thn (x0, x1, x2) y).2.2 ≤ rch y.1 y.2.1 y.2.2)
    (hdp : dp + 44 < recursionLimit) (hun : un + 500 < cLine)
    (hE : PassesOwn (model prog w) (ktrTop dp un gd (Str.ofString "law") sc L fa ccd [(Str.ofString "still", cs0)] outer) (envX (Str.ofString "law") sc L fa ccd [(Str.ofString "still", cs0)]) E)
    (hret : ∀ h' tk' m' oc' v', Fr h₀ L h' m' → m' (Str.ofString "order") = some (.ref o) → m' (Str.ofString "deeds") = some (.ref dl) → oc'.data = .cell (some v') → News h₀ L h' ((o, W.listOf vs.toArray nn) :: (f, tupO [.int x0 tx0, .int x1 tx1, .int x2 tx2]) :: (cs0, oc') :: tail) → Q .next { s with heap := h', toks := tk' }) :
    wpAny (model prog w) (ktrTop dp un gd (Str.ofString "law") sc L fa ccd [(Str.ofString "still", cs0)] outer) (execs body (envX (Str.ofString "law") sc L fa ccd [(Str.ofString "still", cs0)])) Q E s := by
  subst hb
  rw [split3]
  refine execs_split ?_
  refine c_a2 (hf := rfl) (hb := rfl) (hsc := hsc) (B := B) (F := F) (X := X) (T := T) (N := news_swapD N) (n1 := n1) (hcv := hcv) (e1 := rfl) (e2 := rfl) (e3 := rfl) (mf := .tail _ (.head _)) (hx0 := hx0) (hx1 := hx1) (hx2 := hx2) (hu0 := hu0) (hu1 := hu1) (hu2 := hu2) (Txx0 := Txx0) (Txx1 := Txx1) (Txx2 := Txx2) (Tux0 := Tux0) (Tux1 := Tux1) (Tux2 := Tux2) (Tuu0 := Tuu0) (Tuu1 := Tuu1) (Tuu2 := Tuu2) (hin0 := hin0) (hiy := hiy) (hne0 := hne0) (hne1 := hne1) (hdp := hdp) (hun := hun) (hE := hE) (hret := fun h1 tk1 m1 oc1 sl pw kk tb ru tu0 tu1 tu2 F1 e1 e2 e3 e4 e5 hcv1 N1 => ?_)
  refine execs_split ?_
  refine c_b (hf := rfl) (hb := rfl) (hsc := hsc) (B := B) (F := F1) (X := X) (T := T) (N := N1) (e1 := e1) (e2 := e2) (e3 := e3) (e4 := e4) (e5 := e5) (m1 := (.tail _ (.tail _ (.tail _ (.tail _ (.head _)))))) (m2 := (.tail _ (.tail _ (.tail _ (.head _))))) (m3 := (.head _)) (m4 := (.tail _ (.tail _ (.head _)))) (hcv := hcv1) (hi := hi) (hS := hS) (hlen := hlen) (hst := hst) (hv0 := hu0) (hv1 := hu1) (hv2 := hu2) (Tvv0 := Tuu0) (Tvv1 := Tuu1) (Tvv2 := Tuu2) (hdp := hdp) (hun := hun) (hE := hE) (hret := fun h2 tk2 m2' F2 a1 a2 a3 a4 a5 N2 => ?_)
  refine execs_split ?_
  refine c_c2 (hf := rfl) (hb := rfl) (hsc := hsc) (B := B) (F := F2) (X := X) (T := T) (N := N2) (e1 := a1) (e2 := a2) (e3 := a3) (e4 := a4) (e5 := a5) (mp := (.tail _ (.head _))) (mx := (.tail _ (.tail _ (.tail _ (.tail _ (.tail _ (.head _))))))) (mu := (.tail _ (.tail _ (.head _)))) (hrx := hrx) (hru := hru) (hr1 := hr1) (hdp := hdp) (hun := hun) (hE := hE) (hret := fun h3 tk3 m3' F3 b1 b2 b3 N3 => ?_)
  refine c_other (hb := rfl) (hsc := hsc) (B := B) (F := F3) (X := X) (T := T) (N := N3) (e1 := b3) (e2 := b1) (e3 := b2) (m1 := (.tail _ (.tail _ (.tail _ (.tail _ (.head _)))))) (m2 := (.tail _ (.tail _ (.tail _ (.tail _ (.tail _ (.tail _ m2))))))) (m3 := (.tail _ (.tail _ (.tail _ (.tail _ (.tail _ (.tail _ m3))))))) (m4 := (.tail _ (.tail _ (.tail _ (.tail _ (.tail _ (.tail _ m4))))))) (m5 := (.tail _ (.tail _ (.tail _ (.tail _ (.tail _ (.head _))))))) (hi := hi) (hx := ⟨hx0, hx1, hx2⟩) (ha := ha) (hbb := hbb) (hc := hc) (hrc := hrc) (hdp := hdp) (hun := hun) (hE := hE) (hret := fun h4 tk4 m4' F4 c1 c2 N4 => ?_)
  exact hret h4 tk4 m4' oc1 _ F4 c1 c2 hcv1 (news_sub3 (.tail _ (.tail _ (.tail _ (.tail _ (.head _))))) (.tail _ (.tail _ (.tail _ (.tail _ (.tail _ (.head _)))))) (.tail _ (.tail _ (.tail _ (.head _)))) (fun x hx => (.tail _ (.tail _ (.tail _ (.tail _ (.tail _ (.tail _ hx))))))) N4)
set_option maxRecDepth 100000 in
set_option maxHeartbeats 20000000 in
theorem c_kind3 {body : List Stmt} {sc : Scope} {tail : List (Addr × Obj)} {o dl d0 d1 k cs0 nn f L fa un dp : Nat} {oc : Obj} {cv0 : Option Value} {vs : List Value} {ns : List Int} {gd : Option (List Code)} {ccd : Value} {outer : List Env} {Q : Flow → Shared → Prop} {E : Value → Shared → Prop}
    {x0 x1 x2 u0 u1 u2 v0 v1 v2 a0 a1 a2 b0 b1 b2 : Int} {ta0 ta1 ta2 tb0 tb1 tb2 tx0 tx1 tx2 : Tok}
    (hx0 : 0 ≤ x0 ∧ x0 ≤ 2) (hx1 : 0 ≤ x1 ∧ x1 ≤ 2) (hx2 : 0 ≤ x2 ∧ x2 ≤ 2) (hu0 : 0 ≤ u0 ∧ u0 ≤ 2) (hu1 : 0 ≤ u1 ∧ u1 ≤ 2) (hu2 : 0 ≤ u2 ∧ u2 ≤ 2) (hv0 : 0 ≤ v0 ∧ v0 ≤ 2) (hv1 : 0 ≤ v1 ∧ v1 ≤ 2) (hv2 : 0 ≤ v2 ∧ v2 ≤ 2)
    (Txx0 : sel x0 x0 x1 x2 = u0) (Txx1 : sel x1 x0 x1 x2 = u1) (Txx2 : sel x2 x0 x1 x2 = u2)
    (Tux0 : sel u0 x0 x1 x2 = v0) (Tux1 : sel u1 x0 x1 x2 = v1) (Tux2 : sel u2 x0 x1 x2 = v2)
    (Tvx0 : sel v0 x0 x1 x2 = x0) (Tvx1 : sel v1 x0 x1 x2 = x1) (Tvx2 : sel v2 x0 x1 x2 = x2)
    (Tuu0 : sel u0 u0 u1 u2 = x0) (Tuu1 : sel u1 u0 u1 u2 = x1) (Tuu2 : sel u2 u0 u1 u2 = x2)
    (Tvv0 : sel v0 v0 v1 v2 = v0) (Tvv1 : sel v1 v0 v1 v2 = v1) (Tvv2 : sel v2 v0 v1 v2 = v2)
    (hst : v0 + 3 * v1 + 9 * v2 ∈ ns)
    (hin0 : Dat.tuple [Dat.int u0, Dat.int u1, Dat.int u2] ∉ [Dat.tuple [Dat.int x0, Dat.int x1, Dat.int x2]]) (hin1 : Dat.tuple [Dat.int v0, Dat.int v1, Dat.int v2] ∉ [Dat.tuple [Dat.int x0, Dat.int x1, Dat.int x2], Dat.tuple [Dat.int u0, Dat.int u1, Dat.int u2]]) (hiy : Dat.tuple [Dat.int x0, Dat.int x1, Dat.int x2] ∈ [Dat.tuple [Dat.int x0, Dat.int x1, Dat.int x2], Dat.tuple [Dat.int u0, Dat.int u1, Dat.int u2], Dat.tuple [Dat.int v0, Dat.int v1, Dat.int v2]])
    (hne0 : Dat.tuple [Dat.int u0, Dat.int u1, Dat.int u2] ≠ Dat.tuple [Dat.int x0, Dat.int x1, Dat.int x2]) (hne1 : Dat.tuple [Dat.int x0, Dat.int x1, Dat.int x2] ≠ Dat.tuple [Dat.int u0, Dat.int u1, Dat.int u2]) (hne2 : Dat.tuple [Dat.int x0, Dat.int x1, Dat.int x2] ≠ Dat.tuple [Dat.int v0, Dat.int v1, Dat.int v2]) (hne3 : Dat.tuple [Dat.int u0, Dat.int u1, Dat.int u2] ≠ Dat.tuple [Dat.int v0, Dat.int v1, Dat.int v2])
    (hrx : rch x0 x1 x2 = 3) (hru : rch u0 u1 u2 = 3) (hrv : rch v0 v1 v2 = 3)
    (hb : body = (forB (fnB ((hd.heap_39 w.params).lookup 110)) 4).drop 2) (hsc : sc = fnS ((hd.heap_39 w.params).lookup 110))
    (B : Below A₀ base outer h₀)
    (F : Fr h₀ L s.heap (fun y => if y = Str.ofString "deed" then some (.ref f) else if y = Str.ofString "order" then some (.ref o) else if y = Str.ofString "deeds" then some (.ref dl) else m y))
    (X : (hd.heap_39 w.params).In h₀) (T : Top topProg loose mean mg mb h₀) (N : News h₀ L s.heap ((o, W.listOf vs.toArray nn) :: (f, tupO [.int x0 tx0, .int x1 tx1, .int x2 tx2]) :: (cs0, oc) :: tail))
    (m2 : (dl, W.listOf #[.ref d0, .ref d1] k) ∈ tail) (m3 : (d0, tupO [.int a0 ta0, .int a1 ta1, .int a2 ta2]) ∈ tail) (m4 : (d1, tupO [.int b0 tb0, .int b1 tb1, .int b2 tb2]) ∈ tail)
    (hcv : oc.data = .cell cv0) (n1 : AllNe cs0 ((o, W.listOf vs.toArray nn) :: (f, tupO [.int x0 tx0, .int x1 tx1, .int x2 tx2]) :: tail))
    (hi : IntsAre vs ns) (hS : Srt ns) (hlen : ns.length ≤ 27)
    (ha : In3 (a0, a1, a2)) (hbb : In3 (b0, b1, b2))
    (hc : ∀ y, y = (a0, a1, a2) ∨ y = (b0, b1, b2) → Mine.num (thn (x0, x1, x2) y) ∈ ns)
    (hrc : ∀ y : D3, In3 y → rch (thn (x0, x1, x2) y).1 (thn (x0, x1, x2) y).2.1 (thn (x0, x1, x2) y).2.2 ≤ rch x0 x1 x2 ∧ rch (thn (x0, x1, x2) y).1 (thn (x0, x1, x2) y).2.1 (thn (x0, x1, x2) y).2.2 ≤ rch y.1 y.2.1 y.2.2)
    (hdp : dp + 44 < recursionLimit) (hun : un + 500 < cLine)
    (hE : PassesOwn (model prog w) (ktrTop dp un gd (Str.ofString "law") sc L fa ccd [(Str.ofString "still", cs0)] outer) (envX (Str.ofString "law") sc L fa ccd [(Str.ofString "still", cs0)]) E)
    (hret : ∀ h' tk' m' oc' v', Fr h₀ L h' m' → m' (Str.ofString "order") = some (.ref o) → m' (Str.ofString "deeds") = some (.ref dl) → oc'.data = .cell (some v') → News h₀ L h' ((o, W.listOf vs.toArray nn) :: (f, tupO [.int x0 tx0, .int x1 tx1, .int x2 tx2]) :: (cs0, oc') :: tail) → Q .next { s with heap := h', toks := tk' }) :
    wpAny (model prog w) (ktrTop dp un gd (Str.ofString "law") sc L fa ccd [(Str.ofString "still", cs0)] outer) (execs body (envX (Str.ofString "law") sc L fa ccd [(Str.ofString "still", cs0)])) Q E s := by
  subst hb
  rw [split3]
  refine execs_split ?_
  refine c_a3 (hf := rfl) (hb := rfl) (hsc := hsc) (B := B) (F := F) (X := X) (T := T) (N := news_swapD N) (n1 := n1) (hcv := hcv) (e1 := rfl) (e2 := rfl) (e3 := rfl) (mf := .tail _ (.head _)) (hx0 := hx0) (hx1 := hx1) (hx2 := hx2) (hu0 := hu0) (hu1 := hu1) (hu2 := hu2) (hv0 := hv0) (hv1 := hv1) (hv2 := hv2) (Txx0 := Txx0) (Txx1 := Txx1) (Txx2 := Txx2) (Tux0 := Tux0) (Tux1 := Tux1) (Tux2 := Tux2) (Tvx0 := Tvx0) (Tvx1 := Tvx1) (Tvx2 := Tvx2) (Tuu0 := Tuu0) (Tuu1 := Tuu1) (Tuu2 := Tuu2) (Tvv0 := Tvv0) (Tvv1 := Tvv1) (Tvv2 := Tvv2) (hin0 := hin0) (hin1 := hin1) (hiy := hiy) (hne0 := hne0) (hne1 := hne1) (hne2 := hne2) (hne3 := hne3) (hdp := hdp) (hun := hun) (hE := hE) (hret := fun h1 tk1 m1 oc1 sl pw kk tb ru tu0 tu1 tu2 rv tv0 tv1 tv2 F1 e1 e2 e3 e4 e5 hcv1 N1 => ?_)
  refine execs_split ?_
  refine c_b (hf := rfl) (hb := rfl) (hsc := hsc) (B := B) (F := F1) (X := X) (T := T) (N := N1) (e1 := e1) (e2 := e2) (e3 := e3) (e4 := e4) (e5 := e5) (m1 := (.tail _ (.tail _ (.tail _ (.tail _ (.tail _ (.head _))))))) (m2 := (.tail _ (.tail _ (.tail _ (.tail _ (.head _)))))) (m3 := (.head _)) (m4 := (.tail _ (.tail _ (.tail _ (.head _))))) (hcv := hcv1) (hi := hi) (hS := hS) (hlen := hlen) (hst := hst) (hv0 := hv0) (hv1 := hv1) (hv2 := hv2) (Tvv0 := Tvv0) (Tvv1 := Tvv1) (Tvv2 := Tvv2) (hdp := hdp) (hun := hun) (hE := hE) (hret := fun h2 tk2 m2' F2 a1 a2 a3 a4 a5 N2 => ?_)
  refine execs_split ?_
  refine c_c3 (hf := rfl) (hb := rfl) (hsc := hsc) (B := B) (F := F2) (X := X) (T := T) (N := N2) (e1 := a1) (e2 := a2) (e3 := a3) (e4 := a4) (e5 := a5) (mp := (.tail _ (.head _))) (mx := (.tail _ (.tail _ (.tail _ (.tail _ (.tail _ (.tail _ (.head _)))))))) (mu := (.tail _ (.tail _ (.head _)))) (mv := (.tail _ (.tail _ (.tail _ (.head _))))) (hrx := hrx) (hru := hru) (hrv := hrv) (hdp := hdp) (hun := hun) (hE := hE) (hret := fun h3 tk3 m3' F3 b1 b2 b3 N3 => ?_)
  refine c_other (hb := rfl) (hsc := hsc) (B := B) (F := F3) (X := X) (T := T) (N := N3) (e1 := b3) (e2 := b1) (e3 := b2) (m1 := (.tail _ (.tail _ (.tail _ (.tail _ (.tail _ (.head _))))))) (m2 := (.tail _ (.tail _ (.tail _ (.tail _ (.tail _ (.tail _ (.tail _ m2)))))))) (m3 := (.tail _ (.tail _ (.tail _ (.tail _ (.tail _ (.tail _ (.tail _ m3)))))))) (m4 := (.tail _ (.tail _ (.tail _ (.tail _ (.tail _ (.tail _ (.tail _ m4)))))))) (m5 := (.tail _ (.tail _ (.tail _ (.tail _ (.tail _ (.tail _ (.head _)))))))) (hi := hi) (hx := ⟨hx0, hx1, hx2⟩) (ha := ha) (hbb := hbb) (hc := hc) (hrc := hrc) (hdp := hdp) (hun := hun) (hE := hE) (hret := fun h4 tk4 m4' F4 c1 c2 N4 => ?_)
  exact hret h4 tk4 m4' oc1 _ F4 c1 c2 hcv1 (news_sub3 (.tail _ (.tail _ (.tail _ (.tail _ (.tail _ (.head _)))))) (.tail _ (.tail _ (.tail _ (.tail _ (.tail _ (.tail _ (.head _))))))) (.tail _ (.tail _ (.tail _ (.tail _ (.head _))))) (fun x hx => (.tail _ (.tail _ (.tail _ (.tail _ (.tail _ (.tail _ (.tail _ hx)))))))) N4)
set_option maxRecDepth 100000 in
set_option maxHeartbeats 20000000 in
theorem c_kind4 {body : List Stmt} {sc : Scope} {tail : List (Addr × Obj)} {o dl d0 d1 k cs0 nn f L fa un dp : Nat} {oc : Obj} {cv0 : Option Value} {vs : List Value} {ns : List Int} {gd : Option (List Code)} {ccd : Value} {outer : List Env} {Q : Flow → Shared → Prop} {E : Value → Shared → Prop}
    {x0 x1 x2 u0 u1 u2 a0 a1 a2 b0 b1 b2 : Int} {ta0 ta1 ta2 tb0 tb1 tb2 tx0 tx1 tx2 : Tok}
    (hx0 : 0 ≤ x0 ∧ x0 ≤ 2) (hx1 : 0 ≤ x1 ∧ x1 ≤ 2) (hx2 : 0 ≤ x2 ∧ x2 ≤ 2) (hu0 : 0 ≤ u0 ∧ u0 ≤ 2) (hu1 : 0 ≤ u1 ∧ u1 ≤ 2) (hu2 : 0 ≤ u2 ∧ u2 ≤ 2)
    (Txx0 : sel x0 x0 x1 x2 = u0) (Txx1 : sel x1 x0 x1 x2 = u1) (Txx2 : sel x2 x0 x1 x2 = u2)
    (Tux0 : sel u0 x0 x1 x2 = u0) (Tux1 : sel u1 x0 x1 x2 = u1) (Tux2 : sel u2 x0 x1 x2 = u2)
    (Tuu0 : sel u0 u0 u1 u2 = u0) (Tuu1 : sel u1 u0 u1 u2 = u1) (Tuu2 : sel u2 u0 u1 u2 = u2)
    (hst : u0 + 3 * u1 + 9 * u2 ∈ ns)
    (hin0 : Dat.tuple [Dat.int u0, Dat.int u1, Dat.int u2] ∉ [Dat.tuple [Dat.int x0, Dat.int x1, Dat.int x2]]) (hiy : Dat.tuple [Dat.int u0, Dat.int u1, Dat.int u2] ∈ [Dat.tuple [Dat.int x0, Dat.int x1, Dat.int x2], Dat.tuple [Dat.int u0, Dat.int u1, Dat.int u2]])
    (hne0 : Dat.tuple [Dat.int u0, Dat.int u1, Dat.int u2] ≠ Dat.tuple [Dat.int x0, Dat.int x1, Dat.int x2]) (hne1 : Dat.tuple [Dat.int x0, Dat.int x1, Dat.int x2] ≠ Dat.tuple [Dat.int u0, Dat.int u1, Dat.int u2])
    (hrx : rch x0 x1 x2 = 2) (hru : rch u0 u1 u2 = 1)
    (hb : body = (forB (fnB ((hd.heap_39 w.params).lookup 110)) 4).drop 2) (hsc : sc = fnS ((hd.heap_39 w.params).lookup 110))
    (B : Below A₀ base outer h₀)
    (F : Fr h₀ L s.heap (fun y => if y = Str.ofString "deed" then some (.ref f) else if y = Str.ofString "order" then some (.ref o) else if y = Str.ofString "deeds" then some (.ref dl) else m y))
    (X : (hd.heap_39 w.params).In h₀) (T : Top topProg loose mean mg mb h₀) (N : News h₀ L s.heap ((o, W.listOf vs.toArray nn) :: (f, tupO [.int x0 tx0, .int x1 tx1, .int x2 tx2]) :: (cs0, oc) :: tail))
    (m2 : (dl, W.listOf #[.ref d0, .ref d1] k) ∈ tail) (m3 : (d0, tupO [.int a0 ta0, .int a1 ta1, .int a2 ta2]) ∈ tail) (m4 : (d1, tupO [.int b0 tb0, .int b1 tb1, .int b2 tb2]) ∈ tail)
    (hcv : oc.data = .cell cv0) (n1 : AllNe cs0 ((o, W.listOf vs.toArray nn) :: (f, tupO [.int x0 tx0, .int x1 tx1, .int x2 tx2]) :: tail))
    (hi : IntsAre vs ns) (hS : Srt ns) (hlen : ns.length ≤ 27)
    (ha : In3 (a0, a1, a2)) (hbb : In3 (b0, b1, b2))
    (hc : ∀ y, y = (a0, a1, a2) ∨ y = (b0, b1, b2) → Mine.num (thn (x0, x1, x2) y) ∈ ns)
    (hrc : ∀ y : D3, In3 y → rch (thn (x0, x1, x2) y).1 (thn (x0, x1, x2) y).2.1 (thn (x0, x1, x2) y).2.2 ≤ rch x0 x1 x2 ∧ rch (thn (x0, x1, x2) y).1 (thn (x0, x1, x2) y).2.1 (thn (x0, x1, x2) y).2.2 ≤ rch y.1 y.2.1 y.2.2)
    (hdp : dp + 44 < recursionLimit) (hun : un + 500 < cLine)
    (hE : PassesOwn (model prog w) (ktrTop dp un gd (Str.ofString "law") sc L fa ccd [(Str.ofString "still", cs0)] outer) (envX (Str.ofString "law") sc L fa ccd [(Str.ofString "still", cs0)]) E)
    (hret : ∀ h' tk' m' oc' v', Fr h₀ L h' m' → m' (Str.ofString "order") = some (.ref o) → m' (Str.ofString "deeds") = some (.ref dl) → oc'.data = .cell (some v') → News h₀ L h' ((o, W.listOf vs.toArray nn) :: (f, tupO [.int x0 tx0, .int x1 tx1, .int x2 tx2]) :: (cs0, oc') :: tail) → Q .next { s with heap := h', toks := tk' }) :
    wpAny (model prog w) (ktrTop dp un gd (Str.ofString "law") sc L fa ccd [(Str.ofString "still", cs0)] outer) (execs body (envX (Str.ofString "law") sc L fa ccd [(Str.ofString "still", cs0)])) Q E s := by
  subst hb
  rw [split3]
  refine execs_split ?_
  refine c_a4 (hf := rfl) (hb := rfl) (hsc := hsc) (B := B) (F := F) (X := X) (T := T) (N := news_swapD N) (n1 := n1) (hcv := hcv) (e1 := rfl) (e2 := rfl) (e3 := rfl) (mf := .tail _ (.head _)) (hx0 := hx0) (hx1 := hx1) (hx2 := hx2) (hu0 := hu0) (hu1 := hu1) (hu2 := hu2) (Txx0 := Txx0) (Txx1 := Txx1) (Txx2 := Txx2) (Tux0 := Tux0) (Tux1 := Tux1) (Tux2 := Tux2) (Tuu0 := Tuu0) (Tuu1 := Tuu1) (Tuu2 := Tuu2) (hin0 := hin0) (hiy := hiy) (hne0 := hne0) (hne1 := hne1) (hdp := hdp) (hun := hun) (hE := hE) (hret := fun h1 tk1 m1 oc1 sl pw kk tb ru tu0 tu1 tu2 F1 e1 e2 e3 e4 e5 hcv1 N1 => ?_)
  refine execs_split ?_
  refine c_b (hf := rfl) (hb := rfl) (hsc := hsc) (B := B) (F := F1) (X := X) (T := T) (N := N1) (e1 := e1) (e2 := e2) (e3 := e3) (e4 := e4) (e5 := e5) (m1 := (.tail _ (.tail _ (.tail _ (.tail _ (.head _)))))) (m2 := (.tail _ (.tail _ (.tail _ (.head _))))) (m3 := (.head _)) (m4 := (.tail _ (.tail _ (.head _)))) (hcv := hcv1) (hi := hi) (hS := hS) (hlen := hlen) (hst := hst) (hv0 := hu0) (hv1 := hu1) (hv2 := hu2) (Tvv0 := Tuu0) (Tvv1 := Tuu1) (Tvv2 := Tuu2) (hdp := hdp) (hun := hun) (hE := hE) (hret := fun h2 tk2 m2' F2 a1 a2 a3 a4 a5 N2 => ?_)
  refine execs_split ?_
  refine c_c4 (hf := rfl) (hb := rfl) (hsc := hsc) (B := B) (F := F2) (X := X) (T := T) (N := N2) (e1 := a1) (e2 := a2) (e3 := a3) (e4 := a4) (e5 := a5) (mp := (.tail _ (.head _))) (mx := (.tail _ (.tail _ (.tail _ (.tail _ (.tail _ (.head _))))))) (mu := (.tail _ (.tail _ (.head _)))) (hrx := hrx) (hru := hru) (hdp := hdp) (hun := hun) (hE := hE) (hret := fun h3 tk3 m3' F3 b1 b2 b3 N3 => ?_)
  refine c_other (hb := rfl) (hsc := hsc) (B := B) (F := F3) (X := X) (T := T) (N := N3) (e1 := b3) (e2 := b1) (e3 := b2) (m1 := (.tail _ (.tail _ (.tail _ (.tail _ (.head _)))))) (m2 := (.tail _ (.tail _ (.tail _ (.tail _ (.tail _ (.tail _ m2))))))) (m3 := (.tail _ (.tail _ (.tail _ (.tail _ (.tail _ (.tail _ m3))))))) (m4 := (.tail _ (.tail _ (.tail _ (.tail _ (.tail _ (.tail _ m4))))))) (m5 := (.tail _ (.tail _ (.tail _ (.tail _ (.tail _ (.head _))))))) (hi := hi) (hx := ⟨hx0, hx1, hx2⟩) (ha := ha) (hbb := hbb) (hc := hc) (hrc := hrc) (hdp := hdp) (hun := hun) (hE := hE) (hret := fun h4 tk4 m4' F4 c1 c2 N4 => ?_)
  exact hret h4 tk4 m4' oc1 _ F4 c1 c2 hcv1 (news_sub3 (.tail _ (.tail _ (.tail _ (.tail _ (.head _))))) (.tail _ (.tail _ (.tail _ (.tail _ (.tail _ (.head _)))))) (.tail _ (.tail _ (.tail _ (.head _)))) (fun x hx => (.tail _ (.tail _ (.tail _ (.tail _ (.tail _ (.tail _ hx))))))) N4)
end
end Mine
end
section
set_option maxRecDepth 100000
namespace Mine
def rchd (d : D3) : Int := rch d.1 d.2.1 d.2.2
def all3 : List Int := [0, 1, 2]
def all27 : List D3 := all3.flatMap fun x => all3.flatMap fun y => all3.map fun z => (x, y, z)
theorem mem_all3 {x : Int} (h : 0 ≤ x ∧ x ≤ 2) : x ∈ all3 := by
  rcases (by omega : x = 0 ∨ x = 1 ∨ x = 2) with rfl | rfl | rfl <;> decide
theorem mem_all27 {d : D3} (h : In3 d) : d ∈ all27 := by
  obtain ⟨x, y, z⟩ := d
  refine List.mem_flatMap.mpr ⟨x, mem_all3 h.1, List.mem_flatMap.mpr ⟨y, mem_all3 h.2.1, List.mem_map.mpr ⟨z, mem_all3 h.2.2, rfl⟩⟩⟩
theorem reach_le : ∀ f ∈ all27, ∀ y ∈ all27, rchd (thn f y) ≤ rchd f ∧ rchd (thn f y) ≤ rchd y := by decide +kernel
/-- the four kinds of a deed of three places -/
theorem kinds : ∀ f ∈ all27, (1 ≤ rchd f ∧ rchd f ≤ 3) ∧ (thn f f = f ∨
    (thn f f ≠ f ∧ thn (thn f f) f = f ∧ thn (thn f f) (thn f f) = thn f f ∧ rchd (thn f f) = rchd f) ∨
    (thn f f ≠ f ∧ thn (thn f f) f ≠ f ∧ thn (thn f f) f ≠ thn f f ∧ thn (thn (thn f f) f) f = f ∧ thn (thn f f) (thn f f) = f ∧ thn (thn (thn f f) f) (thn (thn f f) f) = thn (thn f f) f ∧ rchd f = 3 ∧ rchd (thn f f) = 3 ∧ rchd (thn (thn f f) f) = 3) ∨
    (thn f f ≠ f ∧ thn (thn f f) f = thn f f ∧ thn (thn f f) (thn f f) = thn f f ∧ rchd f = 2 ∧ rchd (thn f f) = 1)) := by decide +kernel
abbrev dat3 (d : D3) : Dat := Dat.tuple [Dat.int d.1, Dat.int d.2.1, Dat.int d.2.2]
theorem dat3_inj {d e : D3} (h : dat3 d = dat3 e) : d = e := by
  obtain ⟨x, y, z⟩ := d
  obtain ⟨a, b, c⟩ := e
  simpa [dat3] using h
theorem dat3_ne {d e : D3} (h : d ≠ e) : dat3 d ≠ dat3 e := fun q => h (dat3_inj q)
theorem Made.mem {X Y : D3} {ns : List Int} {ds : List D3} (M : Made X Y ns ds) {d : D3} (h : d ∈ ds) : num d ∈ ns := M.perm.mem_iff.mpr (List.mem_map_of_mem h)
theorem Made.deed {X Y : D3} {ns : List Int} {ds : List D3} (M : Made X Y ns ds) {n : Int} (h : n ∈ ns) : ∃ x0 x1 x2 : Int, (x0, x1, x2) ∈ ds ∧ In3 (x0, x1, x2) ∧ n % 3 = x0 ∧ n / 3 % 3 = x1 ∧ n / 9 % 3 = x2 := by
  obtain ⟨⟨x0, x1, x2⟩, hm, e⟩ := List.mem_map.mp (M.perm.mem_iff.mp h)
  have hi := M.in3 _ hm
  refine ⟨x0, x1, x2, hm, hi, ?_⟩
  obtain ⟨h0, h1, h2⟩ := hi
  simp only [num] at e h0 h1 h2
  omega
theorem Made.len {X Y : D3} {ns : List Int} {ds : List D3} (M : Made X Y ns ds) : ns.length ≤ 27 := srt_short M.srt M.nodup M.nums
end Mine
end
example : True := by
  w_top off
  trivial
section
namespace Mine
example : True := by
  k_with_none
  k_with "k_mem" => first | with_reducible assumption | with_reducible exact memI (by with_reducible assumption) | fail "no member"
  k_with "k_lt" => skip
  k_with "k_ne" => (refine neN ?_; (try dsimp only); first | exact AllNe.off (by with_reducible assumption) (_, _) (by k_mem) | exact Ne.symm (AllNe.off (by with_reducible assumption) (_, _) (by k_mem)) | exact lt_ne (by with_reducible assumption) (_, _) (by k_mem) | exact Ne.symm (lt_ne (by with_reducible assumption) (_, _) (by k_mem)) | exact off_I (by with_reducible assumption) (_, _) (by k_mem) | exact Ne.symm (off_I (by with_reducible assumption) (_, _) (by k_mem)) | exact off_C (by with_reducible assumption) (_, _) (by k_mem) | exact Ne.symm (off_C (by with_reducible assumption) (_, _) (by k_mem)) | exact off_D (by with_reducible assumption) (_, _) (by k_mem) | exact Ne.symm (off_D (by with_reducible assumption) (_, _) (by k_mem)) | exact off1_mem (by with_reducible assumption) (_, _) (by k_mem) | exact Ne.symm (off1_mem (by with_reducible assumption) (_, _) (by k_mem)) | omega)
  k_with "k_all" => first | exact lt_ne (by with_reducible assumption) | exact AllNe.off (by with_reducible assumption) | exact off_I (by with_reducible assumption) | exact off_C (by with_reducible assumption) | exact off_D (by with_reducible assumption) | exact off1_mem (by with_reducible assumption) | exact List.forall_mem_nil _ | (refine' List.forall_mem_cons.mpr ⟨?Za, ?Zb⟩; (case Za => k_ne); (case Zb => k_all)) | (intro p9 hp9; exact lt_ne (by with_reducible assumption) p9 (by k_mem)) | (intro p9 hp9; exact AllNe.off (by with_reducible assumption) p9 (by k_mem)) | (intro p9 hp9; exact off1_mem (by with_reducible assumption) p9 (by k_mem)) | fail "k_all"
  k_with "CompRestT" => (with_unfolding_all first | (refine LCt.CompRestT.succ ?_; intro v' I' oI' C' oC' D' m' h' tk' E' hv' hC' hx' F' N' off' ne'; (first | lcg_open hv' | (obtain ⟨t9', hv9'⟩ := hv'; subst hv9'))) | refine LCt.CompRestT.zero ?_)
  k_with "CompRest" => (with_unfolding_all first | (refine LCg.CompRest.succ ?_; intro v' I' oI' C' oC' D' m' h' tk' E' hv' hC' hx' F' N' off' ne'; (first | lcg_open hv' | (obtain ⟨t9', hv9'⟩ := hv'; subst hv9'))) | refine LCg.CompRest.zero ?_)
  k_with "FinE" => ((unfold LCg.FinE); intro D' h' tk' F' N' o1'; (try simp only [List.nil_append, List.cons_append] at N'); (try dsimp only); (repeat (rename LCg.Off3 _ _ _ _ => zz; clear zz)))
  k_with "FinA" => ((unfold LCg.FinA); intro D' h' tk' F' N' o1'; (try simp only [List.nil_append, List.cons_append] at N'); (try dsimp only); (repeat (rename LCg.Off3 _ _ _ _ => zz; clear zz)))
  k_with "CompEnd" => k_dflt (first | (refine' CompEnd_keep ?ZF ?ZN ?Zoff ?ZhI ?ZhC ?ZhD ?Zsrc ?_; (case ZF => k_asm); (case ZN => with_reducible assumption); (case Zoff => with_reducible assumption); (case ZhI => k_ne); (case ZhC => k_ne); (case ZhD => k_ne); (case Zsrc => lcg_src)) | (refine' CompEnd_same ?ZF ?ZN ?Zoff ?Zsrc ?_; (case ZF => k_asm); (case ZN => with_reducible assumption); (case Zoff => with_reducible assumption); (case Zsrc => lcg_src)) | (refine' CompEnd_drop ?ZF ?ZN ?Zoff ?Zsrc ?_; (case ZF => k_asm); (case ZN => with_reducible assumption); (case Zoff => with_reducible assumption); (case Zsrc => lcg_src)))
  k_with "exec While BoolOp" => (k_here; k_dflt (refine whl_start 100 ?_))
  k_with "WhlRest" => (k_dflt (refine' whl_turn ?ZhE ?_; (case ZhE => assumption)); (try k_sweep))
  k_with "compareOp Eq int int" => (k_here; (with_reducible show wpAny _ _ (compareOp CmpOp.Eq (Value.int _ _) (Value.int (Nat.cast (List.length _)) _)) _ _ _); k_dflt (refine' eq_intF ?Zq ?_; (case Zq => omega)))
  k_with "compareOp NotEq int int" => (k_here; (with_reducible show wpAny _ _ (compareOp CmpOp.NotEq (Value.int _ _) (Value.int _ _)) _ _ _); k_dflt (refine' ne_intF ?Zq ?_; (case Zq => first | with_reducible assumption | exact sel_is (by with_reducible assumption) | exact congrArg Nat.cast (dist_1 _) | exact congrArg Nat.cast (dist_2 _) | exact congrArg Nat.cast (dist_3 _) | exact rfl)))
  k_with "compareOp NotEq ref ref" => (k_here; (with_reducible show wpAny _ _ (compareOp CmpOp.NotEq (Value.ref _) (Value.ref _)) _ _ _); k_dflt (first | (refine' ne_listF ?ZN ?Za ?Zb ?Zc ?Zd ?Ze ?Zf ?Zg ?Zi ?Zj ?Zk ?Zu ?Zq ?_; (case ZN => k_asm); (case Za => k_mem); (case Zb => rfl); (case Zc => rfl); (case Ze => k_mem); (case Zf => rfl); (case Zg => rfl); (case Zd => kqd_all); (case Zi => exact datAll_ints (by with_reducible assumption)); (case Zj => exact okL rfl); (case Zk => exact ints_ok); (case Zu => ke_room); (case Zq => rfl)) | (refine' ne_listF ?ZN ?Za ?Zb ?Zc ?Zd ?Ze ?Zf ?Zg ?Zi ?Zj ?Zk ?Zu ?Zq ?_; (case ZN => k_asm); (case Za => k_mem); (case Zb => rfl); (case Zc => rfl); (case Ze => k_mem); (case Zf => rfl); (case Zg => rfl); (case Zd => kqd_all); (case Zi => kqd_all); (case Zj => exact okL rfl); (case Zk => exact okL rfl); (case Zu => ke_room); (case Zq => rfl))))
  k_with "call builtin:sorted" => (k_here; (with_reducible show wpAny _ _ (call (Value.builtin _) [Value.ref _]) _ _ _); k_dflt (refine' sorted_rev ?ZF ?ZN ?Zm ?Zi ?Zl ?Zp ?_; (case ZF => k_asm); (case ZN => k_asm); (case Zm => k_mem); (case Zi => (repeat (first | exact IntsAre.nil | apply IntsAre.cons))); (case Zl => exact Nat.le_of_ble_eq_true rfl); (case Zp => simp)); k_dflt (intro D' v' c' h' F' N' l1 i'; (try k_sweep)))
  k_with "execs cons" => (k_here; (with_reducible show wpAny _ _ (execs (Stmt.For (Expr.Name _ _) (Expr.Name (Str.ofString "deeds") _) _ _ _ :: _) _) _ _ _); k_dflt (refine hold_of ?_))
  k_with "eval ListComp" => (k_here; (with_reducible show wpAny _ _ (eval (Expr.ListComp _ [⟨_, Expr.Subscript (Expr.Name (Str.ofString "still") _) _ _, _, _⟩] _ _) _) _ _ _); k_dflt (refine lc_tupT (F₀ := by k_asm) (by with_unfolding_all rfl) (by decide) (by rfl) (by decide) (by rfl) ?_))
  k_with "SrcTT" => (k_here; k_dflt (refine SrcTT.ledger (by rfl) (by k_asm) (by k_asm) (by k_mem) (by first | size_fits | exact Nat.le_of_ble_eq_true rfl) ?_; intro g'; lct_lit))
  k_with "eval ListComp" => (k_here; (with_reducible show wpAny _ _ (eval (Expr.ListComp _ [⟨_, Expr.Name (Str.ofString "deed") _, _, _⟩] _ _) _) _ _ _); k_dflt (refine lc_tupT (F₀ := by k_asm) (by with_unfolding_all rfl) (by decide) (by rfl) (by decide) (by rfl) ?_))
  k_with "ite" => (k_here; k_dflt (refine' ite_any ?Zih ?_; (case Zih => assumption)))
  k_with "execs cons" => (k_here; (with_reducible show wpAny _ _ (execs (Stmt.Assign [Expr.Tuple (Expr.Name (Str.ofString "powers") _ :: _) _ _] _ _ :: _) _) _ _ _); k_dflt (refine hold_of ?_))
  k_with "call ref" => (k_here; (with_reducible show wpAny _ _ (call (Value.ref 88) _) _ _ _); k_dflt (refine hold_of ?_))
  trivial
section
variable {prog : Program} {w : World} {mg mb : Str → Option Value} {mean : ExcName → Option Value} {loose : List Str}
  {dp un : Nat} {gd : Option (List Code)} {cn : Str} {cs : Scope} {L a : Addr} {ccd : Value} {cl : List (Str × Addr)} {outer : List Env} {A₀ : Around} {base h₀ : Heap} {m : Str → Option Value} {s : Shared} {Q E : Value → Shared → Prop}
set_option maxRecDepth 100000 in
set_option maxHeartbeats 20000000 in
theorem c_turn {body : List Stmt} {sc : Scope} {I o dl d0 d1 k cs0 nn c1 c2 L fa un dp : Nat} {oI oc oc1 oc2 : Obj} {cv0 : Option Value} {vs : List Value} {ns : List Int} {ds : List D3} {gd : Option (List Code)} {ccd : Value} {outer : List Env} {Q : Flow → Shared → Prop} {E : Value → Shared → Prop}
    {a0 a1 a2 b0 b1 b2 n : Int} {ta0 ta1 ta2 tb0 tb1 tb2 tn : Tok}
    (hb : body = forB (fnB ((hd.heap_39 w.params).lookup 110)) 4) (hsc : sc = fnS ((hd.heap_39 w.params).lookup 110))
    (B : Below A₀ base outer h₀)
    (F : Fr h₀ L s.heap (fun y => if y = Str.ofString "number" then some (.int n tn) else if y = Str.ofString "order" then some (.ref o) else if y = Str.ofString "deeds" then some (.ref dl) else m y))
    (X : (hd.heap_39 w.params).In h₀) (T : Top topProg loose mean mg mb h₀) (N : News h₀ L s.heap ((I, oI) :: (o, W.listOf vs.toArray nn) :: (dl, W.listOf #[.ref d0, .ref d1] k) :: (d0, tupO [.int a0 ta0, .int a1 ta1, .int a2 ta2]) :: (d1, tupO [.int b0 tb0, .int b1 tb1, .int b2 tb2]) :: (cs0, oc) :: ML c1 c2 oc1 oc2))
    (C1 : CodeHd base 41 37) (C2 : CodeHd base 34 30) (M : MF c1 c2 oc1 oc2) (hcv : oc.data = .cell cv0)
    (hi : IntsAre vs ns) (hM : Made (a0, a1, a2) (b0, b1, b2) ns ds) (hn : n ∈ ns)
    (n1 : AllNe cs0 ((I, oI) :: (o, W.listOf vs.toArray nn) :: (dl, W.listOf #[.ref d0, .ref d1] k) :: (d0, tupO [.int a0 ta0, .int a1 ta1, .int a2 ta2]) :: (d1, tupO [.int b0 tb0, .int b1 tb1, .int b2 tb2]) :: ML c1 c2 oc1 oc2))
    (n2 : AllNe 37 ((I, oI) :: (o, W.listOf vs.toArray nn) :: (dl, W.listOf #[.ref d0, .ref d1] k) :: (d0, tupO [.int a0 ta0, .int a1 ta1, .int a2 ta2]) :: (d1, tupO [.int b0 tb0, .int b1 tb1, .int b2 tb2]) :: (cs0, oc) :: [])) (n3 : AllNe 30 ((I, oI) :: (o, W.listOf vs.toArray nn) :: (dl, W.listOf #[.ref d0, .ref d1] k) :: (d0, tupO [.int a0 ta0, .int a1 ta1, .int a2 ta2]) :: (d1, tupO [.int b0 tb0, .int b1 tb1, .int b2 tb2]) :: (cs0, oc) :: [])) (n4 : AllNe c1 ((I, oI) :: (o, W.listOf vs.toArray nn) :: (dl, W.listOf #[.ref d0, .ref d1] k) :: (d0, tupO [.int a0 ta0, .int a1 ta1, .int a2 ta2]) :: (d1, tupO [.int b0 tb0, .int b1 tb1, .int b2 tb2]) :: (cs0, oc) :: [])) (n5 : AllNe c2 ((I, oI) :: (o, W.listOf vs.toArray nn) :: (dl, W.listOf #[.ref d0, .ref d1] k) :: (d0, tupO [.int a0 ta0, .int a1 ta1, .int a2 ta2]) :: (d1, tupO [.int b0 tb0, .int b1 tb1, .int b2 tb2]) :: (cs0, oc) :: []))
    (hdp : dp + 44 < recursionLimit) (hun : un + 500 < cLine)
    (hE : PassesOwn (model prog w) (ktrTop dp un gd (Str.ofString "law") sc L fa ccd [(Str.ofString "still", cs0)] outer) (envX (Str.ofString "law") sc L fa ccd [(Str.ofString "still", cs0)]) E)
    (hret : ∀ h' tk' m' oc' v', Fr h₀ L h' m' → m' (Str.ofString "order") = some (.ref o) → m' (Str.ofString "deeds") = some (.ref dl) → oc'.data = .cell (some v') → News h₀ L h' ((I, oI) :: (o, W.listOf vs.toArray nn) :: (dl, W.listOf #[.ref d0, .ref d1] k) :: (d0, tupO [.int a0 ta0, .int a1 ta1, .int a2 ta2]) :: (d1, tupO [.int b0 tb0, .int b1 tb1, .int b2 tb2]) :: (cs0, oc') :: ML c1 c2 oc1 oc2) → Q .next { s with heap := h', toks := tk' }) :
    wpAny (model prog w) (ktrTop dp un gd (Str.ofString "law") sc L fa ccd [(Str.ofString "still", cs0)] outer) (execs body (envX (Str.ofString "law") sc L fa ccd [(Str.ofString "still", cs0)])) Q E s := by
  conv at hb => rhs; whnf
  conv at hsc => rhs; whnf
  subst hb hsc
  obtain ⟨x0, x1, x2, hf, hx3, hn0, hn1, hn2⟩ := hM.deed hn
  have hx3c : (0 ≤ x0 ∧ x0 ≤ 2) ∧ (0 ≤ x1 ∧ x1 ≤ 2) ∧ (0 ≤ x2 ∧ x2 ≤ 2) := hx3
  obtain ⟨hx0, hx1, hx2⟩ := hx3c
  obtain ⟨hg0, hg26⟩ := hM.nums n hn
  simp only [ML] at N n1
  have ml1 := M.l1
  have ml2 := M.l2
  have hk : (ScopeKind.function = ScopeKind.function) := rfl
  k_steps
  refine of_hold ?_
  k_dflt (refine' liftM (P := Pdeed _) ?N ?hall ?o1 ?o2 ?o3 ?o4 ?h ?_)
  case N => k_asm
  case hall => exact rfl
  case o1 => exact n2
  case o2 => exact n3
  case o3 => exact n4
  case o4 => exact n5
  case h => (intro N5; refine' deedM M ?g2 ?g3 ?g4 ?g5 ?g6 ?g7 ?g8 ?g9 ?ga ?gb ?gc N5; (case g2 => k_asm); (case g3 => k_asm); (case g4 => k_asm); (case g5 => k_asm); (case g6 => first | exact rfl | assumption); (case g7 => assumption); (case g8 => assumption); (case g9 => ktr_room); (case ga => ktr_units); (case gb => omega); (case gc => omega))
  intro r2 vs2 h2' tk2' F2 N2 o2 lt2 hp2
  replace o2 : AllNe r2 _ := o2
  simp only [dl4, List.dropLast] at o2
  simp only [dl4, List.dropLast, List.cons_append, List.nil_append, ML] at N2
  obtain ⟨t2, u2, v2, e2⟩ := hp2
  subst e2
  rw [hn0, hn1, hn2] at N2
  clear hn0 hn1 hn2
  (try k_sweep)
  k_steps
  refine of_hold ?_
  rename Fr _ _ _ _ => F4
  rename News _ _ _ _ => N4
  have F5 := fr_at4 (x1 := Str.ofString "deed") (x2 := Str.ofString "order") (x3 := Str.ofString "deeds") (x4 := Str.ofString "deeds") F4 rfl rfl rfl rfl
  have N5 := news_sub3 (a := (o, W.listOf vs.toArray nn)) (b := (r2, tupO [.int x0 t2, .int x1 u2, .int x2 v2])) (c := (cs0, oc)) (tail := [(I, oI), (dl, W.listOf #[.ref d0, .ref d1] k), (d0, tupO [.int a0 ta0, .int a1 ta1, .int a2 ta2]), (d1, tupO [.int b0 tb0, .int b1 tb1, .int b2 tb2]), (37, tabObj #[rawInt 47, rawInt 4, .ref c2]), (30, tabObj #[rawInt 32, rawInt 4, .ref c1]), (c1, oc1), (c2, oc2)]) (by k_mem) (by k_mem) (by k_mem) (by lcg_sub) N4
  have n9 : AllNe cs0 [(o, W.listOf vs.toArray nn), (r2, tupO [.int x0 t2, .int x1 u2, .int x2 v2]), (I, oI), (dl, W.listOf #[.ref d0, .ref d1] k), (d0, tupO [.int a0 ta0, .int a1 ta1, .int a2 ta2]), (d1, tupO [.int b0 tb0, .int b1 tb1, .int b2 tb2]), (37, tabObj #[rawInt 47, rawInt 4, .ref c2]), (30, tabObj #[rawInt 32, rawInt 4, .ref c1]), (c1, oc1), (c2, oc2)] := by
    refine allNe_off (List.forall_mem_cons.mpr ⟨by k_ne, List.forall_mem_cons.mpr ⟨by k_ne, fun p hp => n1.off p ?_⟩⟩)
    rcases List.mem_cons.mp hp with rfl | hp
    · exact .head _
    · exact .tail _ (.tail _ hp)
  clear n1 n2 n3 n4 n5 F4 N4 o2
  have hc : ∀ y, y = (a0, a1, a2) ∨ y = (b0, b1, b2) → num (thn (x0, x1, x2) y) ∈ ns := fun y hy => hM.mem (hM.clo _ _ hf (by rcases hy with rfl | rfl; exact hM.m0; exact hM.m1))
  have hrc : ∀ y : D3, In3 y → rch (thn (x0, x1, x2) y).1 (thn (x0, x1, x2) y).2.1 (thn (x0, x1, x2) y).2.2 ≤ rch x0 x1 x2 ∧ rch (thn (x0, x1, x2) y).1 (thn (x0, x1, x2) y).2.1 (thn (x0, x1, x2) y).2.2 ≤ rch y.1 y.2.1 y.2.2 := fun y hy => reach_le _ (mem_all27 hx3) _ (mem_all27 hy)
  obtain ⟨hb1, hkd⟩ := kinds _ (mem_all27 hx3)
  obtain ⟨⟨u0, u1, u2⟩, hu⟩ : ∃ u, thn (x0, x1, x2) (x0, x1, x2) = u := ⟨_, rfl⟩
  have hu3 : In3 (u0, u1, u2) := hu ▸ thn_in hx3 hx3
  have hud : (u0, u1, u2) ∈ ds := hu ▸ hM.clo _ _ hf hf
  rw [hu] at hkd
  rcases hkd with q1 | ⟨ne0, q2, q3, r1⟩ | ⟨ne0, ne1, ne2, q4, q5, q6, r1, r2, r3⟩ | ⟨ne0, q2, q3, r1, r2⟩
  · rw [q1] at hu
    have q1 := hu
    refine' c_kind1 (Txx0 := congrArg (fun d : D3 => d.1) q1) (Txx1 := congrArg (fun d : D3 => d.2.1) q1) (Txx2 := congrArg (fun d : D3 => d.2.2) q1) (hx0 := hx3.1) (hx1 := hx3.2.1) (hx2 := hx3.2.2) (hst := hM.mem hf) (hiy := .head _) (hrx := (rfl : _ = rchd (x0, x1, x2))) (hr1 := hb1) (hb := ?y1) (hsc := ?y2) (B := ?yB) (F := ?yF) (X := ?yX) (T := ?yT) (N := ?yN) (m2 := ?y3) (m3 := ?y4) (m4 := ?y5) (hcv := hcv) (n1 := ?y6) (hi := hi) (hS := hM.srt) (hlen := hM.len) (ha := hM.in3 _ hM.m0) (hbb := hM.in3 _ hM.m1) (hc := hc) (hrc := hrc) (hdp := hdp) (hun := hun) (hE := hE) (hret := ?yr)
    case y1 => rfl
    case y2 => rfl
    case yB => k_asm
    case yF => exact F5
    case yX => k_asm
    case yT => k_asm
    case yN => exact N5
    case y3 => exact .tail _ (.head _)
    case y4 => exact .tail _ (.tail _ (.head _))
    case y5 => exact .tail _ (.tail _ (.tail _ (.head _)))
    case y6 => exact n9
    case yr =>
      intro h9 tk9 m9 oc9 v9 F9 o1 o2 hv9 N9
      exact hret _ _ _ _ _ F9 o1 o2 hv9 (news_ground (by lcg_sub) N9)
  · refine' c_kind2 (Txx0 := congrArg (fun d : D3 => d.1) hu) (Txx1 := congrArg (fun d : D3 => d.2.1) hu) (Txx2 := congrArg (fun d : D3 => d.2.2) hu) (Tux0 := congrArg (fun d : D3 => d.1) q2) (Tux1 := congrArg (fun d : D3 => d.2.1) q2) (Tux2 := congrArg (fun d : D3 => d.2.2) q2) (Tuu0 := congrArg (fun d : D3 => d.1) q3) (Tuu1 := congrArg (fun d : D3 => d.2.1) q3) (Tuu2 := congrArg (fun d : D3 => d.2.2) q3) (hx0 := hx3.1) (hx1 := hx3.2.1) (hx2 := hx3.2.2) (hu0 := hu3.1) (hu1 := hu3.2.1) (hu2 := hu3.2.2) (hst := hM.mem hud) (hin0 := fun q => dat3_ne ne0 (List.mem_singleton.mp q)) (hiy := .head _) (hne0 := dat3_ne ne0) (hne1 := dat3_ne (Ne.symm ne0)) (hrx := (rfl : _ = rchd (x0, x1, x2))) (hru := r1) (hr1 := hb1) (hb := ?y1) (hsc := ?y2) (B := ?yB) (F := ?yF) (X := ?yX) (T := ?yT) (N := ?yN) (m2 := ?y3) (m3 := ?y4) (m4 := ?y5) (hcv := hcv) (n1 := ?y6) (hi := hi) (hS := hM.srt) (hlen := hM.len) (ha := hM.in3 _ hM.m0) (hbb := hM.in3 _ hM.m1) (hc := hc) (hrc := hrc) (hdp := hdp) (hun := hun) (hE := hE) (hret := ?yr)
    case y1 => rfl
    case y2 => rfl
    case yB => k_asm
    case yF => exact F5
    case yX => k_asm
    case yT => k_asm
    case yN => exact N5
    case y3 => exact .tail _ (.head _)
    case y4 => exact .tail _ (.tail _ (.head _))
    case y5 => exact .tail _ (.tail _ (.tail _ (.head _)))
    case y6 => exact n9
    case yr =>
      intro h9 tk9 m9 oc9 v9 F9 o1 o2 hv9 N9
      exact hret _ _ _ _ _ F9 o1 o2 hv9 (news_ground (by lcg_sub) N9)
  · obtain ⟨⟨v0, v1, v2⟩, hv⟩ : ∃ v, thn (u0, u1, u2) (x0, x1, x2) = v := ⟨_, rfl⟩
    have hv3 : In3 (v0, v1, v2) := hv ▸ thn_in hu3 hx3
    have hvd : (v0, v1, v2) ∈ ds := hv ▸ hM.clo _ _ hud hf
    rw [hv] at ne1 ne2 q4 q6 r3
    refine' c_kind3 (Txx0 := congrArg (fun d : D3 => d.1) hu) (Txx1 := congrArg (fun d : D3 => d.2.1) hu) (Txx2 := congrArg (fun d : D3 => d.2.2) hu) (Tux0 := congrArg (fun d : D3 => d.1) hv) (Tux1 := congrArg (fun d : D3 => d.2.1) hv) (Tux2 := congrArg (fun d : D3 => d.2.2) hv) (Tvx0 := congrArg (fun d : D3 => d.1) q4) (Tvx1 := congrArg (fun d : D3 => d.2.1) q4) (Tvx2 := congrArg (fun d : D3 => d.2.2) q4) (Tuu0 := congrArg (fun d : D3 => d.1) q5) (Tuu1 := congrArg (fun d : D3 => d.2.1) q5) (Tuu2 := congrArg (fun d : D3 => d.2.2) q5) (Tvv0 := congrArg (fun d : D3 => d.1) q6) (Tvv1 := congrArg (fun d : D3 => d.2.1) q6) (Tvv2 := congrArg (fun d : D3 => d.2.2) q6) (hx0 := hx3.1) (hx1 := hx3.2.1) (hx2 := hx3.2.2) (hu0 := hu3.1) (hu1 := hu3.2.1) (hu2 := hu3.2.2) (hv0 := hv3.1) (hv1 := hv3.2.1) (hv2 := hv3.2.2) (hst := hM.mem hvd) (hin0 := fun q => dat3_ne ne0 (List.mem_singleton.mp q)) (hin1 := fun q => (List.mem_cons.mp q).elim (fun e => dat3_ne ne1 e) fun q => dat3_ne ne2 (List.mem_singleton.mp q)) (hiy := .head _) (hne0 := dat3_ne ne0) (hne1 := dat3_ne (Ne.symm ne0)) (hne2 := dat3_ne (Ne.symm ne1)) (hne3 := dat3_ne (Ne.symm ne2)) (hrx := r1) (hru := r2) (hrv := r3) (hb := ?y1) (hsc := ?y2) (B := ?yB) (F := ?yF) (X := ?yX) (T := ?yT) (N := ?yN) (m2 := ?y3) (m3 := ?y4) (m4 := ?y5) (hcv := hcv) (n1 := ?y6) (hi := hi) (hS := hM.srt) (hlen := hM.len) (ha := hM.in3 _ hM.m0) (hbb := hM.in3 _ hM.m1) (hc := hc) (hrc := hrc) (hdp := hdp) (hun := hun) (hE := hE) (hret := ?yr)
    case y1 => rfl
    case y2 => rfl
    case yB => k_asm
    case yF => exact F5
    case yX => k_asm
    case yT => k_asm
    case yN => exact N5
    case y3 => exact .tail _ (.head _)
    case y4 => exact .tail _ (.tail _ (.head _))
    case y5 => exact .tail _ (.tail _ (.tail _ (.head _)))
    case y6 => exact n9
    case yr =>
      intro h9 tk9 m9 oc9 v9 F9 o1 o2 hv9 N9
      exact hret _ _ _ _ _ F9 o1 o2 hv9 (news_ground (by lcg_sub) N9)
  · refine' c_kind4 (Txx0 := congrArg (fun d : D3 => d.1) hu) (Txx1 := congrArg (fun d : D3 => d.2.1) hu) (Txx2 := congrArg (fun d : D3 => d.2.2) hu) (Tux0 := congrArg (fun d : D3 => d.1) q2) (Tux1 := congrArg (fun d : D3 => d.2.1) q2) (Tux2 := congrArg (fun d : D3 => d.2.2) q2) (Tuu0 := congrArg (fun d : D3 => d.1) q3) (Tuu1 := congrArg (fun d : D3 => d.2.1) q3) (Tuu2 := congrArg (fun d : D3 => d.2.2) q3) (hx0 := hx3.1) (hx1 := hx3.2.1) (hx2 := hx3.2.2) (hu0 := hu3.1) (hu1 := hu3.2.1) (hu2 := hu3.2.2) (hst := hM.mem hud) (hin0 := fun q => dat3_ne ne0 (List.mem_singleton.mp q)) (hiy := .tail _ (.head _)) (hne0 := dat3_ne ne0) (hne1 := dat3_ne (Ne.symm ne0)) (hrx := r1) (hru := r2) (hb := ?y1) (hsc := ?y2) (B := ?yB) (F := ?yF) (X := ?yX) (T := ?yT) (N := ?yN) (m2 := ?y3) (m3 := ?y4) (m4 := ?y5) (hcv := hcv) (n1 := ?y6) (hi := hi) (hS := hM.srt) (hlen := hM.len) (ha := hM.in3 _ hM.m0) (hbb := hM.in3 _ hM.m1) (hc := hc) (hrc := hrc) (hdp := hdp) (hun := hun) (hE := hE) (hret := ?yr)
    case y1 => rfl
    case y2 => rfl
    case yB => k_asm
    case yF => exact F5
    case yX => k_asm
    case yT => k_asm
    case yN => exact N5
    case y3 => exact .tail _ (.head _)
    case y4 => exact .tail _ (.tail _ (.head _))
    case y5 => exact .tail _ (.tail _ (.tail _ (.head _)))
    case y6 => exact n9
    case yr =>
      intro h9 tk9 m9 oc9 v9 F9 o1 o2 hv9 N9
      exact hret _ _ _ _ _ F9 o1 o2 hv9 (news_ground (by lcg_sub) N9)
end
end Mine
end
section
set_option maxRecDepth 100000
namespace Mine
theorem srt_pairwise {ns : List Int} (S : Srt ns) : ns.Pairwise (fun a b => a ≤ b) := by
  refine List.pairwise_iff_getElem.mpr fun i j hi hj hij => ?_
  have := S i j (by omega) hj
  rwa [List.getD_eq_getElem?_getD, List.getD_eq_getElem?_getD, List.getElem?_eq_getElem hi, List.getElem?_eq_getElem hj] at this
theorem ints_at {vs : List Value} {ns : List Int} (h : IntsAre vs ns) : ∀ {i : Nat} {v : Value}, vs[i]? = some v → ∃ n t, v = .int n t ∧ n ∈ ns := by
  induction h with
  | nil => intro i v h; simp at h
  | cons n t _ ih =>
    intro i v h
    cases i with
    | zero => simp at h; exact ⟨n, t, h.symm, .head _⟩
    | succ i =>
      obtain ⟨n', t', e, hm⟩ := ih (by simpa using h)
      exact ⟨n', t', e, .tail _ hm⟩
section
variable {prog : Program} {w : World} {A : Around} {E : Value → Shared → Prop} {s : Shared} {h₀ : Heap} {L : Addr} {m : Str → Option Value} {env : Env}
theorem compT_ind {ct elt : Expr} {x : Str} {scope : Scope} {cl : List (Str × Addr)} {S : List (Addr × Obj) → Prop} {PP : Nat → Value → Prop} {Fin : List Value → List (Addr × Obj) → Prop} {n : Nat} (P : Nat → List (Addr × Obj) → Prop)
    (step : ∀ k i news, P i news → (∀ news', P (i + 1) news' → LCt.CompRestT prog w A h₀ L m env ct elt x scope cl s S PP Fin k (i + 1) [] news') → LCt.CompRestT prog w A h₀ L m env ct elt x scope cl s S PP Fin (k + 1) i [] news)
    (fin : ∀ news, P n news → Fin [] news) : ∀ k i news, k + i = n → P i news → LCt.CompRestT prog w A h₀ L m env ct elt x scope cl s S PP Fin k i [] news
  | 0, i, news, h, hP => LCt.CompRestT.zero (fin news (by rw [← h, Nat.zero_add]; exact hP))
  | k + 1, i, news, h, hP => step k i news hP fun news' hP' => compT_ind P step fin k (i + 1) news' (by omega) hP'
theorem sorted_id {l c₀ : Nat} {news : List (Addr × Obj)} {vs : List Value} {ns : List Int} {Q : Value → Shared → Prop} (F : Fr h₀ L s.heap m) (N : News h₀ L s.heap news) (hm : (l, W.listOf vs.toArray c₀) ∈ news) (hi : IntsAre vs ns) (h64 : ns.length < 64) (hs : Srt ns)
    (h : ∀ D vs' c h', Fr h₀ L h' m → News h₀ L h' ((D, W.listOf vs'.toArray c) :: news) → (∀ q ∈ news, q.1 < D) → IntsAre vs' ns → Q (.ref D) { s with heap := h' }) :
    wpAny (model prog w) A (call (.builtin "sorted") [.ref l]) Q E s := by
  refine kso_sorted F N ⟨_, (N _ hm).1, rfl, c₀, rfl⟩ hi h64 fun D vs' ns' c h' F' N' hl hi' _ hp ho _ => ?_
  have e : ns' = ns := List.Perm.eq_of_pairwise (le := fun a b => a ≤ b) (fun a b _ _ h1 h2 => Int.le_antisymm h1 h2) ho (srt_pairwise hs) hp
  subst e
  exact h D vs' c h' F' N' hl hi'
end
end Mine
end
example : True := by
  w_top off
  trivial
section
namespace Mine
example : True := by
  k_with_none
  k_with "k_mem" => first | with_reducible assumption | with_reducible exact memI (by with_reducible assumption) | fail "no member"
  k_with "k_lt" => skip
  k_with "k_ne" => (refine neN ?_; (try dsimp only); first | exact AllNe.off (by with_reducible assumption) (_, _) (by k_mem) | exact Ne.symm (AllNe.off (by with_reducible assumption) (_, _) (by k_mem)) | exact lt_ne (by with_reducible assumption) (_, _) (by k_mem) | exact Ne.symm (lt_ne (by with_reducible assumption) (_, _) (by k_mem)) | exact off_I (by with_reducible assumption) (_, _) (by k_mem) | exact Ne.symm (off_I (by with_reducible assumption) (_, _) (by k_mem)) | exact off_C (by with_reducible assumption) (_, _) (by k_mem) | exact Ne.symm (off_C (by with_reducible assumption) (_, _) (by k_mem)) | exact off_D (by with_reducible assumption) (_, _) (by k_mem) | exact Ne.symm (off_D (by with_reducible assumption) (_, _) (by k_mem)) | exact off1_mem (by with_reducible assumption) (_, _) (by k_mem) | exact Ne.symm (off1_mem (by with_reducible assumption) (_, _) (by k_mem)) | omega)
  k_with "k_all" => first | exact lt_ne (by with_reducible assumption) | exact AllNe.off (by with_reducible assumption) | exact off_I (by with_reducible assumption) | exact off_C (by with_reducible assumption) | exact off_D (by with_reducible assumption) | exact off1_mem (by with_reducible assumption) | exact List.forall_mem_nil _ | (refine' List.forall_mem_cons.mpr ⟨?Za, ?Zb⟩; (case Za => k_ne); (case Zb => k_all)) | (intro p9 hp9; exact lt_ne (by with_reducible assumption) p9 (by k_mem)) | (intro p9 hp9; exact AllNe.off (by with_reducible assumption) p9 (by k_mem)) | (intro p9 hp9; exact off1_mem (by with_reducible assumption) p9 (by k_mem)) | fail "k_all"
  k_with "CompRestT" => (with_unfolding_all first | (refine LCt.CompRestT.succ ?_; intro v' I' oI' C' oC' D' m' h' tk' E' hv' hC' hx' F' N' off' ne'; (first | lcg_open hv' | (obtain ⟨t9', hv9'⟩ := hv'; subst hv9'))) | refine LCt.CompRestT.zero ?_)
  k_with "CompRest" => (with_unfolding_all first | (refine LCg.CompRest.succ ?_; intro v' I' oI' C' oC' D' m' h' tk' E' hv' hC' hx' F' N' off' ne'; (first | lcg_open hv' | (obtain ⟨t9', hv9'⟩ := hv'; subst hv9'))) | refine LCg.CompRest.zero ?_)
  k_with "FinE" => ((unfold LCg.FinE); intro D' h' tk' F' N' o1'; (try simp only [List.nil_append, List.cons_append] at N'); (try dsimp only); (repeat (rename LCg.Off3 _ _ _ _ => zz; clear zz)))
  k_with "FinA" => ((unfold LCg.FinA); intro D' h' tk' F' N' o1'; (try simp only [List.nil_append, List.cons_append] at N'); (try dsimp only); (repeat (rename LCg.Off3 _ _ _ _ => zz; clear zz)))
  k_with "CompEnd" => k_dflt (first | (refine' CompEnd_keep ?ZF ?ZN ?Zoff ?ZhI ?ZhC ?ZhD ?Zsrc ?_; (case ZF => k_asm); (case ZN => with_reducible assumption); (case Zoff => with_reducible assumption); (case ZhI => k_ne); (case ZhC => k_ne); (case ZhD => k_ne); (case Zsrc => lcg_src)) | (refine' CompEnd_same ?ZF ?ZN ?Zoff ?Zsrc ?_; (case ZF => k_asm); (case ZN => with_reducible assumption); (case Zoff => with_reducible assumption); (case Zsrc => lcg_src)) | (refine' CompEnd_drop ?ZF ?ZN ?Zoff ?Zsrc ?_; (case ZF => k_asm); (case ZN => with_reducible assumption); (case Zoff => with_reducible assumption); (case Zsrc => lcg_src)))
  k_with "exec While BoolOp" => (k_here; k_dflt (refine whl_start 100 ?_))
  k_with "WhlRest" => (k_dflt (refine' whl_turn ?ZhE ?_; (case ZhE => assumption)); (try k_sweep))
  k_with "compareOp Eq int int" => (k_here; (with_reducible show wpAny _ _ (compareOp CmpOp.Eq (Value.int _ _) (Value.int (Nat.cast (List.length _)) _)) _ _ _); k_dflt (refine' eq_intF ?Zq ?_; (case Zq => omega)))
  k_with "compareOp NotEq int int" => (k_here; (with_reducible show wpAny _ _ (compareOp CmpOp.NotEq (Value.int _ _) (Value.int _ _)) _ _ _); k_dflt (refine' ne_intF ?Zq ?_; (case Zq => first | with_reducible assumption | exact sel_is (by with_reducible assumption) | exact congrArg Nat.cast (dist_1 _) | exact congrArg Nat.cast (dist_2 _) | exact congrArg Nat.cast (dist_3 _) | exact rfl)))
  k_with "compareOp NotEq ref ref" => (k_here; (with_reducible show wpAny _ _ (compareOp CmpOp.NotEq (Value.ref _) (Value.ref _)) _ _ _); k_dflt (first | (refine' ne_listF ?ZN ?Za ?Zb ?Zc ?Zd ?Ze ?Zf ?Zg ?Zi ?Zj ?Zk ?Zu ?Zq ?_; (case ZN => k_asm); (case Za => k_mem); (case Zb => rfl); (case Zc => rfl); (case Ze => k_mem); (case Zf => rfl); (case Zg => rfl); (case Zd => kqd_all); (case Zi => exact datAll_ints (by with_reducible assumption)); (case Zj => exact okL rfl); (case Zk => exact ints_ok); (case Zu => ke_room); (case Zq => rfl)) | (refine' ne_listF ?ZN ?Za ?Zb ?Zc ?Zd ?Ze ?Zf ?Zg ?Zi ?Zj ?Zk ?Zu ?Zq ?_; (case ZN => k_asm); (case Za => k_mem); (case Zb => rfl); (case Zc => rfl); (case Ze => k_mem); (case Zf => rfl); (case Zg => rfl); (case Zd => kqd_all); (case Zi => kqd_all); (case Zj => exact okL rfl); (case Zk => exact okL rfl); (case Zu => ke_room); (case Zq => rfl))))
  k_with "call builtin:sorted" => (k_here; (with_reducible show wpAny _ _ (call (Value.builtin _) [Value.ref _]) _ _ _); k_dflt (refine' sorted_rev ?ZF ?ZN ?Zm ?Zi ?Zl ?Zp ?_; (case ZF => k_asm); (case ZN => k_asm); (case Zm => k_mem); (case Zi => (repeat (first | exact IntsAre.nil | apply IntsAre.cons))); (case Zl => exact Nat.le_of_ble_eq_true rfl); (case Zp => simp)); k_dflt (intro D' v' c' h' F' N' l1 i'; (try k_sweep)))
  k_with "execs cons" => (k_here; (with_reducible show wpAny _ _ (execs (Stmt.For (Expr.Name _ _) (Expr.Name (Str.ofString "deeds") _) _ _ _ :: _) _) _ _ _); k_dflt (refine hold_of ?_))
  k_with "eval ListComp" => (k_here; (with_reducible show wpAny _ _ (eval (Expr.ListComp _ [⟨_, Expr.Subscript (Expr.Name (Str.ofString "still") _) _ _, _, _⟩] _ _) _) _ _ _); k_dflt (refine lc_tupT (F₀ := by k_asm) (by with_unfolding_all rfl) (by decide) (by rfl) (by decide) (by rfl) ?_))
  k_with "SrcTT" => (k_here; k_dflt (refine SrcTT.ledger (by rfl) (by k_asm) (by k_asm) (by k_mem) (by first | size_fits | exact Nat.le_of_ble_eq_true rfl) ?_; intro g'; lct_lit))
  k_with "call ref" => (k_here; (with_reducible show wpAny _ _ (call (Value.ref 81) _) _ _ _); k_dflt (refine' c_number ?ZB ?ZF ?ZX ?ZN ?ZT ?Zhk ?Zhdp ?Zhun ?Zhm ?Zg1 ?Zg2 ?Zg3 ?Zg4 ?Zg5 ?Zg6 ?_; (case ZB => k_asm); (case ZF => k_asm); (case ZX => k_asm); (case ZT => k_asm); (case Zhk => first | exact rfl | assumption); (case ZN => k_asm); (case Zhdp => ktr_room); (case Zhun => ktr_units); (case Zhm => k_mem); (case Zg1 => omega); (case Zg2 => omega); (case Zg3 => omega); (case Zg4 => omega); (case Zg5 => omega); (case Zg6 => omega)); k_dflt (intro t3 h3 tk3 F3 N3; (try k_sweep)))
  k_with "compareOp NotEq ref ref" => (k_here; (with_reducible show wpAny _ _ (compareOp CmpOp.NotEq (Value.ref _) (Value.ref _)) _ _ _); k_dflt (first | (refine' ne_listF ?ZN ?Za ?Zb ?Zc ?Zd ?Ze ?Zf ?Zg ?Zi ?Zj ?Zk ?Zu ?Zq ?_; (case ZN => k_asm); (case Za => k_mem); (case Zb => rfl); (case Zc => rfl); (case Ze => k_mem); (case Zf => rfl); (case Zg => rfl); (case Zd => exact datAll_ints (by with_reducible assumption)); (case Zi => exact datAll_ints (by with_reducible assumption)); (case Zj => exact ints_ok); (case Zk => exact ints_ok); (case Zu => ke_room); (case Zq => rfl)) | (refine' ne_listF ?ZN ?Za ?Zb ?Zc ?Zd ?Ze ?Zf ?Zg ?Zi ?Zj ?Zk ?Zu ?Zq ?_; (case ZN => k_asm); (case Za => k_mem); (case Zb => rfl); (case Zc => rfl); (case Ze => k_mem); (case Zf => rfl); (case Zg => rfl); (case Zd => kqd_all); (case Zi => kqd_all); (case Zj => exact okL rfl); (case Zk => exact okL rfl); (case Zu => ke_room); (case Zq => rfl))))
  k_with "call builtin:sorted" => (k_here; (with_reducible show wpAny _ _ (call (Value.builtin _) [Value.ref _]) _ _ _); k_dflt (refine' sorted_id ?ZF ?ZN ?Zm ?Zi ?Zl ?Zp ?_; (case ZF => k_asm); (case ZN => k_asm); (case Zm => k_mem); (case Zi => assumption); (case Zl => omega); (case Zp => assumption)); k_dflt (intro D' v' c' h' F' N' l1 i'; (try k_sweep)))
  k_with "eval ListComp" => (k_here; (with_reducible show wpAny _ _ (eval (Expr.ListComp _ [⟨_, Expr.Name (Str.ofString "order") _, _, _⟩] _ _) _) _ _ _); k_dflt (refine hold_of ?_))
  k_with "compareOp NotEq int int" => (k_here; (with_reducible show wpAny _ _ (compareOp CmpOp.NotEq (Value.int _ _) (Value.int _ _)) _ _ _); k_dflt (refine' ne_intF ?Zq ?_; (case Zq => omega)))
  k_with "exec For Name Name cons nil" => (k_here; (with_reducible show wpAny _ _ (exec (Stmt.For (Expr.Name _ _) (Expr.Name (Str.ofString "order") _) _ _ _) _) _ _ _); k_dflt (refine hold_of ?_))
  k_with "call ref" => (k_here; (with_reducible show wpAny _ _ (call (Value.ref 88) _) _ _ _); k_dflt (refine hold_of ?_))
  trivial
def holdP (P : Prop) : Prop := P
theorem holdP_of {P : Prop} (h : holdP P) : P := h
theorem of_holdP {P : Prop} (h : P) : holdP P := h
def CMark : Prop := True
example : True := by
  k_with "CompEnd" => (k_dflt (have _ : CMark := by assumption); k_dflt (refine holdP_of ?_))
  trivial
section
variable {prog : Program} {w : World} {mg mb : Str → Option Value} {mean : ExcName → Option Value} {loose : List Str}
  {dp un : Nat} {gd : Option (List Code)} {cn : Str} {cs : Scope} {L a : Addr} {ccd : Value} {cl : List (Str × Addr)} {outer : List Env} {A₀ : Around} {base h₀ : Heap} {m : Str → Option Value} {s : Shared} {Q E : Value → Shared → Prop}
set_option maxRecDepth 100000 in
set_option maxHeartbeats 20000000 in
theorem c_rest {body : List Stmt} {sc : Scope} {o dl d0 d1 k cs0 nn L fa un dp : Nat} {oc : Obj} {cv0 : Option Value} {vs : List Value} {ns : List Int} {ds : List D3} {gd : Option (List Code)} {ccd : Value} {outer : List Env} {Q : Flow → Shared → Prop} {E : Value → Shared → Prop}
    {a0 a1 a2 b0 b1 b2 : Int} {ta0 ta1 ta2 tb0 tb1 tb2 : Tok}
    (hb : body = (fnB ((hd.heap_39 w.params).lookup 110)).drop 3) (hsc : sc = fnS ((hd.heap_39 w.params).lookup 110))
    (B : Below A₀ base outer h₀)
    (F : Fr h₀ L s.heap (fun y => if y = Str.ofString "order" then some (.ref o) else if y = Str.ofString "deeds" then some (.ref dl) else m y))
    (X : (hd.heap_39 w.params).In h₀) (T : Top topProg loose mean mg mb h₀) (N : News h₀ L s.heap ((o, W.listOf vs.toArray nn) :: (dl, W.listOf #[.ref d0, .ref d1] k) :: (d0, tupO [.int a0 ta0, .int a1 ta1, .int a2 ta2]) :: (d1, tupO [.int b0 tb0, .int b1 tb1, .int b2 tb2]) :: (cs0, oc) :: EL))
    (C1 : CodeHd base 41 37) (C2 : CodeHd base 34 30) (hcv : oc.data = .cell cv0)
    (hi : IntsAre vs ns) (hM : Made (a0, a1, a2) (b0, b1, b2) ns ds)
    (n1 : AllNe cs0 ((o, W.listOf vs.toArray nn) :: (dl, W.listOf #[.ref d0, .ref d1] k) :: (d0, tupO [.int a0 ta0, .int a1 ta1, .int a2 ta2]) :: (d1, tupO [.int b0 tb0, .int b1 tb1, .int b2 tb2]) :: EL))
    (n2 : AllNe 37 ((o, W.listOf vs.toArray nn) :: (dl, W.listOf #[.ref d0, .ref d1] k) :: (d0, tupO [.int a0 ta0, .int a1 ta1, .int a2 ta2]) :: (d1, tupO [.int b0 tb0, .int b1 tb1, .int b2 tb2]) :: (cs0, oc) :: [])) (n3 : AllNe 30 ((o, W.listOf vs.toArray nn) :: (dl, W.listOf #[.ref d0, .ref d1] k) :: (d0, tupO [.int a0 ta0, .int a1 ta1, .int a2 ta2]) :: (d1, tupO [.int b0 tb0, .int b1 tb1, .int b2 tb2]) :: (cs0, oc) :: []))
    (hdp : dp + 44 < recursionLimit) (hun : un + 500 < cLine)
    (hE : PassesOwn (model prog w) (ktrTop dp un gd (Str.ofString "law") sc L fa ccd [(Str.ofString "still", cs0)] outer) (envX (Str.ofString "law") sc L fa ccd [(Str.ofString "still", cs0)]) E)
    (hret : ∀ (h' : Heap) (tk' : Nat) (m' : Str → Option Value) (c1 c2 : Nat) (oc1 oc2 : Obj), Fr h₀ L h' m' → News h₀ L h' (ML c1 c2 oc1 oc2) → Q (.ret (.bool true)) { s with heap := h', toks := tk' }) :
    wpAny (model prog w) (ktrTop dp un gd (Str.ofString "law") sc L fa ccd [(Str.ofString "still", cs0)] outer) (execs body (envX (Str.ofString "law") sc L fa ccd [(Str.ofString "still", cs0)])) Q E s := by
  conv at hb => rhs; whnf
  conv at hsc => rhs; whnf
  subst hb hsc
  have hlen := hM.len
  have hS := hM.srt
  have hpos : 0 < ns.length := by
    have h1 := hM.mem hM.m0
    exact List.length_pos_of_mem h1
  have hk : (ScopeKind.function = ScopeKind.function) := rfl
  simp only [EL] at N n1
  k_steps
  refine of_hold ?_
  k_dflt (refine LCt.ListComp_T (F₀ := by k_asm) (by with_unfolding_all rfl) (by decide) (by rfl) (by decide) (by rfl) ?_)
  k_steps
  rename News _ _ _ _ => N4
  have N5 := news_ground (l := (o, W.listOf vs.toArray nn) :: (dl, W.listOf #[.ref d0, .ref d1] k) :: (d0, tupO [.int a0 ta0, .int a1 ta1, .int a2 ta2]) :: (d1, tupO [.int b0 tb0, .int b1 tb1, .int b2 tb2]) :: (cs0, oc) :: [(37, tabObj #[]), (30, tabObj #[])]) (by lcg_sub) N4
  rename Fr _ _ _ _ => F5
  refine LCt.CompSrcT.ledger rfl F5 N5 (.head _) ?sz ?_
  case sz => (rw [sizeLine_eq]; have := hi.length; simp only [List.size_toArray]; omega)
  intro g5
  have hvl : vs.length = ns.length := hi.length
  refine compT_ind (n := vs.length) (fun i news => (i = 0 ∧ news = (o, W.listOf vs.toArray nn) :: (dl, W.listOf #[.ref d0, .ref d1] k) :: (d0, tupO [.int a0 ta0, .int a1 ta1, .int a2 ta2]) :: (d1, tupO [.int b0 tb0, .int b1 tb1, .int b2 tb2]) :: (cs0, oc) :: [(37, tabObj #[]), (30, tabObj #[])]) ∨ ∃ (c1 c2 : Nat) (oc1 oc2 : Obj), MF c1 c2 oc1 oc2 ∧ news = (o, W.listOf vs.toArray nn) :: (dl, W.listOf #[.ref d0, .ref d1] k) :: (d0, tupO [.int a0 ta0, .int a1 ta1, .int a2 ta2]) :: (d1, tupO [.int b0 tb0, .int b1 tb1, .int b2 tb2]) :: (cs0, oc) :: [(37, tabObj #[rawInt 47, rawInt 4, .ref c2]), (30, tabObj #[rawInt 32, rawInt 4, .ref c1]), (c1, oc1), (c2, oc2)] ∧ AllNe c1 ((o, W.listOf vs.toArray nn) :: (dl, W.listOf #[.ref d0, .ref d1] k) :: (d0, tupO [.int a0 ta0, .int a1 ta1, .int a2 ta2]) :: (d1, tupO [.int b0 tb0, .int b1 tb1, .int b2 tb2]) :: (cs0, oc) :: []) ∧ AllNe c2 ((o, W.listOf vs.toArray nn) :: (dl, W.listOf #[.ref d0, .ref d1] k) :: (d0, tupO [.int a0 ta0, .int a1 ta1, .int a2 ta2]) :: (d1, tupO [.int b0 tb0, .int b1 tb1, .int b2 tb2]) :: (cs0, oc) :: [])) ?step ?fin _ 0 _ (by simp) (.inl ⟨rfl, rfl⟩)
  case fin =>
    clear N5 F5
    rintro news (⟨h0, _⟩ | ⟨c1, c2, oc1, oc2, mf, rfl, n4, n5⟩)
    · omega
    have ml1 := mf.l1
    have ml2 := mf.l2
    (try dsimp only)
    k_steps
    refine of_hold ?_
    rename Fr _ _ _ _ => F6
    rename News _ _ _ _ => N6
    have N7 := news_ground (l := (o, W.listOf vs.toArray nn) :: (dl, W.listOf #[.ref d0, .ref d1] k) :: (d0, tupO [.int a0 ta0, .int a1 ta1, .int a2 ta2]) :: (d1, tupO [.int b0 tb0, .int b1 tb1, .int b2 tb2]) :: (cs0, oc) :: [(37, tabObj #[rawInt 47, rawInt 4, .ref c2]), (30, tabObj #[rawInt 32, rawInt 4, .ref c1]), (c1, oc1), (c2, oc2)]) (by lcg_sub) N6
    have F7 := fr_at4 (x1 := Str.ofString "order") (x2 := Str.ofString "deeds") (x3 := Str.ofString "deeds") (x4 := Str.ofString "deeds") F6 rfl rfl rfl rfl
    clear F6 N6
    refine' for_grow ?wx ?wp ?wE ?w0
    case wx => exact rfl
    case wp => exact rfl
    case wE => exact hE
    case w0 =>
      (try dsimp only); (try k_fold)
      k_steps
      refine' ⟨o, nn, vs.length, vs, ?jm, ?jn, fun _ vs' m' news' => vs' = vs ∧ m' (Str.ofString "order") = some (.ref o) ∧ m' (Str.ofString "deeds") = some (.ref dl) ∧ ∃ oc' v0, oc'.data = .cell v0 ∧ news' = (o, W.listOf vs.toArray nn) :: (dl, W.listOf #[.ref d0, .ref d1] k) :: (d0, tupO [.int a0 ta0, .int a1 ta1, .int a2 ta2]) :: (d1, tupO [.int b0 tb0, .int b1 tb1, .int b2 tb2]) :: (cs0, oc') :: [(37, tabObj #[rawInt 47, rawInt 4, .ref c2]), (30, tabObj #[rawInt 32, rawInt 4, .ref c1]), (c1, oc1), (c2, oc2)], rfl, rfl, ?jF, ?jN, ?jh, ?j0, ?cap, ?turn, ?done⟩
      case jF => exact F7
      case jN => exact N7
      case jh => exact .head _
      case j0 => exact ⟨rfl, rfl, rfl, oc, cv0, hcv, rfl⟩
      case cap =>
        rintro i vs' m8 news ⟨hvs, _⟩
        rw [hvs]; exact Nat.le_refl _
      case done =>
        clear F7 N7
        rintro i vs' m8 news h8 tk8 hl ⟨hvs, e1, e2, oc', v0, hv, rfl⟩ F8 N8
        (try dsimp only)
        k_steps
        exact hret _ _ _ c1 c2 oc1 oc2 F8 (fun x hx => N8 x (.tail _ (.tail _ (.tail _ (.tail _ (.tail _ hx))))))
      case turn =>
        clear F7 N7
        rintro i vs' nn' v m8 news I oI h8 tk8 hv hm ⟨hvs, e1, e2, oc', v0, hcv', rfl⟩ haI hcI F8 N8
        rw [hvs] at hv
        obtain ⟨n, tn, rfl, hn⟩ := ints_at hi hv
        have g1 : (fun y => if y = Str.ofString "number" then some (Value.int n tn) else m8 y) (Str.ofString "number") = some (.int n tn) := rfl
        have g2 : (fun y => if y = Str.ofString "number" then some (Value.int n tn) else m8 y) (Str.ofString "order") = some (.ref o) := e1
        have g3 : (fun y => if y = Str.ofString "number" then some (Value.int n tn) else m8 y) (Str.ofString "deeds") = some (.ref dl) := e2
        have F9 := fr_at4 F8 g1 g2 g3 g3
        clear g1 g2 g3
        refine' c_turn (hb := ?y1) (hsc := ?y2) (B := ?yB) (F := F9) (X := ?yX) (T := ?yT) (N := N8) (C1 := C1) (C2 := C2) (M := mf) (hcv := hcv') (hi := hi) (hM := hM) (hn := hn) (n1 := ?z1) (n2 := ?z2) (n3 := ?z3) (n4 := ?z4) (n5 := ?z5) (hdp := hdp) (hun := hun) (hE := ?yE) (hret := ?yr)
        case y1 => rfl
        case y2 => rfl
        case yB => k_asm
        case yX => k_asm
        case yT => k_asm
        case yE => exact hE
        case z1 => (simp only [ML, AllNe]; (repeat' apply And.intro) <;> first | trivial | k_ne)
        case z2 => (simp only [AllNe]; (repeat' apply And.intro) <;> first | trivial | k_ne)
        case z3 => (simp only [AllNe]; (repeat' apply And.intro) <;> first | trivial | k_ne)
        case z4 => (simp only [AllNe]; (repeat' apply And.intro) <;> first | trivial | k_ne)
        case z5 => (simp only [AllNe]; (repeat' apply And.intro) <;> first | trivial | k_ne)
        case yr =>
          intro h9 tk9 m9 oc9 v9 F9' o1 o2 hv9 N9
          exact ⟨h9, tk9, m9, _, vs, nn, rfl, F9', N9, haI, .head _, rfl, o1, o2, oc9, some v9, hv9, rfl⟩
  case step =>
    clear N5 F5
    intro kk i news hP ih
    refine LCt.CompRestT.succ ?_
    intro v I oI C oC D m₂ h6 tk6 E' hv hC hx F6 N6 off ne
    have cmk : CMark := trivial
    obtain ⟨n, tn, rfl, hn⟩ := ints_at hi (i := i) (v := v) (by simpa using hv)
    clear hv
    obtain ⟨x0, x1, x2, _, hx3, hn0, hn1, hn2⟩ := hM.deed hn
    have hx3c : (0 ≤ x0 ∧ x0 ≤ 2) ∧ (0 ≤ x1 ∧ x1 ≤ 2) ∧ (0 ≤ x2 ∧ x2 ≤ 2) := hx3
    obtain ⟨hx0, hx1, hx2⟩ := hx3c
    obtain ⟨hg0, hg26⟩ := hM.nums n hn
    rcases hP with ⟨rfl, rfl⟩ | ⟨c1, c2, oc1, oc2, mf, rfl, n4, n5⟩
    · k_steps
      refine of_hold ?_
      k_dflt (refine' liftE (P := Pdeed _) ?N ?hall ?o1 ?o2 ?h ?_)
      case N => k_asm
      case hall => exact rfl
      case o1 => (simp only [dl2, List.dropLast, AllNe]; (repeat' apply And.intro) <;> first | trivial | k_ne)
      case o2 => (simp only [dl2, List.dropLast, AllNe]; (repeat' apply And.intro) <;> first | trivial | k_ne)
      case h => (intro N5; refine' deedE ?g2 ?g3 ?g4 ?g5 ?g6 ?g7 ?g8 ?g9 ?ga ?gb ?gc N5; (case g2 => k_asm); (case g3 => k_asm); (case g4 => k_asm); (case g5 => k_asm); (case g6 => first | exact rfl | assumption); (case g7 => assumption); (case g8 => assumption); (case g9 => ktr_room); (case ga => ktr_units); (case gb => omega); (case gc => omega))
      intro r vs7 c1 c2 oc1 oc2 h7 tk7 F7 N7 o5 o6 o7 l1 l2 l3 mf hp
      simp only [dl2, List.dropLast] at o5 o6 o7
      simp only [dl2, List.dropLast, List.cons_append, List.nil_append, ML] at N7
      obtain ⟨t2, u2, v2, e2⟩ := hp
      subst e2
      rw [hn0, hn1, hn2] at N7
      clear F6 N6
      (try k_sweep)
      k_steps
      refine of_holdP ?_
      rename News _ _ _ _ => N8
      refine LCg.CompEnd.intro (by k_asm) N8 ((o, W.listOf vs.toArray nn) :: (dl, W.listOf #[.ref d0, .ref d1] k) :: (d0, tupO [.int a0 ta0, .int a1 ta1, .int a2 ta2]) :: (d1, tupO [.int b0 tb0, .int b1 tb1, .int b2 tb2]) :: (cs0, oc) :: [(37, tabObj #[rawInt 47, rawInt 4, .ref c2]), (30, tabObj #[rawInt 32, rawInt 4, .ref c1]), (c1, oc1), (c2, oc2)]) (by lcg_sub) ?of (.inr ⟨_, .head _, rfl, _, rfl⟩) (ih _ (.inr ⟨c1, c2, oc1, oc2, mf, rfl, o6.2.2.2, o7.2.2.2⟩))
      case of => lcg_off
    · have ml1 := mf.l1
      have ml2 := mf.l2
      k_steps
      refine of_hold ?_
      k_dflt (refine' liftM (P := Pdeed _) ?N ?hall ?o1 ?o2 ?o3 ?o4 ?h ?_)
      case N => k_asm
      case hall => exact rfl
      case o1 => (simp only [dl4, List.dropLast, AllNe]; (repeat' apply And.intro) <;> first | trivial | k_ne)
      case o2 => (simp only [dl4, List.dropLast, AllNe]; (repeat' apply And.intro) <;> first | trivial | k_ne)
      case o3 => (simp only [dl4, List.dropLast, AllNe]; (repeat' apply And.intro) <;> first | trivial | k_ne)
      case o4 => (simp only [dl4, List.dropLast, AllNe]; (repeat' apply And.intro) <;> first | trivial | k_ne)
      case h => (intro N5; refine' deedM mf ?g2 ?g3 ?g4 ?g5 ?g6 ?g7 ?g8 ?g9 ?ga ?gb ?gc N5; (case g2 => k_asm); (case g3 => k_asm); (case g4 => k_asm); (case g5 => k_asm); (case g6 => first | exact rfl | assumption); (case g7 => assumption); (case g8 => assumption); (case g9 => ktr_room); (case ga => ktr_units); (case gb => omega); (case gc => omega))
      intro r2 vs2 h2' tk2' F2 N2 o2 lt2 hp2
      simp only [dl4, List.dropLast] at o2
      simp only [dl4, List.dropLast, List.cons_append, List.nil_append, ML] at N2
      obtain ⟨t2, u2, v2, e2⟩ := hp2
      subst e2
      rw [hn0, hn1, hn2] at N2
      clear F6 N6
      (try k_sweep)
      k_steps
      refine of_holdP ?_
      rename News _ _ _ _ => N8
      exact LCg.CompEnd.intro (by k_asm) N8 ((o, W.listOf vs.toArray nn) :: (dl, W.listOf #[.ref d0, .ref d1] k) :: (d0, tupO [.int a0 ta0, .int a1 ta1, .int a2 ta2]) :: (d1, tupO [.int b0 tb0, .int b1 tb1, .int b2 tb2]) :: (cs0, oc) :: [(37, tabObj #[rawInt 47, rawInt 4, .ref c2]), (30, tabObj #[rawInt 32, rawInt 4, .ref c1]), (c1, oc1), (c2, oc2)]) (by lcg_sub) off (.inr ⟨_, .head _, rfl, _, rfl⟩) (ih _ (.inr ⟨c1, c2, oc1, oc2, mf, rfl, n4, n5⟩))
end
end Mine
end
section
set_option maxRecDepth 100000
namespace Mine
theorem three {ws : List Value} {ns : List Int} (h : IntsAre ws ns) (hl : ns.length = 3) (hb : ∀ n ∈ ns, 0 ≤ n ∧ n ≤ 2) :
    ∃ (a0 a1 a2 : Int) (t0 t1 t2 : Tok), ws = [.int a0 t0, .int a1 t1, .int a2 t2] ∧ (0 ≤ a0 ∧ a0 ≤ 2) ∧ (0 ≤ a1 ∧ a1 ≤ 2) ∧ (0 ≤ a2 ∧ a2 ≤ 2) := by
  cases h with
  | nil => simp at hl
  | cons a0 t0 h => cases h with
    | nil => simp at hl
    | cons a1 t1 h => cases h with
      | nil => simp at hl
      | cons a2 t2 h => cases h with
        | nil => exact ⟨a0, a1, a2, t0, t1, t2, rfl, hb _ (.head _), hb _ (.tail _ (.head _)), hb _ (.tail _ (.tail _ (.head _)))⟩
        | cons a3 t3 h => simp at hl
theorem news_ne {h₀ h : Heap} {L : Addr} {l : List (Addr × Obj)} {a b : Nat} {o o' : Obj} (N : News h₀ L h l) (h1 : (a, o) ∈ l) (h2 : (b, o') ∈ l) (hne : o ≠ o') : a ≠ b := fun e => by
  subst e
  have q1 := (N _ h1).1
  have q2 := (N _ h2).1
  rw [q1] at q2
  exact hne (Option.some.inj q2)
theorem fm3 (n : Int) : 0 ≤ n.fmod 3 ∧ n.fmod 3 ≤ 2 := by
  have h1 : n.fmod 3 = n % 3 := Int.fmod_eq_emod_of_nonneg _ (by decide)
  omega
theorem six_len {f : Int → Int} {w z : List Int} (hz : z.length = 6) : (List.map f (List.take 6 (w ++ z))).length = 6 := by
  rw [List.length_map, List.length_take, List.length_append]; omega
theorem three_take {ws : List Value} {w z : List Int} (h : IntsAre ws (List.take 3 (List.map (fun k' => k'.fmod 3) (List.take 6 (w ++ z))))) (hz : z.length = 6) :
    ∃ (a0 a1 a2 : Int) (t0 t1 t2 : Tok), ws = [.int a0 t0, .int a1 t1, .int a2 t2] ∧ (0 ≤ a0 ∧ a0 ≤ 2) ∧ (0 ≤ a1 ∧ a1 ≤ 2) ∧ (0 ≤ a2 ∧ a2 ≤ 2) :=
  three h (by rw [List.length_take, six_len hz]; rfl) (fun n hn => by
    obtain ⟨x, _, rfl⟩ := List.mem_map.mp (List.mem_of_mem_take hn)
    exact fm3 x)
theorem three_drop {ws : List Value} {w z : List Int} (h : IntsAre ws (List.drop 3 (List.map (fun k' => k'.fmod 3) (List.take 6 (w ++ z))))) (hz : z.length = 6) :
    ∃ (a0 a1 a2 : Int) (t0 t1 t2 : Tok), ws = [.int a0 t0, .int a1 t1, .int a2 t2] ∧ (0 ≤ a0 ∧ a0 ≤ 2) ∧ (0 ≤ a1 ∧ a1 ≤ 2) ∧ (0 ≤ a2 ∧ a2 ≤ 2) :=
  three h (by rw [List.length_drop, six_len hz]) (fun n hn => by
    obtain ⟨x, _, rfl⟩ := List.mem_map.mp (List.mem_of_mem_drop hn)
    exact fm3 x)
end Mine
end
example : True := by
  w_top off
  trivial
section
namespace Mine
example : True := by
  k_with_none
  k_with "k_mem" => first | with_reducible assumption | with_reducible exact memI (by with_reducible assumption) | fail "no member"
  k_with "k_ne" => (refine neN ?_; (try dsimp only); first | exact AllNe.off (by with_reducible assumption) (_, _) (by k_mem) | exact Ne.symm (AllNe.off (by with_reducible assumption) (_, _) (by k_mem)) | exact lt_ne (by with_reducible assumption) (_, _) (by k_mem) | exact Ne.symm (lt_ne (by with_reducible assumption) (_, _) (by k_mem)) | exact off_I (by with_reducible assumption) (_, _) (by k_mem) | exact Ne.symm (off_I (by with_reducible assumption) (_, _) (by k_mem)) | exact off_C (by with_reducible assumption) (_, _) (by k_mem) | exact Ne.symm (off_C (by with_reducible assumption) (_, _) (by k_mem)) | exact off_D (by with_reducible assumption) (_, _) (by k_mem) | exact Ne.symm (off_D (by with_reducible assumption) (_, _) (by k_mem)) | exact off1_mem (by with_reducible assumption) (_, _) (by k_mem) | exact Ne.symm (off1_mem (by with_reducible assumption) (_, _) (by k_mem)) | omega)
  k_with "subscriptTail BinOp Slice ref ref" => (k_here; k_dflt (refine kba_turn (value' := PySem.Expr.Name (PySem.Str.ofString "_") ⟨0, 0, 0, 0⟩) (fun _ => rfl) ?_))
  k_with "subscriptTail BinOp" => (k_here; k_dflt (refine kba_turn (value' := PySem.Expr.Name (PySem.Str.ofString "_") ⟨0, 0, 0, 0⟩) (fun _ => rfl) ?_))
  k_with "call ref" => (k_here; (with_reducible show wpAny _ _ (call (Value.ref 100) _) _ _ _); k_dflt (refine hold_of ?_))
  k_with "execs cons" => (k_here; (with_reducible show wpAny _ _ (execs (Stmt.If _ _ _ _ :: _) _) _ _ _); k_dflt (refine hold_of ?_))
  trivial
set_option maxRecDepth 100000 in
set_option maxHeartbeats 20000000 in
theorem lawT : PySem.Challenge.rw_ie0009_01.Holds := hd (by
  w_strict (k_go0; (all_goals try k_fold); k_steps)
  refine of_hold ?_
  rename IntsAre _ (List.drop 3 _) => hB
  rename IntsAre _ (List.take 3 _) => hA
  obtain ⟨a0, a1, a2, ta0, ta1, ta2, e1, ha0, ha1, ha2⟩ := three_take hA rfl
  obtain ⟨b0, b1, b2, tb0, tb1, tb2, e2, hb0, hb1, hb2⟩ := three_drop hB rfl
  subst e1 e2
  k_dflt (refine' c_made (a0 := a0) (a1 := a1) (a2 := a2) (b0 := b0) (b1 := b1) (b2 := b2) ?yB ?yF ?yX ?yT ?yk ?yN ?y1 ?y2 ?y3 ha0 ha1 ha2 hb0 hb1 hb2 ?yd ?yu ?yr)
  case yB => k_asm
  case yF => k_asm
  case yX => k_asm
  case yT => k_asm
  case yk => exact rfl
  case yN => k_asm
  case y1 => exact .head _
  case y2 => k_mem
  case y3 => k_mem
  case yd => ktr_room
  case yu => ktr_units
  case yr =>
    intro o vs ns nn ds h3 tk3 F3 N3 oN hi hM
    (try k_sweep)
    k_steps
    refine of_hold ?_
    rename Obj.data _ = Data.cell _ => hcell
    rename Fr _ _ _ _ => F4
    rename News _ _ _ _ => N4
    have F5 := fr_at4 (x1 := Str.ofString "order") (x2 := Str.ofString "deeds") (x3 := Str.ofString "deeds") (x4 := Str.ofString "deeds") F4 rfl rfl rfl rfl
    k_dflt (refine' c_rest (hb := ?z1) (hsc := ?z2) (B := ?zB) (F := F5) (X := ?zX) (T := ?zT) (N := ?zN) (C1 := ?z3) (C2 := ?z4) (hcv := ?z5) (hi := hi) (hM := hM) (n1 := ?z6) (n2 := ?z7) (n3 := ?z8) (hdp := ?z9) (hun := ?za) (hE := ?zE) (hret := ?zr))
    case z1 => rfl
    case z2 => rfl
    case zB => k_asm
    case zX => k_asm
    case zT => k_asm
    case zN => exact news_ground (by lcg_sub) N4
    case z3 => assumption
    case z4 => assumption
    case z5 => exact hcell
    case z6 => (simp only [EL, AllNe]; (repeat' apply And.intro) <;> first | trivial | k_ne | exact news_ne N4 (by k_mem) (by k_mem) (by intro e9; have e8 := congrArg Obj.data e9; first | (simp at e8; done) | (rw [hcell] at e8; exact nomatch e8)))
    case z7 => (simp only [AllNe]; (repeat' apply And.intro) <;> first | trivial | k_ne | exact news_ne N4 (by k_mem) (by k_mem) (by intro e9; have e8 := congrArg Obj.data e9; first | (simp at e8; done) | (rw [hcell] at e8; exact nomatch e8)))
    case z8 => (simp only [AllNe]; (repeat' apply And.intro) <;> first | trivial | k_ne | exact news_ne N4 (by k_mem) (by k_mem) (by intro e9; have e8 := congrArg Obj.data e9; first | (simp at e8; done) | (rw [hcell] at e8; exact nomatch e8)))
    case z9 => ktr_room
    case za => ktr_units
    case zE => first | passes_own | with_unfolding_all passes_own
    case zr =>
      intro h9 tk9 m9 c1 c2 oc1 oc2 F9 N9
      simp only [ML] at N9
      k_steps)
end Mine
end
theorem PySem.Challenge.cw_ie0009_01_holds : PySem.Challenge.rw_ie0009_01.Holds :=
  Mine.lawT
